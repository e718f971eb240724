import JvmDerived
import JvmDerived.Pilot.@@N@@Statement
import JvmDerived.Pilot.@@N@@Code
set_option linter.unusedVariables false
set_option linter.unusedSimpArgs false
namespace Jvm.RoadKit
open Sem ClassFile Op Lib Jvm.Stand Jvm.Free Jvm.LawKit
section New
variable {p : Program} {l : Launch} {e : Env} {R : Room} {s : State} {m : MethodId} {args : Array Value} {below : List Frame} {meth : Method} {c : Code} {T : State} {locs : List Loc} {cells slots : Nat}
theorem retI (X : Stand p l e R s m args below meth c T locs cells slots) (hx : p.tables.exec = Jvm.exec) {pc : Nat} {Ls : Array Slot} {z : Int32} {rest : List Value} (hret : meth.sig.returnType = some .int) (hd : decode c.code pc = .ok (.ireturn, 1)) {fs : List Frame}
    (hl : ∀ (f : JFrame) (acts : List Action), f.method = m → f.locked = none → f.entered = [] → (doReturn e (T.setTop f) acts (some (.int z))).1 = T.setFrames fs) : Steps p.tables e below (T.setTop (mkF m pc Ls (.int z :: rest))) (T.setFrames fs) := by
  have hm' : T.vm.method? m = some meth := X.method'
  have hn : narrow .int (.int z) = .int z := rfl
  show Steps p.tables e below (T.setTop { method := m, pc := pc, locals := Ls, stack := _ :: rest, locked := none }) _
  jvm_step X.here [X.here.top, hx, hd, hm', hret, hn]
  first | (intro acts; rw [hl _ acts rfl rfl rfl]) | rw [hl _ _ rfl rfl rfl]
  exact Steps.refl _
end New
end Jvm.RoadKit
namespace Jvm.Pilot.@@N@@
open Jvm Jvm.ClassFile Sem Op Lib Jvm.Free Jvm.Stand Jvm.LawKit Jvm.RoadKit Bundle Jvm.Pilot.@@N@@.Jvm.D
def own_b (c : Int32) : Int32 := nar .byte c.toInt8.toInt32
def own_wl (c : Int32) : Int32 := nar .byte (c >>> ((0 : Int32) &&& 31)).toInt8.toInt32
def own_wh (c : Int32) : Int32 := nar .byte (c >>> ((8 : Int32) &&& 31)).toInt8.toInt32
def own_nrw (cs : List Int32) : List Value := cs.map fun c => Value.int (own_b c)
def own_wide : List Int32 → List Value
  | [] => []
  | c :: r => .int (own_wl c) :: .int (own_wh c) :: own_wide r
def own_Cod (cs : List Int32) (cd z : Int32) (vs : List Value) : Prop := (cd = 0 ∧ z = Int32.ofNat cs.length ∧ vs = own_nrw cs ∧ ∀ c ∈ cs, ¬ (255 : Int32) < c) ∨ (cd = 1 ∧ z = Int32.ofNat (2 * cs.length) ∧ vs = own_wide cs)
def own_Chs (cs : List Int32) : Prop := (∀ c ∈ cs, ¬ c < (0 : Int32) ∧ ¬ (65535 : Int32) < c) ∧ cs.length < 1000
def own_Str (Z : State) (h : Heap) (x : Addr) (cs : List Int32) : Prop := ∃ (t : Addr) (k : ClassId) (cd z : Int32) (vs : List Value), Exa Z h x "java/lang/String" ∧ Fld Z h x "java/lang/String" "value" "[B" (.ref t) ∧ Fld Z h x "java/lang/String" "coder" "B" (.int cd) ∧ Arv Z h t k .byte z vs (.int (0 : Int32)) ∧ own_Cod cs cd z vs ∧ own_Chs cs
theorem own_Str.exa {Z : State} {h : Heap} {x : Addr} {cs : List Int32} (F : own_Str Z h x cs) : Exa Z h x "java/lang/String" := by obtain ⟨_, _, _, _, _, E, -⟩ := F; exact E
theorem own_Str.lt {Z : State} {h : Heap} {x : Addr} {cs : List Int32} (F : own_Str Z h x cs) : x < h.size := F.exa.lt
theorem own_Str.ext {Z : State} {h h' : Heap} {x : Addr} {cs : List Int32} (F : own_Str Z h x cs) (E : Ext h h') : own_Str Z h' x cs := by
  obtain ⟨t, k, cd, z, vs, e, f, g, a, r⟩ := F; exact ⟨t, k, cd, z, vs, e.ext E, f.ext E, g.ext E, a.ext E, r⟩
theorem own_Str.keep {Z : State} {h h' : Heap} {x : Addr} {cs : List Int32} {ws : List Addr} (F : own_Str Z h x cs) (K : Keep h h' ws) (q : ∀ w ∈ ws, h.size ≤ w) : own_Str Z h' x cs := by
  obtain ⟨t, k, cd, z, vs, e, f, g, a, r⟩ := F
  have n1 : x ∉ ws := fun hx => absurd e.lt (Nat.not_lt.mpr (q x hx))
  have n2 : t ∉ ws := fun hx => absurd a.lt (Nat.not_lt.mpr (q t hx))
  exact ⟨t, k, cd, z, vs, e.keep K, f.keep K n1, g.keep K n1, a.keep K n2, r⟩
theorem own_ofI {n : Nat} (h : n < 2 ^ 31) : (Int32.ofNat n).toInt = n := Int32.toInt_ofNat_of_lt h
theorem own_getb : ∀ (cs : List Int32) (j : Nat), j < cs.length → (own_nrw cs).getD j (.int (0 : Int32)) = .int (own_b (cs.getD j 0))
  | [], _, h => nomatch h
  | _ :: _, 0, _ => rfl
  | _ :: r, j + 1, h => own_getb r j (Nat.lt_of_succ_lt_succ h)
theorem own_getw : ∀ (cs : List Int32) (j : Nat), j < cs.length → (own_wide cs).getD (2 * j) (.int (0 : Int32)) = .int (own_wl (cs.getD j 0)) ∧ (own_wide cs).getD (2 * j + 1) (.int (0 : Int32)) = .int (own_wh (cs.getD j 0))
  | [], _, h => nomatch h
  | _ :: _, 0, _ => ⟨rfl, rfl⟩
  | _ :: r, j + 1, h => own_getw r j (Nat.lt_of_succ_lt_succ h)
theorem own_mem {cs : List Int32} {j : Nat} (h : j < cs.length) : cs.getD j 0 ∈ cs := by rw [List.getD_eq_getElem?_getD, List.getElem?_eq_getElem h]; exact List.getElem_mem h
theorem own_narc {c : Int32} (h : ¬ c < (0 : Int32) ∧ ¬ (65535 : Int32) < c) : nar .char c = c := by
  have q := c_i2c c
  have e0 : (0 : Int32).toInt = 0 := by decide
  have e1 : (65535 : Int32).toInt = 65535 := by decide
  simp only [Int32.lt_iff_toInt_lt] at h
  exact Int32.toInt_inj.mp (by show (c.toUInt32.toUInt16.toUInt32.toInt32).toInt = _; omega)
theorem own_rec8 {c : Int32} (h0 : ¬ c < (0 : Int32)) (h1 : ¬ (255 : Int32) < c) : nar .char (own_b c &&& (255 : Int32)).toUInt32.toUInt16.toUInt32.toInt32 = c := by
  have e0 : (0 : Int32).toInt = 0 := by decide
  have e1 : (255 : Int32).toInt = 255 := by decide
  simp only [Int32.lt_iff_toInt_lt] at h0 h1
  have a1 := c_i2b c
  have a2 := c_i2b c.toInt8.toInt32
  have a3 := c_mask (own_b c) 255 8 (by decide) (by decide)
  have e : own_b c = (c.toInt8.toInt32).toInt8.toInt32 := rfl
  rw [← e] at a2
  have a4 := c_i2c (own_b c &&& 255)
  have hh : (own_b c &&& (255 : Int32)).toUInt32.toUInt16.toUInt32.toInt32 = c := Int32.toInt_inj.mp (by omega)
  rw [hh]; exact own_narc ⟨by simp only [Int32.lt_iff_toInt_lt]; omega, by
    have e2 : (65535 : Int32).toInt = 65535 := by decide
    simp only [Int32.lt_iff_toInt_lt]; omega⟩
theorem own_len0 {n : Nat} (h : n < 1000) : Int32.ofNat n = Int32.ofNat n >>> ((0 : Int32) &&& 31) := by
  have a := c_ishr (Int32.ofNat n) 0 0 (by decide)
  exact Int32.toInt_inj.mp (by rw [a]; simp)
theorem own_len1 {n : Nat} (h : n < 1000) : Int32.ofNat n = Int32.ofNat (2 * n) >>> ((1 : Int32) &&& 31) := by
  have a := c_ishr (Int32.ofNat (2 * n)) 1 1 (by decide)
  exact Int32.toInt_inj.mp (by rw [a, own_ofI (by omega), own_ofI (by omega)]; omega)
theorem own_inr {i : Int32} {n : Nat} (h0 : ¬ i < 0) (h : i.toNatClampNeg < n) (hn : n < 1000) : i < Int32.ofNat n := by
  have := nat_of h0
  rw [Int32.lt_iff_toInt_lt, own_ofI (by omega)]; omega
theorem own_jin {i : Int32} {j : Nat} (hi : i = Int32.ofNat j) (hj : j < 2000) : ¬ i < (0 : Int32) ∧ i.toNatClampNeg = j := by
  subst hi
  have e0 : (0 : Int32).toInt = 0 := by decide
  have e := own_ofI (n := j) (by omega)
  simp only [Int32.lt_iff_toInt_lt, Int32.toNatClampNeg]; omega
theorem own_ofne {j n : Nat} (h : j < n) (hn : n < 1000) : ¬ Int32.ofNat j = Int32.ofNat n := fun q => by
  have e1 := own_ofI (n := j) (by omega)
  have e2 := own_ofI (n := n) (by omega)
  rw [q] at e1; omega
def own_St (Z : State) (zc : Int32) (fm : Value) : Prop := Sta Z Z.heap "java/lang/String" "COMPACT_STRINGS" "Z" (.int zc) ∧ ¬ zc = (0 : Int32) ∧ Sta Z Z.heap "jdk/internal/util/Preconditions" "SIOOBE_FORMATTER" "Ljava/util/function/BiFunction;" fm ∧ fm.isRef = true
def own_Nrw (Z : State) (h : Heap) (x : Addr) : Prop := ∀ (t : Addr) (cd : Int32), Fld Z h x "java/lang/String" "coder" "B" (.int cd) → ¬ cd = 1
theorem own_decl {Z : State} {a0 : Array Value} {y : MethodName} {bytes : ByteArray} {maxL : Nat} {ret : Option FieldType} (w : (Cond.instanceMethod y).before a0 Z = true) (wc : (Cond.code y bytes maxL ret).before a0 Z = true) : (Cond.declares y).before a0 Z = true := by
  obtain ⟨mk, methM, hnamed, hmethM, hstM, habM⟩ := Cond.instanceMethod_spec w
  obtain ⟨m2, cM, q1, -, -, -, -, -, -, hsig⟩ := Cond.code_spec hnamed wc
  cases hmethM.symm.trans q1
  simp [Cond.before, Cond.holds, Cond.value, hnamed, hmethM, hstM, hsig]
theorem own_same {Z : State} {a0 : Array Value} {y x z : MethodName} {C : String} (w : (Cond.declares y).before a0 Z = true) (hx : y.cls ≠ "java/lang/invoke/MethodHandle" ∧ y.cls ≠ "java/lang/invoke/VarHandle") (ws : (Cond.selects C x z).before a0 Z = true) (hz : z.cls = y.cls) : (Cond.sameMethod y.cls y.cls y.name y.desc).before a0 Z = true := by
  obtain ⟨m, meth, hn, -, -, -⟩ := Cond.declares_spec w
  have hf := State.methodFound?_of_named hn hx
  have hc := findClass_of_methodNamed hn
  obtain ⟨c, r, m2, -, -, q3, -, k, hk, hi⟩ := Cond.selects_spec ws
  have hc2 := findClass_of_methodNamed q3
  rw [hz] at hc2
  have e : m.cls = m2.cls := Option.some.inj (hc.symm.trans hc2)
  rw [← e] at hk
  have hn' : Z.methodNamed? ⟨y.cls, y.name, y.desc⟩ = some m := hn
  simp [Cond.before, Cond.holds, Cond.value, hc, hf, hn', hk, hi]
theorem own_nf {Z : State} {a0 : Array Value} {y x z : MethodName} {C : String} (ws : (Cond.selects C x z).before a0 Z = true) (hz : z.cls = y.cls) : NotFace Z y := fun r0 h0 => by
  obtain ⟨c, r, m2, -, -, q3, -, k, hk, hi⟩ := Cond.selects_spec ws
  have hc := findClass_of_methodNamed h0
  have hc2 := findClass_of_methodNamed q3
  rw [hz] at hc2
  have e : r0.cls = m2.cls := Option.some.inj (hc.symm.trans hc2)
  exact ⟨k, by rw [e]; exact hk, hi⟩
theorem own_shl0 (x : Int32) : x <<< ((0 : Int32) &&& 31) = x := by
  have a := c_ishl x 0 0 (by decide)
  have r := rng32 (x <<< ((0 : Int32) &&& 31))
  have r2 := rng32 x
  exact Int32.toInt_inj.mp (by omega)
theorem own_sub0 (x : Int32) : x - (0 : Int32) = x := by
  have a := c_isub x 0
  have e0 : (0 : Int32).toInt = 0 := by decide
  have r := rng32 (x - 0)
  have r2 := rng32 x
  exact Int32.toInt_inj.mp (by omega)
theorem own_pos {n : Nat} (h : n < 1000) : ¬ Int32.ofNat n < 0 ∧ (Int32.ofNat n).toNatClampNeg = n := own_jin rfl (by omega)
theorem own_dp {p : Int32} {n : Nat} (hp : p = Int32.ofNat n) (h : n < 1000) : ¬ (p <<< ((0 : Int32) &&& 31)) < 0 ∧ (p <<< ((0 : Int32) &&& 31)).toNatClampNeg = n := by rw [own_shl0, hp]; exact own_pos h
theorem own_addl {a b : Nat} (h : a + b < 1000) : Int32.ofNat a + Int32.ofNat b = Int32.ofNat (a + b) := by
  have e1 := own_ofI (n := a) (by omega)
  have e2 := own_ofI (n := b) (by omega)
  have e3 := own_ofI (n := a + b) (by omega)
  have q := c_iadd (Int32.ofNat a) (Int32.ofNat b)
  have r := rng32 (Int32.ofNat a + Int32.ofNat b)
  exact Int32.toInt_inj.mp (by omega)
theorem own_cap {n : Nat} {x : Int32} (hx : x = Int32.ofNat n) (h : n ≤ 16) : ¬ (0 : Int32) < (x - ((16 : Int32) >>> ((0 : Int32) &&& 31))) := by
  subst hx
  have e1 := own_ofI (n := n) (by omega)
  have e2 : ((16 : Int32) >>> ((0 : Int32) &&& 31)).toInt = 16 := by decide
  have e0 : (0 : Int32).toInt = 0 := by decide
  have q := c_isub (Int32.ofNat n) ((16 : Int32) >>> ((0 : Int32) &&& 31))
  have r := rng32 (Int32.ofNat n - ((16 : Int32) >>> ((0 : Int32) &&& 31)))
  rw [Int32.lt_iff_toInt_lt]; omega
theorem own_nlen (bs : List Int32) : (own_nrw bs).length = bs.length := List.length_map ..
theorem own_napp (bs cs : List Int32) : own_nrw (bs ++ cs) = own_nrw bs ++ own_nrw cs := List.map_append ..
theorem own_rng {cs : List Int32} (h : cs.length < 1000) : own_nrw cs = (List.range (Int32.ofNat cs.length).toNatClampNeg).map fun i => (own_nrw cs).getD ((0 : Int32).toNatClampNeg + i) (.int (0 : Int32)) := by
  rw [(own_pos h).2]
  refine List.ext_getElem (by simp [own_nlen]) fun i h1 h2 => ?_
  have e : (0 : Int32).toNatClampNeg = 0 := by decide
  simp [e, List.getD_eq_getElem?_getD, List.getElem?_eq_getElem h1]
theorem own_app {Z : State} {h : Heap} {b : Addr} {k : ClassId} {z dp nn : Int32} {bs cs : List Int32} (hd : dp.toNatClampNeg = bs.length) (hn : nn.toNatClampNeg = cs.length)
    (F : Arv Z h b k .byte z ((own_nrw bs ++ List.replicate 16 (Value.int (0 : Int32))).take dp.toNatClampNeg ++ own_nrw cs ++ (own_nrw bs ++ List.replicate 16 (Value.int (0 : Int32))).drop (dp.toNatClampNeg + nn.toNatClampNeg)) (.int (0 : Int32))) : Arv Z h b k .byte z (own_nrw (bs ++ cs)) (.int (0 : Int32)) := by
  have e : (own_nrw bs ++ List.replicate 16 (Value.int (0 : Int32))).take dp.toNatClampNeg ++ own_nrw cs ++ (own_nrw bs ++ List.replicate 16 (Value.int (0 : Int32))).drop (dp.toNatClampNeg + nn.toNatClampNeg) = own_nrw (bs ++ cs) ++ List.replicate (16 - cs.length) (Value.int (0 : Int32)) := by
    rw [hd, hn, own_napp, List.take_left' (own_nlen bs), ← List.drop_drop, List.drop_left' (own_nlen bs), List.drop_replicate]
  rw [e] at F
  exact F.pad fun i => (pad_rep _ _ _ i).symm
theorem own_cpy {Z : State} {h : Heap} {b : Addr} {k : ClassId} {z nn : Int32} {bs : List Int32} (hn : nn.toNatClampNeg = bs.length)
    (F : Arv Z h b k .byte z ((([] : List Value) ++ List.replicate 16 (Value.int (0 : Int32))).take (0 : Int32).toNatClampNeg ++ own_nrw bs ++ (([] : List Value) ++ List.replicate 16 (Value.int (0 : Int32))).drop ((0 : Int32).toNatClampNeg + nn.toNatClampNeg)) (.int (0 : Int32))) : Arv Z h b k .byte z (own_nrw bs) (.int (0 : Int32)) := by
  have e : (([] : List Value) ++ List.replicate 16 (Value.int (0 : Int32))).take (0 : Int32).toNatClampNeg ++ own_nrw bs ++ (([] : List Value) ++ List.replicate 16 (Value.int (0 : Int32))).drop ((0 : Int32).toNatClampNeg + nn.toNatClampNeg) = own_nrw bs ++ List.replicate (16 - bs.length) (Value.int (0 : Int32)) := by
    have e0 : (0 : Int32).toNatClampNeg = 0 := by decide
    rw [hn, e0, List.nil_append, List.take_zero, List.nil_append, Nat.zero_add, List.drop_replicate]
  rw [e] at F
  exact F.pad fun i => (pad_rep _ _ _ i).symm
theorem own_allc {P : Int32 → Prop} {c : Int32} {L : List Int32} (h : P c) (r : ∀ x ∈ L, P x) : ∀ x ∈ c :: L, P x := fun x hx => (List.mem_cons.mp hx).elim (fun u => u ▸ h) (r x)
theorem own_nrwOf {Z : State} {h : Heap} {x : Addr} (F : Fld Z h x "java/lang/String" "coder" "B" (.int (0 : Int32))) : ∀ (t : Addr) (cd : Int32), Fld Z h x "java/lang/String" "coder" "B" (.int cd) → ¬ cd = 1 := fun _ cd G e => by
  subst e
  obtain ⟨c1, _, _, _, _, h1, h2, -, -, -, -, h7⟩ := F
  obtain ⟨c2, _, _, _, _, g1, g2, -, -, -, -, g7⟩ := G
  cases h1.symm.trans g1; cases h2.symm.trans g2; cases h7.symm.trans g7
theorem own_IB {Z s : State} {vm : Vm} (hI : s.vm.interned = Z.vm.interned) (hW : s.WarmedH vm) : IB Z vm [] := ⟨#[], by rw [hW.interned_eq, hI]; simp, fun q hq => by simp at hq⟩
theorem own_backI {p : Program} {l : Launch} {e : Env} {R : Room} {s : State} {args : Array Value} {below : List Frame} {Z : State} {a0 : Array Value} {h : Heap} {y : MethodName} {bytes : ByteArray} {maxL : Nat} {ret : Option FieldType} {rm : Room} {len W : Nat} {as' : Array Value} {Q : Option Value → Heap → List Loc → Prop}
    (hM : MetFree l y (head1 [Jvm.Cond.code y bytes maxL ret] rm) (fun a U => a = as' ∧ Z.Warmed39 U.vm ∧ U.heap = h ∧ U.vm.interned = Z.vm.interned) (fun _ _ _ _ _ => True) (fun _ U o U' => ∃ v L, o = .returned v ∧ Q v U'.heap L ∧ ReturnedEndW U o U' L rm.cells rm.slots))
    (hI : s.vm.interned = Z.vm.interned) (hZ : Z.Warmed39 s.vm) (wc : (Jvm.Cond.code y bytes maxL ret).before a0 Z = true) (wz : (Jvm.Cond.initialized y.cls).before a0 Z = true) (hf : rm.frames + 1 ≤ R.frames) (hl : W + (maxL + 11) + rm.locals ≤ R.locals) :
    BackS l R p e below s args y len W (fun A a => a = as' ∧ A.U.heap = h ∧ A.cells + rm.cells ≤ R.cells ∧ A.slots + rm.slots ≤ R.slots) (fun A _ v B => ∃ L, Q v B.U.heap L ∧ B.locs = A.locs ++ L ∧ B.cells = A.cells + rm.cells ∧ B.slots = A.slots + rm.slots) := by
  refine BackS.of_freeW (bytes := bytes) (maxL := maxL) (ret := ret) (E := fun _ _ o t L k n => k = rm.cells ∧ n = rm.slots ∧ ∃ v, o = .returned v ∧ Q v t.heap L) hM hf hl ?_ ?_ (fun _ _ _ _ _ _ _ _ _ => trivial) ?_ ?_
  · intro m meth c A a Y hp
    have hU : Z.Warmed39 A.U.vm := wtrans hZ Y.warmed
    exact ⟨by show (Jvm.Cond.and _ .tt).before a A.U = true; rw [Cond.before_and, mv hU wc]; rfl, mv hU wc, mv hU wz, hp.2.2.1, hp.2.2.2⟩
  · intro m meth c A a g mk Y hp
    exact ⟨hp.1, wtrans hZ Y.warmed, hp.2.1, Y.warmed.interned_eq.trans hI⟩
  · rintro a first o t ⟨v, L, h1, h2, h3⟩
    exact ⟨L, _, _, h3, rfl, rfl, v, h1, h2⟩
  · rintro m meth c A a g mk v t L k n Y hp - - ⟨e1, e2, v', e3, e4⟩
    cases e3; subst e1 e2; exact ⟨L, e4, rfl, rfl, rfl⟩
theorem own_wS {a0 : Array Value} {Z : State} (hw : ∀ d ∈ tables_1, d.before a0 Z = true) : ∀ a ∈ Bundle.stringAtoms, a.before a0 Z = true := by
  intro a ha
  simp only [Bundle.stringAtoms, Bundle.sN, List.mem_cons, List.not_mem_nil, or_false] at ha
  rcases ha with rfl | rfl | rfl | rfl | rfl | rfl | rfl
  · exact (hw _ (List.mem_of_getElem? (i := 2) rfl))
  · exact (hw _ (List.mem_of_getElem? (i := 1) rfl))
  · exact (hw _ (List.mem_of_getElem? (i := 19) rfl))
  · exact (hw _ (List.mem_of_getElem? (i := 29) rfl))
  · exact (hw _ (List.mem_of_getElem? (i := 27) rfl))
  · exact (hw _ (List.mem_of_getElem? (i := 119) rfl))
  · exact (hw _ (List.mem_of_getElem? (i := 120) rfl))
theorem own_m {α : Type} {L : List α} {d : α} (i : Nat) (h : L[i]? = some d) : d ∈ L := List.mem_of_getElem? h
def own_Old (Z : State) (n0 : Nat) (h : Heap) : Prop := Z.heap.size ≤ n0 ∧ Ext Z.heap h
theorem own_Old.start (s : State) : own_Old s s.heap.size s.heap := ⟨Nat.le_refl _, Nat.le_refl _, fun _ _ q => q⟩
theorem own_Old.ext {Z : State} {n0 : Nat} {h h' : Heap} (X : own_Old Z n0 h) (E : Ext h h') : own_Old Z n0 h' := ⟨X.1, Nat.le_trans X.2.1 E.1, fun x c q => E.2 x c (X.2.2 x c q)⟩
theorem own_Old.keep {Z : State} {n0 : Nat} {h h' : Heap} {ws : List Addr} (X : own_Old Z n0 h) (K : Keep h h' ws) (q : ∀ x ∈ ws, n0 ≤ x) : own_Old Z n0 h' := ⟨X.1, Nat.le_trans X.2.1 K.1, fun x c r => K.2.1 x c (X.2.2 x c r) fun z => absurd (Array.getElem?_eq_some_iff.mp r).1 (Nat.not_lt.mpr (Nat.le_trans X.1 (q x z)))⟩
theorem own_Old.wr {Z : State} {n0 : Nat} {h h' : Heap} {a : Addr} {sl : Nat} {v : Value} (X : own_Old Z n0 h) (W : Wr h h' a sl v) (q : n0 ≤ a) : own_Old Z n0 h' := X.keep (Keep.of_wr W) (allS q all0)
theorem own_frw {n k : Nat} {L : List Loc} (h : n ≤ k) (F : Fr k L) : Fr n L := fun y q => Nat.le_trans h (F y q)
def own_pow (e : Int32) : Int32 := if e = 0 then 1 else if e = 1 then 10 else if e = 2 then 100 else if e = 3 then 1000 else 10000
def own_DT (Z : State) (wO : Addr) (cO : Cell) (wT : Addr) (cT : Cell) : Prop := Sta Z Z.heap "java/lang/Integer" "DigitOnes" "[B" (.ref wO) ∧ Sta Z Z.heap "java/lang/Integer" "DigitTens" "[B" (.ref wT) ∧ Arr Z Z.heap wO cO .byte ∧ Arr Z Z.heap wT cT .byte ∧
  (cO.slots.size = 100 ∧ ∀ j : Int32, ¬ j < 0 → j.toNatClampNeg < 100 → cO.slots[j.toNatClampNeg]? = some (.int ((48 : Int32) + j % (10 : Int32)))) ∧ (cT.slots.size = 100 ∧ ∀ j : Int32, ¬ j < 0 → j.toNatClampNeg < 100 → cT.slots[j.toNatClampNeg]? = some (.int ((48 : Int32) + j / (10 : Int32))))
theorem own_len {args : Array Value} {Z : State} {t : Term} {a : Addr} {n : Int32} (ev : t.eval args Z none [] Z = some (.ref a)) (h : (Cond.eq (.length t) (.int n)).value args Z none Z [] = some true) : ∃ c, Z.arrayAt? a = some c ∧ c.slots.size = n.toInt.toNat := by
  cases ha : Z.arrayAt? a with
  | none =>
    have e : (Term.length t).eval args Z none [] Z = none := by simp [Term.eval, ev, ha]
    simp [Cond.value, e] at h
  | some c =>
    refine ⟨c, rfl, ?_⟩
    have e : (Term.length t).eval args Z none [] Z = if c.slots.size < 2 ^ 31 then some (.int c.slots.size.toInt32) else none := by simp [Term.eval, ev, ha]
    by_cases hb : c.slots.size < 2 ^ 31
    · rw [if_pos hb] at e
      have h' : c.slots.size.toInt32 = n := by simpa [Cond.value, e, Term.int_eval] using h
      have h1 : (Int32.ofNat c.slots.size).toInt = c.slots.size := Int32.toInt_ofNat_of_lt hb
      have h2 : Int32.ofNat c.slots.size = n := h'
      rw [h2] at h1; omega
    · rw [if_neg hb] at e; simp [Cond.value, e] at h
theorem own_arrB {args a0 : Array Value} {Z : State} {t : Term} {a : Addr} {c : Cell} (ev : t.eval args Z none [] Z = some (.ref a)) (hx : (Cond.exactly t "[B").value args Z none Z [] = some true) (w : (Cond.arrayClass .byte).before a0 Z = true) (ha : Z.arrayAt? a = some c) : Arr Z Z.heap a c .byte := by
  obtain ⟨x, cc, cell, k, e1, e2, e3, e4, e5, e6, -⟩ := Cond.exactly_spec (beq_iff_eq.mpr hx : (Cond.exactly t "[B").holds args Z none Z [] = true)
  obtain rfl : x = a := by rw [ev] at e1; cases e1; rfl
  obtain ⟨c2, k2, comp, q1, q2, q3⟩ := Cond.arrayClass_spec w
  have q1' : Z.vm.findClass "[B" = some c2 := q1
  cases e2.symm.trans q1'
  have hh : cell = c ∧ c.vm ≠ .unknown := by
    simp only [State.arrayAt?, e3, Option.bind_eq_bind, Option.bind_some, e6, q2, q3] at ha
    split at ha
    · cases ha
    · rename_i hu; cases ha; exact ⟨rfl, fun q => hu (Or.inl q)⟩
  obtain ⟨rfl, hu⟩ := hh
  exact ⟨e3, ⟨fun kk q => (by rw [q] at e5; cases e5), k2, (by rw [e6]; exact q2), comp, q3⟩, hu⟩
theorem own_tab {args : Array Value} {Z : State} {C n d : String} {a : Addr} {c : Cell} {g : Term} {f : Int32 → Int32} (ev : (Term.static C n d).eval args Z none [] Z = some (.ref a)) (ha : Z.arrayAt? a = some c) (hsz : c.slots.size = 100)
    (h : (Cond.all (.static C n d) (.eq (.elem (.static C n d) (.index 0)) (.add (.int 48) g))).value args Z none Z [] = some true) (hg : ∀ j : Int32, ¬ j < 0 → g.eval args Z none [j.toNatClampNeg] Z = some (.int (f j))) (j : Int32) (h0 : ¬ j < 0) (hj : j.toNatClampNeg < 100) : c.slots[j.toNatClampNeg]? = some (.int ((48 : Int32) + f j)) := by
  have h1 := Cond.all_elim ev ha h j.toNatClampNeg (by rw [hsz]; exact hj)
  have ev' : (Term.static C n d).eval args Z none [j.toNatClampNeg] Z = some (.ref a) := ev
  have ei : (Term.index 0).eval args Z none [j.toNatClampNeg] Z = some (.int j) := idx_at h0
  have e : (Term.elem (.static C n d) (.index 0)).eval args Z none [j.toNatClampNeg] Z = c.slots[j.toNatClampNeg]? := by
    rw [Term.eval, ev', ei]
    show (if j < 0 then none else (Z.arrayAt? a).bind fun q => q.slots[j.toNatClampNeg]?) = _
    rw [if_neg h0, ha]; rfl
  have e2 : (Term.add (.int 48) g).eval args Z none [j.toNatClampNeg] Z = some (.int (48 + f j)) := by
    rw [Term.eval, hg j h0]; rfl
  rw [Cond.value, e, e2] at h1
  split at h1 <;> first | (rename_i q1 q2; rw [q1]; simp only [Option.some.injEq, Value.int.injEq] at q2; simp only [Option.some.injEq, decide_eq_true_eq] at h1; rw [h1, ← q2]) | (simp_all; done)
theorem own_rg {x : Int32} {d k : Int32} {y : Int} (hd : d.toInt = k.toInt) (h : x.toInt = y) : True := trivial
theorem own_tin {r : Int32} {n : Nat} (h0 : 0 ≤ r.toInt) (h1 : r.toInt < 100) (hs : n = 100) : ¬ r < 0 ∧ r.toNatClampNeg < 100 ∧ ¬ (r < 0 ∨ n ≤ r.toNatClampNeg) := by
  have e0 : (0 : Int32).toInt = 0 := by decide
  simp only [Int32.lt_iff_toInt_lt, Int32.toNatClampNeg]; omega
theorem own_ones {r d : Int32} (h0 : 0 ≤ r.toInt) (h1 : r.toInt < 100) (hd : d.toInt = 48 + r.toInt % 10) : (48 : Int32) + r % (10 : Int32) = d := by
  have a := (c_irem r 10 10 (by decide)).1 h0
  have b := c_iadd 48 (r % 10)
  have c := rng32 (48 + r % 10)
  have e : (48 : Int32).toInt = 48 := by decide
  exact Int32.toInt_inj.mp (by omega)
theorem own_tens {r d : Int32} (h0 : 0 ≤ r.toInt) (h1 : r.toInt < 100) (hd : d.toInt = 48 + r.toInt / 10) : (48 : Int32) + r / (10 : Int32) = d := by
  have a := (c_idiv r 10 10 (by decide) (by decide)).1 h0
  have b := c_iadd 48 (r / 10)
  have c := rng32 (48 + r / 10)
  have e : (48 : Int32).toInt = 48 := by decide
  exact Int32.toInt_inj.mp (by omega)
theorem own_neg {p : Int32} (h : -2147483648 < p.toInt) : (-p).toInt = -p.toInt := by
  have a := c_ineg p
  have b := rng32 (-p)
  have c := rng32 p
  omega
theorem own_ng {p a : Int32} {b : Int} (ha : a.toInt = -b) (h0 : 0 ≤ p.toInt) : a < -p ↔ p.toInt < b := by
  have e := own_neg (p := p) (by omega)
  rw [Int32.lt_iff_toInt_lt, e, ha]; omega
theorem own_div {i : Int32} {x : Int} (hi : i.toInt = -x) (h0 : 0 < x) : (i / (100 : Int32)).toInt = -(x / 100) := by
  have a := (c_idiv i 100 100 (by decide) (by decide)).2 (by omega)
  rw [a, hi]; simp
theorem own_rr {i : Int32} {x : Int} (hi : i.toInt = -x) (h0 : 0 < x) (h1 : x < 100000) : (((i / (100 : Int32)) * (100 : Int32)) - i).toInt = x % 100 := by
  have a := own_div hi h0
  have e : (100 : Int32).toInt = 100 := by decide
  have m := c_imul (i / 100) 100
  rw [e, a] at m
  have r1 := rng32 ((i / 100) * 100)
  have s := c_isub ((i / 100) * 100) i
  have r2 := rng32 (((i / 100) * 100) - i)
  omega
theorem own_bd {d : Int32} (h0 : 0 ≤ d.toInt) (h1 : d.toInt < 128) : d.toInt8.toInt32 = own_b d := by
  have a := c_i2b d
  have b : d.toInt8.toInt32 = d := Int32.toInt_inj.mp (by omega)
  show _ = (d.toInt8.toInt32).toInt8.toInt32
  rw [b, b]
theorem own_cc {x : Int32} (h : 0 ≤ x.toInt ∧ x.toInt < 256) : x.toUInt32.toUInt16.toUInt32.toInt32 = x := by
  have a := c_i2c x
  exact Int32.toInt_inj.mp (by omega)
theorem own_msk (x : Int32) : 0 ≤ ((x &&& (255 : Int32)).toUInt32.toUInt16.toUInt32.toInt32).toInt ∧ ((x &&& (255 : Int32)).toUInt32.toUInt16.toUInt32.toInt32).toInt < 256 := by
  have a := c_mask x 255 8 (by decide) (by decide)
  have b := c_i2c (x &&& 255)
  omega
theorem own_pt (x : Int32) : 0 ≤ ((x &&& (2147483647 : Int32)) % (65536 : Int32)).toInt ∧ ((x &&& (2147483647 : Int32)) % (65536 : Int32)).toInt < 65536 := by
  have a := c_mask x 2147483647 31 (by decide) (by decide)
  have b := (c_irem (x &&& 2147483647) 65536 65536 (by decide)).1 (by omega)
  omega
theorem own_r8 {x : Int32} (h : 0 ≤ x.toInt ∧ x.toInt < 256) : (¬ x < (0 : Int32) ∧ ¬ (65535 : Int32) < x) ∧ ¬ (255 : Int32) < x := by
  have e0 : (0 : Int32).toInt = 0 := by decide
  have e1 : (65535 : Int32).toInt = 65535 := by decide
  have e2 : (255 : Int32).toInt = 255 := by decide
  simp only [Int32.lt_iff_toInt_lt]; omega
theorem own_dg {p k : Int32} {b : Int} (hk : k.toInt = b) (hk1 : k ≠ -1) (h0 : 0 ≤ p.toInt) (hb : 0 < b) : ((48 : Int32) + ((p / k) % (10 : Int32))).toInt = 48 + p.toInt / b % 10 := by
  have a := (c_idiv p k b hk hk1).1 h0
  have n0 : 0 ≤ p.toInt / b := Int.ediv_nonneg h0 (by omega)
  have r := (c_irem (p / k) 10 10 (by decide)).1 (by omega)
  have b2 := c_iadd 48 ((p / k) % 10)
  have c := rng32 (48 + ((p / k) % 10))
  have e : (48 : Int32).toInt = 48 := by decide
  omega
theorem own_nl {a : Int32} (h : 0 ≤ a.toInt) : ¬ a < (0 : Int32) := by
  have e0 : (0 : Int32).toInt = 0 := by decide
  rw [Int32.lt_iff_toInt_lt]; omega
theorem own_q2 (p : Int) : p / 100 / 100 = p / 10000 := by omega
theorem own_dv1 {i : Int32} {p : Int} (hi : i.toInt = -p) (h : 0 < p) : (i / (100 : Int32)).toInt = -(p / 100) := own_div hi h
theorem own_dv2 {i : Int32} {p : Int} (hi : i.toInt = -(p / 100)) (h : 0 < p / 100) : (i / (100 : Int32)).toInt = -(p / 10000) := by rw [own_div hi h, own_q2]
theorem own_nn {i : Int32} {x : Int} (e : i.toInt = -x) (h : x < 100) : (-i).toInt = x := by
  rw [own_neg (by omega), e]; omega
theorem own_e100 {r x : Int} (h : r = x % 100) : 0 ≤ r ∧ r < 100 := by omega
theorem own_e0 {r x : Int} (h : r = x) (a : 0 ≤ x) (b : x < 100) : 0 ≤ r ∧ r < 100 := by omega
theorem own_o1 {d r x : Int} (e : r = x % 100) (h : d = 48 + x % 10) : d = 48 + r % 10 := by omega
theorem own_o2 {d r x : Int} (e : r = x) (h : d = 48 + x % 10) : d = 48 + r % 10 := by rw [e]; exact h
theorem own_qq (x : Int) : x % 100 / 10 = x / 10 % 10 := by omega
theorem own_q1 (p : Int) : p / 100 / 10 = p / 1000 := by omega
theorem own_t0 {d r p : Int} (e : r = p % 100) (h : d = 48 + p / 10 % 10) : d = 48 + r / 10 := by rw [e, own_qq]; exact h
theorem own_t1 {d r p : Int} (e : r = p / 100 % 100) (h : d = 48 + p / 1000 % 10) : d = 48 + r / 10 := by rw [e, own_qq, own_q1]; exact h
theorem own_u0 {d r p : Int} (e : r = p) (a : 0 ≤ p) (b : p < 100) (h : d = 48 + p / 10 % 10) : d = 48 + r / 10 := by omega
theorem own_u1 {d r p : Int} (e : r = p / 100) (a : 0 ≤ p / 100) (b : p / 100 < 100) (h : d = 48 + p / 1000 % 10) : d = 48 + r / 10 := by
  rw [← own_q1] at h; exact own_u0 e a b h
theorem own_b100 {i : Int32} {x : Int} (e : i.toInt = -x) : (100 ≤ x → ¬ (-100 : Int32) < i) ∧ (x < 100 → (-100 : Int32) < i) := by
  have k : (-100 : Int32).toInt = -100 := by decide
  rw [Int32.lt_iff_toInt_lt, k]; exact ⟨fun h q => by omega, fun h => by omega⟩
theorem own_b9 {i : Int32} {x : Int} (e : i.toInt = -x) : (x < 10 → ¬ i < (-9 : Int32)) ∧ (10 ≤ x → i < (-9 : Int32)) := by
  have k : (-9 : Int32).toInt = -9 := by decide
  rw [Int32.lt_iff_toInt_lt, k]; exact ⟨fun h q => by omega, fun h => by omega⟩
theorem own_r1 {p : Int} (h0 : 0 ≤ p) (hhi : p < 10) : 0 ≤ p ∧ p < 100 ∧ p < 10 := by omega
theorem own_r2 {p : Int} (hlo : 10 ≤ p) (hhi : p < 100) : 0 ≤ p ∧ p < 100 ∧ 10 ≤ p := by omega
theorem own_r3 {p : Int} (hlo : 100 ≤ p) (hhi : p < 1000) : 100 ≤ p ∧ p < 100000 ∧ 0 ≤ p / 100 ∧ p / 100 < 100 ∧ p / 100 < 10 := by omega
theorem own_r4 {p : Int} (hlo : 1000 ≤ p) (hhi : p < 10000) : 100 ≤ p ∧ p < 100000 ∧ 0 ≤ p / 100 ∧ p / 100 < 100 ∧ 10 ≤ p / 100 := by omega
theorem own_r5 {p : Int} (hlo : 10000 ≤ p) (hhi : p < 100000) : 100 ≤ p ∧ p < 100000 ∧ 100 ≤ p / 100 ∧ p / 100 < 100000 ∧ 0 ≤ p / 10000 ∧ p / 10000 < 100 ∧ p / 10000 < 10 := by omega
theorem own_dr {d : Int32} {y : Int} (h : d.toInt = 48 + y % 10) : 0 ≤ d.toInt ∧ d.toInt < 256 := by omega
theorem own_bdd {d : Int32} {y : Int} (h : d.toInt = 48 + y % 10) : d.toInt8.toInt32 = own_b d := own_bd (by omega) (by omega)
theorem own_d1 (a : Int) : a / 1 = a := by omega
theorem own_lt {p k : Int32} {b : Int} (hk : k.toInt = b) : (p < k → p.toInt < b) ∧ (¬ p < k → b ≤ p.toInt) := by
  rw [Int32.lt_iff_toInt_lt, hk]; exact ⟨fun h => h, fun h => Int.not_lt.mp h⟩
theorem pn_java_lang_Integer : plainName "java/lang/Integer" = true := by first | (simp [plainName, overriddenIn]; done) | decide +kernel
theorem pn_com_example_kikao_kikao_DomainToStringPinLaw : plainName "com/example/kikao/kikao/DomainToStringPinLaw" = true := by first | (simp [plainName, overriddenIn]; done) | decide +kernel
theorem pn_com_example_kikao_kikao_Domain : plainName "com/example/kikao/kikao/Domain" = true := by first | (simp [plainName, overriddenIn]; done) | decide +kernel
theorem pn_java_lang_Record : plainName "java/lang/Record" = true := by first | (simp [plainName, overriddenIn]; done) | decide +kernel
theorem pn_java_util_Arrays : plainName "java/util/Arrays" = true := by first | (simp [plainName, overriddenIn]; done) | decide +kernel
theorem pn_java_lang_StringBuilder : plainName "java/lang/StringBuilder" = true := by first | (simp [plainName, overriddenIn]; done) | decide +kernel
theorem pn_java_lang_AbstractStringBuilder : plainName "java/lang/AbstractStringBuilder" = true := by first | (simp [plainName, overriddenIn]; done) | decide +kernel
theorem pn_java_lang_StringUTF16 : plainName "java/lang/StringUTF16" = true := by first | (simp [plainName, overriddenIn]; done) | decide +kernel
theorem pn_java_lang_StringLatin1 : plainName "java/lang/StringLatin1" = true := by first | (simp [plainName, overriddenIn]; done) | decide +kernel
theorem pn_java_lang_String : plainName "java/lang/String" = true := by first | (simp [plainName, overriddenIn]; done) | decide +kernel
theorem pn_jdk_internal_util_Preconditions : plainName "jdk/internal/util/Preconditions" = true := by first | (simp [plainName, overriddenIn]; done) | decide +kernel
theorem ef_rmPre (m : MethodId) (p0 : Int32) (p1 : Int32) (fm : Value) (hfm : fm.isRef = true) : entryFrame m #[(.int p0), (.int p1), fm] 3 = mkF m 0 #[.val (.int p0), .val (.int p1), .val fm] [] := by rcases ref_cases hfm with rfl | ⟨z, rfl⟩ <;> first | (simp [entryFrame, mkF, argsToLocals, Value.category]; done) | rfl
theorem d39_0 : decode jdk_41_method_11_code 0 = .ok (.iload_n 0, 1) := by decide +kernel
theorem d39_1 : decode jdk_41_method_11_code 1 = .ok (.ifCond .lt 8, 3) := by decide +kernel
theorem d39_4 : decode jdk_41_method_11_code 4 = .ok (.iload_n 0, 1) := by decide +kernel
theorem d39_5 : decode jdk_41_method_11_code 5 = .ok (.iload_n 1, 1) := by decide +kernel
theorem d39_6 : decode jdk_41_method_11_code 6 = .ok (.if_icmp .lt 10, 3) := by decide +kernel
theorem d39_16 : decode jdk_41_method_11_code 16 = .ok (.iload_n 0, 1) := by decide +kernel
theorem d39_17 : decode jdk_41_method_11_code 17 = .ok (.ireturn, 1) := by decide +kernel
def Q_rmPre (Z : State) (p0 : Int32) (p1 : Int32) (fm : Value) (h0 : Heap) (n0 : Nat) (v : Option Value) (h : Heap) (L : List Loc) : Prop := v = some (.int p0) ∧ Fr n0 L ∧ h = h0
set_option maxRecDepth 65536 in
set_option maxHeartbeats 40000000 in
theorem rmPre (l : Launch) (Z : State) (a0 : Array Value) (hw : ∀ d ∈ tables_1, d.before a0 Z = true) (ws : List Jvm.Cond) (p0 : Int32) (p1 : Int32) (fm : Value) (h0 : Heap) (n0 : Nat) (Z0 : n0 ≤ h0.size) (hfm : fm.isRef = true) (h0_ : ¬ p0 < (0 : Int32)) (h1_ : p0 < p1) :
    MetFree l (⟨"jdk/internal/util/Preconditions", "checkIndex", "(IILjava/util/function/BiFunction;)I"⟩ : MethodName) (head1 (Jvm.Cond.code (⟨"jdk/internal/util/Preconditions", "checkIndex", "(IILjava/util/function/BiFunction;)I"⟩ : MethodName) jdk_41_method_11_code 3 (some .int) :: ws) ({ frames := 0, cells := 0, slots := 0, locals := 0 } : Room)) (fun a U => a = #[(.int p0), (.int p1), fm] ∧ Z.Warmed39 U.vm ∧ U.heap = h0) (fun _ _ _ _ _ => True) (fun _ U o U' => ∃ v L, o = .returned v ∧ Q_rmPre Z p0 p1 fm h0 n0 v U'.heap L ∧ FrameEnd U o U' L ({ frames := 0, cells := 0, slots := 0, locals := 0 } : Room).cells ({ frames := 0, cells := 0, slots := 0, locals := 0 } : Room).slots) := by
  refine MetFree.of_bodySF (plainFor_of_name pn_jdk_internal_util_Preconditions) hisR ?_
  intro p e s m args below meth c s₁ Bd hml0 hP hK
  obtain ⟨rfl, hZ, hh⟩ := hP
  have hx := Bd.exec
  have hby := Bd.bytes
  have hml : c.maxLocals = 3 := hml0
  have hown : s.vm.findClass "jdk/internal/util/Preconditions" = some m.cls := findClass_of_methodNamed Bd.named
  have hnm := (name_of_methodNamed Bd.named Bd.method).1
  have hZo := hZ
  have howno := hown
  have X0 : Stand p l e ({ frames := 0, cells := 0, slots := 0, locals := 0 } : Room) s m #[(.int p0), (.int p1), fm] below meth c s₁ [] 0 0 := Stand.of_body Bd
  have e0 : s₁.heap = h0 := by rw [← hh, Bd.state]; rfl
  have N0 := Fr.nil n0
  have pre0 : ∀ t, Steps p.tables e below (s₁.setTop (mkF m 0 #[.val (.int p0), .val (.int p1), .val fm] [])) t → Steps p.tables e below (s₁.setTop (entryFrame m #[(.int p0), (.int p1), fm] 3)) t := fun t k => castTop (ef_rmPre m p0 p1 fm hfm) k
  obtain ⟨fs, hr, hrun, hended, hW, hsame⟩ := X0.leave (v := some (.int p0)) (fun h => by rw [Bd.returns] at h; cases h)
  refine ⟨_, _, pre0 _ ?_, hrun, hended, _, _, rfl, ?_, ⟨_, rfl⟩, hW, hsame.mono (by decide) (by decide)⟩
  · show Steps p.tables e below (s₁.setTop (mkF m 0 #[.val (.int p0), .val (.int p1), .val fm] [])) _
    refine XS.iloadN X0.here hx rfl (hb hby d39_0) rfl  ?_
    show Steps p.tables e below (s₁.setTop (mkF m 1 #[.val (.int p0), .val (.int p1), .val fm] [(.int p0)])) _
    refine XS.ifNo X0.here hx rfl (hb hby d39_1) rfl ((if0 _ _).trans (flt h0_).1) ?_
    refine XS.iloadN X0.here hx rfl (hb hby d39_4) rfl  ?_
    refine XS.iloadN X0.here hx rfl (hb hby d39_5) rfl  ?_
    show Steps p.tables e below (s₁.setTop (mkF m 6 #[.val (.int p0), .val (.int p1), .val fm] [(.int p1), (.int p0)])) _
    refine XS.icmpYes X0.here hx rfl (pc0 := 6) (pc' := 16) rfl (hb hby d39_6) rfl (tlt h1_).1 (by decide) (by decide) ?_
    refine XS.iloadN X0.here hx rfl (hb hby d39_16) rfl  ?_
    show Steps p.tables e below (s₁.setTop (mkF m 17 #[.val (.int p0), .val (.int p1), .val fm] [(.int p0)])) _
    exact retI X0 hx Bd.returns (hb hby d39_17) hr
  · show Q_rmPre Z p0 p1 fm h0 n0 _ s₁.heap _
    rw [e0]
    exact ⟨rfl, N0, rfl⟩
theorem ef_rmChk (m : MethodId) (p0 : Int32) (p1 : Int32) : entryFrame m #[(.int p0), (.int p1)] 2 = mkF m 0 #[.val (.int p0), .val (.int p1)] [] := by first | (simp [entryFrame, mkF, argsToLocals, Value.category]; done) | rfl
theorem d38_0 : decode jdk_42_method_155_code 0 = .ok (.iload_n 0, 1) := by decide +kernel
theorem d38_1 : decode jdk_42_method_155_code 1 = .ok (.iload_n 1, 1) := by decide +kernel
theorem d38_2 : decode jdk_42_method_155_code 2 = .ok (.getstatic 1053, 3) := by decide +kernel
theorem pd__IILjava_util_function_BiFunction__I : parseMethodDescriptor "(IILjava/util/function/BiFunction;)I" = some ⟨[.int, .int, (.object "java/util/function/BiFunction")], some .int⟩ := by decide +kernel
theorem d38_5 : decode jdk_42_method_155_code 5 = .ok (.invokestatic 1059, 3) := by decide +kernel
theorem d38_8 : decode jdk_42_method_155_code 8 = .ok (.pop, 1) := by decide +kernel
theorem d38_9 : decode jdk_42_method_155_code 9 = .ok (.return_, 1) := by decide +kernel
def Q_rmChk (Z : State) (p0 : Int32) (p1 : Int32) (zc : Int32) (fm : Value) (h0 : Heap) (n0 : Nat) (v : Option Value) (h : Heap) (L : List Loc) : Prop := v = none ∧ Fr n0 L ∧ h = h0
set_option maxRecDepth 65536 in
set_option maxHeartbeats 40000000 in
theorem rmChk (l : Launch) (Z : State) (a0 : Array Value) (hw : ∀ d ∈ tables_1, d.before a0 Z = true) (ws : List Jvm.Cond) (p0 : Int32) (p1 : Int32) (zc : Int32) (fm : Value) (h0 : Heap) (n0 : Nat) (Z0 : n0 ≤ h0.size) (hSt : own_St Z zc fm) (Ol : own_Old Z n0 h0) (h0_ : ¬ p0 < (0 : Int32)) (h1_ : p0 < p1) :
    MetFree l (⟨"java/lang/String", "checkIndex", "(II)V"⟩ : MethodName) (head1 (Jvm.Cond.code (⟨"java/lang/String", "checkIndex", "(II)V"⟩ : MethodName) jdk_42_method_155_code 2 none :: ws) ({ frames := 1, cells := 0, slots := 0, locals := 14 } : Room)) (fun a U => a = #[(.int p0), (.int p1)] ∧ Z.Warmed39 U.vm ∧ U.heap = h0) (fun _ _ _ _ _ => True) (fun _ U o U' => ∃ v L, o = .returned v ∧ Q_rmChk Z p0 p1 zc fm h0 n0 v U'.heap L ∧ FrameEnd U o U' L ({ frames := 1, cells := 0, slots := 0, locals := 14 } : Room).cells ({ frames := 1, cells := 0, slots := 0, locals := 14 } : Room).slots) := by
  refine MetFree.of_bodySF (plainFor_of_name pn_java_lang_String) hisR ?_
  intro p e s m args below meth c s₁ Bd hml0 hP hK
  obtain ⟨rfl, hZ, hh⟩ := hP
  have hx := Bd.exec
  have hby := Bd.bytes
  have hml : c.maxLocals = 2 := hml0
  have hown : s.vm.findClass "java/lang/String" = some m.cls := findClass_of_methodNamed Bd.named
  have hnm := (name_of_methodNamed Bd.named Bd.method).1
  have hZo := hZ
  have howno := hown
  have X0 : Stand p l e ({ frames := 1, cells := 0, slots := 0, locals := 14 } : Room) s m #[(.int p0), (.int p1)] below meth c s₁ [] 0 0 := Stand.of_body Bd
  have e0 : s₁.heap = h0 := by rw [← hh, Bd.state]; rfl
  have N0 := Fr.nil n0
  have pre0 : ∀ t, Steps p.tables e below (s₁.setTop (mkF m 0 #[.val (.int p0), .val (.int p1)] [])) t → Steps p.tables e below (s₁.setTop (entryFrame m #[(.int p0), (.int p1)] 2)) t := fun t k => castTop (ef_rmChk m p0 p1 ) k
  obtain ⟨T1, X1, e1, st1⟩ := getS2 X0 hx hZ hown (host := "") (Or.inl (hw _ (own_m 202 rfl))) Via.refl e0 (hSt.2.2.1.ext Ol.2) (g := (mkF m 2 #[.val (.int p0), .val (.int p1)] [(.int p1), (.int p0)])) rfl (hb hby d38_2)
  obtain ⟨_, _, ⟨T2, L2, k2, n2⟩, -, X2, ⟨Lc2, hQ2, l2, y2, z2⟩, st2⟩ := Jvm.LawKit.callS X1 hx (y := (⟨"jdk/internal/util/Preconditions", "checkIndex", "(IILjava/util/function/BiFunction;)I"⟩ : MethodName)) hown (mvT hZ (hw _ (own_m 204 rfl))) (mvT hZ (hw _ (own_m 205 rfl))) (mvT hZ (hw _ (own_m 203 rfl))) (mvT hZ (hw _ (own_m 206 rfl))) (by decide) (backOf (W := 0) (rmPre l Z a0 hw [] p0 p1 fm h0 n0 Z0 hSt.2.2.2 h0_ h1_) hZ (hw _ (own_m 206 rfl)) (hw _ (own_m 203 rfl)) (by decide) (by decide)) (g := (mkF m 5 #[.val (.int p0), .val (.int p1)] [fm, (.int p1), (.int p0)])) rfl (by rw [hml]; rfl) (argsL := [(.int p0), (.int p1), fm]) (rest := []) (lenOf pd__IILjava_util_function_BiFunction__I rfl) rfl (by show 2 * 0 + _ ≤ _; exact Nat.le_of_eq rfl) (hb hby d38_5) (fun _ _ => ⟨rfl, e1, (by decide : 0 + 0 ≤ _), (by decide : 0 + 0 ≤ _)⟩)
  dsimp only [Pt.U, Pt.locs, Pt.cells, Pt.slots] at X2 l2 y2 z2 st2 hQ2
  subst l2 y2 z2
  obtain ⟨rfl, Nq2, e2⟩ := hQ2
  have N2 := Fr.app N0 Nq2
  obtain ⟨fs, hr, hrun, hended, hW, hsame⟩ := X2.leave (v := none) (fun _ => rfl)
  refine ⟨_, _, pre0 _ ?_, hrun, hended, _, _, rfl, ?_, ⟨_, rfl⟩, hW, hsame.mono (by decide) (by decide)⟩
  · show Steps p.tables e below (s₁.setTop (mkF m 0 #[.val (.int p0), .val (.int p1)] [])) _
    refine XS.iloadN X0.here hx rfl (hb hby d38_0) rfl  ?_
    refine XS.iloadN X0.here hx rfl (hb hby d38_1) rfl  ?_
    show Steps p.tables e below (s₁.setTop (mkF m 2 #[.val (.int p0), .val (.int p1)] [(.int p1), (.int p0)])) _
    refine st1 _ ?_
    show Steps p.tables e below (T1.setTop (mkF m 5 #[.val (.int p0), .val (.int p1)] [fm, (.int p1), (.int p0)])) _
    refine st2 _ ?_
    show Steps p.tables e below (T2.setTop (mkF m 8 #[.val (.int p0), .val (.int p1)] [(.int p0)])) _
    refine XS.pop X2.here hx rfl (hb hby d38_8) rfl rfl ?_
    show Steps p.tables e below (T2.setTop (mkF m 9 #[.val (.int p0), .val (.int p1)] [])) _
    exact X2.returnOut hx Bd.returns (hb hby d38_9) hr
  · show Q_rmChk Z p0 p1 zc fm h0 n0 _ T2.heap _
    rw [e2]
    exact ⟨rfl, N2, rfl⟩
theorem ef_rmCoder (m : MethodId) (p0 : Addr) : entryFrame m #[(.ref p0)] 1 = mkF m 0 #[.val (.ref p0)] [] := by first | (simp [entryFrame, mkF, argsToLocals, Value.category]; done) | rfl
theorem d15_0 : decode jdk_42_method_152_code 0 = .ok (.getstatic 38, 3) := by decide +kernel
theorem d15_3 : decode jdk_42_method_152_code 3 = .ok (.ifCond .eq 10, 3) := by decide +kernel
theorem d15_6 : decode jdk_42_method_152_code 6 = .ok (.aload_n 0, 1) := by decide +kernel
theorem d15_7 : decode jdk_42_method_152_code 7 = .ok (.getfield 15, 3) := by decide +kernel
theorem d15_10 : decode jdk_42_method_152_code 10 = .ok (.goto 4, 3) := by decide +kernel
theorem d15_14 : decode jdk_42_method_152_code 14 = .ok (.ireturn, 1) := by decide +kernel
def Q_rmCoder (Z : State) (p0 : Addr) (zc : Int32) (fm : Value) (cd : Int32) (h0 : Heap) (n0 : Nat) (v : Option Value) (h : Heap) (L : List Loc) : Prop := v = some (.int cd) ∧ Fr n0 L ∧ h = h0
set_option maxRecDepth 65536 in
set_option maxHeartbeats 40000000 in
theorem rmCoder (l : Launch) (Z : State) (a0 : Array Value) (hw : ∀ d ∈ tables_1, d.before a0 Z = true) (ws : List Jvm.Cond) (p0 : Addr) (zc : Int32) (fm : Value) (cd : Int32) (h0 : Heap) (n0 : Nat) (Z0 : n0 ≤ h0.size) (hSt : own_St Z zc fm) (Ol : own_Old Z n0 h0) (Fc : Fld Z h0 p0 "java/lang/String" "coder" "B" (.int cd)) (hcd : nar .byte cd = cd) :
    MetFree l (⟨"java/lang/String", "coder", "()B"⟩ : MethodName) (head1 (Jvm.Cond.code (⟨"java/lang/String", "coder", "()B"⟩ : MethodName) jdk_42_method_152_code 1 (some .byte) :: ws) ({ frames := 0, cells := 0, slots := 0, locals := 0 } : Room)) (fun a U => a = #[(.ref p0)] ∧ Z.Warmed39 U.vm ∧ U.heap = h0) (fun _ _ _ _ _ => True) (fun _ U o U' => ∃ v L, o = .returned v ∧ Q_rmCoder Z p0 zc fm cd h0 n0 v U'.heap L ∧ FrameEnd U o U' L ({ frames := 0, cells := 0, slots := 0, locals := 0 } : Room).cells ({ frames := 0, cells := 0, slots := 0, locals := 0 } : Room).slots) := by
  refine MetFree.of_bodySF (plainFor_of_name pn_java_lang_String) hisR ?_
  intro p e s m args below meth c s₁ Bd hml0 hP hK
  obtain ⟨rfl, hZ, hh⟩ := hP
  have hx := Bd.exec
  have hby := Bd.bytes
  have hml : c.maxLocals = 1 := hml0
  have hown : s.vm.findClass "java/lang/String" = some m.cls := findClass_of_methodNamed Bd.named
  have hnm := (name_of_methodNamed Bd.named Bd.method).1
  have hZo := hZ
  have howno := hown
  have X0 : Stand p l e ({ frames := 0, cells := 0, slots := 0, locals := 0 } : Room) s m #[(.ref p0)] below meth c s₁ [] 0 0 := Stand.of_body Bd
  have e0 : s₁.heap = h0 := by rw [← hh, Bd.state]; rfl
  have N0 := Fr.nil n0
  have pre0 : ∀ t, Steps p.tables e below (s₁.setTop (mkF m 0 #[.val (.ref p0)] [])) t → Steps p.tables e below (s₁.setTop (entryFrame m #[(.ref p0)] 1)) t := fun t k => castTop (ef_rmCoder m p0 ) k
  obtain ⟨T1, X1, e1, st1⟩ := getS2 X0 hx hZ hown (host := "") (Or.inl (hw _ (own_m 14 rfl))) Via.refl e0 (hSt.1.ext Ol.2) (g := (mkF m 0 #[.val (.ref p0)] [])) rfl (hb hby d15_0)
  obtain ⟨T2, X2, e2, st2⟩ := getF X1 hx hZ hown (host := "") (Or.inl (hw _ (own_m 26 rfl))) Via.refl e1 Fc (g := (mkF m 7 #[.val (.ref p0)] [(.ref p0)])) rfl rfl (hb hby d15_7)
  obtain ⟨fs, hr, hrun, hended, hW, hsame⟩ := X2.leave (v := some (.int (nar .byte cd))) (fun h => by rw [Bd.returns] at h; cases h)
  refine ⟨_, _, pre0 _ ?_, hrun, hended, _, _, rfl, ?_, ⟨_, rfl⟩, hW, hsame.mono (by decide) (by decide)⟩
  · show Steps p.tables e below (s₁.setTop (mkF m 0 #[.val (.ref p0)] [])) _
    refine st1 _ ?_
    show Steps p.tables e below (T1.setTop (mkF m 3 #[.val (.ref p0)] [(.int zc)])) _
    refine XS.ifNo X1.here hx rfl (hb hby d15_3) rfl ((if0 _ _).trans (feq hSt.2.1).1) ?_
    refine XS.aloadN X1.here hx rfl (hb hby d15_6) rfl rfl ?_
    show Steps p.tables e below (T1.setTop (mkF m 7 #[.val (.ref p0)] [(.ref p0)])) _
    refine st2 _ ?_
    show Steps p.tables e below (T2.setTop (mkF m 10 #[.val (.ref p0)] [(.int cd)])) _
    refine XS.goto X2.here hx rfl (pc0 := 10) (pc' := 14) rfl (hb hby d15_10) (by decide) (by decide) ?_
    show Steps p.tables e below (T2.setTop (mkF m 14 #[.val (.ref p0)] [(.int cd)])) _
    exact retN X2 hx (t := .byte) Bd.returns (by simp) (hb hby d15_14) hr
  · show Q_rmCoder Z p0 zc fm cd h0 n0 _ T2.heap _
    rw [e2]
    exact ⟨by rw [hcd], N0, rfl⟩
theorem ef_rmLat (m : MethodId) (p0 : Addr) : entryFrame m #[(.ref p0)] 1 = mkF m 0 #[.val (.ref p0)] [] := by first | (simp [entryFrame, mkF, argsToLocals, Value.category]; done) | rfl
theorem d36_0 : decode jdk_42_method_154_code 0 = .ok (.getstatic 38, 3) := by decide +kernel
theorem d36_3 : decode jdk_42_method_154_code 3 = .ok (.ifCond .eq 14, 3) := by decide +kernel
theorem d36_6 : decode jdk_42_method_154_code 6 = .ok (.aload_n 0, 1) := by decide +kernel
theorem d36_7 : decode jdk_42_method_154_code 7 = .ok (.getfield 15, 3) := by decide +kernel
theorem d36_10 : decode jdk_42_method_154_code 10 = .ok (.ifCond .ne 7, 3) := by decide +kernel
theorem d36_13 : decode jdk_42_method_154_code 13 = .ok (.iconst 1, 1) := by decide +kernel
theorem d36_14 : decode jdk_42_method_154_code 14 = .ok (.goto 4, 3) := by decide +kernel
theorem d36_18 : decode jdk_42_method_154_code 18 = .ok (.ireturn, 1) := by decide +kernel
theorem d36_17 : decode jdk_42_method_154_code 17 = .ok (.iconst 0, 1) := by decide +kernel
def Q_rmLat (Z : State) (p0 : Addr) (zc : Int32) (fm : Value) (cd : Int32) (r : Int32) (h0 : Heap) (n0 : Nat) (v : Option Value) (h : Heap) (L : List Loc) : Prop := v = some (.int r) ∧ Fr n0 L ∧ h = h0
set_option maxRecDepth 65536 in
set_option maxHeartbeats 40000000 in
theorem rmLat (l : Launch) (Z : State) (a0 : Array Value) (hw : ∀ d ∈ tables_1, d.before a0 Z = true) (ws : List Jvm.Cond) (p0 : Addr) (zc : Int32) (fm : Value) (cd : Int32) (r : Int32) (h0 : Heap) (n0 : Nat) (Z0 : n0 ≤ h0.size) (hSt : own_St Z zc fm) (Ol : own_Old Z n0 h0) (Fc : Fld Z h0 p0 "java/lang/String" "coder" "B" (.int cd)) (hres : r = if cd = 0 then 1 else 0) :
    MetFree l (⟨"java/lang/String", "isLatin1", "()Z"⟩ : MethodName) (head1 (Jvm.Cond.code (⟨"java/lang/String", "isLatin1", "()Z"⟩ : MethodName) jdk_42_method_154_code 1 (some .boolean) :: ws) ({ frames := 0, cells := 0, slots := 0, locals := 0 } : Room)) (fun a U => a = #[(.ref p0)] ∧ Z.Warmed39 U.vm ∧ U.heap = h0) (fun _ _ _ _ _ => True) (fun _ U o U' => ∃ v L, o = .returned v ∧ Q_rmLat Z p0 zc fm cd r h0 n0 v U'.heap L ∧ FrameEnd U o U' L ({ frames := 0, cells := 0, slots := 0, locals := 0 } : Room).cells ({ frames := 0, cells := 0, slots := 0, locals := 0 } : Room).slots) := by
  refine MetFree.of_bodySF (plainFor_of_name pn_java_lang_String) hisR ?_
  intro p e s m args below meth c s₁ Bd hml0 hP hK
  obtain ⟨rfl, hZ, hh⟩ := hP
  have hx := Bd.exec
  have hby := Bd.bytes
  have hml : c.maxLocals = 1 := hml0
  have hown : s.vm.findClass "java/lang/String" = some m.cls := findClass_of_methodNamed Bd.named
  have hnm := (name_of_methodNamed Bd.named Bd.method).1
  have hZo := hZ
  have howno := hown
  have X0 : Stand p l e ({ frames := 0, cells := 0, slots := 0, locals := 0 } : Room) s m #[(.ref p0)] below meth c s₁ [] 0 0 := Stand.of_body Bd
  have e0 : s₁.heap = h0 := by rw [← hh, Bd.state]; rfl
  have N0 := Fr.nil n0
  have pre0 : ∀ t, Steps p.tables e below (s₁.setTop (mkF m 0 #[.val (.ref p0)] [])) t → Steps p.tables e below (s₁.setTop (entryFrame m #[(.ref p0)] 1)) t := fun t k => castTop (ef_rmLat m p0 ) k
  obtain ⟨T1, X1, e1, st1⟩ := getS2 X0 hx hZ hown (host := "") (Or.inl (hw _ (own_m 14 rfl))) Via.refl e0 (hSt.1.ext Ol.2) (g := (mkF m 0 #[.val (.ref p0)] [])) rfl (hb hby d36_0)
  obtain ⟨T2, X2, e2, st2⟩ := getF X1 hx hZ hown (host := "") (Or.inl (hw _ (own_m 26 rfl))) Via.refl e1 Fc (g := (mkF m 7 #[.val (.ref p0)] [(.ref p0)])) rfl rfl (hb hby d36_7)
  have pre4 : ∀ t, Steps p.tables e below (T2.setTop (mkF m 10 #[.val (.ref p0)] [(.int cd)])) t → Steps p.tables e below (s₁.setTop (entryFrame m #[(.ref p0)] 1)) t := fun t kt => pre0 t (by
    show Steps p.tables e below (s₁.setTop (mkF m 0 #[.val (.ref p0)] [])) _
    refine st1 _ ?_
    show Steps p.tables e below (T1.setTop (mkF m 3 #[.val (.ref p0)] [(.int zc)])) _
    refine XS.ifNo X1.here hx rfl (hb hby d36_3) rfl ((if0 _ _).trans (feq hSt.2.1).1) ?_
    refine XS.aloadN X1.here hx rfl (hb hby d36_6) rfl rfl ?_
    show Steps p.tables e below (T1.setTop (mkF m 7 #[.val (.ref p0)] [(.ref p0)])) _
    refine st2 _ ?_
    exact kt)
  by_cases hc10_3 : cd = (0 : Int32)
  · obtain ⟨fs, hr, hrun, hended, hW, hsame⟩ := X2.leave (v := some (.int (1 : Int32))) (fun h => by rw [Bd.returns] at h; cases h)
    refine ⟨_, _, pre4 _ ?_, hrun, hended, _, _, rfl, ?_, ⟨_, rfl⟩, hW, hsame.mono (by decide) (by decide)⟩
    · show Steps p.tables e below (T2.setTop (mkF m 10 #[.val (.ref p0)] [(.int cd)])) _
      refine XS.ifNo X2.here hx rfl (hb hby d36_10) rfl ((if0 _ _).trans (teq hc10_3).2) ?_
      refine XS.iconst X2.here hx rfl (hb hby d36_13) ?_
      refine XS.goto X2.here hx rfl (pc0 := 14) (pc' := 18) rfl (hb hby d36_14) (by decide) (by decide) ?_
      show Steps p.tables e below (T2.setTop (mkF m 18 #[.val (.ref p0)] [(.int (1 : Int32))])) _
      exact retN X2 hx (t := .boolean) Bd.returns (by simp) (hb hby d36_18) hr
    · show Q_rmLat Z p0 zc fm cd r h0 n0 _ T2.heap _
      rw [e2]
      exact ⟨by rw [hres, if_pos hc10_3], N0, rfl⟩
  · obtain ⟨fs, hr, hrun, hended, hW, hsame⟩ := X2.leave (v := some (.int (0 : Int32))) (fun h => by rw [Bd.returns] at h; cases h)
    refine ⟨_, _, pre4 _ ?_, hrun, hended, _, _, rfl, ?_, ⟨_, rfl⟩, hW, hsame.mono (by decide) (by decide)⟩
    · show Steps p.tables e below (T2.setTop (mkF m 10 #[.val (.ref p0)] [(.int cd)])) _
      refine XS.ifYes X2.here hx rfl (pc0 := 10) (pc' := 17) rfl (hb hby d36_10) rfl ((if0 _ _).trans (feq hc10_3).2) (by decide) (by decide) ?_
      refine XS.iconst X2.here hx rfl (hb hby d36_17) ?_
      show Steps p.tables e below (T2.setTop (mkF m 18 #[.val (.ref p0)] [(.int (0 : Int32))])) _
      exact retN X2 hx (t := .boolean) Bd.returns (by simp) (hb hby d36_18) hr
    · show Q_rmLat Z p0 zc fm cd r h0 n0 _ T2.heap _
      rw [e2]
      exact ⟨by rw [hres, if_neg hc10_3], N0, rfl⟩
theorem ef_rmLen (m : MethodId) (p0 : Addr) : entryFrame m #[(.ref p0)] 1 = mkF m 0 #[.val (.ref p0)] [] := by first | (simp [entryFrame, mkF, argsToLocals, Value.category]; done) | rfl
theorem d14_0 : decode jdk_42_method_54_code 0 = .ok (.aload_n 0, 1) := by decide +kernel
theorem d14_1 : decode jdk_42_method_54_code 1 = .ok (.getfield 9, 3) := by decide +kernel
theorem d14_4 : decode jdk_42_method_54_code 4 = .ok (.arraylength, 1) := by decide +kernel
theorem d14_5 : decode jdk_42_method_54_code 5 = .ok (.aload_n 0, 1) := by decide +kernel
theorem pd___B : parseMethodDescriptor "()B" = some ⟨[], some .byte⟩ := by decide +kernel
theorem d14_6 : decode jdk_42_method_54_code 6 = .ok (.invokevirtual 335, 3) := by decide +kernel
theorem d14_9 : decode jdk_42_method_54_code 9 = .ok (.ishr, 1) := by decide +kernel
theorem d14_10 : decode jdk_42_method_54_code 10 = .ok (.ireturn, 1) := by decide +kernel
def Q_rmLen (Z : State) (p0 : Addr) (zc : Int32) (fm : Value) (cs : List Int32) (r : Int32) (h0 : Heap) (n0 : Nat) (v : Option Value) (h : Heap) (L : List Loc) : Prop := v = some (.int r) ∧ Fr n0 L ∧ h = h0
set_option maxRecDepth 65536 in
set_option maxHeartbeats 40000000 in
theorem rmLen (l : Launch) (Z : State) (a0 : Array Value) (hw : ∀ d ∈ tables_1, d.before a0 Z = true) (ws : List Jvm.Cond) (p0 : Addr) (zc : Int32) (fm : Value) (cs : List Int32) (r : Int32) (h0 : Heap) (n0 : Nat) (Z0 : n0 ≤ h0.size) (hSt : own_St Z zc fm) (Ol : own_Old Z n0 h0) (hS : own_Str Z h0 p0 cs) (hnw : own_Nrw Z h0 p0) (hres : r = Int32.ofNat cs.length) :
    MetFree l (⟨"java/lang/String", "length", "()I"⟩ : MethodName) (head1 (Jvm.Cond.code (⟨"java/lang/String", "length", "()I"⟩ : MethodName) jdk_42_method_54_code 1 (some .int) :: ws) ({ frames := 1, cells := 0, slots := 0, locals := 13 } : Room)) (fun a U => a = #[(.ref p0)] ∧ Z.Warmed39 U.vm ∧ U.heap = h0) (fun _ _ _ _ _ => True) (fun _ U o U' => ∃ v L, o = .returned v ∧ Q_rmLen Z p0 zc fm cs r h0 n0 v U'.heap L ∧ FrameEnd U o U' L ({ frames := 1, cells := 0, slots := 0, locals := 13 } : Room).cells ({ frames := 1, cells := 0, slots := 0, locals := 13 } : Room).slots) := by
  refine MetFree.of_bodySF (plainFor_of_name pn_java_lang_String) hisR ?_
  intro p e s m args below meth c s₁ Bd hml0 hP hK
  obtain ⟨rfl, hZ, hh⟩ := hP
  have hx := Bd.exec
  have hby := Bd.bytes
  have hml : c.maxLocals = 1 := hml0
  have hown : s.vm.findClass "java/lang/String" = some m.cls := findClass_of_methodNamed Bd.named
  have hnm := (name_of_methodNamed Bd.named Bd.method).1
  have hZo := hZ
  have howno := hown
  have X0 : Stand p l e ({ frames := 1, cells := 0, slots := 0, locals := 13 } : Room) s m #[(.ref p0)] below meth c s₁ [] 0 0 := Stand.of_body Bd
  have e0 : s₁.heap = h0 := by rw [← hh, Bd.state]; rfl
  have N0 := Fr.nil n0
  have pre0 : ∀ t, Steps p.tables e below (s₁.setTop (mkF m 0 #[.val (.ref p0)] [])) t → Steps p.tables e below (s₁.setTop (entryFrame m #[(.ref p0)] 1)) t := fun t k => castTop (ef_rmLen m p0 ) k
  obtain ⟨t, k, cd, z, vs, E0, Fv, Fc, A0, hcod, hch, hln⟩ := hS
  obtain ⟨rfl, rfl, rfl, hle⟩ := hcod.resolve_right (fun q => hnw t cd Fc q.1)
  obtain ⟨T1, X1, e1, st1⟩ := getF X0 hx hZ hown (host := "") (Or.inl (hw _ (own_m 28 rfl))) Via.refl e0 Fv (g := (mkF m 1 #[.val (.ref p0)] [(.ref p0)])) rfl rfl (hb hby d14_1)
  obtain ⟨cl2, Ar2, -, S2, N2, -, -⟩ := id A0
  obtain ⟨cq3, kq3, q3a, q3b, q3c⟩ := isOf hZ e1 E0
  obtain ⟨_, _, ⟨T3, L3, k3, n3⟩, -, X3, ⟨Lc3, hQ3, l3, y3, z3⟩, st3⟩ := X1.virtualBack hx (y := (⟨"java/lang/String", "coder", "()B"⟩ : MethodName)) (z := (⟨"java/lang/String", "coder", "()B"⟩ : MethodName)) hown (mvT hZ (hw _ (own_m 86 rfl))) (mvT hZ (hw _ (own_m 87 rfl))) (notFace_of_selects (args := #[]) (mvT hZ (hw _ (own_m 89 rfl)))) (mvT hZ (hw _ (own_m 89 rfl))) (mvT hZ (hw _ (own_m 88 rfl))) (by decide) (backOf (W := 1) (rmCoder l Z a0 hw [] p0 zc fm (0 : Int32) h0 n0 Z0 hSt Ol Fc (by decide)) hZ (hw _ (own_m 90 rfl)) (hw _ (own_m 2 rfl)) (by decide) (by decide)) q3a q3c (g := (mkF m 6 #[.val (.ref p0)] [(.ref p0), (.int (Int32.ofNat cs.length))])) rfl (by rw [hml]; rfl) (Steps.refl _) (argsL := []) (rest := [(.int (Int32.ofNat cs.length))]) (lenOf pd___B rfl) rfl (by show 2 * 0 + _ ≤ _; exact Nat.le_of_eq rfl) (hb hby d14_6) (fun _ _ => ⟨rfl, e1, (by decide : 0 + 0 ≤ _), (by decide : 0 + 0 ≤ _)⟩)
  dsimp only [Pt.U, Pt.locs, Pt.cells, Pt.slots] at X3 l3 y3 z3 st3 hQ3
  subst l3 y3 z3
  obtain ⟨rfl, Nq3, e3⟩ := hQ3
  have N3 := Fr.app N0 Nq3
  obtain ⟨fs, hr, hrun, hended, hW, hsame⟩ := X3.leave (v := some (.int ((Int32.ofNat cs.length) >>> ((0 : Int32) &&& 31)))) (fun h => by rw [Bd.returns] at h; cases h)
  refine ⟨_, _, pre0 _ ?_, hrun, hended, _, _, rfl, ?_, ⟨_, rfl⟩, hW, hsame.mono (by decide) (by decide)⟩
  · show Steps p.tables e below (s₁.setTop (mkF m 0 #[.val (.ref p0)] [])) _
    refine XS.aloadN X0.here hx rfl (hb hby d14_0) rfl rfl ?_
    show Steps p.tables e below (s₁.setTop (mkF m 1 #[.val (.ref p0)] [(.ref p0)])) _
    refine st1 _ ?_
    show Steps p.tables e below (T1.setTop (mkF m 4 #[.val (.ref p0)] [(.ref t)])) _
    refine X1.arraylength hx (by rw [e1]; exact Ar2.1) (State.isArrayOf_alike hZ.alike Ar2.2.1) (g := (mkF m 4 #[.val (.ref p0)] [(.ref t)])) rfl rfl (hb hby d14_4) _ ?_
    rw [len_of S2 N2]
    show Steps p.tables e below (T1.setTop (mkF m 5 #[.val (.ref p0)] [(.int (Int32.ofNat cs.length))])) _
    refine XS.aloadN X1.here hx rfl (hb hby d14_5) rfl rfl ?_
    show Steps p.tables e below (T1.setTop (mkF m 6 #[.val (.ref p0)] [(.ref p0), (.int (Int32.ofNat cs.length))])) _
    refine st3.trans ?_
    show Steps p.tables e below (T3.setTop (mkF m 9 #[.val (.ref p0)] [(.int (0 : Int32)), (.int (Int32.ofNat cs.length))])) _
    refine XS.ishr X3.here hx rfl (hb hby d14_9) rfl ?_
    show Steps p.tables e below (T3.setTop (mkF m 10 #[.val (.ref p0)] [(.int ((Int32.ofNat cs.length) >>> ((0 : Int32) &&& 31)))])) _
    exact retI X3 hx Bd.returns (hb hby d14_10) hr
  · show Q_rmLen Z p0 zc fm cs r h0 n0 _ T3.heap _
    rw [e3]
    exact ⟨by rw [hres, ← own_len0 hln], N3, rfl⟩
theorem ef_rmLCh (m : MethodId) (p0 : Addr) (p1 : Int32) : entryFrame m #[(.ref p0), (.int p1)] 2 = mkF m 0 #[.val (.ref p0), .val (.int p1)] [] := by first | (simp [entryFrame, mkF, argsToLocals, Value.category]; done) | rfl
theorem d37_0 : decode jdk_43_method_2_code 0 = .ok (.iload_n 1, 1) := by decide +kernel
theorem d37_1 : decode jdk_43_method_2_code 1 = .ok (.aload_n 0, 1) := by decide +kernel
theorem d37_2 : decode jdk_43_method_2_code 2 = .ok (.arraylength, 1) := by decide +kernel
theorem pd__II_V : parseMethodDescriptor "(II)V" = some ⟨[.int, .int], none⟩ := by decide +kernel
theorem d37_3 : decode jdk_43_method_2_code 3 = .ok (.invokestatic 9, 3) := by decide +kernel
theorem d37_6 : decode jdk_43_method_2_code 6 = .ok (.aload_n 0, 1) := by decide +kernel
theorem d37_7 : decode jdk_43_method_2_code 7 = .ok (.iload_n 1, 1) := by decide +kernel
theorem d37_8 : decode jdk_43_method_2_code 8 = .ok (.baload, 1) := by decide +kernel
theorem d37_9 : decode jdk_43_method_2_code 9 = .ok (.sipush 255, 3) := by decide +kernel
theorem d37_12 : decode jdk_43_method_2_code 12 = .ok (.iand, 1) := by decide +kernel
theorem d37_13 : decode jdk_43_method_2_code 13 = .ok (.i2c, 1) := by decide +kernel
theorem d37_14 : decode jdk_43_method_2_code 14 = .ok (.ireturn, 1) := by decide +kernel
def Q_rmLCh (Z : State) (p0 : Addr) (p1 : Int32) (zc : Int32) (fm : Value) (k : ClassId) (z : Int32) (vs : List Value) (b : Int32) (r : Int32) (h0 : Heap) (n0 : Nat) (v : Option Value) (h : Heap) (L : List Loc) : Prop := v = some (.int r) ∧ Fr n0 L ∧ h = h0
set_option maxRecDepth 65536 in
set_option maxHeartbeats 40000000 in
theorem rmLCh (l : Launch) (Z : State) (a0 : Array Value) (hw : ∀ d ∈ tables_1, d.before a0 Z = true) (ws : List Jvm.Cond) (p0 : Addr) (p1 : Int32) (zc : Int32) (fm : Value) (k : ClassId) (z : Int32) (vs : List Value) (b : Int32) (r : Int32) (h0 : Heap) (n0 : Nat) (Z0 : n0 ≤ h0.size) (hSt : own_St Z zc fm) (Ol : own_Old Z n0 h0) (A0 : Arv Z h0 p0 k .byte z vs (.int (0 : Int32))) (hi : ¬ p1 < (0 : Int32) ∧ p1 < z) (hat : vs.getD p1.toNatClampNeg (.int (0 : Int32)) = .int b) (hres : r = nar .char (b &&& (255 : Int32)).toUInt32.toUInt16.toUInt32.toInt32) :
    MetFree l (⟨"java/lang/StringLatin1", "charAt", "([BI)C"⟩ : MethodName) (head1 (Jvm.Cond.code (⟨"java/lang/StringLatin1", "charAt", "([BI)C"⟩ : MethodName) jdk_43_method_2_code 2 (some .char) :: ws) ({ frames := 2, cells := 0, slots := 0, locals := 27 } : Room)) (fun a U => a = #[(.ref p0), (.int p1)] ∧ Z.Warmed39 U.vm ∧ U.heap = h0) (fun _ _ _ _ _ => True) (fun _ U o U' => ∃ v L, o = .returned v ∧ Q_rmLCh Z p0 p1 zc fm k z vs b r h0 n0 v U'.heap L ∧ FrameEnd U o U' L ({ frames := 2, cells := 0, slots := 0, locals := 27 } : Room).cells ({ frames := 2, cells := 0, slots := 0, locals := 27 } : Room).slots) := by
  refine MetFree.of_bodySF (plainFor_of_name pn_java_lang_StringLatin1) hisR ?_
  intro p e s m args below meth c s₁ Bd hml0 hP hK
  obtain ⟨rfl, hZ, hh⟩ := hP
  have hx := Bd.exec
  have hby := Bd.bytes
  have hml : c.maxLocals = 2 := hml0
  have hown : s.vm.findClass "java/lang/StringLatin1" = some m.cls := findClass_of_methodNamed Bd.named
  have hnm := (name_of_methodNamed Bd.named Bd.method).1
  have hZo := hZ
  have howno := hown
  have X0 : Stand p l e ({ frames := 2, cells := 0, slots := 0, locals := 27 } : Room) s m #[(.ref p0), (.int p1)] below meth c s₁ [] 0 0 := Stand.of_body Bd
  have e0 : s₁.heap = h0 := by rw [← hh, Bd.state]; rfl
  have N0 := Fr.nil n0
  have pre0 : ∀ t, Steps p.tables e below (s₁.setTop (mkF m 0 #[.val (.ref p0), .val (.int p1)] [])) t → Steps p.tables e below (s₁.setTop (entryFrame m #[(.ref p0), (.int p1)] 2)) t := fun t k => castTop (ef_rmLCh m p0 p1 ) k
  obtain ⟨cl1, Ar1, -, S1, N1, -, -⟩ := id A0
  obtain ⟨_, _, ⟨T2, L2, k2, n2⟩, -, X2, ⟨Lc2, hQ2, l2, y2, z2⟩, st2⟩ := Jvm.LawKit.callS X0 hx (y := (⟨"java/lang/String", "checkIndex", "(II)V"⟩ : MethodName)) hown (mvT hZ (hw _ (own_m 199 rfl))) (mvT hZ (hw _ (own_m 200 rfl))) (mvT hZ (hw _ (own_m 2 rfl))) (mvT hZ (hw _ (own_m 201 rfl))) (by decide) (backOf (W := 0) (rmChk l Z a0 hw [] p1 z zc fm  h0 n0 Z0 hSt Ol hi.1 hi.2) hZ (hw _ (own_m 201 rfl)) (hw _ (own_m 2 rfl)) (by decide) (by decide)) (g := (mkF m 3 #[.val (.ref p0), .val (.int p1)] [(.int z), (.int p1)])) rfl (by rw [hml]; rfl) (argsL := [(.int p1), (.int z)]) (rest := []) (lenOf pd__II_V rfl) rfl (by show 2 * 0 + _ ≤ _; exact Nat.le_of_eq rfl) (hb hby d37_3) (fun _ _ => ⟨rfl, e0, (by decide : 0 + 0 ≤ _), (by decide : 0 + 0 ≤ _)⟩)
  dsimp only [Pt.U, Pt.locs, Pt.cells, Pt.slots] at X2 l2 y2 z2 st2 hQ2
  subst l2 y2 z2
  obtain ⟨rfl, Nq2, e2⟩ := hQ2
  have N2 := Fr.app N0 Nq2
  obtain ⟨cl3, Ar3, q3, S3, N3, H3, G3⟩ := id A0
  have hin3 : ¬ (p1 < 0 ∨ cl3.slots.size ≤ (p1).toNatClampNeg) := inb_of S3 hi
  have hat3 : cl3.slots[(p1).toNatClampNeg]? = some (.int b) := Has.at H3 hin3 hat
  obtain ⟨fs, hr, hrun, hended, hW, hsame⟩ := X2.leave (v := some (.int (nar .char ((b &&& (255 : Int32)).toUInt32.toUInt16.toUInt32.toInt32)))) (fun h => by rw [Bd.returns] at h; cases h)
  refine ⟨_, _, pre0 _ ?_, hrun, hended, _, _, rfl, ?_, ⟨_, rfl⟩, hW, hsame.mono (by decide) (by decide)⟩
  · show Steps p.tables e below (s₁.setTop (mkF m 0 #[.val (.ref p0), .val (.int p1)] [])) _
    refine XS.iloadN X0.here hx rfl (hb hby d37_0) rfl  ?_
    refine XS.aloadN X0.here hx rfl (hb hby d37_1) rfl rfl ?_
    show Steps p.tables e below (s₁.setTop (mkF m 2 #[.val (.ref p0), .val (.int p1)] [(.ref p0), (.int p1)])) _
    refine X0.arraylength hx (by rw [e0]; exact Ar1.1) (State.isArrayOf_alike hZ.alike Ar1.2.1) (g := (mkF m 2 #[.val (.ref p0), .val (.int p1)] [(.ref p0), (.int p1)])) rfl rfl (hb hby d37_2) _ ?_
    rw [len_of S1 N1]
    show Steps p.tables e below (s₁.setTop (mkF m 3 #[.val (.ref p0), .val (.int p1)] [(.int z), (.int p1)])) _
    refine st2 _ ?_
    show Steps p.tables e below (T2.setTop (mkF m 6 #[.val (.ref p0), .val (.int p1)] [])) _
    refine XS.aloadN X2.here hx rfl (hb hby d37_6) rfl rfl ?_
    refine XS.iloadN X2.here hx rfl (hb hby d37_7) rfl  ?_
    show Steps p.tables e below (T2.setTop (mkF m 8 #[.val (.ref p0), .val (.int p1)] [(.int p1), (.ref p0)])) _
    refine X2.baloadBytes hx (j := p1) (v := (.int b)) (by rw [e2]; exact Ar3.1) (State.isArrayOf_alike hZ.alike Ar3.2.1) Ar3.2.2 hin3 hat3 (g := (mkF m 8 #[.val (.ref p0), .val (.int p1)] [(.int p1), (.ref p0)])) rfl rfl (hb hby d37_8) _ ?_
    show Steps p.tables e below (T2.setTop (mkF m 9 #[.val (.ref p0), .val (.int p1)] [(.int b)])) _
    refine XS.sipush X2.here hx rfl (hb hby d37_9) ?_
    refine XS.iand X2.here hx rfl (hb hby d37_12) rfl ?_
    refine XS.i2c X2.here hx rfl (hb hby d37_13) rfl ?_
    show Steps p.tables e below (T2.setTop (mkF m 14 #[.val (.ref p0), .val (.int p1)] [(.int ((b &&& (255 : Int32)).toUInt32.toUInt16.toUInt32.toInt32))])) _
    exact retN X2 hx (t := .char) Bd.returns (by simp) (hb hby d37_14) hr
  · show Q_rmLCh Z p0 p1 zc fm k z vs b r h0 n0 _ T2.heap _
    rw [e2]
    exact ⟨by rw [hres], N2, rfl⟩
theorem ef_rmCharAt (m : MethodId) (p0 : Addr) (p1 : Int32) : entryFrame m #[(.ref p0), (.int p1)] 2 = mkF m 0 #[.val (.ref p0), .val (.int p1)] [] := by first | (simp [entryFrame, mkF, argsToLocals, Value.category]; done) | rfl
theorem d35_0 : decode jdk_42_method_56_code 0 = .ok (.aload_n 0, 1) := by decide +kernel
theorem pd___Z : parseMethodDescriptor "()Z" = some ⟨[], some .boolean⟩ := by decide +kernel
theorem d35_1 : decode jdk_42_method_56_code 1 = .ok (.invokevirtual 492, 3) := by decide +kernel
theorem d35_4 : decode jdk_42_method_56_code 4 = .ok (.ifCond .eq 12, 3) := by decide +kernel
theorem d35_7 : decode jdk_42_method_56_code 7 = .ok (.aload_n 0, 1) := by decide +kernel
theorem d35_8 : decode jdk_42_method_56_code 8 = .ok (.getfield 9, 3) := by decide +kernel
theorem d35_11 : decode jdk_42_method_56_code 11 = .ok (.iload_n 1, 1) := by decide +kernel
theorem pd___BI_C : parseMethodDescriptor "([BI)C" = some ⟨[(.array .byte), .int], some .char⟩ := by decide +kernel
theorem d35_12 : decode jdk_42_method_56_code 12 = .ok (.invokestatic 495, 3) := by decide +kernel
theorem d35_15 : decode jdk_42_method_56_code 15 = .ok (.ireturn, 1) := by decide +kernel
def Q_rmCharAt (Z : State) (p0 : Addr) (p1 : Int32) (zc : Int32) (fm : Value) (cs : List Int32) (r : Int32) (h0 : Heap) (n0 : Nat) (v : Option Value) (h : Heap) (L : List Loc) : Prop := v = some (.int r) ∧ Fr n0 L ∧ h = h0
set_option maxRecDepth 65536 in
set_option maxHeartbeats 40000000 in
theorem rmCharAt (l : Launch) (Z : State) (a0 : Array Value) (hw : ∀ d ∈ tables_1, d.before a0 Z = true) (ws : List Jvm.Cond) (p0 : Addr) (p1 : Int32) (zc : Int32) (fm : Value) (cs : List Int32) (r : Int32) (h0 : Heap) (n0 : Nat) (Z0 : n0 ≤ h0.size) (hSt : own_St Z zc fm) (Ol : own_Old Z n0 h0) (hS : own_Str Z h0 p0 cs) (hnw : own_Nrw Z h0 p0) (hi : ¬ p1 < (0 : Int32) ∧ p1.toNatClampNeg < cs.length) (hres : r = cs.getD p1.toNatClampNeg 0) :
    MetFree l (⟨"java/lang/String", "charAt", "(I)C"⟩ : MethodName) (head1 (Jvm.Cond.code (⟨"java/lang/String", "charAt", "(I)C"⟩ : MethodName) jdk_42_method_56_code 2 (some .char) :: ws) ({ frames := 3, cells := 0, slots := 0, locals := 40 } : Room)) (fun a U => a = #[(.ref p0), (.int p1)] ∧ Z.Warmed39 U.vm ∧ U.heap = h0) (fun _ _ _ _ _ => True) (fun _ U o U' => ∃ v L, o = .returned v ∧ Q_rmCharAt Z p0 p1 zc fm cs r h0 n0 v U'.heap L ∧ FrameEnd U o U' L ({ frames := 3, cells := 0, slots := 0, locals := 40 } : Room).cells ({ frames := 3, cells := 0, slots := 0, locals := 40 } : Room).slots) := by
  refine MetFree.of_bodySF (plainFor_of_name pn_java_lang_String) hisR ?_
  intro p e s m args below meth c s₁ Bd hml0 hP hK
  obtain ⟨rfl, hZ, hh⟩ := hP
  have hx := Bd.exec
  have hby := Bd.bytes
  have hml : c.maxLocals = 2 := hml0
  have hown : s.vm.findClass "java/lang/String" = some m.cls := findClass_of_methodNamed Bd.named
  have hnm := (name_of_methodNamed Bd.named Bd.method).1
  have hZo := hZ
  have howno := hown
  have X0 : Stand p l e ({ frames := 3, cells := 0, slots := 0, locals := 40 } : Room) s m #[(.ref p0), (.int p1)] below meth c s₁ [] 0 0 := Stand.of_body Bd
  have e0 : s₁.heap = h0 := by rw [← hh, Bd.state]; rfl
  have N0 := Fr.nil n0
  have pre0 : ∀ t, Steps p.tables e below (s₁.setTop (mkF m 0 #[.val (.ref p0), .val (.int p1)] [])) t → Steps p.tables e below (s₁.setTop (entryFrame m #[(.ref p0), (.int p1)] 2)) t := fun t k => castTop (ef_rmCharAt m p0 p1 ) k
  obtain ⟨t, k, cd, z, vs, E0, Fv, Fc, A0, hcod, hch, hln⟩ := hS
  obtain ⟨rfl, rfl, rfl, hle⟩ := hcod.resolve_right (fun q => hnw t cd Fc q.1)
  obtain ⟨cq1, kq1, q1a, q1b, q1c⟩ := isOf hZ e0 E0
  obtain ⟨_, _, ⟨T1, L1, k1, n1⟩, -, X1, ⟨Lc1, hQ1, l1, y1, z1⟩, st1⟩ := X0.virtualBack hx (y := (⟨"java/lang/String", "isLatin1", "()Z"⟩ : MethodName)) (z := (⟨"java/lang/String", "isLatin1", "()Z"⟩ : MethodName)) hown (mvT hZ (hw _ (own_m 190 rfl))) (mvT hZ (hw _ (own_m 191 rfl))) (notFace_of_selects (args := #[]) (mvT hZ (hw _ (own_m 193 rfl)))) (mvT hZ (hw _ (own_m 193 rfl))) (mvT hZ (hw _ (own_m 192 rfl))) (by decide) (backOf (W := 0) (rmLat l Z a0 hw [] p0 zc fm (0 : Int32) (1 : Int32) h0 n0 Z0 hSt Ol Fc (by decide)) hZ (hw _ (own_m 194 rfl)) (hw _ (own_m 2 rfl)) (by decide) (by decide)) q1a q1c (g := (mkF m 1 #[.val (.ref p0), .val (.int p1)] [(.ref p0)])) rfl (by rw [hml]; rfl) (Steps.refl _) (argsL := []) (rest := []) (lenOf pd___Z rfl) rfl (by show 2 * 0 + _ ≤ _; exact Nat.le_of_eq rfl) (hb hby d35_1) (fun _ _ => ⟨rfl, e0, (by decide : 0 + 0 ≤ _), (by decide : 0 + 0 ≤ _)⟩)
  dsimp only [Pt.U, Pt.locs, Pt.cells, Pt.slots] at X1 l1 y1 z1 st1 hQ1
  subst l1 y1 z1
  obtain ⟨rfl, Nq1, e1⟩ := hQ1
  have N1 := Fr.app N0 Nq1
  obtain ⟨T2, X2, e2, st2⟩ := getF X1 hx hZ hown (host := "") (Or.inl (hw _ (own_m 28 rfl))) Via.refl e1 Fv (g := (mkF m 8 #[.val (.ref p0), .val (.int p1)] [(.ref p0)])) rfl rfl (hb hby d35_8)
  have hcm := hch _ (own_mem hi.2)
  obtain ⟨_, _, ⟨T3, L3, k3, n3⟩, -, X3, ⟨Lc3, hQ3, l3, y3, z3⟩, st3⟩ := Jvm.LawKit.callS X2 hx (y := (⟨"java/lang/StringLatin1", "charAt", "([BI)C"⟩ : MethodName)) hown (mvT hZ (hw _ (own_m 195 rfl))) (mvT hZ (hw _ (own_m 196 rfl))) (mvT hZ (hw _ (own_m 197 rfl))) (mvT hZ (hw _ (own_m 198 rfl))) (by decide) (backOf (W := 0) (rmLCh l Z a0 hw [] t p1 zc fm k (Int32.ofNat cs.length) (own_nrw cs) (own_b (cs.getD p1.toNatClampNeg 0)) (cs.getD p1.toNatClampNeg 0) h0 n0 Z0 hSt Ol A0 ⟨hi.1, own_inr hi.1 hi.2 hln⟩ (own_getb cs _ hi.2) (own_rec8 hcm.1 (hle _ (own_mem hi.2))).symm) hZ (hw _ (own_m 198 rfl)) (hw _ (own_m 197 rfl)) (by decide) (by decide)) (g := (mkF m 12 #[.val (.ref p0), .val (.int p1)] [(.int p1), (.ref t)])) rfl (by rw [hml]; rfl) (argsL := [(.ref t), (.int p1)]) (rest := []) (lenOf pd___BI_C rfl) rfl (by show 2 * 0 + _ ≤ _; exact Nat.le_of_eq rfl) (hb hby d35_12) (fun _ _ => ⟨rfl, e2, (by decide : 0 + 0 ≤ _), (by decide : 0 + 0 ≤ _)⟩)
  dsimp only [Pt.U, Pt.locs, Pt.cells, Pt.slots] at X3 l3 y3 z3 st3 hQ3
  subst l3 y3 z3
  obtain ⟨rfl, Nq3, e3⟩ := hQ3
  have N3 := Fr.app N1 Nq3
  obtain ⟨fs, hr, hrun, hended, hW, hsame⟩ := X3.leave (v := some (.int (nar .char (cs.getD p1.toNatClampNeg 0)))) (fun h => by rw [Bd.returns] at h; cases h)
  refine ⟨_, _, pre0 _ ?_, hrun, hended, _, _, rfl, ?_, ⟨_, rfl⟩, hW, hsame.mono (by decide) (by decide)⟩
  · show Steps p.tables e below (s₁.setTop (mkF m 0 #[.val (.ref p0), .val (.int p1)] [])) _
    refine XS.aloadN X0.here hx rfl (hb hby d35_0) rfl rfl ?_
    show Steps p.tables e below (s₁.setTop (mkF m 1 #[.val (.ref p0), .val (.int p1)] [(.ref p0)])) _
    refine st1.trans ?_
    show Steps p.tables e below (T1.setTop (mkF m 4 #[.val (.ref p0), .val (.int p1)] [(.int (1 : Int32))])) _
    refine XS.ifNo X1.here hx rfl (hb hby d35_4) rfl ((if0 _ _).trans (feq (by decide : ¬ ((1 : Int32) = (0 : Int32)))).1) ?_
    refine XS.aloadN X1.here hx rfl (hb hby d35_7) rfl rfl ?_
    show Steps p.tables e below (T1.setTop (mkF m 8 #[.val (.ref p0), .val (.int p1)] [(.ref p0)])) _
    refine st2 _ ?_
    show Steps p.tables e below (T2.setTop (mkF m 11 #[.val (.ref p0), .val (.int p1)] [(.ref t)])) _
    refine XS.iloadN X2.here hx rfl (hb hby d35_11) rfl  ?_
    show Steps p.tables e below (T2.setTop (mkF m 12 #[.val (.ref p0), .val (.int p1)] [(.int p1), (.ref t)])) _
    refine st3 _ ?_
    show Steps p.tables e below (T3.setTop (mkF m 15 #[.val (.ref p0), .val (.int p1)] [(.int (cs.getD p1.toNatClampNeg 0))])) _
    exact retN X3 hx (t := .char) Bd.returns (by simp) (hb hby d35_15) hr
  · show Q_rmCharAt Z p0 p1 zc fm cs r h0 n0 _ T3.heap _
    rw [e3]
    exact ⟨by rw [hres, own_narc hcm], N3, rfl⟩
theorem ef_rmCmp2 (m : MethodId) (p0 : Addr) (p2 : Addr) : entryFrame m #[(.ref p0), (.int (0 : Int32)), (.ref p2), (.int (0 : Int32)), (.int (2 : Int32))] 7 = mkF m 0 #[.val (.ref p0), .val (.int (0 : Int32)), .val (.ref p2), .val (.int (0 : Int32)), .val (.int (2 : Int32)), .unset, .unset] [] := by first | (simp [entryFrame, mkF, argsToLocals, Value.category]; done) | rfl
theorem d5_0 : decode jdk_52_method_21_code 0 = .ok (.iconst 0, 1) := by decide +kernel
theorem d5_1 : decode jdk_52_method_21_code 1 = .ok (.istore 5, 2) := by decide +kernel
theorem d5_3 : decode jdk_52_method_21_code 3 = .ok (.iload 5, 2) := by decide +kernel
theorem d5_5 : decode jdk_52_method_21_code 5 = .ok (.iload 4, 2) := by decide +kernel
theorem d5_7 : decode jdk_52_method_21_code 7 = .ok (.if_icmp .ge 37, 3) := by decide +kernel
theorem d5_10 : decode jdk_52_method_21_code 10 = .ok (.aload_n 0, 1) := by decide +kernel
theorem d5_11 : decode jdk_52_method_21_code 11 = .ok (.iload_n 1, 1) := by decide +kernel
theorem d5_12 : decode jdk_52_method_21_code 12 = .ok (.caload, 1) := by decide +kernel
theorem d5_13 : decode jdk_52_method_21_code 13 = .ok (.istore 6, 2) := by decide +kernel
theorem d5_15 : decode jdk_52_method_21_code 15 = .ok (.iload 6, 2) := by decide +kernel
theorem d5_17 : decode jdk_52_method_21_code 17 = .ok (.sipush 255, 3) := by decide +kernel
theorem d5_20 : decode jdk_52_method_21_code 20 = .ok (.if_icmp .le 6, 3) := by decide +kernel
theorem d5_26 : decode jdk_52_method_21_code 26 = .ok (.aload_n 2, 1) := by decide +kernel
theorem d5_27 : decode jdk_52_method_21_code 27 = .ok (.iload_n 3, 1) := by decide +kernel
theorem d5_28 : decode jdk_52_method_21_code 28 = .ok (.iload 6, 2) := by decide +kernel
theorem d5_30 : decode jdk_52_method_21_code 30 = .ok (.i2b, 1) := by decide +kernel
theorem d5_31 : decode jdk_52_method_21_code 31 = .ok (.bastore, 1) := by decide +kernel
theorem d5_32 : decode jdk_52_method_21_code 32 = .ok (.iinc 1 1, 3) := by decide +kernel
theorem d5_35 : decode jdk_52_method_21_code 35 = .ok (.iinc 3 1, 3) := by decide +kernel
theorem d5_38 : decode jdk_52_method_21_code 38 = .ok (.iinc 5 1, 3) := by decide +kernel
theorem d5_41 : decode jdk_52_method_21_code 41 = .ok (.goto (-38), 3) := by decide +kernel
theorem d5_44 : decode jdk_52_method_21_code 44 = .ok (.iload 4, 2) := by decide +kernel
theorem d5_46 : decode jdk_52_method_21_code 46 = .ok (.ireturn, 1) := by decide +kernel
def Q_rmCmp2 (Z : State) (p0 : Addr) (p2 : Addr) (zc : Int32) (fm : Value) (ks : ClassId) (kd : ClassId) (c0 : Int32) (c1 : Int32) (h0 : Heap) (n0 : Nat) (v : Option Value) (h : Heap) (L : List Loc) : Prop := (∃ r : Int32, v = some (.int r) ∧ ((r = (2 : Int32) ∧ (¬ (255 : Int32) < c0 ∧ ¬ (255 : Int32) < c1) ∧ Arv Z h p2 kd .byte (2 : Int32) [(.int (own_b c0)), (.int (own_b c1))] (.int (0 : Int32))))) ∧ Fr n0 L ∧ Keep h0 h [p2]
set_option maxRecDepth 65536 in
set_option maxHeartbeats 40000000 in
theorem rmCmp2 (l : Launch) (Z : State) (a0 : Array Value) (hw : ∀ d ∈ tables_1, d.before a0 Z = true) (ws : List Jvm.Cond) (p0 : Addr) (p2 : Addr) (zc : Int32) (fm : Value) (ks : ClassId) (kd : ClassId) (c0 : Int32) (c1 : Int32) (h0 : Heap) (n0 : Nat) (Z0 : n0 ≤ h0.size) (hSt : own_St Z zc fm) (Ol : own_Old Z n0 h0) (As : Arv Z h0 p0 ks .char (2 : Int32) [(.int c0), (.int c1)] (.int (0 : Int32))) (Ad : Arv Z h0 p2 kd .byte (2 : Int32) [(.int (0 : Int32)), (.int (0 : Int32))] (.int (0 : Int32))) (hne : p0 ≠ p2) (g2 : n0 ≤ p2) (hl_c0 : ¬ (255 : Int32) < c0) (hl_c1 : ¬ (255 : Int32) < c1) :
    MetFree l (⟨"java/lang/StringUTF16", "compress", "([CI[BII)I"⟩ : MethodName) (head1 (Jvm.Cond.code (⟨"java/lang/StringUTF16", "compress", "([CI[BII)I"⟩ : MethodName) jdk_52_method_21_code 7 (some .int) :: ws) ({ frames := 0, cells := 0, slots := 0, locals := 0 } : Room)) (fun a U => a = #[(.ref p0), (.int (0 : Int32)), (.ref p2), (.int (0 : Int32)), (.int (2 : Int32))] ∧ Z.Warmed39 U.vm ∧ U.heap = h0) (fun _ _ _ _ _ => True) (fun _ U o U' => ∃ v L, o = .returned v ∧ Q_rmCmp2 Z p0 p2 zc fm ks kd c0 c1 h0 n0 v U'.heap L ∧ FrameEnd U o U' L ({ frames := 0, cells := 0, slots := 0, locals := 0 } : Room).cells ({ frames := 0, cells := 0, slots := 0, locals := 0 } : Room).slots) := by
  refine MetFree.of_bodySF (plainFor_of_name pn_java_lang_StringUTF16) hisR ?_
  intro p e s m args below meth c s₁ Bd hml0 hP hK
  obtain ⟨rfl, hZ, hh⟩ := hP
  have hx := Bd.exec
  have hby := Bd.bytes
  have hml : c.maxLocals = 7 := hml0
  have hown : s.vm.findClass "java/lang/StringUTF16" = some m.cls := findClass_of_methodNamed Bd.named
  have hnm := (name_of_methodNamed Bd.named Bd.method).1
  have hZo := hZ
  have howno := hown
  have X0 : Stand p l e ({ frames := 0, cells := 0, slots := 0, locals := 0 } : Room) s m #[(.ref p0), (.int (0 : Int32)), (.ref p2), (.int (0 : Int32)), (.int (2 : Int32))] below meth c s₁ [] 0 0 := Stand.of_body Bd
  have e0 : s₁.heap = h0 := by rw [← hh, Bd.state]; rfl
  have N0 := Fr.nil n0
  have pre0 : ∀ t, Steps p.tables e below (s₁.setTop (mkF m 0 #[.val (.ref p0), .val (.int (0 : Int32)), .val (.ref p2), .val (.int (0 : Int32)), .val (.int (2 : Int32)), .unset, .unset] [])) t → Steps p.tables e below (s₁.setTop (entryFrame m #[(.ref p0), (.int (0 : Int32)), (.ref p2), (.int (0 : Int32)), (.int (2 : Int32))] 7)) t := fun t k => castTop (ef_rmCmp2 m p0 p2 ) k
  obtain ⟨cl1, Ar1, q1, S1, N1, H1, G1⟩ := id As
  have hin1 : ¬ ((0 : Int32) < 0 ∨ cl1.slots.size ≤ ((0 : Int32)).toNatClampNeg) := inb_of S1 ⟨by decide, by decide⟩
  have hat1 : cl1.slots[((0 : Int32)).toNatClampNeg]? = some (.int c0) := Has.at H1 hin1 rfl
  obtain ⟨cl2, Ar2, q2, S2, N2, H2, G2⟩ := id Ad
  have hin2 : ¬ ((0 : Int32) < 0 ∨ cl2.slots.size ≤ ((0 : Int32)).toNatClampNeg) := inb_of S2 ⟨by decide, by decide⟩
  obtain ⟨T3, h3, X3, e3, W3, st3⟩ := stB X0 hx hZ e0 Ar2 (j := (0 : Int32)) hin2 (g := (mkF m 31 #[.val (.ref p0), .val (.int (0 : Int32)), .val (.ref p2), .val (.int (0 : Int32)), .val (.int (2 : Int32)), .val (.int (0 : Int32)), .val (.int c0)] [(.int (c0.toInt8.toInt32)), (.int (0 : Int32)), (.ref p2)])) rfl rfl (hb hby d5_31)
  have N3 := Fr.snoc X3 N0 g2
  have K3 := (Keep.refl h0 [p2]).wr W3 (Or.inl (own_m 0 rfl))
  have V3 : Arv Z h3 p2 kd .byte (2 : Int32) [(.int (own_b c0)), (.int (0 : Int32))] (.int (0 : Int32)) := Arv.set Ar2 q2 S2 N2 H2 G2 (fits_nar_byte _) W3 0 rfl (Nat.le_of_ble_eq_true rfl)
  have f4 := (As.other W3 hne)
  obtain ⟨cl5, Ar5, q5, S5, N5, H5, G5⟩ := id f4
  have hin5 : ¬ ((1 : Int32) < 0 ∨ cl5.slots.size ≤ ((1 : Int32)).toNatClampNeg) := inb_of S5 ⟨by decide, by decide⟩
  have hat5 : cl5.slots[((1 : Int32)).toNatClampNeg]? = some (.int c1) := Has.at H5 hin5 rfl
  obtain ⟨cl6, Ar6, q6, S6, N6, H6, G6⟩ := id V3
  have hin6 : ¬ ((1 : Int32) < 0 ∨ cl6.slots.size ≤ ((1 : Int32)).toNatClampNeg) := inb_of S6 ⟨by decide, by decide⟩
  obtain ⟨T7, h7, X7, e7, W7, st7⟩ := stB X3 hx hZ e3 Ar6 (j := (1 : Int32)) hin6 (g := (mkF m 31 #[.val (.ref p0), .val (.int (1 : Int32)), .val (.ref p2), .val (.int (1 : Int32)), .val (.int (2 : Int32)), .val (.int (1 : Int32)), .val (.int c1)] [(.int (c1.toInt8.toInt32)), (.int (1 : Int32)), (.ref p2)])) rfl rfl (hb hby d5_31)
  have N7 := Fr.snoc X7 N3 g2
  have K7 := K3.wr W7 (Or.inl (own_m 0 rfl))
  have V7 : Arv Z h7 p2 kd .byte (2 : Int32) [(.int (own_b c0)), (.int (own_b c1))] (.int (0 : Int32)) := Arv.set Ar6 q6 S6 N6 H6 G6 (fits_nar_byte _) W7 1 rfl (Nat.le_of_ble_eq_true rfl)
  obtain ⟨fs, hr, hrun, hended, hW, hsame⟩ := X7.leave (v := some (.int (2 : Int32))) (fun h => by rw [Bd.returns] at h; cases h)
  refine ⟨_, _, pre0 _ ?_, hrun, hended, _, _, rfl, ?_, ⟨_, rfl⟩, hW, hsame.mono (by decide) (by decide)⟩
  · show Steps p.tables e below (s₁.setTop (mkF m 0 #[.val (.ref p0), .val (.int (0 : Int32)), .val (.ref p2), .val (.int (0 : Int32)), .val (.int (2 : Int32)), .unset, .unset] [])) _
    refine XS.iconst X0.here hx rfl (hb hby d5_0) ?_
    refine XS.istore X0.here hx rfl (hb hby d5_1) rfl (l' := #[.val (.ref p0), .val (.int (0 : Int32)), .val (.ref p2), .val (.int (0 : Int32)), .val (.int (2 : Int32)), .val (.int (0 : Int32)), .unset]) rfl ?_
    refine XS.iload X0.here hx rfl (hb hby d5_3) rfl  ?_
    refine XS.iload X0.here hx rfl (hb hby d5_5) rfl  ?_
    show Steps p.tables e below (s₁.setTop (mkF m 7 #[.val (.ref p0), .val (.int (0 : Int32)), .val (.ref p2), .val (.int (0 : Int32)), .val (.int (2 : Int32)), .val (.int (0 : Int32)), .unset] [(.int (2 : Int32)), (.int (0 : Int32))])) _
    refine XS.icmpNo X0.here hx rfl (hb hby d5_7) rfl (tlt (by decide : (0 : Int32) < (2 : Int32))).2.1 ?_
    refine XS.aloadN X0.here hx rfl (hb hby d5_10) rfl rfl ?_
    refine XS.iloadN X0.here hx rfl (hb hby d5_11) rfl  ?_
    show Steps p.tables e below (s₁.setTop (mkF m 12 #[.val (.ref p0), .val (.int (0 : Int32)), .val (.ref p2), .val (.int (0 : Int32)), .val (.int (2 : Int32)), .val (.int (0 : Int32)), .unset] [(.int (0 : Int32)), (.ref p0)])) _
    refine X0.caload hx (j := (0 : Int32)) (v := (.int c0)) (by rw [e0]; exact Ar1.1) (State.isArrayOf_alike hZ.alike Ar1.2.1) Ar1.2.2 hin1 hat1 (g := (mkF m 12 #[.val (.ref p0), .val (.int (0 : Int32)), .val (.ref p2), .val (.int (0 : Int32)), .val (.int (2 : Int32)), .val (.int (0 : Int32)), .unset] [(.int (0 : Int32)), (.ref p0)])) rfl rfl (hb hby d5_12) _ ?_
    show Steps p.tables e below (s₁.setTop (mkF m 13 #[.val (.ref p0), .val (.int (0 : Int32)), .val (.ref p2), .val (.int (0 : Int32)), .val (.int (2 : Int32)), .val (.int (0 : Int32)), .unset] [(.int c0)])) _
    refine XS.istore X0.here hx rfl (hb hby d5_13) rfl (l' := #[.val (.ref p0), .val (.int (0 : Int32)), .val (.ref p2), .val (.int (0 : Int32)), .val (.int (2 : Int32)), .val (.int (0 : Int32)), .val (.int c0)]) rfl ?_
    refine XS.iload X0.here hx rfl (hb hby d5_15) rfl  ?_
    refine XS.sipush X0.here hx rfl (hb hby d5_17) ?_
    show Steps p.tables e below (s₁.setTop (mkF m 20 #[.val (.ref p0), .val (.int (0 : Int32)), .val (.ref p2), .val (.int (0 : Int32)), .val (.int (2 : Int32)), .val (.int (0 : Int32)), .val (.int c0)] [(.int (255 : Int32)), (.int c0)])) _
    refine XS.icmpYes X0.here hx rfl (pc0 := 20) (pc' := 26) rfl (hb hby d5_20) rfl (flt hl_c0).2.2.2 (by decide) (by decide) ?_
    refine XS.aloadN X0.here hx rfl (hb hby d5_26) rfl rfl ?_
    refine XS.iloadN X0.here hx rfl (hb hby d5_27) rfl  ?_
    refine XS.iload X0.here hx rfl (hb hby d5_28) rfl  ?_
    refine XS.i2b X0.here hx rfl (hb hby d5_30) rfl ?_
    show Steps p.tables e below (s₁.setTop (mkF m 31 #[.val (.ref p0), .val (.int (0 : Int32)), .val (.ref p2), .val (.int (0 : Int32)), .val (.int (2 : Int32)), .val (.int (0 : Int32)), .val (.int c0)] [(.int (c0.toInt8.toInt32)), (.int (0 : Int32)), (.ref p2)])) _
    refine st3 _ ?_
    show Steps p.tables e below (T3.setTop (mkF m 32 #[.val (.ref p0), .val (.int (0 : Int32)), .val (.ref p2), .val (.int (0 : Int32)), .val (.int (2 : Int32)), .val (.int (0 : Int32)), .val (.int c0)] [])) _
    refine XS.iinc X3.here hx rfl (hb hby d5_32) rfl (l' := #[.val (.ref p0), .val (.int (1 : Int32)), .val (.ref p2), .val (.int (0 : Int32)), .val (.int (2 : Int32)), .val (.int (0 : Int32)), .val (.int c0)]) rfl ?_
    refine XS.iinc X3.here hx rfl (hb hby d5_35) rfl (l' := #[.val (.ref p0), .val (.int (1 : Int32)), .val (.ref p2), .val (.int (1 : Int32)), .val (.int (2 : Int32)), .val (.int (0 : Int32)), .val (.int c0)]) rfl ?_
    refine XS.iinc X3.here hx rfl (hb hby d5_38) rfl (l' := #[.val (.ref p0), .val (.int (1 : Int32)), .val (.ref p2), .val (.int (1 : Int32)), .val (.int (2 : Int32)), .val (.int (1 : Int32)), .val (.int c0)]) rfl ?_
    refine XS.goto X3.here hx rfl (pc0 := 41) (pc' := 3) rfl (hb hby d5_41) (by decide) (by decide) ?_
    refine XS.iload X3.here hx rfl (hb hby d5_3) rfl  ?_
    refine XS.iload X3.here hx rfl (hb hby d5_5) rfl  ?_
    show Steps p.tables e below (T3.setTop (mkF m 7 #[.val (.ref p0), .val (.int (1 : Int32)), .val (.ref p2), .val (.int (1 : Int32)), .val (.int (2 : Int32)), .val (.int (1 : Int32)), .val (.int c0)] [(.int (2 : Int32)), (.int (1 : Int32))])) _
    refine XS.icmpNo X3.here hx rfl (hb hby d5_7) rfl (tlt (by decide : (1 : Int32) < (2 : Int32))).2.1 ?_
    refine XS.aloadN X3.here hx rfl (hb hby d5_10) rfl rfl ?_
    refine XS.iloadN X3.here hx rfl (hb hby d5_11) rfl  ?_
    show Steps p.tables e below (T3.setTop (mkF m 12 #[.val (.ref p0), .val (.int (1 : Int32)), .val (.ref p2), .val (.int (1 : Int32)), .val (.int (2 : Int32)), .val (.int (1 : Int32)), .val (.int c0)] [(.int (1 : Int32)), (.ref p0)])) _
    refine X3.caload hx (j := (1 : Int32)) (v := (.int c1)) (by rw [e3]; exact Ar5.1) (State.isArrayOf_alike hZ.alike Ar5.2.1) Ar5.2.2 hin5 hat5 (g := (mkF m 12 #[.val (.ref p0), .val (.int (1 : Int32)), .val (.ref p2), .val (.int (1 : Int32)), .val (.int (2 : Int32)), .val (.int (1 : Int32)), .val (.int c0)] [(.int (1 : Int32)), (.ref p0)])) rfl rfl (hb hby d5_12) _ ?_
    show Steps p.tables e below (T3.setTop (mkF m 13 #[.val (.ref p0), .val (.int (1 : Int32)), .val (.ref p2), .val (.int (1 : Int32)), .val (.int (2 : Int32)), .val (.int (1 : Int32)), .val (.int c0)] [(.int c1)])) _
    refine XS.istore X3.here hx rfl (hb hby d5_13) rfl (l' := #[.val (.ref p0), .val (.int (1 : Int32)), .val (.ref p2), .val (.int (1 : Int32)), .val (.int (2 : Int32)), .val (.int (1 : Int32)), .val (.int c1)]) rfl ?_
    refine XS.iload X3.here hx rfl (hb hby d5_15) rfl  ?_
    refine XS.sipush X3.here hx rfl (hb hby d5_17) ?_
    show Steps p.tables e below (T3.setTop (mkF m 20 #[.val (.ref p0), .val (.int (1 : Int32)), .val (.ref p2), .val (.int (1 : Int32)), .val (.int (2 : Int32)), .val (.int (1 : Int32)), .val (.int c1)] [(.int (255 : Int32)), (.int c1)])) _
    refine XS.icmpYes X3.here hx rfl (pc0 := 20) (pc' := 26) rfl (hb hby d5_20) rfl (flt hl_c1).2.2.2 (by decide) (by decide) ?_
    refine XS.aloadN X3.here hx rfl (hb hby d5_26) rfl rfl ?_
    refine XS.iloadN X3.here hx rfl (hb hby d5_27) rfl  ?_
    refine XS.iload X3.here hx rfl (hb hby d5_28) rfl  ?_
    refine XS.i2b X3.here hx rfl (hb hby d5_30) rfl ?_
    show Steps p.tables e below (T3.setTop (mkF m 31 #[.val (.ref p0), .val (.int (1 : Int32)), .val (.ref p2), .val (.int (1 : Int32)), .val (.int (2 : Int32)), .val (.int (1 : Int32)), .val (.int c1)] [(.int (c1.toInt8.toInt32)), (.int (1 : Int32)), (.ref p2)])) _
    refine st7 _ ?_
    show Steps p.tables e below (T7.setTop (mkF m 32 #[.val (.ref p0), .val (.int (1 : Int32)), .val (.ref p2), .val (.int (1 : Int32)), .val (.int (2 : Int32)), .val (.int (1 : Int32)), .val (.int c1)] [])) _
    refine XS.iinc X7.here hx rfl (hb hby d5_32) rfl (l' := #[.val (.ref p0), .val (.int (2 : Int32)), .val (.ref p2), .val (.int (1 : Int32)), .val (.int (2 : Int32)), .val (.int (1 : Int32)), .val (.int c1)]) rfl ?_
    refine XS.iinc X7.here hx rfl (hb hby d5_35) rfl (l' := #[.val (.ref p0), .val (.int (2 : Int32)), .val (.ref p2), .val (.int (2 : Int32)), .val (.int (2 : Int32)), .val (.int (1 : Int32)), .val (.int c1)]) rfl ?_
    refine XS.iinc X7.here hx rfl (hb hby d5_38) rfl (l' := #[.val (.ref p0), .val (.int (2 : Int32)), .val (.ref p2), .val (.int (2 : Int32)), .val (.int (2 : Int32)), .val (.int (2 : Int32)), .val (.int c1)]) rfl ?_
    refine XS.goto X7.here hx rfl (pc0 := 41) (pc' := 3) rfl (hb hby d5_41) (by decide) (by decide) ?_
    refine XS.iload X7.here hx rfl (hb hby d5_3) rfl  ?_
    refine XS.iload X7.here hx rfl (hb hby d5_5) rfl  ?_
    show Steps p.tables e below (T7.setTop (mkF m 7 #[.val (.ref p0), .val (.int (2 : Int32)), .val (.ref p2), .val (.int (2 : Int32)), .val (.int (2 : Int32)), .val (.int (2 : Int32)), .val (.int c1)] [(.int (2 : Int32)), (.int (2 : Int32))])) _
    refine XS.icmpYes X7.here hx rfl (pc0 := 7) (pc' := 44) rfl (hb hby d5_7) rfl (flt (by decide : ¬ ((2 : Int32) < (2 : Int32)))).2.1 (by decide) (by decide) ?_
    refine XS.iload X7.here hx rfl (hb hby d5_44) rfl  ?_
    show Steps p.tables e below (T7.setTop (mkF m 46 #[.val (.ref p0), .val (.int (2 : Int32)), .val (.ref p2), .val (.int (2 : Int32)), .val (.int (2 : Int32)), .val (.int (2 : Int32)), .val (.int c1)] [(.int (2 : Int32))])) _
    exact retI X7 hx Bd.returns (hb hby d5_46) hr
  · show Q_rmCmp2 Z p0 p2 zc fm ks kd c0 c1 h0 n0 _ T7.heap _
    rw [e7]
    exact ⟨⟨_, rfl, ⟨rfl, ⟨hl_c0, hl_c1⟩, V7⟩⟩, N7, K7⟩
theorem ef_rmComp2 (m : MethodId) (p0 : Addr) : entryFrame m #[(.ref p0), (.int (0 : Int32)), (.int (2 : Int32))] 6 = mkF m 0 #[.val (.ref p0), .val (.int (0 : Int32)), .val (.int (2 : Int32)), .unset, .unset, .unset] [] := by first | (simp [entryFrame, mkF, argsToLocals, Value.category]; done) | rfl
theorem d4_0 : decode jdk_52_method_16_code 0 = .ok (.iload_n 2, 1) := by decide +kernel
theorem d4_1 : decode jdk_52_method_16_code 1 = .ok (.newarray .byte, 2) := by decide +kernel
theorem d4_3 : decode jdk_52_method_16_code 3 = .ok (.astore_n 3, 1) := by decide +kernel
theorem d4_4 : decode jdk_52_method_16_code 4 = .ok (.aload_n 0, 1) := by decide +kernel
theorem d4_5 : decode jdk_52_method_16_code 5 = .ok (.iload_n 1, 1) := by decide +kernel
theorem d4_6 : decode jdk_52_method_16_code 6 = .ok (.aload_n 3, 1) := by decide +kernel
theorem d4_7 : decode jdk_52_method_16_code 7 = .ok (.iconst 0, 1) := by decide +kernel
theorem d4_8 : decode jdk_52_method_16_code 8 = .ok (.iload_n 2, 1) := by decide +kernel
theorem pd___CI_BII_I : parseMethodDescriptor "([CI[BII)I" = some ⟨[(.array .char), .int, (.array .byte), .int, .int], some .int⟩ := by decide +kernel
theorem d4_9 : decode jdk_52_method_16_code 9 = .ok (.invokestatic 115, 3) := by decide +kernel
theorem d4_12 : decode jdk_52_method_16_code 12 = .ok (.istore 4, 2) := by decide +kernel
theorem d4_14 : decode jdk_52_method_16_code 14 = .ok (.iload 4, 2) := by decide +kernel
theorem d4_16 : decode jdk_52_method_16_code 16 = .ok (.iload_n 2, 1) := by decide +kernel
theorem d4_17 : decode jdk_52_method_16_code 17 = .ok (.if_icmp .eq 40, 3) := by decide +kernel
theorem d4_57 : decode jdk_52_method_16_code 57 = .ok (.aload_n 3, 1) := by decide +kernel
theorem d4_58 : decode jdk_52_method_16_code 58 = .ok (.areturn, 1) := by decide +kernel
def Q_rmComp2 (Z : State) (p0 : Addr) (zc : Int32) (fm : Value) (ks : ClassId) (c0 : Int32) (c1 : Int32) (h0 : Heap) (n0 : Nat) (v : Option Value) (h : Heap) (L : List Loc) : Prop := (∃ (b : Addr) (k : ClassId), v = some (.ref b) ∧ n0 ≤ b ∧ h0.size ≤ b ∧ (((¬ (255 : Int32) < c0 ∧ ¬ (255 : Int32) < c1) ∧ Arv Z h b k .byte (2 : Int32) [(.int (own_b c0)), (.int (own_b c1))] (.int (0 : Int32))))) ∧ Fr n0 L ∧ Keep h0 h []
set_option maxRecDepth 65536 in
set_option maxHeartbeats 40000000 in
theorem rmComp2 (l : Launch) (Z : State) (a0 : Array Value) (hw : ∀ d ∈ tables_1, d.before a0 Z = true) (ws : List Jvm.Cond) (p0 : Addr) (zc : Int32) (fm : Value) (ks : ClassId) (c0 : Int32) (c1 : Int32) (h0 : Heap) (n0 : Nat) (Z0 : n0 ≤ h0.size) (hSt : own_St Z zc fm) (Ol : own_Old Z n0 h0) (As : Arv Z h0 p0 ks .char (2 : Int32) [(.int c0), (.int c1)] (.int (0 : Int32))) (hch : ∀ c ∈ [c0, c1], ¬ c < (0 : Int32) ∧ ¬ (65535 : Int32) < c) (hl_c0 : ¬ (255 : Int32) < c0) (hl_c1 : ¬ (255 : Int32) < c1) :
    MetFree l (⟨"java/lang/StringUTF16", "compress", "([CII)[B"⟩ : MethodName) (head1 (Jvm.Cond.code (⟨"java/lang/StringUTF16", "compress", "([CII)[B"⟩ : MethodName) jdk_52_method_16_code 6 (some (.array .byte)) :: ws) ({ frames := 1, cells := 1, slots := 2, locals := 18 } : Room)) (fun a U => a = #[(.ref p0), (.int (0 : Int32)), (.int (2 : Int32))] ∧ Z.Warmed39 U.vm ∧ U.heap = h0) (fun _ _ _ _ _ => True) (fun _ U o U' => ∃ v L, o = .returned v ∧ Q_rmComp2 Z p0 zc fm ks c0 c1 h0 n0 v U'.heap L ∧ FrameEnd U o U' L ({ frames := 1, cells := 1, slots := 2, locals := 18 } : Room).cells ({ frames := 1, cells := 1, slots := 2, locals := 18 } : Room).slots) := by
  refine MetFree.of_bodySF (plainFor_of_name pn_java_lang_StringUTF16) hisR ?_
  intro p e s m args below meth c s₁ Bd hml0 hP hK
  obtain ⟨rfl, hZ, hh⟩ := hP
  have hx := Bd.exec
  have hby := Bd.bytes
  have hml : c.maxLocals = 6 := hml0
  have hown : s.vm.findClass "java/lang/StringUTF16" = some m.cls := findClass_of_methodNamed Bd.named
  have hnm := (name_of_methodNamed Bd.named Bd.method).1
  have hZo := hZ
  have howno := hown
  have X0 : Stand p l e ({ frames := 1, cells := 1, slots := 2, locals := 18 } : Room) s m #[(.ref p0), (.int (0 : Int32)), (.int (2 : Int32))] below meth c s₁ [] 0 0 := Stand.of_body Bd
  have e0 : s₁.heap = h0 := by rw [← hh, Bd.state]; rfl
  have N0 := Fr.nil n0
  have pre0 : ∀ t, Steps p.tables e below (s₁.setTop (mkF m 0 #[.val (.ref p0), .val (.int (0 : Int32)), .val (.int (2 : Int32)), .unset, .unset, .unset] [])) t → Steps p.tables e below (s₁.setTop (entryFrame m #[(.ref p0), (.int (0 : Int32)), (.int (2 : Int32))] 6)) t := fun t k => castTop (ef_rmComp2 m p0 ) k
  obtain ⟨T1, h1, k1, X1, e1, E1, A1, st1⟩ := newP X0 hx hZ (hw _ (own_m 19 rfl)) e0 (g := (mkF m 1 #[.val (.ref p0), .val (.int (0 : Int32)), .val (.int (2 : Int32)), .unset, .unset, .unset] [(.int (2 : Int32))])) rfl (hb hby d4_1) rfl (by decide) (cap := 2) (by decide) (by decide) (by decide) (by decide)
  obtain ⟨b1, g1⟩ : ∃ z, z = h0.size := ⟨_, rfl⟩
  rw [← g1] at A1 st1
  have ne1_p0 : p0 ≠ b1 := Nat.ne_of_lt (Nat.lt_of_lt_of_le As.lt (Nat.le_of_eq g1.symm))
  have ge1 : n0 ≤ b1 := Nat.le_trans Z0 (Nat.le_of_eq g1.symm)
  have sz1 : h0.size ≤ b1 := Nat.le_trans (Keep.refl h0 []).1 (Nat.le_of_eq g1.symm)
  have K1 := (Keep.refl h0 []).ext E1
  have V1 : Arv Z h1 b1 k1 .byte (2 : Int32) [(.int (0 : Int32)), (.int (0 : Int32))] (.int (0 : Int32)) := (Arv.new A1 (by decide)).pad (pad_rep [] (.int (0 : Int32)) 2)
  have f2 := (As.ext E1)
  have f3 := (Nat.le_trans Z0 E1.1)
  have f4 := (Ol.ext E1)
  obtain ⟨_, _, ⟨T5, L5, k5, n5⟩, -, X5, ⟨Lc5, hQ5, l5, y5, z5⟩, st5⟩ := Jvm.LawKit.callS X1 hx (y := (⟨"java/lang/StringUTF16", "compress", "([CI[BII)I"⟩ : MethodName)) hown (mvT hZ (hw _ (own_m 20 rfl))) (mvT hZ (hw _ (own_m 21 rfl))) (mvT hZ (hw _ (own_m 17 rfl))) (mvT hZ (hw _ (own_m 22 rfl))) (by decide) (backOf (W := 0) (rmCmp2 l Z a0 hw [] p0 b1 zc fm ks k1 c0 c1 h1 n0 f3 hSt f4 f2 V1 ne1_p0 ge1 hl_c0 hl_c1) hZ (hw _ (own_m 22 rfl)) (hw _ (own_m 17 rfl)) (by decide) (by decide)) (g := (mkF m 9 #[.val (.ref p0), .val (.int (0 : Int32)), .val (.int (2 : Int32)), .val (.ref b1), .unset, .unset] [(.int (2 : Int32)), (.int (0 : Int32)), (.ref b1), (.int (0 : Int32)), (.ref p0)])) rfl (by rw [hml]; rfl) (argsL := [(.ref p0), (.int (0 : Int32)), (.ref b1), (.int (0 : Int32)), (.int (2 : Int32))]) (rest := []) (lenOf pd___CI_BII_I rfl) rfl (by show 2 * 0 + _ ≤ _; exact Nat.le_of_eq rfl) (hb hby d4_9) (fun _ _ => ⟨rfl, e1, (by decide : 1 + 0 ≤ _), (by decide : 2 + 0 ≤ _)⟩)
  dsimp only [Pt.U, Pt.locs, Pt.cells, Pt.slots] at X5 l5 y5 z5 st5 hQ5
  subst l5 y5 z5
  obtain ⟨⟨rc, rfl, hD⟩, Nq5, K5⟩ := hQ5
  have N5 := Fr.app N0 Nq5
  have KK5 := K1.trans K5 (allS (Or.inr sz1) all0)
  have pre6 : ∀ t, Steps p.tables e below (T5.setTop (mkF m 12 #[.val (.ref p0), .val (.int (0 : Int32)), .val (.int (2 : Int32)), .val (.ref b1), .unset, .unset] [(.int rc)])) t → Steps p.tables e below (s₁.setTop (entryFrame m #[(.ref p0), (.int (0 : Int32)), (.int (2 : Int32))] 6)) t := fun t kt => pre0 t (by
    show Steps p.tables e below (s₁.setTop (mkF m 0 #[.val (.ref p0), .val (.int (0 : Int32)), .val (.int (2 : Int32)), .unset, .unset, .unset] [])) _
    refine XS.iloadN X0.here hx rfl (hb hby d4_0) rfl  ?_
    show Steps p.tables e below (s₁.setTop (mkF m 1 #[.val (.ref p0), .val (.int (0 : Int32)), .val (.int (2 : Int32)), .unset, .unset, .unset] [(.int (2 : Int32))])) _
    refine st1 _ ?_
    show Steps p.tables e below (T1.setTop (mkF m 3 #[.val (.ref p0), .val (.int (0 : Int32)), .val (.int (2 : Int32)), .unset, .unset, .unset] [(.ref b1)])) _
    refine XS.astoreN X1.here hx rfl (hb hby d4_3) rfl rfl (l' := #[.val (.ref p0), .val (.int (0 : Int32)), .val (.int (2 : Int32)), .val (.ref b1), .unset, .unset]) rfl ?_
    refine XS.aloadN X1.here hx rfl (hb hby d4_4) rfl rfl ?_
    refine XS.iloadN X1.here hx rfl (hb hby d4_5) rfl  ?_
    refine XS.aloadN X1.here hx rfl (hb hby d4_6) rfl rfl ?_
    refine XS.iconst X1.here hx rfl (hb hby d4_7) ?_
    refine XS.iloadN X1.here hx rfl (hb hby d4_8) rfl  ?_
    show Steps p.tables e below (T1.setTop (mkF m 9 #[.val (.ref p0), .val (.int (0 : Int32)), .val (.int (2 : Int32)), .val (.ref b1), .unset, .unset] [(.int (2 : Int32)), (.int (0 : Int32)), (.ref b1), (.int (0 : Int32)), (.ref p0)])) _
    refine st5 _ ?_
    exact kt)
  obtain ⟨rfl, hle, Ad⟩ := hD
  obtain ⟨fs, hr, hrun, hended, hW, hsame⟩ := X5.leave (v := some (.ref b1)) (fun h => by rw [Bd.returns] at h; cases h)
  refine ⟨_, _, pre6 _ ?_, hrun, hended, _, _, rfl, ?_, ⟨_, rfl⟩, hW, hsame.mono (by decide) (by decide)⟩
  · show Steps p.tables e below (T5.setTop (mkF m 12 #[.val (.ref p0), .val (.int (0 : Int32)), .val (.int (2 : Int32)), .val (.ref b1), .unset, .unset] [(.int (2 : Int32))])) _
    refine XS.istore X5.here hx rfl (hb hby d4_12) rfl (l' := #[.val (.ref p0), .val (.int (0 : Int32)), .val (.int (2 : Int32)), .val (.ref b1), .val (.int (2 : Int32)), .unset]) rfl ?_
    refine XS.iload X5.here hx rfl (hb hby d4_14) rfl  ?_
    refine XS.iloadN X5.here hx rfl (hb hby d4_16) rfl  ?_
    show Steps p.tables e below (T5.setTop (mkF m 17 #[.val (.ref p0), .val (.int (0 : Int32)), .val (.int (2 : Int32)), .val (.ref b1), .val (.int (2 : Int32)), .unset] [(.int (2 : Int32)), (.int (2 : Int32))])) _
    refine XS.icmpYes X5.here hx rfl (pc0 := 17) (pc' := 57) rfl (hb hby d4_17) rfl (teq (by decide : (2 : Int32) = (2 : Int32))).1 (by decide) (by decide) ?_
    refine XS.aloadN X5.here hx rfl (hb hby d4_57) rfl rfl ?_
    show Steps p.tables e below (T5.setTop (mkF m 58 #[.val (.ref p0), .val (.int (0 : Int32)), .val (.int (2 : Int32)), .val (.ref b1), .val (.int (2 : Int32)), .unset] [(.ref b1)])) _
    jvm_step X5.here [X5.here.top, hx, (hb hby d4_58), X5.method', Bd.returns, Value.isRef, FieldType.isReference]
    first | (intro acts; rw [hr _ acts rfl rfl rfl]) | rw [hr _ _ rfl rfl rfl]
    exact Steps.refl _
  · show Q_rmComp2 Z p0 zc fm ks c0 c1 h0 n0 _ T5.heap _
    exact ⟨⟨_, _, rfl, ge1, sz1, ⟨hle, Ad⟩⟩, N5, KK5⟩
theorem ef_rmCFA (m : MethodId) (p0 : Addr) (p1 : Int32) : entryFrame m #[(.ref p0), (.int p1)] 2 = mkF m 0 #[.val (.ref p0), .val (.int p1)] [] := by first | (simp [entryFrame, mkF, argsToLocals, Value.category]; done) | rfl
theorem d6_0 : decode jdk_52_method_15_code 0 = .ok (.iload_n 1, 1) := by decide +kernel
theorem d6_1 : decode jdk_52_method_15_code 1 = .ok (.aload_n 0, 1) := by decide +kernel
theorem d6_2 : decode jdk_52_method_15_code 2 = .ok (.arraylength, 1) := by decide +kernel
theorem d6_3 : decode jdk_52_method_15_code 3 = .ok (.isub, 1) := by decide +kernel
theorem d6_4 : decode jdk_52_method_15_code 4 = .ok (.bipush 31, 2) := by decide +kernel
theorem d6_6 : decode jdk_52_method_15_code 6 = .ok (.iushr, 1) := by decide +kernel
theorem d6_7 : decode jdk_52_method_15_code 7 = .ok (.i2b, 1) := by decide +kernel
theorem d6_8 : decode jdk_52_method_15_code 8 = .ok (.ireturn, 1) := by decide +kernel
def Q_rmCFA (Z : State) (p0 : Addr) (p1 : Int32) (zc : Int32) (fm : Value) (k : ClassId) (z : Int32) (vs : List Value) (r : Int32) (h0 : Heap) (n0 : Nat) (v : Option Value) (h : Heap) (L : List Loc) : Prop := v = some (.int r) ∧ Fr n0 L ∧ h = h0
set_option maxRecDepth 65536 in
set_option maxHeartbeats 40000000 in
theorem rmCFA (l : Launch) (Z : State) (a0 : Array Value) (hw : ∀ d ∈ tables_1, d.before a0 Z = true) (ws : List Jvm.Cond) (p0 : Addr) (p1 : Int32) (zc : Int32) (fm : Value) (k : ClassId) (z : Int32) (vs : List Value) (r : Int32) (h0 : Heap) (n0 : Nat) (Z0 : n0 ≤ h0.size) (hSt : own_St Z zc fm) (Ol : own_Old Z n0 h0) (A0 : Arv Z h0 p0 k .byte z vs (.int (0 : Int32))) (hres : r = nar .byte ((p1 - z).toUInt32 >>> ((31 : Int32) &&& 31).toUInt32).toInt32.toInt8.toInt32) :
    MetFree l (⟨"java/lang/StringUTF16", "coderFromArrayLen", "([BI)B"⟩ : MethodName) (head1 (Jvm.Cond.code (⟨"java/lang/StringUTF16", "coderFromArrayLen", "([BI)B"⟩ : MethodName) jdk_52_method_15_code 2 (some .byte) :: ws) ({ frames := 0, cells := 0, slots := 0, locals := 0 } : Room)) (fun a U => a = #[(.ref p0), (.int p1)] ∧ Z.Warmed39 U.vm ∧ U.heap = h0) (fun _ _ _ _ _ => True) (fun _ U o U' => ∃ v L, o = .returned v ∧ Q_rmCFA Z p0 p1 zc fm k z vs r h0 n0 v U'.heap L ∧ FrameEnd U o U' L ({ frames := 0, cells := 0, slots := 0, locals := 0 } : Room).cells ({ frames := 0, cells := 0, slots := 0, locals := 0 } : Room).slots) := by
  refine MetFree.of_bodySF (plainFor_of_name pn_java_lang_StringUTF16) hisR ?_
  intro p e s m args below meth c s₁ Bd hml0 hP hK
  obtain ⟨rfl, hZ, hh⟩ := hP
  have hx := Bd.exec
  have hby := Bd.bytes
  have hml : c.maxLocals = 2 := hml0
  have hown : s.vm.findClass "java/lang/StringUTF16" = some m.cls := findClass_of_methodNamed Bd.named
  have hnm := (name_of_methodNamed Bd.named Bd.method).1
  have hZo := hZ
  have howno := hown
  have X0 : Stand p l e ({ frames := 0, cells := 0, slots := 0, locals := 0 } : Room) s m #[(.ref p0), (.int p1)] below meth c s₁ [] 0 0 := Stand.of_body Bd
  have e0 : s₁.heap = h0 := by rw [← hh, Bd.state]; rfl
  have N0 := Fr.nil n0
  have pre0 : ∀ t, Steps p.tables e below (s₁.setTop (mkF m 0 #[.val (.ref p0), .val (.int p1)] [])) t → Steps p.tables e below (s₁.setTop (entryFrame m #[(.ref p0), (.int p1)] 2)) t := fun t k => castTop (ef_rmCFA m p0 p1 ) k
  obtain ⟨cl1, Ar1, -, S1, N1, -, -⟩ := id A0
  obtain ⟨fs, hr, hrun, hended, hW, hsame⟩ := X0.leave (v := some (.int (nar .byte ((((p1 - z).toUInt32 >>> ((31 : Int32) &&& 31).toUInt32).toInt32).toInt8.toInt32)))) (fun h => by rw [Bd.returns] at h; cases h)
  refine ⟨_, _, pre0 _ ?_, hrun, hended, _, _, rfl, ?_, ⟨_, rfl⟩, hW, hsame.mono (by decide) (by decide)⟩
  · show Steps p.tables e below (s₁.setTop (mkF m 0 #[.val (.ref p0), .val (.int p1)] [])) _
    refine XS.iloadN X0.here hx rfl (hb hby d6_0) rfl  ?_
    refine XS.aloadN X0.here hx rfl (hb hby d6_1) rfl rfl ?_
    show Steps p.tables e below (s₁.setTop (mkF m 2 #[.val (.ref p0), .val (.int p1)] [(.ref p0), (.int p1)])) _
    refine X0.arraylength hx (by rw [e0]; exact Ar1.1) (State.isArrayOf_alike hZ.alike Ar1.2.1) (g := (mkF m 2 #[.val (.ref p0), .val (.int p1)] [(.ref p0), (.int p1)])) rfl rfl (hb hby d6_2) _ ?_
    rw [len_of S1 N1]
    show Steps p.tables e below (s₁.setTop (mkF m 3 #[.val (.ref p0), .val (.int p1)] [(.int z), (.int p1)])) _
    refine XS.isub X0.here hx rfl (hb hby d6_3) rfl ?_
    refine XS.bipush X0.here hx rfl (hb hby d6_4) ?_
    refine XS.iushr X0.here hx rfl (hb hby d6_6) rfl ?_
    refine XS.i2b X0.here hx rfl (hb hby d6_7) rfl ?_
    show Steps p.tables e below (s₁.setTop (mkF m 8 #[.val (.ref p0), .val (.int p1)] [(.int ((((p1 - z).toUInt32 >>> ((31 : Int32) &&& 31).toUInt32).toInt32).toInt8.toInt32))])) _
    exact retN X0 hx (t := .byte) Bd.returns (by simp) (hb hby d6_8) hr
  · show Q_rmCFA Z p0 p1 zc fm k z vs r h0 n0 _ s₁.heap _
    rw [e0]
    exact ⟨by rw [hres], N0, rfl⟩
theorem ef_rmNew4_2 (m : MethodId) (p0 : Addr) (p1 : Addr) : entryFrame m #[(.ref p0), (.ref p1), (.int (0 : Int32)), (.int (2 : Int32)), .null] 6 = mkF m 0 #[.val (.ref p0), .val (.ref p1), .val (.int (0 : Int32)), .val (.int (2 : Int32)), .val .null, .unset] [] := by first | (simp [entryFrame, mkF, argsToLocals, Value.category]; done) | rfl
theorem d2_0 : decode jdk_42_method_149_code 0 = .ok (.aload_n 0, 1) := by decide +kernel
theorem d2_1 : decode jdk_42_method_149_code 1 = .ok (.invokespecial 1, 3) := by decide +kernel
theorem d2_4 : decode jdk_42_method_149_code 4 = .ok (.iload_n 3, 1) := by decide +kernel
theorem d2_5 : decode jdk_42_method_149_code 5 = .ok (.ifCond .ne 22, 3) := by decide +kernel
theorem d2_27 : decode jdk_42_method_149_code 27 = .ok (.getstatic 38, 3) := by decide +kernel
theorem d2_30 : decode jdk_42_method_149_code 30 = .ok (.ifCond .eq 28, 3) := by decide +kernel
theorem d2_33 : decode jdk_42_method_149_code 33 = .ok (.aload_n 1, 1) := by decide +kernel
theorem d2_34 : decode jdk_42_method_149_code 34 = .ok (.iload_n 2, 1) := by decide +kernel
theorem d2_35 : decode jdk_42_method_149_code 35 = .ok (.iload_n 3, 1) := by decide +kernel
theorem pd___CII__B : parseMethodDescriptor "([CII)[B" = some ⟨[(.array .char), .int, .int], some (.array .byte)⟩ := by decide +kernel
theorem d2_36 : decode jdk_42_method_149_code 36 = .ok (.invokestatic 177, 3) := by decide +kernel
theorem d2_39 : decode jdk_42_method_149_code 39 = .ok (.astore 5, 2) := by decide +kernel
theorem d2_41 : decode jdk_42_method_149_code 41 = .ok (.aload_n 0, 1) := by decide +kernel
theorem d2_42 : decode jdk_42_method_149_code 42 = .ok (.aload 5, 2) := by decide +kernel
theorem d2_44 : decode jdk_42_method_149_code 44 = .ok (.iload_n 3, 1) := by decide +kernel
theorem pd___BI_B : parseMethodDescriptor "([BI)B" = some ⟨[(.array .byte), .int], some .byte⟩ := by decide +kernel
theorem d2_45 : decode jdk_42_method_149_code 45 = .ok (.invokestatic 47, 3) := by decide +kernel
theorem d2_48 : decode jdk_42_method_149_code 48 = .ok (.putfield 15, 3) := by decide +kernel
theorem d2_51 : decode jdk_42_method_149_code 51 = .ok (.aload_n 0, 1) := by decide +kernel
theorem d2_52 : decode jdk_42_method_149_code 52 = .ok (.aload 5, 2) := by decide +kernel
theorem d2_54 : decode jdk_42_method_149_code 54 = .ok (.putfield 9, 3) := by decide +kernel
theorem d2_57 : decode jdk_42_method_149_code 57 = .ok (.return_, 1) := by decide +kernel
def Q_rmNew4_2 (Z : State) (p0 : Addr) (p1 : Addr) (zc : Int32) (fm : Value) (ks : ClassId) (c0 : Int32) (c1 : Int32) (h0 : Heap) (n0 : Nat) (v : Option Value) (h : Heap) (L : List Loc) : Prop := v = none ∧ Fr n0 L ∧ Keep h0 h [p0] ∧ own_Str Z h p0 [c0, c1] ∧ own_Nrw Z h p0
set_option maxRecDepth 65536 in
set_option maxHeartbeats 40000000 in
theorem rmNew4_2 (l : Launch) (Z : State) (a0 : Array Value) (hw : ∀ d ∈ tables_1, d.before a0 Z = true) (ws : List Jvm.Cond) (p0 : Addr) (p1 : Addr) (zc : Int32) (fm : Value) (ks : ClassId) (c0 : Int32) (c1 : Int32) (h0 : Heap) (n0 : Nat) (Z0 : n0 ≤ h0.size) (hSt : own_St Z zc fm) (Ol : own_Old Z n0 h0) (E0 : Exa Z h0 p0 "java/lang/String") (Fv : Fld Z h0 p0 "java/lang/String" "value" "[B" .null) (Fc : Fld Z h0 p0 "java/lang/String" "coder" "B" (.int (0 : Int32))) (g0_ : n0 ≤ p0) (As : Arv Z h0 p1 ks .char (2 : Int32) [(.int c0), (.int c1)] (.int (0 : Int32))) (hch : ∀ c ∈ [c0, c1], ¬ c < (0 : Int32) ∧ ¬ (65535 : Int32) < c) (hl_c0 : ¬ (255 : Int32) < c0) (hl_c1 : ¬ (255 : Int32) < c1) :
    MetFree l (⟨"java/lang/String", "<init>", "([CIILjava/lang/Void;)V"⟩ : MethodName) (head1 (Jvm.Cond.code (⟨"java/lang/String", "<init>", "([CIILjava/lang/Void;)V"⟩ : MethodName) jdk_42_method_149_code 6 none :: ws) ({ frames := 2, cells := 1, slots := 2, locals := 35 } : Room)) (fun a U => a = #[(.ref p0), (.ref p1), (.int (0 : Int32)), (.int (2 : Int32)), .null] ∧ Z.Warmed39 U.vm ∧ U.heap = h0) (fun _ _ _ _ _ => True) (fun _ U o U' => ∃ v L, o = .returned v ∧ Q_rmNew4_2 Z p0 p1 zc fm ks c0 c1 h0 n0 v U'.heap L ∧ FrameEnd U o U' L ({ frames := 2, cells := 1, slots := 2, locals := 35 } : Room).cells ({ frames := 2, cells := 1, slots := 2, locals := 35 } : Room).slots) := by
  refine MetFree.of_bodySF (plainFor_of_name pn_java_lang_String) hisR ?_
  intro p e s m args below meth c s₁ Bd hml0 hP hK
  obtain ⟨rfl, hZ, hh⟩ := hP
  have hx := Bd.exec
  have hby := Bd.bytes
  have hml : c.maxLocals = 6 := hml0
  have hown : s.vm.findClass "java/lang/String" = some m.cls := findClass_of_methodNamed Bd.named
  have hnm := (name_of_methodNamed Bd.named Bd.method).1
  have hZo := hZ
  have howno := hown
  have X0 : Stand p l e ({ frames := 2, cells := 1, slots := 2, locals := 35 } : Room) s m #[(.ref p0), (.ref p1), (.int (0 : Int32)), (.int (2 : Int32)), .null] below meth c s₁ [] 0 0 := Stand.of_body Bd
  have e0 : s₁.heap = h0 := by rw [← hh, Bd.state]; rfl
  have N0 := Fr.nil n0
  have pre0 : ∀ t, Steps p.tables e below (s₁.setTop (mkF m 0 #[.val (.ref p0), .val (.ref p1), .val (.int (0 : Int32)), .val (.int (2 : Int32)), .val .null, .unset] [])) t → Steps p.tables e below (s₁.setTop (entryFrame m #[(.ref p0), (.ref p1), (.int (0 : Int32)), (.int (2 : Int32)), .null] 6)) t := fun t k => castTop (ef_rmNew4_2 m p0 p1 ) k
  obtain ⟨T1, X1, e1, st1⟩ := initO X0 hx hZ hown (hw _ (own_m 11 rfl)) (hw _ (own_m 12 rfl)) (hw _ (own_m 13 rfl)) e0 (g := (mkF m 1 #[.val (.ref p0), .val (.ref p1), .val (.int (0 : Int32)), .val (.int (2 : Int32)), .val .null, .unset] [(.ref p0)])) rfl (by rw [hml]; rfl) rfl (hb hby d2_1) (by decide) (W := 0) (by show 2 * 0 + _ ≤ _; exact Nat.le_of_eq rfl) (by decide)
  obtain ⟨T2, X2, e2, st2⟩ := getS2 X1 hx hZ hown (host := "") (Or.inl (hw _ (own_m 14 rfl))) Via.refl e1 (hSt.1.ext Ol.2) (g := (mkF m 27 #[.val (.ref p0), .val (.ref p1), .val (.int (0 : Int32)), .val (.int (2 : Int32)), .val .null, .unset] [])) rfl (hb hby d2_27)
  obtain ⟨_, _, ⟨T3, L3, k3, n3⟩, -, X3, ⟨Lc3, hQ3, l3, y3, z3⟩, st3⟩ := Jvm.LawKit.callS X2 hx (y := (⟨"java/lang/StringUTF16", "compress", "([CII)[B"⟩ : MethodName)) hown (mvT hZ (hw _ (own_m 15 rfl))) (mvT hZ (hw _ (own_m 16 rfl))) (mvT hZ (hw _ (own_m 17 rfl))) (mvT hZ (hw _ (own_m 18 rfl))) (by decide) (backOf (W := 0) (rmComp2 l Z a0 hw [] p1 zc fm ks c0 c1 h0 n0 Z0 hSt Ol As hch hl_c0 hl_c1) hZ (hw _ (own_m 18 rfl)) (hw _ (own_m 17 rfl)) (by decide) (by decide)) (g := (mkF m 36 #[.val (.ref p0), .val (.ref p1), .val (.int (0 : Int32)), .val (.int (2 : Int32)), .val .null, .unset] [(.int (2 : Int32)), (.int (0 : Int32)), (.ref p1)])) rfl (by rw [hml]; rfl) (argsL := [(.ref p1), (.int (0 : Int32)), (.int (2 : Int32))]) (rest := []) (lenOf pd___CII__B rfl) rfl (by show 2 * 0 + _ ≤ _; exact Nat.le_of_eq rfl) (hb hby d2_36) (fun _ _ => ⟨rfl, e2, (by decide : 0 + 1 ≤ _), (by decide : 0 + 2 ≤ _)⟩)
  dsimp only [Pt.U, Pt.locs, Pt.cells, Pt.slots] at X3 l3 y3 z3 st3 hQ3
  subst l3 y3 z3
  obtain ⟨⟨vb3, kb3, rfl, gb3, sb3, hD⟩, Nq3, K3⟩ := hQ3
  have N3 := Fr.app N0 Nq3
  have KK3 := (Keep.refl h0 [p0]).trans K3 all0
  have ne_vb3 : p0 ≠ vb3 := Nat.ne_of_lt (Nat.lt_of_lt_of_le E0.lt sb3)
  have pre4 : ∀ t, Steps p.tables e below (T3.setTop (mkF m 39 #[.val (.ref p0), .val (.ref p1), .val (.int (0 : Int32)), .val (.int (2 : Int32)), .val .null, .unset] [(.ref vb3)])) t → Steps p.tables e below (s₁.setTop (entryFrame m #[(.ref p0), (.ref p1), (.int (0 : Int32)), (.int (2 : Int32)), .null] 6)) t := fun t kt => pre0 t (by
    show Steps p.tables e below (s₁.setTop (mkF m 0 #[.val (.ref p0), .val (.ref p1), .val (.int (0 : Int32)), .val (.int (2 : Int32)), .val .null, .unset] [])) _
    refine XS.aloadN X0.here hx rfl (hb hby d2_0) rfl rfl ?_
    show Steps p.tables e below (s₁.setTop (mkF m 1 #[.val (.ref p0), .val (.ref p1), .val (.int (0 : Int32)), .val (.int (2 : Int32)), .val .null, .unset] [(.ref p0)])) _
    refine st1 _ ?_
    show Steps p.tables e below (T1.setTop (mkF m 4 #[.val (.ref p0), .val (.ref p1), .val (.int (0 : Int32)), .val (.int (2 : Int32)), .val .null, .unset] [])) _
    refine XS.iloadN X1.here hx rfl (hb hby d2_4) rfl  ?_
    show Steps p.tables e below (T1.setTop (mkF m 5 #[.val (.ref p0), .val (.ref p1), .val (.int (0 : Int32)), .val (.int (2 : Int32)), .val .null, .unset] [(.int (2 : Int32))])) _
    refine XS.ifYes X1.here hx rfl (pc0 := 5) (pc' := 27) rfl (hb hby d2_5) rfl ((if0 _ _).trans (feq (by decide : ¬ ((2 : Int32) = (0 : Int32)))).2) (by decide) (by decide) ?_
    show Steps p.tables e below (T1.setTop (mkF m 27 #[.val (.ref p0), .val (.ref p1), .val (.int (0 : Int32)), .val (.int (2 : Int32)), .val .null, .unset] [])) _
    refine st2 _ ?_
    show Steps p.tables e below (T2.setTop (mkF m 30 #[.val (.ref p0), .val (.ref p1), .val (.int (0 : Int32)), .val (.int (2 : Int32)), .val .null, .unset] [(.int zc)])) _
    refine XS.ifNo X2.here hx rfl (hb hby d2_30) rfl ((if0 _ _).trans (feq hSt.2.1).1) ?_
    refine XS.aloadN X2.here hx rfl (hb hby d2_33) rfl rfl ?_
    refine XS.iloadN X2.here hx rfl (hb hby d2_34) rfl  ?_
    refine XS.iloadN X2.here hx rfl (hb hby d2_35) rfl  ?_
    show Steps p.tables e below (T2.setTop (mkF m 36 #[.val (.ref p0), .val (.ref p1), .val (.int (0 : Int32)), .val (.int (2 : Int32)), .val .null, .unset] [(.int (2 : Int32)), (.int (0 : Int32)), (.ref p1)])) _
    refine st3 _ ?_
    exact kt)
  obtain ⟨hle, Ad⟩ := hD
  have f5 := (Nat.le_trans Z0 K3.1)
  have f6 := (Ol.keep K3 all0)
  obtain ⟨_, _, ⟨T7, L7, k7, n7⟩, -, X7, ⟨Lc7, hQ7, l7, y7, z7⟩, st7⟩ := Jvm.LawKit.callS X3 hx (y := (⟨"java/lang/StringUTF16", "coderFromArrayLen", "([BI)B"⟩ : MethodName)) hown (mvT hZ (hw _ (own_m 23 rfl))) (mvT hZ (hw _ (own_m 24 rfl))) (mvT hZ (hw _ (own_m 17 rfl))) (mvT hZ (hw _ (own_m 25 rfl))) (by decide) (backOf (W := 1) (rmCFA l Z a0 hw [] vb3 (2 : Int32) zc fm kb3 (2 : Int32) [(.int (own_b c0)), (.int (own_b c1))] (0 : Int32) T3.heap n0 f5 hSt f6 Ad (by decide)) hZ (hw _ (own_m 25 rfl)) (hw _ (own_m 17 rfl)) (by decide) (by decide)) (g := (mkF m 45 #[.val (.ref p0), .val (.ref p1), .val (.int (0 : Int32)), .val (.int (2 : Int32)), .val .null, .val (.ref vb3)] [(.int (2 : Int32)), (.ref vb3), (.ref p0)])) rfl (by rw [hml]; rfl) (argsL := [(.ref vb3), (.int (2 : Int32))]) (rest := [(.ref p0)]) (lenOf pd___BI_B rfl) rfl (by show 2 * 0 + _ ≤ _; exact Nat.le_of_eq rfl) (hb hby d2_45) (fun _ _ => ⟨rfl, rfl, (by decide : 1 + 0 ≤ _), (by decide : 2 + 0 ≤ _)⟩)
  dsimp only [Pt.U, Pt.locs, Pt.cells, Pt.slots] at X7 l7 y7 z7 st7 hQ7
  subst l7 y7 z7
  obtain ⟨rfl, Nq7, e7⟩ := hQ7
  have N7 := Fr.app N3 Nq7
  have f8 := (E0.keep K3)
  have f9 := (Fc.keep K3 nin0)
  obtain ⟨T10, h10, X10, e10, W10, st10⟩ := putFN X7 hx hZ hown (hw _ (own_m 26 rfl)) Via.refl e7 f9 f8 (Or.inr ⟨(hw _ (own_m 27 rfl)), rfl, hnm⟩) (hw _ (own_m 1 rfl)) (ty := .byte) (v' := (.int (0 : Int32))) (by decide) rfl (by decide) (g := (mkF m 48 #[.val (.ref p0), .val (.ref p1), .val (.int (0 : Int32)), .val (.int (2 : Int32)), .val .null, .val (.ref vb3)] [(.int (0 : Int32)), (.ref p0)])) rfl rfl (hb hby d2_48)
  have Fw10 := f9.same W10
  have N10 := Fr.snoc X10 N7 g0_
  have K10 := KK3.wr W10 (Or.inl (own_m 0 rfl))
  have f11 := (f8.wr W10)
  have f12 := ((Fv.keep K3 nin0).other W10 (Or.inr (slot_ne (Or.inr (hw _ (own_m 29 rfl))) (Or.inr (hw _ (own_m 27 rfl))) (by decide) (t := (.array .byte)) (t' := .byte) (by decide) (by decide))))
  obtain ⟨T13, h13, X13, e13, W13, st13⟩ := putF X10 hx hZ hown (host := "") (Or.inl (hw _ (own_m 28 rfl))) Via.refl e10 f12 f11 (Or.inr ⟨(hw _ (own_m 29 rfl)), rfl, hnm⟩) (hw _ (own_m 1 rfl)) (ty := (.array .byte)) (by decide) rfl rfl (g := (mkF m 54 #[.val (.ref p0), .val (.ref p1), .val (.int (0 : Int32)), .val (.int (2 : Int32)), .val .null, .val (.ref vb3)] [(.ref vb3), (.ref p0)])) rfl rfl (hb hby d2_54)
  have Fw13 := f12.same W13
  have N13 := Fr.snoc X13 N10 g0_
  have K13 := K10.wr W13 (Or.inl (own_m 0 rfl))
  have f14 := (f11.wr W13)
  have f15 := (Fw10.other W13 (Or.inr (slot_ne (Or.inr (hw _ (own_m 27 rfl))) (Or.inr (hw _ (own_m 29 rfl))) (by decide) (t := .byte) (t' := (.array .byte)) (by decide) (by decide))))
  have f16 := ((Ad.other W10 (Ne.symm ne_vb3)).other W13 (Ne.symm ne_vb3))
  obtain ⟨fs, hr, hrun, hended, hW, hsame⟩ := X13.leave (v := none) (fun _ => rfl)
  refine ⟨_, _, pre4 _ ?_, hrun, hended, _, _, rfl, ?_, ⟨_, rfl⟩, hW, hsame.mono (by decide) (by decide)⟩
  · show Steps p.tables e below (T3.setTop (mkF m 39 #[.val (.ref p0), .val (.ref p1), .val (.int (0 : Int32)), .val (.int (2 : Int32)), .val .null, .unset] [(.ref vb3)])) _
    refine XS.astore X3.here hx rfl (hb hby d2_39) rfl rfl (l' := #[.val (.ref p0), .val (.ref p1), .val (.int (0 : Int32)), .val (.int (2 : Int32)), .val .null, .val (.ref vb3)]) rfl ?_
    refine XS.aloadN X3.here hx rfl (hb hby d2_41) rfl rfl ?_
    refine XS.aload X3.here hx rfl (hb hby d2_42) rfl rfl ?_
    refine XS.iloadN X3.here hx rfl (hb hby d2_44) rfl  ?_
    show Steps p.tables e below (T3.setTop (mkF m 45 #[.val (.ref p0), .val (.ref p1), .val (.int (0 : Int32)), .val (.int (2 : Int32)), .val .null, .val (.ref vb3)] [(.int (2 : Int32)), (.ref vb3), (.ref p0)])) _
    refine st7 _ ?_
    show Steps p.tables e below (T7.setTop (mkF m 48 #[.val (.ref p0), .val (.ref p1), .val (.int (0 : Int32)), .val (.int (2 : Int32)), .val .null, .val (.ref vb3)] [(.int (0 : Int32)), (.ref p0)])) _
    refine st10 _ ?_
    show Steps p.tables e below (T10.setTop (mkF m 51 #[.val (.ref p0), .val (.ref p1), .val (.int (0 : Int32)), .val (.int (2 : Int32)), .val .null, .val (.ref vb3)] [])) _
    refine XS.aloadN X10.here hx rfl (hb hby d2_51) rfl rfl ?_
    refine XS.aload X10.here hx rfl (hb hby d2_52) rfl rfl ?_
    show Steps p.tables e below (T10.setTop (mkF m 54 #[.val (.ref p0), .val (.ref p1), .val (.int (0 : Int32)), .val (.int (2 : Int32)), .val .null, .val (.ref vb3)] [(.ref vb3), (.ref p0)])) _
    refine st13 _ ?_
    show Steps p.tables e below (T13.setTop (mkF m 57 #[.val (.ref p0), .val (.ref p1), .val (.int (0 : Int32)), .val (.int (2 : Int32)), .val .null, .val (.ref vb3)] [])) _
    exact X13.returnOut hx Bd.returns (hb hby d2_57) hr
  · show Q_rmNew4_2 Z p0 p1 zc fm ks c0 c1 h0 n0 _ T13.heap _
    rw [e13]
    exact ⟨rfl, N13, K13, ⟨vb3, kb3, (0 : Int32), (2 : Int32), _, f14, Fw13, f15, f16, Or.inl ⟨rfl, rfl, rfl, (own_allc hle.1 (own_allc hle.2 (fun _ q => nomatch q)))⟩, hch, Nat.le_of_ble_eq_true rfl⟩, own_nrwOf f15⟩
theorem ef_rmNew2 (m : MethodId) (p0 : Addr) (p1 : Addr) : entryFrame m #[(.ref p0), (.ref p1)] 2 = mkF m 0 #[.val (.ref p0), .val (.ref p1)] [] := by first | (simp [entryFrame, mkF, argsToLocals, Value.category]; done) | rfl
theorem d1_0 : decode jdk_42_method_3_code 0 = .ok (.aload_n 0, 1) := by decide +kernel
theorem d1_1 : decode jdk_42_method_3_code 1 = .ok (.aload_n 1, 1) := by decide +kernel
theorem d1_2 : decode jdk_42_method_3_code 2 = .ok (.iconst 0, 1) := by decide +kernel
theorem d1_3 : decode jdk_42_method_3_code 3 = .ok (.aload_n 1, 1) := by decide +kernel
theorem d1_4 : decode jdk_42_method_3_code 4 = .ok (.arraylength, 1) := by decide +kernel
theorem d1_5 : decode jdk_42_method_3_code 5 = .ok (.aconst_null, 1) := by decide +kernel
theorem pd___CIILjava_lang_Void__V : parseMethodDescriptor "([CIILjava/lang/Void;)V" = some ⟨[(.array .char), .int, .int, (.object "java/lang/Void")], none⟩ := by decide +kernel
theorem d1_6 : decode jdk_42_method_3_code 6 = .ok (.invokespecial 27, 3) := by decide +kernel
theorem d1_9 : decode jdk_42_method_3_code 9 = .ok (.return_, 1) := by decide +kernel
def Q_rmNew2 (Z : State) (p0 : Addr) (p1 : Addr) (zc : Int32) (fm : Value) (ks : ClassId) (c0 : Int32) (c1 : Int32) (h0 : Heap) (n0 : Nat) (v : Option Value) (h : Heap) (L : List Loc) : Prop := v = none ∧ Fr n0 L ∧ Keep h0 h [p0] ∧ own_Str Z h p0 [c0, c1] ∧ own_Nrw Z h p0
set_option maxRecDepth 65536 in
set_option maxHeartbeats 40000000 in
theorem rmNew2 (l : Launch) (Z : State) (a0 : Array Value) (hw : ∀ d ∈ tables_1, d.before a0 Z = true) (ws : List Jvm.Cond) (p0 : Addr) (p1 : Addr) (zc : Int32) (fm : Value) (ks : ClassId) (c0 : Int32) (c1 : Int32) (h0 : Heap) (n0 : Nat) (Z0 : n0 ≤ h0.size) (hSt : own_St Z zc fm) (Ol : own_Old Z n0 h0) (E0 : Exa Z h0 p0 "java/lang/String") (Fv : Fld Z h0 p0 "java/lang/String" "value" "[B" .null) (Fc : Fld Z h0 p0 "java/lang/String" "coder" "B" (.int (0 : Int32))) (g0_ : n0 ≤ p0) (As : Arv Z h0 p1 ks .char (2 : Int32) [(.int c0), (.int c1)] (.int (0 : Int32))) (hch : ∀ c ∈ [c0, c1], ¬ c < (0 : Int32) ∧ ¬ (65535 : Int32) < c) (hl_c0 : ¬ (255 : Int32) < c0) (hl_c1 : ¬ (255 : Int32) < c1) :
    MetFree l (⟨"java/lang/String", "<init>", "([C)V"⟩ : MethodName) (head1 (Jvm.Cond.code (⟨"java/lang/String", "<init>", "([C)V"⟩ : MethodName) jdk_42_method_3_code 2 none :: ws) ({ frames := 3, cells := 1, slots := 2, locals := 52 } : Room)) (fun a U => a = #[(.ref p0), (.ref p1)] ∧ Z.Warmed39 U.vm ∧ U.heap = h0) (fun _ _ _ _ _ => True) (fun _ U o U' => ∃ v L, o = .returned v ∧ Q_rmNew2 Z p0 p1 zc fm ks c0 c1 h0 n0 v U'.heap L ∧ FrameEnd U o U' L ({ frames := 3, cells := 1, slots := 2, locals := 52 } : Room).cells ({ frames := 3, cells := 1, slots := 2, locals := 52 } : Room).slots) := by
  refine MetFree.of_bodySF (plainFor_of_name pn_java_lang_String) hisR ?_
  intro p e s m args below meth c s₁ Bd hml0 hP hK
  obtain ⟨rfl, hZ, hh⟩ := hP
  have hx := Bd.exec
  have hby := Bd.bytes
  have hml : c.maxLocals = 2 := hml0
  have hown : s.vm.findClass "java/lang/String" = some m.cls := findClass_of_methodNamed Bd.named
  have hnm := (name_of_methodNamed Bd.named Bd.method).1
  have hZo := hZ
  have howno := hown
  have X0 : Stand p l e ({ frames := 3, cells := 1, slots := 2, locals := 52 } : Room) s m #[(.ref p0), (.ref p1)] below meth c s₁ [] 0 0 := Stand.of_body Bd
  have e0 : s₁.heap = h0 := by rw [← hh, Bd.state]; rfl
  have N0 := Fr.nil n0
  have pre0 : ∀ t, Steps p.tables e below (s₁.setTop (mkF m 0 #[.val (.ref p0), .val (.ref p1)] [])) t → Steps p.tables e below (s₁.setTop (entryFrame m #[(.ref p0), (.ref p1)] 2)) t := fun t k => castTop (ef_rmNew2 m p0 p1 ) k
  obtain ⟨cl1, Ar1, -, S1, N1, -, -⟩ := id As
  obtain ⟨_, _, ⟨T2, L2, k2, n2⟩, -, X2, ⟨Lc2, hQ2, l2, y2, z2⟩, st2⟩ := X0.specialBack hx (y := (⟨"java/lang/String", "<init>", "([CIILjava/lang/Void;)V"⟩ : MethodName)) rfl hown (mvT hZ (hw _ (own_m 7 rfl))) (mvT hZ (hw _ (own_m 8 rfl))) (mvT hZ (hw _ (own_m 10 rfl))) (by decide) (backOf (W := 0) (rmNew4_2 l Z a0 hw [] p0 p1 zc fm ks c0 c1 h0 n0 Z0 hSt Ol E0 Fv Fc g0_ As hch hl_c0 hl_c1) hZ (hw _ (own_m 10 rfl)) (hw _ (own_m 2 rfl)) (by decide) (by decide)) (g := (mkF m 6 #[.val (.ref p0), .val (.ref p1)] [.null, (.int (2 : Int32)), (.int (0 : Int32)), (.ref p1), (.ref p0)])) rfl (by rw [hml]; rfl) (Steps.refl _) (a := p0) (argsL := [(.ref p1), (.int (0 : Int32)), (.int (2 : Int32)), .null]) (rest := []) (lenOf pd___CIILjava_lang_Void__V rfl) rfl (by show 2 * 0 + _ ≤ _; exact Nat.le_of_eq rfl) (hb hby d1_6) (fun _ _ => ⟨rfl, e0, (by decide : 0 + 1 ≤ _), (by decide : 0 + 2 ≤ _)⟩)
  dsimp only [Pt.U, Pt.locs, Pt.cells, Pt.slots] at X2 l2 y2 z2 st2 hQ2
  subst l2 y2 z2
  obtain ⟨rfl, Nq2, K2, hS, hNw⟩ := hQ2
  have N2 := Fr.app N0 Nq2
  have KK2 := (Keep.refl h0 [p0]).trans K2 (allS (Or.inl (own_m 0 rfl)) all0)
  obtain ⟨fs, hr, hrun, hended, hW, hsame⟩ := X2.leave (v := none) (fun _ => rfl)
  refine ⟨_, _, pre0 _ ?_, hrun, hended, _, _, rfl, ?_, ⟨_, rfl⟩, hW, hsame.mono (by decide) (by decide)⟩
  · show Steps p.tables e below (s₁.setTop (mkF m 0 #[.val (.ref p0), .val (.ref p1)] [])) _
    refine XS.aloadN X0.here hx rfl (hb hby d1_0) rfl rfl ?_
    refine XS.aloadN X0.here hx rfl (hb hby d1_1) rfl rfl ?_
    refine XS.iconst X0.here hx rfl (hb hby d1_2) ?_
    refine XS.aloadN X0.here hx rfl (hb hby d1_3) rfl rfl ?_
    show Steps p.tables e below (s₁.setTop (mkF m 4 #[.val (.ref p0), .val (.ref p1)] [(.ref p1), (.int (0 : Int32)), (.ref p1), (.ref p0)])) _
    refine X0.arraylength hx (by rw [e0]; exact Ar1.1) (State.isArrayOf_alike hZ.alike Ar1.2.1) (g := (mkF m 4 #[.val (.ref p0), .val (.ref p1)] [(.ref p1), (.int (0 : Int32)), (.ref p1), (.ref p0)])) rfl rfl (hb hby d1_4) _ ?_
    rw [len_of S1 N1]
    show Steps p.tables e below (s₁.setTop (mkF m 5 #[.val (.ref p0), .val (.ref p1)] [(.int (2 : Int32)), (.int (0 : Int32)), (.ref p1), (.ref p0)])) _
    refine XS.aconstNull X0.here hx rfl (hb hby d1_5) ?_
    show Steps p.tables e below (s₁.setTop (mkF m 6 #[.val (.ref p0), .val (.ref p1)] [.null, (.int (2 : Int32)), (.int (0 : Int32)), (.ref p1), (.ref p0)])) _
    refine st2.trans ?_
    show Steps p.tables e below (T2.setTop (mkF m 9 #[.val (.ref p0), .val (.ref p1)] [])) _
    exact X2.returnOut hx Bd.returns (hb hby d1_9) hr
  · show Q_rmNew2 Z p0 p1 zc fm ks c0 c1 h0 n0 _ T2.heap _
    exact ⟨rfl, N2, KK2, hS, hNw⟩
theorem ef_rmASB0 (m : MethodId) (p0 : Addr) : entryFrame m #[(.ref p0), (.int (16 : Int32))] 2 = mkF m 0 #[.val (.ref p0), .val (.int (16 : Int32))] [] := by first | (simp [entryFrame, mkF, argsToLocals, Value.category]; done) | rfl
theorem d11_0 : decode jdk_68_method_2_code 0 = .ok (.aload_n 0, 1) := by decide +kernel
theorem d11_1 : decode jdk_68_method_2_code 1 = .ok (.invokespecial 3, 3) := by decide +kernel
theorem d11_4 : decode jdk_68_method_2_code 4 = .ok (.getstatic 18, 3) := by decide +kernel
theorem d11_7 : decode jdk_68_method_2_code 7 = .ok (.ifCond .eq 18, 3) := by decide +kernel
theorem d11_10 : decode jdk_68_method_2_code 10 = .ok (.aload_n 0, 1) := by decide +kernel
theorem d11_11 : decode jdk_68_method_2_code 11 = .ok (.iload_n 1, 1) := by decide +kernel
theorem d11_12 : decode jdk_68_method_2_code 12 = .ok (.newarray .byte, 2) := by decide +kernel
theorem d11_14 : decode jdk_68_method_2_code 14 = .ok (.putfield 15, 3) := by decide +kernel
theorem d11_17 : decode jdk_68_method_2_code 17 = .ok (.aload_n 0, 1) := by decide +kernel
theorem d11_18 : decode jdk_68_method_2_code 18 = .ok (.iconst 0, 1) := by decide +kernel
theorem d11_19 : decode jdk_68_method_2_code 19 = .ok (.putfield 22, 3) := by decide +kernel
theorem d11_22 : decode jdk_68_method_2_code 22 = .ok (.goto 16, 3) := by decide +kernel
theorem d11_38 : decode jdk_68_method_2_code 38 = .ok (.return_, 1) := by decide +kernel
def Q_rmASB0 (Z : State) (p0 : Addr) (zc : Int32) (fm : Value) (h0 : Heap) (n0 : Nat) (v : Option Value) (h : Heap) (L : List Loc) : Prop := v = none ∧ Fr n0 L ∧ Keep h0 h [p0] ∧ ∃ (t : Addr) (kb : ClassId), n0 ≤ t ∧ h0.size ≤ t ∧ Fld Z h p0 "java/lang/AbstractStringBuilder" "value" "[B" (.ref t) ∧ Fld Z h p0 "java/lang/AbstractStringBuilder" "coder" "B" (.int (0 : Int32)) ∧ Fld Z h p0 "java/lang/AbstractStringBuilder" "count" "I" (.int (Int32.ofNat ([] : List Int32).length)) ∧ Arv Z h t kb .byte (16 : Int32) (own_nrw ([] : List Int32)) (.int (0 : Int32))
set_option maxRecDepth 65536 in
set_option maxHeartbeats 40000000 in
theorem rmASB0 (l : Launch) (Z : State) (a0 : Array Value) (hw : ∀ d ∈ tables_1, d.before a0 Z = true) (ws : List Jvm.Cond) (p0 : Addr) (zc : Int32) (fm : Value) (h0 : Heap) (n0 : Nat) (Z0 : n0 ≤ h0.size) (hSt : own_St Z zc fm) (Ol : own_Old Z n0 h0) (Eb : Exa Z h0 p0 "java/lang/StringBuilder") (Fbv : Fld Z h0 p0 "java/lang/AbstractStringBuilder" "value" "[B" .null) (Fbc : Fld Z h0 p0 "java/lang/AbstractStringBuilder" "coder" "B" (.int (0 : Int32))) (Fbn : Fld Z h0 p0 "java/lang/AbstractStringBuilder" "count" "I" (.int (0 : Int32))) (gb_ : n0 ≤ p0) :
    MetFree l (⟨"java/lang/AbstractStringBuilder", "<init>", "(I)V"⟩ : MethodName) (head1 (Jvm.Cond.code (⟨"java/lang/AbstractStringBuilder", "<init>", "(I)V"⟩ : MethodName) jdk_68_method_2_code 2 none :: ws) ({ frames := 1, cells := 1, slots := 16, locals := 12 } : Room)) (fun a U => a = #[(.ref p0), (.int (16 : Int32))] ∧ Z.Warmed39 U.vm ∧ U.heap = h0) (fun _ _ _ _ _ => True) (fun _ U o U' => ∃ v L, o = .returned v ∧ Q_rmASB0 Z p0 zc fm h0 n0 v U'.heap L ∧ FrameEnd U o U' L ({ frames := 1, cells := 1, slots := 16, locals := 12 } : Room).cells ({ frames := 1, cells := 1, slots := 16, locals := 12 } : Room).slots) := by
  refine MetFree.of_bodySF (plainFor_of_name pn_java_lang_AbstractStringBuilder) hisR ?_
  intro p e s m args below meth c s₁ Bd hml0 hP hK
  obtain ⟨rfl, hZ, hh⟩ := hP
  have hx := Bd.exec
  have hby := Bd.bytes
  have hml : c.maxLocals = 2 := hml0
  have hown : s.vm.findClass "java/lang/AbstractStringBuilder" = some m.cls := findClass_of_methodNamed Bd.named
  have hnm := (name_of_methodNamed Bd.named Bd.method).1
  have hZo := hZ
  have howno := hown
  have X0 : Stand p l e ({ frames := 1, cells := 1, slots := 16, locals := 12 } : Room) s m #[(.ref p0), (.int (16 : Int32))] below meth c s₁ [] 0 0 := Stand.of_body Bd
  have e0 : s₁.heap = h0 := by rw [← hh, Bd.state]; rfl
  have N0 := Fr.nil n0
  have pre0 : ∀ t, Steps p.tables e below (s₁.setTop (mkF m 0 #[.val (.ref p0), .val (.int (16 : Int32))] [])) t → Steps p.tables e below (s₁.setTop (entryFrame m #[(.ref p0), (.int (16 : Int32))] 2)) t := fun t k => castTop (ef_rmASB0 m p0 ) k
  obtain ⟨T1, X1, e1, st1⟩ := initO X0 hx hZ hown (hw _ (own_m 65 rfl)) (hw _ (own_m 12 rfl)) (hw _ (own_m 13 rfl)) e0 (g := (mkF m 1 #[.val (.ref p0), .val (.int (16 : Int32))] [(.ref p0)])) rfl (by rw [hml]; rfl) rfl (hb hby d11_1) (by decide) (W := 0) (by show 2 * 0 + _ ≤ _; exact Nat.le_of_eq rfl) (by decide)
  obtain ⟨T2, X2, e2, st2⟩ := getS2 X1 hx hZ hown (host := "") (Or.inl (hw _ (own_m 66 rfl))) Via.refl e1 (hSt.1.ext Ol.2) (g := (mkF m 4 #[.val (.ref p0), .val (.int (16 : Int32))] [])) rfl (hb hby d11_4)
  obtain ⟨T3, h3, k3, X3, e3, E3, A3, st3⟩ := newP X2 hx hZ (hw _ (own_m 19 rfl)) e2 (g := (mkF m 12 #[.val (.ref p0), .val (.int (16 : Int32))] [(.int (16 : Int32)), (.ref p0)])) rfl (hb hby d11_12) rfl (by decide) (cap := 16) (by decide) (by decide) (by decide) (by decide)
  obtain ⟨b3, g3⟩ : ∃ z, z = h0.size := ⟨_, rfl⟩
  rw [← g3] at A3 st3
  have ne3_p0 : p0 ≠ b3 := Nat.ne_of_lt (Nat.lt_of_lt_of_le Eb.lt (Nat.le_of_eq g3.symm))
  have ge3 : n0 ≤ b3 := Nat.le_trans Z0 (Nat.le_of_eq g3.symm)
  have sz3 : h0.size ≤ b3 := Nat.le_trans (Keep.refl h0 [p0]).1 (Nat.le_of_eq g3.symm)
  have K3 := (Keep.refl h0 [p0]).ext E3
  have V3 : Arv Z h3 b3 k3 .byte (16 : Int32) [(.int (0 : Int32)), (.int (0 : Int32)), (.int (0 : Int32)), (.int (0 : Int32)), (.int (0 : Int32)), (.int (0 : Int32)), (.int (0 : Int32)), (.int (0 : Int32)), (.int (0 : Int32)), (.int (0 : Int32)), (.int (0 : Int32)), (.int (0 : Int32)), (.int (0 : Int32)), (.int (0 : Int32)), (.int (0 : Int32)), (.int (0 : Int32))] (.int (0 : Int32)) := (Arv.new A3 (by decide)).pad (pad_rep [] (.int (0 : Int32)) 16)
  have f4 := (Eb.ext E3)
  have f5 := (Fbv.ext E3)
  obtain ⟨T6, h6, X6, e6, W6, st6⟩ := putF X3 hx hZ hown (host := "") (Or.inl (hw _ (own_m 67 rfl))) Via.refl e3 f5 f4 (Or.inl (hw _ (own_m 68 rfl))) (hw _ (own_m 54 rfl)) (ty := (.array .byte)) (by decide) rfl rfl (g := (mkF m 14 #[.val (.ref p0), .val (.int (16 : Int32))] [(.ref b3), (.ref p0)])) rfl rfl (hb hby d11_14)
  have Fw6 := f5.same W6
  have N6 := Fr.snoc X6 N0 gb_
  have K6 := K3.wr W6 (Or.inl (own_m 0 rfl))
  have f7 := (f4.wr W6)
  have f8 := ((Fbc.ext E3).other W6 (Or.inr (slot_ne (Or.inl (hw _ (own_m 70 rfl))) (Or.inl (hw _ (own_m 68 rfl))) (by decide) (t := .byte) (t' := (.array .byte)) (by decide) (by decide))))
  obtain ⟨T9, h9, X9, e9, W9, st9⟩ := putFN X6 hx hZ hown (hw _ (own_m 69 rfl)) Via.refl e6 f8 f7 (Or.inl (hw _ (own_m 70 rfl))) (hw _ (own_m 54 rfl)) (ty := .byte) (v' := (.int (0 : Int32))) (by decide) rfl (by decide) (g := (mkF m 19 #[.val (.ref p0), .val (.int (16 : Int32))] [(.int (0 : Int32)), (.ref p0)])) rfl rfl (hb hby d11_19)
  have Fw9 := f8.same W9
  have N9 := Fr.snoc X9 N6 gb_
  have K9 := K6.wr W9 (Or.inl (own_m 0 rfl))
  have f10 := (Fw6.other W9 (Or.inr (slot_ne (Or.inl (hw _ (own_m 68 rfl))) (Or.inl (hw _ (own_m 70 rfl))) (by decide) (t := (.array .byte)) (t' := .byte) (by decide) (by decide))))
  have f11 := (((Fbn.ext E3).other W6 (Or.inr (slot_ne (Or.inl (hw _ (own_m 92 rfl))) (Or.inl (hw _ (own_m 68 rfl))) (by decide) (t := .int) (t' := (.array .byte)) (by decide) (by decide)))).other W9 (Or.inr (slot_ne (Or.inl (hw _ (own_m 92 rfl))) (Or.inl (hw _ (own_m 70 rfl))) (by decide) (t := .int) (t' := .byte) (by decide) (by decide))))
  have f12 := ((V3.other W6 (Ne.symm ne3_p0)).other W9 (Ne.symm ne3_p0))
  obtain ⟨fs, hr, hrun, hended, hW, hsame⟩ := X9.leave (v := none) (fun _ => rfl)
  refine ⟨_, _, pre0 _ ?_, hrun, hended, _, _, rfl, ?_, ⟨_, rfl⟩, hW, hsame.mono (by decide) (by decide)⟩
  · show Steps p.tables e below (s₁.setTop (mkF m 0 #[.val (.ref p0), .val (.int (16 : Int32))] [])) _
    refine XS.aloadN X0.here hx rfl (hb hby d11_0) rfl rfl ?_
    show Steps p.tables e below (s₁.setTop (mkF m 1 #[.val (.ref p0), .val (.int (16 : Int32))] [(.ref p0)])) _
    refine st1 _ ?_
    show Steps p.tables e below (T1.setTop (mkF m 4 #[.val (.ref p0), .val (.int (16 : Int32))] [])) _
    refine st2 _ ?_
    show Steps p.tables e below (T2.setTop (mkF m 7 #[.val (.ref p0), .val (.int (16 : Int32))] [(.int zc)])) _
    refine XS.ifNo X2.here hx rfl (hb hby d11_7) rfl ((if0 _ _).trans (feq hSt.2.1).1) ?_
    refine XS.aloadN X2.here hx rfl (hb hby d11_10) rfl rfl ?_
    refine XS.iloadN X2.here hx rfl (hb hby d11_11) rfl  ?_
    show Steps p.tables e below (T2.setTop (mkF m 12 #[.val (.ref p0), .val (.int (16 : Int32))] [(.int (16 : Int32)), (.ref p0)])) _
    refine st3 _ ?_
    show Steps p.tables e below (T3.setTop (mkF m 14 #[.val (.ref p0), .val (.int (16 : Int32))] [(.ref b3), (.ref p0)])) _
    refine st6 _ ?_
    show Steps p.tables e below (T6.setTop (mkF m 17 #[.val (.ref p0), .val (.int (16 : Int32))] [])) _
    refine XS.aloadN X6.here hx rfl (hb hby d11_17) rfl rfl ?_
    refine XS.iconst X6.here hx rfl (hb hby d11_18) ?_
    show Steps p.tables e below (T6.setTop (mkF m 19 #[.val (.ref p0), .val (.int (16 : Int32))] [(.int (0 : Int32)), (.ref p0)])) _
    refine st9 _ ?_
    show Steps p.tables e below (T9.setTop (mkF m 22 #[.val (.ref p0), .val (.int (16 : Int32))] [])) _
    refine XS.goto X9.here hx rfl (pc0 := 22) (pc' := 38) rfl (hb hby d11_22) (by decide) (by decide) ?_
    show Steps p.tables e below (T9.setTop (mkF m 38 #[.val (.ref p0), .val (.int (16 : Int32))] [])) _
    exact X9.returnOut hx Bd.returns (hb hby d11_38) hr
  · show Q_rmASB0 Z p0 zc fm h0 n0 _ T9.heap _
    rw [e9]
    exact ⟨rfl, N9, K9, b3, k3, ge3, sz3, f10, Fw9, f11, (f12).pad (fun i => (pad_rep [] _ 16 i).symm)⟩
theorem ef_rmSB0 (m : MethodId) (p0 : Addr) : entryFrame m #[(.ref p0)] 1 = mkF m 0 #[.val (.ref p0)] [] := by first | (simp [entryFrame, mkF, argsToLocals, Value.category]; done) | rfl
theorem d10_0 : decode jdk_67_method_1_code 0 = .ok (.aload_n 0, 1) := by decide +kernel
theorem d10_1 : decode jdk_67_method_1_code 1 = .ok (.bipush 16, 2) := by decide +kernel
theorem pd__I_V : parseMethodDescriptor "(I)V" = some ⟨[.int], none⟩ := by decide +kernel
theorem d10_3 : decode jdk_67_method_1_code 3 = .ok (.invokespecial 1, 3) := by decide +kernel
theorem d10_6 : decode jdk_67_method_1_code 6 = .ok (.return_, 1) := by decide +kernel
def Q_rmSB0 (Z : State) (p0 : Addr) (zc : Int32) (fm : Value) (h0 : Heap) (n0 : Nat) (v : Option Value) (h : Heap) (L : List Loc) : Prop := v = none ∧ Fr n0 L ∧ Keep h0 h [p0] ∧ ∃ (t : Addr) (kb : ClassId), n0 ≤ t ∧ h0.size ≤ t ∧ Fld Z h p0 "java/lang/AbstractStringBuilder" "value" "[B" (.ref t) ∧ Fld Z h p0 "java/lang/AbstractStringBuilder" "coder" "B" (.int (0 : Int32)) ∧ Fld Z h p0 "java/lang/AbstractStringBuilder" "count" "I" (.int (Int32.ofNat ([] : List Int32).length)) ∧ Arv Z h t kb .byte (16 : Int32) (own_nrw ([] : List Int32)) (.int (0 : Int32))
set_option maxRecDepth 65536 in
set_option maxHeartbeats 40000000 in
theorem rmSB0 (l : Launch) (Z : State) (a0 : Array Value) (hw : ∀ d ∈ tables_1, d.before a0 Z = true) (ws : List Jvm.Cond) (p0 : Addr) (zc : Int32) (fm : Value) (h0 : Heap) (n0 : Nat) (Z0 : n0 ≤ h0.size) (hSt : own_St Z zc fm) (Ol : own_Old Z n0 h0) (Eb : Exa Z h0 p0 "java/lang/StringBuilder") (Fbv : Fld Z h0 p0 "java/lang/AbstractStringBuilder" "value" "[B" .null) (Fbc : Fld Z h0 p0 "java/lang/AbstractStringBuilder" "coder" "B" (.int (0 : Int32))) (Fbn : Fld Z h0 p0 "java/lang/AbstractStringBuilder" "count" "I" (.int (0 : Int32))) (gb_ : n0 ≤ p0) :
    MetFree l (⟨"java/lang/StringBuilder", "<init>", "()V"⟩ : MethodName) (head1 (Jvm.Cond.code (⟨"java/lang/StringBuilder", "<init>", "()V"⟩ : MethodName) jdk_67_method_1_code 1 none :: ws) ({ frames := 2, cells := 1, slots := 16, locals := 25 } : Room)) (fun a U => a = #[(.ref p0)] ∧ Z.Warmed39 U.vm ∧ U.heap = h0) (fun _ _ _ _ _ => True) (fun _ U o U' => ∃ v L, o = .returned v ∧ Q_rmSB0 Z p0 zc fm h0 n0 v U'.heap L ∧ FrameEnd U o U' L ({ frames := 2, cells := 1, slots := 16, locals := 25 } : Room).cells ({ frames := 2, cells := 1, slots := 16, locals := 25 } : Room).slots) := by
  refine MetFree.of_bodySF (plainFor_of_name pn_java_lang_StringBuilder) hisR ?_
  intro p e s m args below meth c s₁ Bd hml0 hP hK
  obtain ⟨rfl, hZ, hh⟩ := hP
  have hx := Bd.exec
  have hby := Bd.bytes
  have hml : c.maxLocals = 1 := hml0
  have hown : s.vm.findClass "java/lang/StringBuilder" = some m.cls := findClass_of_methodNamed Bd.named
  have hnm := (name_of_methodNamed Bd.named Bd.method).1
  have hZo := hZ
  have howno := hown
  have X0 : Stand p l e ({ frames := 2, cells := 1, slots := 16, locals := 25 } : Room) s m #[(.ref p0)] below meth c s₁ [] 0 0 := Stand.of_body Bd
  have e0 : s₁.heap = h0 := by rw [← hh, Bd.state]; rfl
  have N0 := Fr.nil n0
  have pre0 : ∀ t, Steps p.tables e below (s₁.setTop (mkF m 0 #[.val (.ref p0)] [])) t → Steps p.tables e below (s₁.setTop (entryFrame m #[(.ref p0)] 1)) t := fun t k => castTop (ef_rmSB0 m p0 ) k
  obtain ⟨_, _, ⟨T1, L1, k1, n1⟩, -, X1, ⟨Lc1, hQ1, l1, y1, z1⟩, st1⟩ := X0.specialBack hx (y := (⟨"java/lang/AbstractStringBuilder", "<init>", "(I)V"⟩ : MethodName)) rfl hown (mvT hZ (hw _ (own_m 59 rfl))) (mvT hZ (hw _ (own_m 60 rfl))) (mvT hZ (hw _ (own_m 64 rfl))) (by decide) (backOf (W := 0) (rmASB0 l Z a0 hw [] p0 zc fm  h0 n0 Z0 hSt Ol Eb Fbv Fbc Fbn gb_) hZ (hw _ (own_m 64 rfl)) (hw _ (own_m 63 rfl)) (by decide) (by decide)) (g := (mkF m 3 #[.val (.ref p0)] [(.int (16 : Int32)), (.ref p0)])) rfl (by rw [hml]; rfl) (Steps.refl _) (a := p0) (argsL := [(.int (16 : Int32))]) (rest := []) (lenOf pd__I_V rfl) rfl (by show 2 * 0 + _ ≤ _; exact Nat.le_of_eq rfl) (hb hby d10_3) (fun _ _ => ⟨rfl, e0, (by decide : 0 + 1 ≤ _), (by decide : 0 + 16 ≤ _)⟩)
  dsimp only [Pt.U, Pt.locs, Pt.cells, Pt.slots] at X1 l1 y1 z1 st1 hQ1
  subst l1 y1 z1
  obtain ⟨rfl, Nq1, K1, t_, k_, gt_, zt_, fv_, fc_, fn_, at_⟩ := hQ1
  have N1 := Fr.app N0 Nq1
  have KK1 := (Keep.refl h0 [p0]).trans K1 (allS (Or.inl (own_m 0 rfl)) all0)
  obtain ⟨fs, hr, hrun, hended, hW, hsame⟩ := X1.leave (v := none) (fun _ => rfl)
  refine ⟨_, _, pre0 _ ?_, hrun, hended, _, _, rfl, ?_, ⟨_, rfl⟩, hW, hsame.mono (by decide) (by decide)⟩
  · show Steps p.tables e below (s₁.setTop (mkF m 0 #[.val (.ref p0)] [])) _
    refine XS.aloadN X0.here hx rfl (hb hby d10_0) rfl rfl ?_
    refine XS.bipush X0.here hx rfl (hb hby d10_1) ?_
    show Steps p.tables e below (s₁.setTop (mkF m 3 #[.val (.ref p0)] [(.int (16 : Int32)), (.ref p0)])) _
    refine st1.trans ?_
    show Steps p.tables e below (T1.setTop (mkF m 6 #[.val (.ref p0)] [])) _
    exact X1.returnOut hx Bd.returns (hb hby d10_6) hr
  · show Q_rmSB0 Z p0 zc fm h0 n0 _ T1.heap _
    exact ⟨rfl, N1, KK1, t_, k_, gt_, zt_, fv_, fc_, fn_, at_⟩
theorem ef_rmEns (m : MethodId) (p0 : Addr) (p1 : Int32) : entryFrame m #[(.ref p0), (.int p1)] 3 = mkF m 0 #[.val (.ref p0), .val (.int p1), .unset] [] := by first | (simp [entryFrame, mkF, argsToLocals, Value.category]; done) | rfl
theorem d16_0 : decode jdk_68_method_9_code 0 = .ok (.aload_n 0, 1) := by decide +kernel
theorem d16_1 : decode jdk_68_method_9_code 1 = .ok (.getfield 15, 3) := by decide +kernel
theorem d16_4 : decode jdk_68_method_9_code 4 = .ok (.arraylength, 1) := by decide +kernel
theorem d16_5 : decode jdk_68_method_9_code 5 = .ok (.aload_n 0, 1) := by decide +kernel
theorem d16_6 : decode jdk_68_method_9_code 6 = .ok (.getfield 22, 3) := by decide +kernel
theorem d16_9 : decode jdk_68_method_9_code 9 = .ok (.ishr, 1) := by decide +kernel
theorem d16_10 : decode jdk_68_method_9_code 10 = .ok (.istore_n 2, 1) := by decide +kernel
theorem d16_11 : decode jdk_68_method_9_code 11 = .ok (.iload_n 1, 1) := by decide +kernel
theorem d16_12 : decode jdk_68_method_9_code 12 = .ok (.iload_n 2, 1) := by decide +kernel
theorem d16_13 : decode jdk_68_method_9_code 13 = .ok (.isub, 1) := by decide +kernel
theorem d16_14 : decode jdk_68_method_9_code 14 = .ok (.ifCond .le 24, 3) := by decide +kernel
theorem d16_38 : decode jdk_68_method_9_code 38 = .ok (.return_, 1) := by decide +kernel
def Q_rmEns (Z : State) (p0 : Addr) (p1 : Int32) (zc : Int32) (fm : Value) (t : Addr) (kb : ClassId) (vs : List Value) (h0 : Heap) (n0 : Nat) (v : Option Value) (h : Heap) (L : List Loc) : Prop := v = none ∧ Fr n0 L ∧ h = h0
set_option maxRecDepth 65536 in
set_option maxHeartbeats 40000000 in
theorem rmEns (l : Launch) (Z : State) (a0 : Array Value) (hw : ∀ d ∈ tables_1, d.before a0 Z = true) (ws : List Jvm.Cond) (p0 : Addr) (p1 : Int32) (zc : Int32) (fm : Value) (t : Addr) (kb : ClassId) (vs : List Value) (h0 : Heap) (n0 : Nat) (Z0 : n0 ≤ h0.size) (hSt : own_St Z zc fm) (Ol : own_Old Z n0 h0) (Fbv : Fld Z h0 p0 "java/lang/AbstractStringBuilder" "value" "[B" (.ref t)) (Fbc : Fld Z h0 p0 "java/lang/AbstractStringBuilder" "coder" "B" (.int (0 : Int32))) (Ab : Arv Z h0 t kb .byte (16 : Int32) vs (.int (0 : Int32))) (hcap : ¬ (0 : Int32) < (p1 - ((16 : Int32) >>> ((0 : Int32) &&& 31)))) :
    MetFree l (⟨"java/lang/AbstractStringBuilder", "ensureCapacityInternal", "(I)V"⟩ : MethodName) (head1 (Jvm.Cond.code (⟨"java/lang/AbstractStringBuilder", "ensureCapacityInternal", "(I)V"⟩ : MethodName) jdk_68_method_9_code 3 none :: ws) ({ frames := 0, cells := 0, slots := 0, locals := 0 } : Room)) (fun a U => a = #[(.ref p0), (.int p1)] ∧ Z.Warmed39 U.vm ∧ U.heap = h0) (fun _ _ _ _ _ => True) (fun _ U o U' => ∃ v L, o = .returned v ∧ Q_rmEns Z p0 p1 zc fm t kb vs h0 n0 v U'.heap L ∧ FrameEnd U o U' L ({ frames := 0, cells := 0, slots := 0, locals := 0 } : Room).cells ({ frames := 0, cells := 0, slots := 0, locals := 0 } : Room).slots) := by
  refine MetFree.of_bodySF (plainFor_of_name pn_java_lang_AbstractStringBuilder) hisR ?_
  intro p e s m args below meth c s₁ Bd hml0 hP hK
  obtain ⟨rfl, hZ, hh⟩ := hP
  have hx := Bd.exec
  have hby := Bd.bytes
  have hml : c.maxLocals = 3 := hml0
  have hown : s.vm.findClass "java/lang/AbstractStringBuilder" = some m.cls := findClass_of_methodNamed Bd.named
  have hnm := (name_of_methodNamed Bd.named Bd.method).1
  have hZo := hZ
  have howno := hown
  have X0 : Stand p l e ({ frames := 0, cells := 0, slots := 0, locals := 0 } : Room) s m #[(.ref p0), (.int p1)] below meth c s₁ [] 0 0 := Stand.of_body Bd
  have e0 : s₁.heap = h0 := by rw [← hh, Bd.state]; rfl
  have N0 := Fr.nil n0
  have pre0 : ∀ t, Steps p.tables e below (s₁.setTop (mkF m 0 #[.val (.ref p0), .val (.int p1), .unset] [])) t → Steps p.tables e below (s₁.setTop (entryFrame m #[(.ref p0), (.int p1)] 3)) t := fun t k => castTop (ef_rmEns m p0 p1 ) k
  obtain ⟨T1, X1, e1, st1⟩ := getF X0 hx hZ hown (host := "") (Or.inl (hw _ (own_m 67 rfl))) Via.refl e0 Fbv (g := (mkF m 1 #[.val (.ref p0), .val (.int p1), .unset] [(.ref p0)])) rfl rfl (hb hby d16_1)
  obtain ⟨cl2, Ar2, -, S2, N2, -, -⟩ := id Ab
  obtain ⟨T3, X3, e3, st3⟩ := getF X1 hx hZ hown (host := "") (Or.inl (hw _ (own_m 69 rfl))) Via.refl e1 Fbc (g := (mkF m 6 #[.val (.ref p0), .val (.int p1), .unset] [(.ref p0), (.int (16 : Int32))])) rfl rfl (hb hby d16_6)
  obtain ⟨fs, hr, hrun, hended, hW, hsame⟩ := X3.leave (v := none) (fun _ => rfl)
  refine ⟨_, _, pre0 _ ?_, hrun, hended, _, _, rfl, ?_, ⟨_, rfl⟩, hW, hsame.mono (by decide) (by decide)⟩
  · show Steps p.tables e below (s₁.setTop (mkF m 0 #[.val (.ref p0), .val (.int p1), .unset] [])) _
    refine XS.aloadN X0.here hx rfl (hb hby d16_0) rfl rfl ?_
    show Steps p.tables e below (s₁.setTop (mkF m 1 #[.val (.ref p0), .val (.int p1), .unset] [(.ref p0)])) _
    refine st1 _ ?_
    show Steps p.tables e below (T1.setTop (mkF m 4 #[.val (.ref p0), .val (.int p1), .unset] [(.ref t)])) _
    refine X1.arraylength hx (by rw [e1]; exact Ar2.1) (State.isArrayOf_alike hZ.alike Ar2.2.1) (g := (mkF m 4 #[.val (.ref p0), .val (.int p1), .unset] [(.ref t)])) rfl rfl (hb hby d16_4) _ ?_
    rw [len_of S2 N2]
    show Steps p.tables e below (T1.setTop (mkF m 5 #[.val (.ref p0), .val (.int p1), .unset] [(.int (16 : Int32))])) _
    refine XS.aloadN X1.here hx rfl (hb hby d16_5) rfl rfl ?_
    show Steps p.tables e below (T1.setTop (mkF m 6 #[.val (.ref p0), .val (.int p1), .unset] [(.ref p0), (.int (16 : Int32))])) _
    refine st3 _ ?_
    show Steps p.tables e below (T3.setTop (mkF m 9 #[.val (.ref p0), .val (.int p1), .unset] [(.int (0 : Int32)), (.int (16 : Int32))])) _
    refine XS.ishr X3.here hx rfl (hb hby d16_9) rfl ?_
    refine XS.istoreN X3.here hx rfl (hb hby d16_10) rfl (l' := #[.val (.ref p0), .val (.int p1), .val (.int ((16 : Int32) >>> ((0 : Int32) &&& 31)))]) rfl ?_
    refine XS.iloadN X3.here hx rfl (hb hby d16_11) rfl  ?_
    refine XS.iloadN X3.here hx rfl (hb hby d16_12) rfl  ?_
    refine XS.isub X3.here hx rfl (hb hby d16_13) rfl ?_
    show Steps p.tables e below (T3.setTop (mkF m 14 #[.val (.ref p0), .val (.int p1), .val (.int ((16 : Int32) >>> ((0 : Int32) &&& 31)))] [(.int (p1 - ((16 : Int32) >>> ((0 : Int32) &&& 31))))])) _
    refine XS.ifYes X3.here hx rfl (pc0 := 14) (pc' := 38) rfl (hb hby d16_14) rfl ((if0 _ _).trans (flt hcap).2.2.2) (by decide) (by decide) ?_
    show Steps p.tables e below (T3.setTop (mkF m 38 #[.val (.ref p0), .val (.int p1), .val (.int ((16 : Int32) >>> ((0 : Int32) &&& 31)))] [])) _
    exact X3.returnOut hx Bd.returns (hb hby d16_38) hr
  · show Q_rmEns Z p0 p1 zc fm t kb vs h0 n0 _ T3.heap _
    rw [e3]
    exact ⟨rfl, N0, rfl⟩
theorem ef_rmInf (m : MethodId) (p0 : Addr) (p1 : Addr) : entryFrame m #[(.ref p0), (.ref p1)] 2 = mkF m 0 #[.val (.ref p0), .val (.ref p1)] [] := by first | (simp [entryFrame, mkF, argsToLocals, Value.category]; done) | rfl
theorem d18_0 : decode jdk_68_method_71_code 0 = .ok (.getstatic 18, 3) := by decide +kernel
theorem d18_3 : decode jdk_68_method_71_code 3 = .ok (.ifCond .eq 18, 3) := by decide +kernel
theorem d18_6 : decode jdk_68_method_71_code 6 = .ok (.aload_n 0, 1) := by decide +kernel
theorem d18_7 : decode jdk_68_method_71_code 7 = .ok (.getfield 22, 3) := by decide +kernel
theorem d18_10 : decode jdk_68_method_71_code 10 = .ok (.aload_n 1, 1) := by decide +kernel
theorem d18_11 : decode jdk_68_method_71_code 11 = .ok (.invokevirtual 40, 3) := by decide +kernel
theorem d18_14 : decode jdk_68_method_71_code 14 = .ok (.if_icmp .eq 7, 3) := by decide +kernel
theorem d18_21 : decode jdk_68_method_71_code 21 = .ok (.return_, 1) := by decide +kernel
def Q_rmInf (Z : State) (p0 : Addr) (p1 : Addr) (zc : Int32) (fm : Value) (h0 : Heap) (n0 : Nat) (v : Option Value) (h : Heap) (L : List Loc) : Prop := v = none ∧ Fr n0 L ∧ h = h0
set_option maxRecDepth 65536 in
set_option maxHeartbeats 40000000 in
theorem rmInf (l : Launch) (Z : State) (a0 : Array Value) (hw : ∀ d ∈ tables_1, d.before a0 Z = true) (ws : List Jvm.Cond) (p0 : Addr) (p1 : Addr) (zc : Int32) (fm : Value) (h0 : Heap) (n0 : Nat) (Z0 : n0 ≤ h0.size) (hSt : own_St Z zc fm) (Ol : own_Old Z n0 h0) (Fbc : Fld Z h0 p0 "java/lang/AbstractStringBuilder" "coder" "B" (.int (0 : Int32))) (Es : Exa Z h0 p1 "java/lang/String") (Fsc : Fld Z h0 p1 "java/lang/String" "coder" "B" (.int (0 : Int32))) :
    MetFree l (⟨"java/lang/AbstractStringBuilder", "inflateIfNeededFor", "(Ljava/lang/String;)V"⟩ : MethodName) (head1 (Jvm.Cond.code (⟨"java/lang/AbstractStringBuilder", "inflateIfNeededFor", "(Ljava/lang/String;)V"⟩ : MethodName) jdk_68_method_71_code 2 none :: ws) ({ frames := 1, cells := 0, slots := 0, locals := 13 } : Room)) (fun a U => a = #[(.ref p0), (.ref p1)] ∧ Z.Warmed39 U.vm ∧ U.heap = h0) (fun _ _ _ _ _ => True) (fun _ U o U' => ∃ v L, o = .returned v ∧ Q_rmInf Z p0 p1 zc fm h0 n0 v U'.heap L ∧ FrameEnd U o U' L ({ frames := 1, cells := 0, slots := 0, locals := 13 } : Room).cells ({ frames := 1, cells := 0, slots := 0, locals := 13 } : Room).slots) := by
  refine MetFree.of_bodySF (plainFor_of_name pn_java_lang_AbstractStringBuilder) hisR ?_
  intro p e s m args below meth c s₁ Bd hml0 hP hK
  obtain ⟨rfl, hZ, hh⟩ := hP
  have hx := Bd.exec
  have hby := Bd.bytes
  have hml : c.maxLocals = 2 := hml0
  have hown : s.vm.findClass "java/lang/AbstractStringBuilder" = some m.cls := findClass_of_methodNamed Bd.named
  have hnm := (name_of_methodNamed Bd.named Bd.method).1
  have hZo := hZ
  have howno := hown
  have X0 : Stand p l e ({ frames := 1, cells := 0, slots := 0, locals := 13 } : Room) s m #[(.ref p0), (.ref p1)] below meth c s₁ [] 0 0 := Stand.of_body Bd
  have e0 : s₁.heap = h0 := by rw [← hh, Bd.state]; rfl
  have N0 := Fr.nil n0
  have pre0 : ∀ t, Steps p.tables e below (s₁.setTop (mkF m 0 #[.val (.ref p0), .val (.ref p1)] [])) t → Steps p.tables e below (s₁.setTop (entryFrame m #[(.ref p0), (.ref p1)] 2)) t := fun t k => castTop (ef_rmInf m p0 p1 ) k
  obtain ⟨T1, X1, e1, st1⟩ := getS2 X0 hx hZ hown (host := "") (Or.inl (hw _ (own_m 66 rfl))) Via.refl e0 (hSt.1.ext Ol.2) (g := (mkF m 0 #[.val (.ref p0), .val (.ref p1)] [])) rfl (hb hby d18_0)
  obtain ⟨T2, X2, e2, st2⟩ := getF X1 hx hZ hown (host := "") (Or.inl (hw _ (own_m 69 rfl))) Via.refl e1 Fbc (g := (mkF m 7 #[.val (.ref p0), .val (.ref p1)] [(.ref p0)])) rfl rfl (hb hby d18_7)
  obtain ⟨cq3, kq3, q3a, q3b, q3c⟩ := isOf hZ e2 Es
  obtain ⟨_, _, ⟨T3, L3, k3, n3⟩, -, X3, ⟨Lc3, hQ3, l3, y3, z3⟩, st3⟩ := X2.virtualBack hx (y := (⟨"java/lang/String", "coder", "()B"⟩ : MethodName)) (z := (⟨"java/lang/String", "coder", "()B"⟩ : MethodName)) hown (mvT hZ (hw _ (own_m 108 rfl))) (mvT hZ (hw _ (own_m 87 rfl))) (notFace_of_selects (args := #[]) (mvT hZ (hw _ (own_m 89 rfl)))) (mvT hZ (hw _ (own_m 89 rfl))) (mvT hZ (hw _ (own_m 88 rfl))) (by decide) (backOf (W := 1) (rmCoder l Z a0 hw [] p1 zc fm (0 : Int32) h0 n0 Z0 hSt Ol Fsc (by decide)) hZ (hw _ (own_m 90 rfl)) (hw _ (own_m 2 rfl)) (by decide) (by decide)) q3a q3c (g := (mkF m 11 #[.val (.ref p0), .val (.ref p1)] [(.ref p1), (.int (0 : Int32))])) rfl (by rw [hml]; rfl) (Steps.refl _) (argsL := []) (rest := [(.int (0 : Int32))]) (lenOf pd___B rfl) rfl (by show 2 * 0 + _ ≤ _; exact Nat.le_of_eq rfl) (hb hby d18_11) (fun _ _ => ⟨rfl, e2, (by decide : 0 + 0 ≤ _), (by decide : 0 + 0 ≤ _)⟩)
  dsimp only [Pt.U, Pt.locs, Pt.cells, Pt.slots] at X3 l3 y3 z3 st3 hQ3
  subst l3 y3 z3
  obtain ⟨rfl, Nq3, e3⟩ := hQ3
  have N3 := Fr.app N0 Nq3
  obtain ⟨fs, hr, hrun, hended, hW, hsame⟩ := X3.leave (v := none) (fun _ => rfl)
  refine ⟨_, _, pre0 _ ?_, hrun, hended, _, _, rfl, ?_, ⟨_, rfl⟩, hW, hsame.mono (by decide) (by decide)⟩
  · show Steps p.tables e below (s₁.setTop (mkF m 0 #[.val (.ref p0), .val (.ref p1)] [])) _
    refine st1 _ ?_
    show Steps p.tables e below (T1.setTop (mkF m 3 #[.val (.ref p0), .val (.ref p1)] [(.int zc)])) _
    refine XS.ifNo X1.here hx rfl (hb hby d18_3) rfl ((if0 _ _).trans (feq hSt.2.1).1) ?_
    refine XS.aloadN X1.here hx rfl (hb hby d18_6) rfl rfl ?_
    show Steps p.tables e below (T1.setTop (mkF m 7 #[.val (.ref p0), .val (.ref p1)] [(.ref p0)])) _
    refine st2 _ ?_
    show Steps p.tables e below (T2.setTop (mkF m 10 #[.val (.ref p0), .val (.ref p1)] [(.int (0 : Int32))])) _
    refine XS.aloadN X2.here hx rfl (hb hby d18_10) rfl rfl ?_
    show Steps p.tables e below (T2.setTop (mkF m 11 #[.val (.ref p0), .val (.ref p1)] [(.ref p1), (.int (0 : Int32))])) _
    refine st3.trans ?_
    show Steps p.tables e below (T3.setTop (mkF m 14 #[.val (.ref p0), .val (.ref p1)] [(.int (0 : Int32)), (.int (0 : Int32))])) _
    refine XS.icmpYes X3.here hx rfl (pc0 := 14) (pc' := 21) rfl (hb hby d18_14) rfl (teq (by decide : (0 : Int32) = (0 : Int32))).1 (by decide) (by decide) ?_
    show Steps p.tables e below (T3.setTop (mkF m 21 #[.val (.ref p0), .val (.ref p1)] [])) _
    exact X3.returnOut hx Bd.returns (hb hby d18_21) hr
  · show Q_rmInf Z p0 p1 zc fm h0 n0 _ T3.heap _
    rw [e3]
    exact ⟨rfl, N3, rfl⟩
theorem ef_rmGB (m : MethodId) (p0 : Addr) (p1 : Addr) (p2 : Int32) : entryFrame m #[(.ref p0), (.ref p1), (.int p2), (.int (0 : Int32))] 4 = mkF m 0 #[.val (.ref p0), .val (.ref p1), .val (.int p2), .val (.int (0 : Int32))] [] := by first | (simp [entryFrame, mkF, argsToLocals, Value.category]; done) | rfl
theorem d19_0 : decode jdk_42_method_147_code 0 = .ok (.aload_n 0, 1) := by decide +kernel
theorem d19_1 : decode jdk_42_method_147_code 1 = .ok (.invokevirtual 335, 3) := by decide +kernel
theorem d19_4 : decode jdk_42_method_147_code 4 = .ok (.iload_n 3, 1) := by decide +kernel
theorem d19_5 : decode jdk_42_method_147_code 5 = .ok (.if_icmp .ne 23, 3) := by decide +kernel
theorem d19_8 : decode jdk_42_method_147_code 8 = .ok (.aload_n 0, 1) := by decide +kernel
theorem d19_9 : decode jdk_42_method_147_code 9 = .ok (.getfield 9, 3) := by decide +kernel
theorem d19_12 : decode jdk_42_method_147_code 12 = .ok (.iconst 0, 1) := by decide +kernel
theorem d19_13 : decode jdk_42_method_147_code 13 = .ok (.aload_n 1, 1) := by decide +kernel
theorem d19_14 : decode jdk_42_method_147_code 14 = .ok (.iload_n 2, 1) := by decide +kernel
theorem d19_15 : decode jdk_42_method_147_code 15 = .ok (.iload_n 3, 1) := by decide +kernel
theorem d19_16 : decode jdk_42_method_147_code 16 = .ok (.ishl, 1) := by decide +kernel
theorem d19_17 : decode jdk_42_method_147_code 17 = .ok (.aload_n 0, 1) := by decide +kernel
theorem d19_18 : decode jdk_42_method_147_code 18 = .ok (.getfield 9, 3) := by decide +kernel
theorem d19_21 : decode jdk_42_method_147_code 21 = .ok (.arraylength, 1) := by decide +kernel
theorem d19_22 : decode jdk_42_method_147_code 22 = .ok (.invokestatic 212, 3) := by decide +kernel
theorem d19_25 : decode jdk_42_method_147_code 25 = .ok (.goto 18, 3) := by decide +kernel
theorem d19_43 : decode jdk_42_method_147_code 43 = .ok (.return_, 1) := by decide +kernel
def Q_rmGB (Z : State) (p0 : Addr) (p1 : Addr) (p2 : Int32) (zc : Int32) (fm : Value) (ts : Addr) (ks : ClassId) (cs : List Int32) (kb : ClassId) (bs : List Int32) (h0 : Heap) (n0 : Nat) (v : Option Value) (h : Heap) (L : List Loc) : Prop := v = none ∧ Fr n0 L ∧ Keep h0 h [p1] ∧ Arv Z h p1 kb .byte (16 : Int32) (own_nrw (bs ++ cs)) (.int (0 : Int32))
set_option maxRecDepth 65536 in
set_option maxHeartbeats 40000000 in
theorem rmGB (l : Launch) (Z : State) (a0 : Array Value) (hw : ∀ d ∈ tables_1, d.before a0 Z = true) (ws : List Jvm.Cond) (p0 : Addr) (p1 : Addr) (p2 : Int32) (zc : Int32) (fm : Value) (ts : Addr) (ks : ClassId) (cs : List Int32) (kb : ClassId) (bs : List Int32) (h0 : Heap) (n0 : Nat) (Z0 : n0 ≤ h0.size) (hSt : own_St Z zc fm) (Ol : own_Old Z n0 h0) (Es : Exa Z h0 p0 "java/lang/String") (Fsv : Fld Z h0 p0 "java/lang/String" "value" "[B" (.ref ts)) (Fsc : Fld Z h0 p0 "java/lang/String" "coder" "B" (.int (0 : Int32))) (As : Arv Z h0 ts ks .byte (Int32.ofNat cs.length) (own_nrw cs) (.int (0 : Int32))) (hle : ∀ c ∈ cs, ¬ (255 : Int32) < c) (hch : own_Chs cs) (Ab : Arv Z h0 p1 kb .byte (16 : Int32) (own_nrw bs) (.int (0 : Int32))) (gt_ : n0 ≤ p1) (hp2 : p2 = (Int32.ofNat bs.length)) (hfit : bs.length + cs.length ≤ 16) :
    MetFree l (⟨"java/lang/String", "getBytes", "([BIB)V"⟩ : MethodName) (head1 (Jvm.Cond.code (⟨"java/lang/String", "getBytes", "([BIB)V"⟩ : MethodName) jdk_42_method_147_code 4 none :: ws) ({ frames := 1, cells := 0, slots := 0, locals := 18 } : Room)) (fun a U => a = #[(.ref p0), (.ref p1), (.int p2), (.int (0 : Int32))] ∧ Z.Warmed39 U.vm ∧ U.heap = h0) (fun _ _ _ _ _ => True) (fun _ U o U' => ∃ v L, o = .returned v ∧ Q_rmGB Z p0 p1 p2 zc fm ts ks cs kb bs h0 n0 v U'.heap L ∧ FrameEnd U o U' L ({ frames := 1, cells := 0, slots := 0, locals := 18 } : Room).cells ({ frames := 1, cells := 0, slots := 0, locals := 18 } : Room).slots) := by
  refine MetFree.of_bodySF (plainFor_of_name pn_java_lang_String) hisR ?_
  intro p e s m args below meth c s₁ Bd hml0 hP hK
  obtain ⟨rfl, hZ, hh⟩ := hP
  have hx := Bd.exec
  have hby := Bd.bytes
  have hml : c.maxLocals = 4 := hml0
  have hown : s.vm.findClass "java/lang/String" = some m.cls := findClass_of_methodNamed Bd.named
  have hnm := (name_of_methodNamed Bd.named Bd.method).1
  have hZo := hZ
  have howno := hown
  have X0 : Stand p l e ({ frames := 1, cells := 0, slots := 0, locals := 18 } : Room) s m #[(.ref p0), (.ref p1), (.int p2), (.int (0 : Int32))] below meth c s₁ [] 0 0 := Stand.of_body Bd
  have e0 : s₁.heap = h0 := by rw [← hh, Bd.state]; rfl
  have N0 := Fr.nil n0
  have pre0 : ∀ t, Steps p.tables e below (s₁.setTop (mkF m 0 #[.val (.ref p0), .val (.ref p1), .val (.int p2), .val (.int (0 : Int32))] [])) t → Steps p.tables e below (s₁.setTop (entryFrame m #[(.ref p0), (.ref p1), (.int p2), (.int (0 : Int32))] 4)) t := fun t k => castTop (ef_rmGB m p0 p1 p2 ) k
  obtain ⟨cq1, kq1, q1a, q1b, q1c⟩ := isOf hZ e0 Es
  obtain ⟨_, _, ⟨T1, L1, k1, n1⟩, -, X1, ⟨Lc1, hQ1, l1, y1, z1⟩, st1⟩ := X0.virtualBack hx (y := (⟨"java/lang/String", "coder", "()B"⟩ : MethodName)) (z := (⟨"java/lang/String", "coder", "()B"⟩ : MethodName)) hown (mvT hZ (hw _ (own_m 86 rfl))) (mvT hZ (hw _ (own_m 87 rfl))) (notFace_of_selects (args := #[]) (mvT hZ (hw _ (own_m 89 rfl)))) (mvT hZ (hw _ (own_m 89 rfl))) (mvT hZ (hw _ (own_m 88 rfl))) (by decide) (backOf (W := 0) (rmCoder l Z a0 hw [] p0 zc fm (0 : Int32) h0 n0 Z0 hSt Ol Fsc (by decide)) hZ (hw _ (own_m 90 rfl)) (hw _ (own_m 2 rfl)) (by decide) (by decide)) q1a q1c (g := (mkF m 1 #[.val (.ref p0), .val (.ref p1), .val (.int p2), .val (.int (0 : Int32))] [(.ref p0)])) rfl (by rw [hml]; rfl) (Steps.refl _) (argsL := []) (rest := []) (lenOf pd___B rfl) rfl (by show 2 * 0 + _ ≤ _; exact Nat.le_of_eq rfl) (hb hby d19_1) (fun _ _ => ⟨rfl, e0, (by decide : 0 + 0 ≤ _), (by decide : 0 + 0 ≤ _)⟩)
  dsimp only [Pt.U, Pt.locs, Pt.cells, Pt.slots] at X1 l1 y1 z1 st1 hQ1
  subst l1 y1 z1
  obtain ⟨rfl, Nq1, e1⟩ := hQ1
  have N1 := Fr.app N0 Nq1
  obtain ⟨T2, X2, e2, st2⟩ := getF X1 hx hZ hown (host := "") (Or.inl (hw _ (own_m 28 rfl))) Via.refl e1 Fsv (g := (mkF m 9 #[.val (.ref p0), .val (.ref p1), .val (.int p2), .val (.int (0 : Int32))] [(.ref p0)])) rfl rfl (hb hby d19_9)
  obtain ⟨T3, X3, e3, st3⟩ := getF X2 hx hZ hown (host := "") (Or.inl (hw _ (own_m 28 rfl))) Via.refl e2 Fsv (g := (mkF m 18 #[.val (.ref p0), .val (.ref p1), .val (.int p2), .val (.int (0 : Int32))] [(.ref p0), (.int (p2 <<< ((0 : Int32) &&& 31))), (.ref p1), (.int (0 : Int32)), (.ref ts)])) rfl rfl (hb hby d19_18)
  obtain ⟨cl4, Ar4, -, S4, N4, -, -⟩ := id As
  have hd_ := own_dp hp2 (by omega)
  have hc_ := own_pos (n := cs.length) (by omega)
  obtain ⟨T5, h5, L5, X5, e5, N5, K5, V5, st5⟩ := cpA X3 hx hZ hown (hw _ (own_m 114 rfl)) (hw _ (own_m 117 rfl)) (hw _ (own_m 115 rfl)) (hw _ (own_m 116 rfl)) e3 As (Ab.pad (pad_rep _ _ 16)) (Or.inl ⟨rfl, rfl⟩) (by decide) hd_.1 hc_.1 (by rw [hc_.2]; simp) (by rw [hd_.2, hc_.2]; exact hfit) (us := own_nrw cs) (own_rng (by omega)) (by rw [hd_.2, hc_.2, List.length_append, List.length_replicate, own_nlen]; omega) N1 gt_ (g := (mkF m 22 #[.val (.ref p0), .val (.ref p1), .val (.int p2), .val (.int (0 : Int32))] [(.int (Int32.ofNat cs.length)), (.int (p2 <<< ((0 : Int32) &&& 31))), (.ref p1), (.int (0 : Int32)), (.ref ts)])) rfl (by rw [hml]; rfl) (rest := []) rfl (hb hby d19_22) (by decide) (W := 0) (by show 2 * 0 + _ ≤ _; exact Nat.le_of_eq rfl) (by decide)
  have KK5 := (Keep.refl h0 [p1]).trans K5 (allS (Or.inl (own_m 0 rfl)) all0)
  have W5 := own_app (bs := bs) (cs := cs) hd_.2 hc_.2 V5
  obtain ⟨fs, hr, hrun, hended, hW, hsame⟩ := X5.leave (v := none) (fun _ => rfl)
  refine ⟨_, _, pre0 _ ?_, hrun, hended, _, _, rfl, ?_, ⟨_, rfl⟩, hW, hsame.mono (by decide) (by decide)⟩
  · show Steps p.tables e below (s₁.setTop (mkF m 0 #[.val (.ref p0), .val (.ref p1), .val (.int p2), .val (.int (0 : Int32))] [])) _
    refine XS.aloadN X0.here hx rfl (hb hby d19_0) rfl rfl ?_
    show Steps p.tables e below (s₁.setTop (mkF m 1 #[.val (.ref p0), .val (.ref p1), .val (.int p2), .val (.int (0 : Int32))] [(.ref p0)])) _
    refine st1.trans ?_
    show Steps p.tables e below (T1.setTop (mkF m 4 #[.val (.ref p0), .val (.ref p1), .val (.int p2), .val (.int (0 : Int32))] [(.int (0 : Int32))])) _
    refine XS.iloadN X1.here hx rfl (hb hby d19_4) rfl  ?_
    show Steps p.tables e below (T1.setTop (mkF m 5 #[.val (.ref p0), .val (.ref p1), .val (.int p2), .val (.int (0 : Int32))] [(.int (0 : Int32)), (.int (0 : Int32))])) _
    refine XS.icmpNo X1.here hx rfl (hb hby d19_5) rfl (teq (by decide : (0 : Int32) = (0 : Int32))).2 ?_
    refine XS.aloadN X1.here hx rfl (hb hby d19_8) rfl rfl ?_
    show Steps p.tables e below (T1.setTop (mkF m 9 #[.val (.ref p0), .val (.ref p1), .val (.int p2), .val (.int (0 : Int32))] [(.ref p0)])) _
    refine st2 _ ?_
    show Steps p.tables e below (T2.setTop (mkF m 12 #[.val (.ref p0), .val (.ref p1), .val (.int p2), .val (.int (0 : Int32))] [(.ref ts)])) _
    refine XS.iconst X2.here hx rfl (hb hby d19_12) ?_
    refine XS.aloadN X2.here hx rfl (hb hby d19_13) rfl rfl ?_
    refine XS.iloadN X2.here hx rfl (hb hby d19_14) rfl  ?_
    refine XS.iloadN X2.here hx rfl (hb hby d19_15) rfl  ?_
    refine XS.ishl X2.here hx rfl (hb hby d19_16) rfl ?_
    refine XS.aloadN X2.here hx rfl (hb hby d19_17) rfl rfl ?_
    show Steps p.tables e below (T2.setTop (mkF m 18 #[.val (.ref p0), .val (.ref p1), .val (.int p2), .val (.int (0 : Int32))] [(.ref p0), (.int (p2 <<< ((0 : Int32) &&& 31))), (.ref p1), (.int (0 : Int32)), (.ref ts)])) _
    refine st3 _ ?_
    show Steps p.tables e below (T3.setTop (mkF m 21 #[.val (.ref p0), .val (.ref p1), .val (.int p2), .val (.int (0 : Int32))] [(.ref ts), (.int (p2 <<< ((0 : Int32) &&& 31))), (.ref p1), (.int (0 : Int32)), (.ref ts)])) _
    refine X3.arraylength hx (by rw [e3]; exact Ar4.1) (State.isArrayOf_alike hZ.alike Ar4.2.1) (g := (mkF m 21 #[.val (.ref p0), .val (.ref p1), .val (.int p2), .val (.int (0 : Int32))] [(.ref ts), (.int (p2 <<< ((0 : Int32) &&& 31))), (.ref p1), (.int (0 : Int32)), (.ref ts)])) rfl rfl (hb hby d19_21) _ ?_
    rw [len_of S4 N4]
    show Steps p.tables e below (T3.setTop (mkF m 22 #[.val (.ref p0), .val (.ref p1), .val (.int p2), .val (.int (0 : Int32))] [(.int (Int32.ofNat cs.length)), (.int (p2 <<< ((0 : Int32) &&& 31))), (.ref p1), (.int (0 : Int32)), (.ref ts)])) _
    refine st5 _ ?_
    show Steps p.tables e below (T5.setTop (mkF m 25 #[.val (.ref p0), .val (.ref p1), .val (.int p2), .val (.int (0 : Int32))] [])) _
    refine XS.goto X5.here hx rfl (pc0 := 25) (pc' := 43) rfl (hb hby d19_25) (by decide) (by decide) ?_
    show Steps p.tables e below (T5.setTop (mkF m 43 #[.val (.ref p0), .val (.ref p1), .val (.int p2), .val (.int (0 : Int32))] [])) _
    exact X5.returnOut hx Bd.returns (hb hby d19_43) hr
  · show Q_rmGB Z p0 p1 p2 zc fm ts ks cs kb bs h0 n0 _ T5.heap _
    rw [e5]
    exact ⟨rfl, N5, KK5, W5⟩
theorem ef_rmPSA (m : MethodId) (p0 : Addr) (p1 : Int32) (p2 : Addr) : entryFrame m #[(.ref p0), (.int p1), (.ref p2)] 3 = mkF m 0 #[.val (.ref p0), .val (.int p1), .val (.ref p2)] [] := by first | (simp [entryFrame, mkF, argsToLocals, Value.category]; done) | rfl
theorem d17_0 : decode jdk_68_method_73_code 0 = .ok (.aload_n 0, 1) := by decide +kernel
theorem d17_1 : decode jdk_68_method_73_code 1 = .ok (.aload_n 2, 1) := by decide +kernel
theorem pd__Ljava_lang_String__V : parseMethodDescriptor "(Ljava/lang/String;)V" = some ⟨[(.object "java/lang/String")], none⟩ := by decide +kernel
theorem d17_2 : decode jdk_68_method_73_code 2 = .ok (.invokevirtual 397, 3) := by decide +kernel
theorem d17_5 : decode jdk_68_method_73_code 5 = .ok (.aload_n 2, 1) := by decide +kernel
theorem d17_6 : decode jdk_68_method_73_code 6 = .ok (.aload_n 0, 1) := by decide +kernel
theorem d17_7 : decode jdk_68_method_73_code 7 = .ok (.getfield 15, 3) := by decide +kernel
theorem d17_10 : decode jdk_68_method_73_code 10 = .ok (.iload_n 1, 1) := by decide +kernel
theorem d17_11 : decode jdk_68_method_73_code 11 = .ok (.aload_n 0, 1) := by decide +kernel
theorem d17_12 : decode jdk_68_method_73_code 12 = .ok (.getfield 22, 3) := by decide +kernel
theorem pd___BIB_V : parseMethodDescriptor "([BIB)V" = some ⟨[(.array .byte), .int, .byte], none⟩ := by decide +kernel
theorem d17_15 : decode jdk_68_method_73_code 15 = .ok (.invokevirtual 399, 3) := by decide +kernel
theorem d17_18 : decode jdk_68_method_73_code 18 = .ok (.return_, 1) := by decide +kernel
def Q_rmPSA (Z : State) (p0 : Addr) (p1 : Int32) (p2 : Addr) (zc : Int32) (fm : Value) (ts : Addr) (ks : ClassId) (cs : List Int32) (t : Addr) (kb : ClassId) (bs : List Int32) (h0 : Heap) (n0 : Nat) (v : Option Value) (h : Heap) (L : List Loc) : Prop := v = none ∧ Fr n0 L ∧ Keep h0 h [t] ∧ Arv Z h t kb .byte (16 : Int32) (own_nrw (bs ++ cs)) (.int (0 : Int32))
set_option maxRecDepth 65536 in
set_option maxHeartbeats 40000000 in
theorem rmPSA (l : Launch) (Z : State) (a0 : Array Value) (hw : ∀ d ∈ tables_1, d.before a0 Z = true) (ws : List Jvm.Cond) (p0 : Addr) (p1 : Int32) (p2 : Addr) (zc : Int32) (fm : Value) (ts : Addr) (ks : ClassId) (cs : List Int32) (t : Addr) (kb : ClassId) (bs : List Int32) (h0 : Heap) (n0 : Nat) (Z0 : n0 ≤ h0.size) (hSt : own_St Z zc fm) (Ol : own_Old Z n0 h0) (Es : Exa Z h0 p2 "java/lang/String") (Fsv : Fld Z h0 p2 "java/lang/String" "value" "[B" (.ref ts)) (Fsc : Fld Z h0 p2 "java/lang/String" "coder" "B" (.int (0 : Int32))) (As : Arv Z h0 ts ks .byte (Int32.ofNat cs.length) (own_nrw cs) (.int (0 : Int32))) (hle : ∀ c ∈ cs, ¬ (255 : Int32) < c) (hch : own_Chs cs) (Eb : Exa Z h0 p0 "java/lang/StringBuilder") (Fbv : Fld Z h0 p0 "java/lang/AbstractStringBuilder" "value" "[B" (.ref t)) (Fbc : Fld Z h0 p0 "java/lang/AbstractStringBuilder" "coder" "B" (.int (0 : Int32))) (Fbn : Fld Z h0 p0 "java/lang/AbstractStringBuilder" "count" "I" (.int (Int32.ofNat bs.length))) (Ab : Arv Z h0 t kb .byte (16 : Int32) (own_nrw bs) (.int (0 : Int32))) (gb_ : n0 ≤ p0) (gt_ : n0 ≤ t) (npt : p0 ≠ t) (hp1 : p1 = (Int32.ofNat bs.length)) (hfit : bs.length + cs.length ≤ 16) :
    MetFree l (⟨"java/lang/AbstractStringBuilder", "putStringAt", "(ILjava/lang/String;)V"⟩ : MethodName) (head1 (Jvm.Cond.code (⟨"java/lang/AbstractStringBuilder", "putStringAt", "(ILjava/lang/String;)V"⟩ : MethodName) jdk_68_method_73_code 3 none :: ws) ({ frames := 2, cells := 0, slots := 0, locals := 33 } : Room)) (fun a U => a = #[(.ref p0), (.int p1), (.ref p2)] ∧ Z.Warmed39 U.vm ∧ U.heap = h0) (fun _ _ _ _ _ => True) (fun _ U o U' => ∃ v L, o = .returned v ∧ Q_rmPSA Z p0 p1 p2 zc fm ts ks cs t kb bs h0 n0 v U'.heap L ∧ FrameEnd U o U' L ({ frames := 2, cells := 0, slots := 0, locals := 33 } : Room).cells ({ frames := 2, cells := 0, slots := 0, locals := 33 } : Room).slots) := by
  refine MetFree.of_bodySF (plainFor_of_name pn_java_lang_AbstractStringBuilder) hisR ?_
  intro p e s m args below meth c s₁ Bd hml0 hP hK
  obtain ⟨rfl, hZ, hh⟩ := hP
  have hx := Bd.exec
  have hby := Bd.bytes
  have hml : c.maxLocals = 3 := hml0
  have hown : s.vm.findClass "java/lang/AbstractStringBuilder" = some m.cls := findClass_of_methodNamed Bd.named
  have hnm := (name_of_methodNamed Bd.named Bd.method).1
  have hZo := hZ
  have howno := hown
  have X0 : Stand p l e ({ frames := 2, cells := 0, slots := 0, locals := 33 } : Room) s m #[(.ref p0), (.int p1), (.ref p2)] below meth c s₁ [] 0 0 := Stand.of_body Bd
  have e0 : s₁.heap = h0 := by rw [← hh, Bd.state]; rfl
  have N0 := Fr.nil n0
  have pre0 : ∀ t, Steps p.tables e below (s₁.setTop (mkF m 0 #[.val (.ref p0), .val (.int p1), .val (.ref p2)] [])) t → Steps p.tables e below (s₁.setTop (entryFrame m #[(.ref p0), (.int p1), (.ref p2)] 3)) t := fun t k => castTop (ef_rmPSA m p0 p1 p2 ) k
  obtain ⟨cq1, kq1, q1a, q1b, q1c⟩ := isOf hZ e0 Eb
  obtain ⟨_, _, ⟨T1, L1, k1, n1⟩, -, X1, ⟨Lc1, hQ1, l1, y1, z1⟩, st1⟩ := X0.virtualBack hx (y := (⟨"java/lang/AbstractStringBuilder", "inflateIfNeededFor", "(Ljava/lang/String;)V"⟩ : MethodName)) (z := (⟨"java/lang/AbstractStringBuilder", "inflateIfNeededFor", "(Ljava/lang/String;)V"⟩ : MethodName)) hown (mvT hZ (hw _ (own_m 103 rfl))) (mvT hZ (own_decl (hw _ (own_m 104 rfl)) (hw _ (own_m 107 rfl)))) (notFace_of_selects (args := #[]) (mvT hZ (hw _ (own_m 106 rfl)))) (mvT hZ (hw _ (own_m 106 rfl))) (mvT hZ (hw _ (own_m 104 rfl))) (by decide) (backOf (W := 0) (rmInf l Z a0 hw [] p0 p2 zc fm  h0 n0 Z0 hSt Ol Fbc Es Fsc) hZ (hw _ (own_m 107 rfl)) (hw _ (own_m 63 rfl)) (by decide) (by decide)) q1a q1c (g := (mkF m 2 #[.val (.ref p0), .val (.int p1), .val (.ref p2)] [(.ref p2), (.ref p0)])) rfl (by rw [hml]; rfl) (Steps.refl _) (argsL := [(.ref p2)]) (rest := []) (lenOf pd__Ljava_lang_String__V rfl) rfl (by show 2 * 0 + _ ≤ _; exact Nat.le_of_eq rfl) (hb hby d17_2) (fun _ _ => ⟨rfl, e0, (by decide : 0 + 0 ≤ _), (by decide : 0 + 0 ≤ _)⟩)
  dsimp only [Pt.U, Pt.locs, Pt.cells, Pt.slots] at X1 l1 y1 z1 st1 hQ1
  subst l1 y1 z1
  obtain ⟨rfl, Nq1, e1⟩ := hQ1
  have N1 := Fr.app N0 Nq1
  obtain ⟨T2, X2, e2, st2⟩ := getF X1 hx hZ hown (host := "") (Or.inl (hw _ (own_m 67 rfl))) Via.refl e1 Fbv (g := (mkF m 7 #[.val (.ref p0), .val (.int p1), .val (.ref p2)] [(.ref p0), (.ref p2)])) rfl rfl (hb hby d17_7)
  obtain ⟨T3, X3, e3, st3⟩ := getF X2 hx hZ hown (host := "") (Or.inl (hw _ (own_m 69 rfl))) Via.refl e2 Fbc (g := (mkF m 12 #[.val (.ref p0), .val (.int p1), .val (.ref p2)] [(.ref p0), (.int p1), (.ref t), (.ref p2)])) rfl rfl (hb hby d17_12)
  obtain ⟨cq4, kq4, q4a, q4b, q4c⟩ := isOf hZ e3 Es
  obtain ⟨_, _, ⟨T4, L4, k4, n4⟩, -, X4, ⟨Lc4, hQ4, l4, y4, z4⟩, st4⟩ := X3.virtualBack hx (y := (⟨"java/lang/String", "getBytes", "([BIB)V"⟩ : MethodName)) (z := (⟨"java/lang/String", "getBytes", "([BIB)V"⟩ : MethodName)) hown (mvT hZ (hw _ (own_m 109 rfl))) (mvT hZ (hw _ (own_m 110 rfl))) (notFace_of_selects (args := #[]) (mvT hZ (hw _ (own_m 112 rfl)))) (mvT hZ (hw _ (own_m 112 rfl))) (mvT hZ (hw _ (own_m 111 rfl))) (by decide) (backOf (W := 0) (rmGB l Z a0 hw [] p2 t p1 zc fm ts ks cs kb bs h0 n0 Z0 hSt Ol Es Fsv Fsc As hle hch Ab gt_ hp1 hfit) hZ (hw _ (own_m 113 rfl)) (hw _ (own_m 2 rfl)) (by decide) (by decide)) q4a q4c (g := (mkF m 15 #[.val (.ref p0), .val (.int p1), .val (.ref p2)] [(.int (0 : Int32)), (.int p1), (.ref t), (.ref p2)])) rfl (by rw [hml]; rfl) (Steps.refl _) (argsL := [(.ref t), (.int p1), (.int (0 : Int32))]) (rest := []) (lenOf pd___BIB_V rfl) rfl (by show 2 * 0 + _ ≤ _; exact Nat.le_of_eq rfl) (hb hby d17_15) (fun _ _ => ⟨rfl, e3, (by decide : 0 + 0 ≤ _), (by decide : 0 + 0 ≤ _)⟩)
  dsimp only [Pt.U, Pt.locs, Pt.cells, Pt.slots] at X4 l4 y4 z4 st4 hQ4
  subst l4 y4 z4
  obtain ⟨rfl, Nq4, K4, at_⟩ := hQ4
  have N4 := Fr.app N1 Nq4
  have KK4 := (Keep.refl h0 [t]).trans K4 (allS (Or.inl (own_m 0 rfl)) all0)
  obtain ⟨fs, hr, hrun, hended, hW, hsame⟩ := X4.leave (v := none) (fun _ => rfl)
  refine ⟨_, _, pre0 _ ?_, hrun, hended, _, _, rfl, ?_, ⟨_, rfl⟩, hW, hsame.mono (by decide) (by decide)⟩
  · show Steps p.tables e below (s₁.setTop (mkF m 0 #[.val (.ref p0), .val (.int p1), .val (.ref p2)] [])) _
    refine XS.aloadN X0.here hx rfl (hb hby d17_0) rfl rfl ?_
    refine XS.aloadN X0.here hx rfl (hb hby d17_1) rfl rfl ?_
    show Steps p.tables e below (s₁.setTop (mkF m 2 #[.val (.ref p0), .val (.int p1), .val (.ref p2)] [(.ref p2), (.ref p0)])) _
    refine st1.trans ?_
    show Steps p.tables e below (T1.setTop (mkF m 5 #[.val (.ref p0), .val (.int p1), .val (.ref p2)] [])) _
    refine XS.aloadN X1.here hx rfl (hb hby d17_5) rfl rfl ?_
    refine XS.aloadN X1.here hx rfl (hb hby d17_6) rfl rfl ?_
    show Steps p.tables e below (T1.setTop (mkF m 7 #[.val (.ref p0), .val (.int p1), .val (.ref p2)] [(.ref p0), (.ref p2)])) _
    refine st2 _ ?_
    show Steps p.tables e below (T2.setTop (mkF m 10 #[.val (.ref p0), .val (.int p1), .val (.ref p2)] [(.ref t), (.ref p2)])) _
    refine XS.iloadN X2.here hx rfl (hb hby d17_10) rfl  ?_
    refine XS.aloadN X2.here hx rfl (hb hby d17_11) rfl rfl ?_
    show Steps p.tables e below (T2.setTop (mkF m 12 #[.val (.ref p0), .val (.int p1), .val (.ref p2)] [(.ref p0), (.int p1), (.ref t), (.ref p2)])) _
    refine st3 _ ?_
    show Steps p.tables e below (T3.setTop (mkF m 15 #[.val (.ref p0), .val (.int p1), .val (.ref p2)] [(.int (0 : Int32)), (.int p1), (.ref t), (.ref p2)])) _
    refine st4.trans ?_
    show Steps p.tables e below (T4.setTop (mkF m 18 #[.val (.ref p0), .val (.int p1), .val (.ref p2)] [])) _
    exact X4.returnOut hx Bd.returns (hb hby d17_18) hr
  · show Q_rmPSA Z p0 p1 p2 zc fm ts ks cs t kb bs h0 n0 _ T4.heap _
    exact ⟨rfl, N4, KK4, at_⟩
theorem ef_rmAppS (m : MethodId) (p0 : Addr) (p1 : Addr) : entryFrame m #[(.ref p0), (.ref p1)] 3 = mkF m 0 #[.val (.ref p0), .val (.ref p1), .unset] [] := by first | (simp [entryFrame, mkF, argsToLocals, Value.category]; done) | rfl
theorem d13_0 : decode jdk_68_method_22_code 0 = .ok (.aload_n 1, 1) := by decide +kernel
theorem d13_1 : decode jdk_68_method_22_code 1 = .ok (.ifnonnull 8, 3) := by decide +kernel
theorem d13_9 : decode jdk_68_method_22_code 9 = .ok (.aload_n 1, 1) := by decide +kernel
theorem pd___I : parseMethodDescriptor "()I" = some ⟨[], some .int⟩ := by decide +kernel
theorem d13_10 : decode jdk_68_method_22_code 10 = .ok (.invokevirtual 32, 3) := by decide +kernel
theorem d13_13 : decode jdk_68_method_22_code 13 = .ok (.istore_n 2, 1) := by decide +kernel
theorem d13_14 : decode jdk_68_method_22_code 14 = .ok (.aload_n 0, 1) := by decide +kernel
theorem d13_15 : decode jdk_68_method_22_code 15 = .ok (.aload_n 0, 1) := by decide +kernel
theorem d13_16 : decode jdk_68_method_22_code 16 = .ok (.getfield 79, 3) := by decide +kernel
theorem d13_19 : decode jdk_68_method_22_code 19 = .ok (.iload_n 2, 1) := by decide +kernel
theorem d13_20 : decode jdk_68_method_22_code 20 = .ok (.iadd, 1) := by decide +kernel
theorem d13_21 : decode jdk_68_method_22_code 21 = .ok (.invokevirtual 100, 3) := by decide +kernel
theorem d13_24 : decode jdk_68_method_22_code 24 = .ok (.aload_n 0, 1) := by decide +kernel
theorem d13_25 : decode jdk_68_method_22_code 25 = .ok (.aload_n 0, 1) := by decide +kernel
theorem d13_26 : decode jdk_68_method_22_code 26 = .ok (.getfield 79, 3) := by decide +kernel
theorem d13_29 : decode jdk_68_method_22_code 29 = .ok (.aload_n 1, 1) := by decide +kernel
theorem pd__ILjava_lang_String__V : parseMethodDescriptor "(ILjava/lang/String;)V" = some ⟨[.int, (.object "java/lang/String")], none⟩ := by decide +kernel
theorem d13_30 : decode jdk_68_method_22_code 30 = .ok (.invokevirtual 208, 3) := by decide +kernel
theorem d13_33 : decode jdk_68_method_22_code 33 = .ok (.aload_n 0, 1) := by decide +kernel
theorem d13_34 : decode jdk_68_method_22_code 34 = .ok (.dup, 1) := by decide +kernel
theorem d13_35 : decode jdk_68_method_22_code 35 = .ok (.getfield 79, 3) := by decide +kernel
theorem d13_38 : decode jdk_68_method_22_code 38 = .ok (.iload_n 2, 1) := by decide +kernel
theorem d13_39 : decode jdk_68_method_22_code 39 = .ok (.iadd, 1) := by decide +kernel
theorem d13_40 : decode jdk_68_method_22_code 40 = .ok (.putfield 79, 3) := by decide +kernel
theorem d13_43 : decode jdk_68_method_22_code 43 = .ok (.aload_n 0, 1) := by decide +kernel
theorem d13_44 : decode jdk_68_method_22_code 44 = .ok (.areturn, 1) := by decide +kernel
def Q_rmAppS (Z : State) (p0 : Addr) (p1 : Addr) (zc : Int32) (fm : Value) (ts : Addr) (ks : ClassId) (cs : List Int32) (t : Addr) (kb : ClassId) (bs : List Int32) (h0 : Heap) (n0 : Nat) (v : Option Value) (h : Heap) (L : List Loc) : Prop := v = some (.ref p0) ∧ Fr n0 L ∧ Keep h0 h [p0, t] ∧ Fld Z h p0 "java/lang/AbstractStringBuilder" "value" "[B" (.ref t) ∧ Fld Z h p0 "java/lang/AbstractStringBuilder" "coder" "B" (.int (0 : Int32)) ∧ Fld Z h p0 "java/lang/AbstractStringBuilder" "count" "I" (.int (Int32.ofNat (bs ++ cs).length)) ∧ Arv Z h t kb .byte (16 : Int32) (own_nrw (bs ++ cs)) (.int (0 : Int32))
set_option maxRecDepth 65536 in
set_option maxHeartbeats 40000000 in
theorem rmAppS (l : Launch) (Z : State) (a0 : Array Value) (hw : ∀ d ∈ tables_1, d.before a0 Z = true) (ws : List Jvm.Cond) (p0 : Addr) (p1 : Addr) (zc : Int32) (fm : Value) (ts : Addr) (ks : ClassId) (cs : List Int32) (t : Addr) (kb : ClassId) (bs : List Int32) (h0 : Heap) (n0 : Nat) (Z0 : n0 ≤ h0.size) (hSt : own_St Z zc fm) (Ol : own_Old Z n0 h0) (Es : Exa Z h0 p1 "java/lang/String") (Fsv : Fld Z h0 p1 "java/lang/String" "value" "[B" (.ref ts)) (Fsc : Fld Z h0 p1 "java/lang/String" "coder" "B" (.int (0 : Int32))) (As : Arv Z h0 ts ks .byte (Int32.ofNat cs.length) (own_nrw cs) (.int (0 : Int32))) (hle : ∀ c ∈ cs, ¬ (255 : Int32) < c) (hch : own_Chs cs) (Eb : Exa Z h0 p0 "java/lang/StringBuilder") (Fbv : Fld Z h0 p0 "java/lang/AbstractStringBuilder" "value" "[B" (.ref t)) (Fbc : Fld Z h0 p0 "java/lang/AbstractStringBuilder" "coder" "B" (.int (0 : Int32))) (Fbn : Fld Z h0 p0 "java/lang/AbstractStringBuilder" "count" "I" (.int (Int32.ofNat bs.length))) (Ab : Arv Z h0 t kb .byte (16 : Int32) (own_nrw bs) (.int (0 : Int32))) (gb_ : n0 ≤ p0) (gt_ : n0 ≤ t) (npt : p0 ≠ t) (hfit : bs.length + cs.length ≤ 16) :
    MetFree l (⟨"java/lang/AbstractStringBuilder", "append", "(Ljava/lang/String;)Ljava/lang/AbstractStringBuilder;"⟩ : MethodName) (head1 (Jvm.Cond.code (⟨"java/lang/AbstractStringBuilder", "append", "(Ljava/lang/String;)Ljava/lang/AbstractStringBuilder;"⟩ : MethodName) jdk_68_method_22_code 3 (some (.object "java/lang/AbstractStringBuilder")) :: ws) ({ frames := 3, cells := 0, slots := 0, locals := 47 } : Room)) (fun a U => a = #[(.ref p0), (.ref p1)] ∧ Z.Warmed39 U.vm ∧ U.heap = h0) (fun _ _ _ _ _ => True) (fun _ U o U' => ∃ v L, o = .returned v ∧ Q_rmAppS Z p0 p1 zc fm ts ks cs t kb bs h0 n0 v U'.heap L ∧ FrameEnd U o U' L ({ frames := 3, cells := 0, slots := 0, locals := 47 } : Room).cells ({ frames := 3, cells := 0, slots := 0, locals := 47 } : Room).slots) := by
  refine MetFree.of_bodySF (plainFor_of_name pn_java_lang_AbstractStringBuilder) hisR ?_
  intro p e s m args below meth c s₁ Bd hml0 hP hK
  obtain ⟨rfl, hZ, hh⟩ := hP
  have hx := Bd.exec
  have hby := Bd.bytes
  have hml : c.maxLocals = 3 := hml0
  have hown : s.vm.findClass "java/lang/AbstractStringBuilder" = some m.cls := findClass_of_methodNamed Bd.named
  have hnm := (name_of_methodNamed Bd.named Bd.method).1
  have hZo := hZ
  have howno := hown
  have X0 : Stand p l e ({ frames := 3, cells := 0, slots := 0, locals := 47 } : Room) s m #[(.ref p0), (.ref p1)] below meth c s₁ [] 0 0 := Stand.of_body Bd
  have e0 : s₁.heap = h0 := by rw [← hh, Bd.state]; rfl
  have N0 := Fr.nil n0
  have pre0 : ∀ t, Steps p.tables e below (s₁.setTop (mkF m 0 #[.val (.ref p0), .val (.ref p1), .unset] [])) t → Steps p.tables e below (s₁.setTop (entryFrame m #[(.ref p0), (.ref p1)] 3)) t := fun t k => castTop (ef_rmAppS m p0 p1 ) k
  obtain ⟨cq1, kq1, q1a, q1b, q1c⟩ := isOf hZ e0 Es
  obtain ⟨_, _, ⟨T1, L1, k1, n1⟩, -, X1, ⟨Lc1, hQ1, l1, y1, z1⟩, st1⟩ := X0.virtualBack hx (y := (⟨"java/lang/String", "length", "()I"⟩ : MethodName)) (z := (⟨"java/lang/String", "length", "()I"⟩ : MethodName)) hown (mvT hZ (hw _ (own_m 81 rfl))) (mvT hZ (hw _ (own_m 82 rfl))) (notFace_of_selects (args := #[]) (mvT hZ (hw _ (own_m 84 rfl)))) (mvT hZ (hw _ (own_m 84 rfl))) (mvT hZ (hw _ (own_m 83 rfl))) (by decide) (backOf (W := 0) (rmLen l Z a0 hw [] p1 zc fm cs (Int32.ofNat cs.length) h0 n0 Z0 hSt Ol ⟨ts, ks, (0 : Int32), _, _, Es, Fsv, Fsc, As, Or.inl ⟨rfl, rfl, rfl, hle⟩, hch⟩ (own_nrwOf Fsc) rfl) hZ (hw _ (own_m 85 rfl)) (hw _ (own_m 2 rfl)) (by decide) (by decide)) q1a q1c (g := (mkF m 10 #[.val (.ref p0), .val (.ref p1), .unset] [(.ref p1)])) rfl (by rw [hml]; rfl) (Steps.refl _) (argsL := []) (rest := []) (lenOf pd___I rfl) rfl (by show 2 * 0 + _ ≤ _; exact Nat.le_of_eq rfl) (hb hby d13_10) (fun _ _ => ⟨rfl, e0, (by decide : 0 + 0 ≤ _), (by decide : 0 + 0 ≤ _)⟩)
  dsimp only [Pt.U, Pt.locs, Pt.cells, Pt.slots] at X1 l1 y1 z1 st1 hQ1
  subst l1 y1 z1
  obtain ⟨rfl, Nq1, e1⟩ := hQ1
  have N1 := Fr.app N0 Nq1
  obtain ⟨T2, X2, e2, st2⟩ := getF X1 hx hZ hown (host := "") (Or.inl (hw _ (own_m 91 rfl))) Via.refl e1 Fbn (g := (mkF m 16 #[.val (.ref p0), .val (.ref p1), .val (.int (Int32.ofNat cs.length))] [(.ref p0), (.ref p0)])) rfl rfl (hb hby d13_16)
  obtain ⟨cq3, kq3, q3a, q3b, q3c⟩ := isOf hZ e2 Eb
  obtain ⟨_, _, ⟨T3, L3, k3, n3⟩, -, X3, ⟨Lc3, hQ3, l3, y3, z3⟩, st3⟩ := X2.virtualBack hx (y := (⟨"java/lang/AbstractStringBuilder", "ensureCapacityInternal", "(I)V"⟩ : MethodName)) (z := (⟨"java/lang/AbstractStringBuilder", "ensureCapacityInternal", "(I)V"⟩ : MethodName)) hown (mvT hZ (hw _ (own_m 93 rfl))) (mvT hZ (own_decl (hw _ (own_m 94 rfl)) (hw _ (own_m 97 rfl)))) (notFace_of_selects (args := #[]) (mvT hZ (hw _ (own_m 96 rfl)))) (mvT hZ (hw _ (own_m 96 rfl))) (mvT hZ (hw _ (own_m 94 rfl))) (by decide) (backOf (W := 0) (rmEns l Z a0 hw [] p0 ((Int32.ofNat bs.length) + (Int32.ofNat cs.length)) zc fm t kb (own_nrw bs) h0 n0 Z0 hSt Ol Fbv Fbc Ab (own_cap (own_addl (by omega)) hfit)) hZ (hw _ (own_m 97 rfl)) (hw _ (own_m 63 rfl)) (by decide) (by decide)) q3a q3c (g := (mkF m 21 #[.val (.ref p0), .val (.ref p1), .val (.int (Int32.ofNat cs.length))] [(.int ((Int32.ofNat bs.length) + (Int32.ofNat cs.length))), (.ref p0)])) rfl (by rw [hml]; rfl) (Steps.refl _) (argsL := [(.int ((Int32.ofNat bs.length) + (Int32.ofNat cs.length)))]) (rest := []) (lenOf pd__I_V rfl) rfl (by show 2 * 0 + _ ≤ _; exact Nat.le_of_eq rfl) (hb hby d13_21) (fun _ _ => ⟨rfl, e2, (by decide : 0 + 0 ≤ _), (by decide : 0 + 0 ≤ _)⟩)
  dsimp only [Pt.U, Pt.locs, Pt.cells, Pt.slots] at X3 l3 y3 z3 st3 hQ3
  subst l3 y3 z3
  obtain ⟨rfl, Nq3, e3⟩ := hQ3
  have N3 := Fr.app N1 Nq3
  obtain ⟨T4, X4, e4, st4⟩ := getF X3 hx hZ hown (host := "") (Or.inl (hw _ (own_m 91 rfl))) Via.refl e3 Fbn (g := (mkF m 26 #[.val (.ref p0), .val (.ref p1), .val (.int (Int32.ofNat cs.length))] [(.ref p0), (.ref p0)])) rfl rfl (hb hby d13_26)
  obtain ⟨cq5, kq5, q5a, q5b, q5c⟩ := isOf hZ e4 Eb
  obtain ⟨_, _, ⟨T5, L5, k5, n5⟩, -, X5, ⟨Lc5, hQ5, l5, y5, z5⟩, st5⟩ := X4.virtualBack hx (y := (⟨"java/lang/AbstractStringBuilder", "putStringAt", "(ILjava/lang/String;)V"⟩ : MethodName)) (z := (⟨"java/lang/AbstractStringBuilder", "putStringAt", "(ILjava/lang/String;)V"⟩ : MethodName)) hown (mvT hZ (hw _ (own_m 98 rfl))) (mvT hZ (own_decl (hw _ (own_m 99 rfl)) (hw _ (own_m 102 rfl)))) (notFace_of_selects (args := #[]) (mvT hZ (hw _ (own_m 101 rfl)))) (mvT hZ (hw _ (own_m 101 rfl))) (mvT hZ (hw _ (own_m 99 rfl))) (by decide) (backOf (W := 0) (rmPSA l Z a0 hw [] p0 (Int32.ofNat bs.length) p1 zc fm ts ks cs t kb bs h0 n0 Z0 hSt Ol Es Fsv Fsc As hle hch Eb Fbv Fbc Fbn Ab gb_ gt_ npt rfl hfit) hZ (hw _ (own_m 102 rfl)) (hw _ (own_m 63 rfl)) (by decide) (by decide)) q5a q5c (g := (mkF m 30 #[.val (.ref p0), .val (.ref p1), .val (.int (Int32.ofNat cs.length))] [(.ref p1), (.int (Int32.ofNat bs.length)), (.ref p0)])) rfl (by rw [hml]; rfl) (Steps.refl _) (argsL := [(.int (Int32.ofNat bs.length)), (.ref p1)]) (rest := []) (lenOf pd__ILjava_lang_String__V rfl) rfl (by show 2 * 0 + _ ≤ _; exact Nat.le_of_eq rfl) (hb hby d13_30) (fun _ _ => ⟨rfl, e4, (by decide : 0 + 0 ≤ _), (by decide : 0 + 0 ≤ _)⟩)
  dsimp only [Pt.U, Pt.locs, Pt.cells, Pt.slots] at X5 l5 y5 z5 st5 hQ5
  subst l5 y5 z5
  obtain ⟨rfl, Nq5, K5, at_⟩ := hQ5
  have N5 := Fr.app N3 Nq5
  have KK5 := (Keep.refl h0 [p0, t]).trans K5 (allS (Or.inl (own_m 1 rfl)) all0)
  have f6 := (Fbn.keep K5 (ninS npt nin0))
  obtain ⟨T7, X7, e7, st7⟩ := getF X5 hx hZ hown (host := "") (Or.inl (hw _ (own_m 91 rfl))) Via.refl rfl f6 (g := (mkF m 35 #[.val (.ref p0), .val (.ref p1), .val (.int (Int32.ofNat cs.length))] [(.ref p0), (.ref p0)])) rfl rfl (hb hby d13_35)
  have f8 := (Eb.keep K5)
  obtain ⟨T9, h9, X9, e9, W9, st9⟩ := putF X7 hx hZ hown (host := "") (Or.inl (hw _ (own_m 91 rfl))) Via.refl e7 f6 f8 (Or.inl (hw _ (own_m 92 rfl))) (hw _ (own_m 54 rfl)) (ty := .int) (by decide) rfl rfl (g := (mkF m 40 #[.val (.ref p0), .val (.ref p1), .val (.int (Int32.ofNat cs.length))] [(.int ((Int32.ofNat bs.length) + (Int32.ofNat cs.length))), (.ref p0)])) rfl rfl (hb hby d13_40)
  have Fw9 := f6.same W9
  have N9 := Fr.snoc X9 N5 gb_
  have K9 := KK5.wr W9 (Or.inl (own_m 0 rfl))
  have fn10 := Fw9
  rw [own_addl (by omega), ← List.length_append] at fn10
  have f11 := ((Fbv.keep K5 (ninS npt nin0)).other W9 (Or.inr (slot_ne (Or.inl (hw _ (own_m 68 rfl))) (Or.inl (hw _ (own_m 92 rfl))) (by decide) (t := (.array .byte)) (t' := .int) (by decide) (by decide))))
  have f12 := ((Fbc.keep K5 (ninS npt nin0)).other W9 (Or.inr (slot_ne (Or.inl (hw _ (own_m 70 rfl))) (Or.inl (hw _ (own_m 92 rfl))) (by decide) (t := .byte) (t' := .int) (by decide) (by decide))))
  have f13 := (at_.other W9 (Ne.symm npt))
  obtain ⟨fs, hr, hrun, hended, hW, hsame⟩ := X9.leave (v := some (.ref p0)) (fun h => by rw [Bd.returns] at h; cases h)
  refine ⟨_, _, pre0 _ ?_, hrun, hended, _, _, rfl, ?_, ⟨_, rfl⟩, hW, hsame.mono (by decide) (by decide)⟩
  · show Steps p.tables e below (s₁.setTop (mkF m 0 #[.val (.ref p0), .val (.ref p1), .unset] [])) _
    refine XS.aloadN X0.here hx rfl (hb hby d13_0) rfl rfl ?_
    show Steps p.tables e below (s₁.setTop (mkF m 1 #[.val (.ref p0), .val (.ref p1), .unset] [(.ref p1)])) _
    refine XS.ifnonnullYes X0.here hx rfl (pc0 := 1) (pc' := 9) rfl (hb hby d13_1) rfl (by decide) (by decide) ?_
    refine XS.aloadN X0.here hx rfl (hb hby d13_9) rfl rfl ?_
    show Steps p.tables e below (s₁.setTop (mkF m 10 #[.val (.ref p0), .val (.ref p1), .unset] [(.ref p1)])) _
    refine st1.trans ?_
    show Steps p.tables e below (T1.setTop (mkF m 13 #[.val (.ref p0), .val (.ref p1), .unset] [(.int (Int32.ofNat cs.length))])) _
    refine XS.istoreN X1.here hx rfl (hb hby d13_13) rfl (l' := #[.val (.ref p0), .val (.ref p1), .val (.int (Int32.ofNat cs.length))]) rfl ?_
    refine XS.aloadN X1.here hx rfl (hb hby d13_14) rfl rfl ?_
    refine XS.aloadN X1.here hx rfl (hb hby d13_15) rfl rfl ?_
    show Steps p.tables e below (T1.setTop (mkF m 16 #[.val (.ref p0), .val (.ref p1), .val (.int (Int32.ofNat cs.length))] [(.ref p0), (.ref p0)])) _
    refine st2 _ ?_
    show Steps p.tables e below (T2.setTop (mkF m 19 #[.val (.ref p0), .val (.ref p1), .val (.int (Int32.ofNat cs.length))] [(.int (Int32.ofNat bs.length)), (.ref p0)])) _
    refine XS.iloadN X2.here hx rfl (hb hby d13_19) rfl  ?_
    refine XS.iadd X2.here hx rfl (hb hby d13_20) rfl ?_
    show Steps p.tables e below (T2.setTop (mkF m 21 #[.val (.ref p0), .val (.ref p1), .val (.int (Int32.ofNat cs.length))] [(.int ((Int32.ofNat bs.length) + (Int32.ofNat cs.length))), (.ref p0)])) _
    refine st3.trans ?_
    show Steps p.tables e below (T3.setTop (mkF m 24 #[.val (.ref p0), .val (.ref p1), .val (.int (Int32.ofNat cs.length))] [])) _
    refine XS.aloadN X3.here hx rfl (hb hby d13_24) rfl rfl ?_
    refine XS.aloadN X3.here hx rfl (hb hby d13_25) rfl rfl ?_
    show Steps p.tables e below (T3.setTop (mkF m 26 #[.val (.ref p0), .val (.ref p1), .val (.int (Int32.ofNat cs.length))] [(.ref p0), (.ref p0)])) _
    refine st4 _ ?_
    show Steps p.tables e below (T4.setTop (mkF m 29 #[.val (.ref p0), .val (.ref p1), .val (.int (Int32.ofNat cs.length))] [(.int (Int32.ofNat bs.length)), (.ref p0)])) _
    refine XS.aloadN X4.here hx rfl (hb hby d13_29) rfl rfl ?_
    show Steps p.tables e below (T4.setTop (mkF m 30 #[.val (.ref p0), .val (.ref p1), .val (.int (Int32.ofNat cs.length))] [(.ref p1), (.int (Int32.ofNat bs.length)), (.ref p0)])) _
    refine st5.trans ?_
    show Steps p.tables e below (T5.setTop (mkF m 33 #[.val (.ref p0), .val (.ref p1), .val (.int (Int32.ofNat cs.length))] [])) _
    refine XS.aloadN X5.here hx rfl (hb hby d13_33) rfl rfl ?_
    refine XS.dup X5.here hx rfl (hb hby d13_34) rfl rfl ?_
    show Steps p.tables e below (T5.setTop (mkF m 35 #[.val (.ref p0), .val (.ref p1), .val (.int (Int32.ofNat cs.length))] [(.ref p0), (.ref p0)])) _
    refine st7 _ ?_
    show Steps p.tables e below (T7.setTop (mkF m 38 #[.val (.ref p0), .val (.ref p1), .val (.int (Int32.ofNat cs.length))] [(.int (Int32.ofNat bs.length)), (.ref p0)])) _
    refine XS.iloadN X7.here hx rfl (hb hby d13_38) rfl  ?_
    refine XS.iadd X7.here hx rfl (hb hby d13_39) rfl ?_
    show Steps p.tables e below (T7.setTop (mkF m 40 #[.val (.ref p0), .val (.ref p1), .val (.int (Int32.ofNat cs.length))] [(.int ((Int32.ofNat bs.length) + (Int32.ofNat cs.length))), (.ref p0)])) _
    refine st9 _ ?_
    show Steps p.tables e below (T9.setTop (mkF m 43 #[.val (.ref p0), .val (.ref p1), .val (.int (Int32.ofNat cs.length))] [])) _
    refine XS.aloadN X9.here hx rfl (hb hby d13_43) rfl rfl ?_
    show Steps p.tables e below (T9.setTop (mkF m 44 #[.val (.ref p0), .val (.ref p1), .val (.int (Int32.ofNat cs.length))] [(.ref p0)])) _
    jvm_step X9.here [X9.here.top, hx, (hb hby d13_44), X9.method', Bd.returns, Value.isRef, FieldType.isReference]
    first | (intro acts; rw [hr _ acts rfl rfl rfl]) | rw [hr _ _ rfl rfl rfl]
    exact Steps.refl _
  · show Q_rmAppS Z p0 p1 zc fm ts ks cs t kb bs h0 n0 _ T9.heap _
    rw [e9]
    exact ⟨rfl, N9, K9, f11, f12, fn10, f13⟩
theorem ef_rmSAppS (m : MethodId) (p0 : Addr) (p1 : Addr) : entryFrame m #[(.ref p0), (.ref p1)] 2 = mkF m 0 #[.val (.ref p0), .val (.ref p1)] [] := by first | (simp [entryFrame, mkF, argsToLocals, Value.category]; done) | rfl
theorem d12_0 : decode jdk_67_method_7_code 0 = .ok (.aload_n 0, 1) := by decide +kernel
theorem d12_1 : decode jdk_67_method_7_code 1 = .ok (.aload_n 1, 1) := by decide +kernel
theorem pd__Ljava_lang_String__Ljava_lang_AbstractStringBuilder_ : parseMethodDescriptor "(Ljava/lang/String;)Ljava/lang/AbstractStringBuilder;" = some ⟨[(.object "java/lang/String")], some (.object "java/lang/AbstractStringBuilder")⟩ := by decide +kernel
theorem d12_2 : decode jdk_67_method_7_code 2 = .ok (.invokespecial 29, 3) := by decide +kernel
theorem d12_5 : decode jdk_67_method_7_code 5 = .ok (.pop, 1) := by decide +kernel
theorem d12_6 : decode jdk_67_method_7_code 6 = .ok (.aload_n 0, 1) := by decide +kernel
theorem d12_7 : decode jdk_67_method_7_code 7 = .ok (.areturn, 1) := by decide +kernel
def Q_rmSAppS (Z : State) (p0 : Addr) (p1 : Addr) (zc : Int32) (fm : Value) (ts : Addr) (ks : ClassId) (cs : List Int32) (t : Addr) (kb : ClassId) (bs : List Int32) (h0 : Heap) (n0 : Nat) (v : Option Value) (h : Heap) (L : List Loc) : Prop := v = some (.ref p0) ∧ Fr n0 L ∧ Keep h0 h [p0, t] ∧ Fld Z h p0 "java/lang/AbstractStringBuilder" "value" "[B" (.ref t) ∧ Fld Z h p0 "java/lang/AbstractStringBuilder" "coder" "B" (.int (0 : Int32)) ∧ Fld Z h p0 "java/lang/AbstractStringBuilder" "count" "I" (.int (Int32.ofNat (bs ++ cs).length)) ∧ Arv Z h t kb .byte (16 : Int32) (own_nrw (bs ++ cs)) (.int (0 : Int32))
set_option maxRecDepth 65536 in
set_option maxHeartbeats 40000000 in
theorem rmSAppS (l : Launch) (Z : State) (a0 : Array Value) (hw : ∀ d ∈ tables_1, d.before a0 Z = true) (ws : List Jvm.Cond) (p0 : Addr) (p1 : Addr) (zc : Int32) (fm : Value) (ts : Addr) (ks : ClassId) (cs : List Int32) (t : Addr) (kb : ClassId) (bs : List Int32) (h0 : Heap) (n0 : Nat) (Z0 : n0 ≤ h0.size) (hSt : own_St Z zc fm) (Ol : own_Old Z n0 h0) (Es : Exa Z h0 p1 "java/lang/String") (Fsv : Fld Z h0 p1 "java/lang/String" "value" "[B" (.ref ts)) (Fsc : Fld Z h0 p1 "java/lang/String" "coder" "B" (.int (0 : Int32))) (As : Arv Z h0 ts ks .byte (Int32.ofNat cs.length) (own_nrw cs) (.int (0 : Int32))) (hle : ∀ c ∈ cs, ¬ (255 : Int32) < c) (hch : own_Chs cs) (Eb : Exa Z h0 p0 "java/lang/StringBuilder") (Fbv : Fld Z h0 p0 "java/lang/AbstractStringBuilder" "value" "[B" (.ref t)) (Fbc : Fld Z h0 p0 "java/lang/AbstractStringBuilder" "coder" "B" (.int (0 : Int32))) (Fbn : Fld Z h0 p0 "java/lang/AbstractStringBuilder" "count" "I" (.int (Int32.ofNat bs.length))) (Ab : Arv Z h0 t kb .byte (16 : Int32) (own_nrw bs) (.int (0 : Int32))) (gb_ : n0 ≤ p0) (gt_ : n0 ≤ t) (npt : p0 ≠ t) (hfit : bs.length + cs.length ≤ 16) :
    MetFree l (⟨"java/lang/StringBuilder", "append", "(Ljava/lang/String;)Ljava/lang/StringBuilder;"⟩ : MethodName) (head1 (Jvm.Cond.code (⟨"java/lang/StringBuilder", "append", "(Ljava/lang/String;)Ljava/lang/StringBuilder;"⟩ : MethodName) jdk_67_method_7_code 2 (some (.object "java/lang/StringBuilder")) :: ws) ({ frames := 4, cells := 0, slots := 0, locals := 61 } : Room)) (fun a U => a = #[(.ref p0), (.ref p1)] ∧ Z.Warmed39 U.vm ∧ U.heap = h0) (fun _ _ _ _ _ => True) (fun _ U o U' => ∃ v L, o = .returned v ∧ Q_rmSAppS Z p0 p1 zc fm ts ks cs t kb bs h0 n0 v U'.heap L ∧ FrameEnd U o U' L ({ frames := 4, cells := 0, slots := 0, locals := 61 } : Room).cells ({ frames := 4, cells := 0, slots := 0, locals := 61 } : Room).slots) := by
  refine MetFree.of_bodySF (plainFor_of_name pn_java_lang_StringBuilder) hisR ?_
  intro p e s m args below meth c s₁ Bd hml0 hP hK
  obtain ⟨rfl, hZ, hh⟩ := hP
  have hx := Bd.exec
  have hby := Bd.bytes
  have hml : c.maxLocals = 2 := hml0
  have hown : s.vm.findClass "java/lang/StringBuilder" = some m.cls := findClass_of_methodNamed Bd.named
  have hnm := (name_of_methodNamed Bd.named Bd.method).1
  have hZo := hZ
  have howno := hown
  have X0 : Stand p l e ({ frames := 4, cells := 0, slots := 0, locals := 61 } : Room) s m #[(.ref p0), (.ref p1)] below meth c s₁ [] 0 0 := Stand.of_body Bd
  have e0 : s₁.heap = h0 := by rw [← hh, Bd.state]; rfl
  have N0 := Fr.nil n0
  have pre0 : ∀ t, Steps p.tables e below (s₁.setTop (mkF m 0 #[.val (.ref p0), .val (.ref p1)] [])) t → Steps p.tables e below (s₁.setTop (entryFrame m #[(.ref p0), (.ref p1)] 2)) t := fun t k => castTop (ef_rmSAppS m p0 p1 ) k
  obtain ⟨_, _, ⟨T1, L1, k1, n1⟩, -, X1, ⟨Lc1, hQ1, l1, y1, z1⟩, st1⟩ := superBack X0 hx hZ (y := (⟨"java/lang/AbstractStringBuilder", "append", "(Ljava/lang/String;)Ljava/lang/AbstractStringBuilder;"⟩ : MethodName)) hown (hw _ (own_m 76 rfl)) (own_same (y := (⟨"java/lang/AbstractStringBuilder", "append", "(Ljava/lang/String;)Ljava/lang/AbstractStringBuilder;"⟩ : MethodName)) (hw _ (own_m 79 rfl)) (by decide) (hw _ (own_m 96 rfl)) rfl) (hw _ (own_m 77 rfl)) (hw _ (own_m 78 rfl)) (by decide) (backOf (W := 0) (rmAppS l Z a0 hw [] p0 p1 zc fm ts ks cs t kb bs h0 n0 Z0 hSt Ol Es Fsv Fsc As hle hch Eb Fbv Fbc Fbn Ab gb_ gt_ npt hfit) hZ (hw _ (own_m 80 rfl)) (hw _ (own_m 63 rfl)) (by decide) (by decide)) e0 (Ins.self Eb) (g := (mkF m 2 #[.val (.ref p0), .val (.ref p1)] [(.ref p1), (.ref p0)])) rfl (by rw [hml]; rfl) (hw _ (own_m 80 rfl)) (argsL := [(.ref p1)]) (rest := []) (lenOf pd__Ljava_lang_String__Ljava_lang_AbstractStringBuilder_ rfl) rfl (by show 2 * 0 + _ ≤ _; exact Nat.le_of_eq rfl) (hb hby d12_2) (fun _ _ => ⟨rfl, e0, (by decide : 0 + 0 ≤ _), (by decide : 0 + 0 ≤ _)⟩)
  dsimp only [Pt.U, Pt.locs, Pt.cells, Pt.slots] at X1 l1 y1 z1 st1 hQ1
  subst l1 y1 z1
  obtain ⟨rfl, Nq1, K1, fv_, fc_, fn_, at_⟩ := hQ1
  have N1 := Fr.app N0 Nq1
  have KK1 := (Keep.refl h0 [p0, t]).trans K1 (allS (Or.inl (own_m 0 rfl)) (allS (Or.inl (own_m 1 rfl)) all0))
  obtain ⟨fs, hr, hrun, hended, hW, hsame⟩ := X1.leave (v := some (.ref p0)) (fun h => by rw [Bd.returns] at h; cases h)
  refine ⟨_, _, pre0 _ ?_, hrun, hended, _, _, rfl, ?_, ⟨_, rfl⟩, hW, hsame.mono (by decide) (by decide)⟩
  · show Steps p.tables e below (s₁.setTop (mkF m 0 #[.val (.ref p0), .val (.ref p1)] [])) _
    refine XS.aloadN X0.here hx rfl (hb hby d12_0) rfl rfl ?_
    refine XS.aloadN X0.here hx rfl (hb hby d12_1) rfl rfl ?_
    show Steps p.tables e below (s₁.setTop (mkF m 2 #[.val (.ref p0), .val (.ref p1)] [(.ref p1), (.ref p0)])) _
    refine st1.trans ?_
    show Steps p.tables e below (T1.setTop (mkF m 5 #[.val (.ref p0), .val (.ref p1)] [(.ref p0)])) _
    refine XS.pop X1.here hx rfl (hb hby d12_5) rfl rfl ?_
    refine XS.aloadN X1.here hx rfl (hb hby d12_6) rfl rfl ?_
    show Steps p.tables e below (T1.setTop (mkF m 7 #[.val (.ref p0), .val (.ref p1)] [(.ref p0)])) _
    jvm_step X1.here [X1.here.top, hx, (hb hby d12_7), X1.method', Bd.returns, Value.isRef, FieldType.isReference]
    first | (intro acts; rw [hr _ acts rfl rfl rfl]) | rw [hr _ _ rfl rfl rfl]
    exact Steps.refl _
  · show Q_rmSAppS Z p0 p1 zc fm ts ks cs t kb bs h0 n0 _ T1.heap _
    exact ⟨rfl, N1, KK1, fv_, fc_, fn_, at_⟩
theorem ef_rmBLat (m : MethodId) (p0 : Addr) : entryFrame m #[(.ref p0)] 1 = mkF m 0 #[.val (.ref p0)] [] := by first | (simp [entryFrame, mkF, argsToLocals, Value.category]; done) | rfl
theorem d23_0 : decode jdk_68_method_68_code 0 = .ok (.getstatic 18, 3) := by decide +kernel
theorem d23_3 : decode jdk_68_method_68_code 3 = .ok (.ifCond .eq 14, 3) := by decide +kernel
theorem d23_6 : decode jdk_68_method_68_code 6 = .ok (.aload_n 0, 1) := by decide +kernel
theorem d23_7 : decode jdk_68_method_68_code 7 = .ok (.getfield 22, 3) := by decide +kernel
theorem d23_10 : decode jdk_68_method_68_code 10 = .ok (.ifCond .ne 7, 3) := by decide +kernel
theorem d23_13 : decode jdk_68_method_68_code 13 = .ok (.iconst 1, 1) := by decide +kernel
theorem d23_14 : decode jdk_68_method_68_code 14 = .ok (.goto 4, 3) := by decide +kernel
theorem d23_18 : decode jdk_68_method_68_code 18 = .ok (.ireturn, 1) := by decide +kernel
def Q_rmBLat (Z : State) (p0 : Addr) (zc : Int32) (fm : Value) (h0 : Heap) (n0 : Nat) (v : Option Value) (h : Heap) (L : List Loc) : Prop := v = some (.int (1 : Int32)) ∧ Fr n0 L ∧ h = h0
set_option maxRecDepth 65536 in
set_option maxHeartbeats 40000000 in
theorem rmBLat (l : Launch) (Z : State) (a0 : Array Value) (hw : ∀ d ∈ tables_1, d.before a0 Z = true) (ws : List Jvm.Cond) (p0 : Addr) (zc : Int32) (fm : Value) (h0 : Heap) (n0 : Nat) (Z0 : n0 ≤ h0.size) (hSt : own_St Z zc fm) (Ol : own_Old Z n0 h0) (Fbc : Fld Z h0 p0 "java/lang/AbstractStringBuilder" "coder" "B" (.int (0 : Int32))) :
    MetFree l (⟨"java/lang/AbstractStringBuilder", "isLatin1", "()Z"⟩ : MethodName) (head1 (Jvm.Cond.code (⟨"java/lang/AbstractStringBuilder", "isLatin1", "()Z"⟩ : MethodName) jdk_68_method_68_code 1 (some .boolean) :: ws) ({ frames := 0, cells := 0, slots := 0, locals := 0 } : Room)) (fun a U => a = #[(.ref p0)] ∧ Z.Warmed39 U.vm ∧ U.heap = h0) (fun _ _ _ _ _ => True) (fun _ U o U' => ∃ v L, o = .returned v ∧ Q_rmBLat Z p0 zc fm h0 n0 v U'.heap L ∧ FrameEnd U o U' L ({ frames := 0, cells := 0, slots := 0, locals := 0 } : Room).cells ({ frames := 0, cells := 0, slots := 0, locals := 0 } : Room).slots) := by
  refine MetFree.of_bodySF (plainFor_of_name pn_java_lang_AbstractStringBuilder) hisR ?_
  intro p e s m args below meth c s₁ Bd hml0 hP hK
  obtain ⟨rfl, hZ, hh⟩ := hP
  have hx := Bd.exec
  have hby := Bd.bytes
  have hml : c.maxLocals = 1 := hml0
  have hown : s.vm.findClass "java/lang/AbstractStringBuilder" = some m.cls := findClass_of_methodNamed Bd.named
  have hnm := (name_of_methodNamed Bd.named Bd.method).1
  have hZo := hZ
  have howno := hown
  have X0 : Stand p l e ({ frames := 0, cells := 0, slots := 0, locals := 0 } : Room) s m #[(.ref p0)] below meth c s₁ [] 0 0 := Stand.of_body Bd
  have e0 : s₁.heap = h0 := by rw [← hh, Bd.state]; rfl
  have N0 := Fr.nil n0
  have pre0 : ∀ t, Steps p.tables e below (s₁.setTop (mkF m 0 #[.val (.ref p0)] [])) t → Steps p.tables e below (s₁.setTop (entryFrame m #[(.ref p0)] 1)) t := fun t k => castTop (ef_rmBLat m p0 ) k
  obtain ⟨T1, X1, e1, st1⟩ := getS2 X0 hx hZ hown (host := "") (Or.inl (hw _ (own_m 66 rfl))) Via.refl e0 (hSt.1.ext Ol.2) (g := (mkF m 0 #[.val (.ref p0)] [])) rfl (hb hby d23_0)
  obtain ⟨T2, X2, e2, st2⟩ := getF X1 hx hZ hown (host := "") (Or.inl (hw _ (own_m 69 rfl))) Via.refl e1 Fbc (g := (mkF m 7 #[.val (.ref p0)] [(.ref p0)])) rfl rfl (hb hby d23_7)
  obtain ⟨fs, hr, hrun, hended, hW, hsame⟩ := X2.leave (v := some (.int (1 : Int32))) (fun h => by rw [Bd.returns] at h; cases h)
  refine ⟨_, _, pre0 _ ?_, hrun, hended, _, _, rfl, ?_, ⟨_, rfl⟩, hW, hsame.mono (by decide) (by decide)⟩
  · show Steps p.tables e below (s₁.setTop (mkF m 0 #[.val (.ref p0)] [])) _
    refine st1 _ ?_
    show Steps p.tables e below (T1.setTop (mkF m 3 #[.val (.ref p0)] [(.int zc)])) _
    refine XS.ifNo X1.here hx rfl (hb hby d23_3) rfl ((if0 _ _).trans (feq hSt.2.1).1) ?_
    refine XS.aloadN X1.here hx rfl (hb hby d23_6) rfl rfl ?_
    show Steps p.tables e below (T1.setTop (mkF m 7 #[.val (.ref p0)] [(.ref p0)])) _
    refine st2 _ ?_
    show Steps p.tables e below (T2.setTop (mkF m 10 #[.val (.ref p0)] [(.int (0 : Int32))])) _
    refine XS.ifNo X2.here hx rfl (hb hby d23_10) rfl ((if0 _ _).trans (teq (by decide : (0 : Int32) = (0 : Int32))).2) ?_
    refine XS.iconst X2.here hx rfl (hb hby d23_13) ?_
    refine XS.goto X2.here hx rfl (pc0 := 14) (pc' := 18) rfl (hb hby d23_14) (by decide) (by decide) ?_
    show Steps p.tables e below (T2.setTop (mkF m 18 #[.val (.ref p0)] [(.int (1 : Int32))])) _
    exact retN X2 hx (t := .boolean) Bd.returns (by simp) (hb hby d23_18) hr
  · show Q_rmBLat Z p0 zc fm h0 n0 _ T2.heap _
    rw [e2]
    exact ⟨rfl, N0, rfl⟩
theorem ef_rmBVal (m : MethodId) (p0 : Addr) : entryFrame m #[(.ref p0)] 1 = mkF m 0 #[.val (.ref p0)] [] := by first | (simp [entryFrame, mkF, argsToLocals, Value.category]; done) | rfl
theorem d28_0 : decode jdk_68_method_64_code 0 = .ok (.aload_n 0, 1) := by decide +kernel
theorem d28_1 : decode jdk_68_method_64_code 1 = .ok (.getfield 15, 3) := by decide +kernel
theorem d28_4 : decode jdk_68_method_64_code 4 = .ok (.areturn, 1) := by decide +kernel
def Q_rmBVal (Z : State) (p0 : Addr) (zc : Int32) (fm : Value) (t : Addr) (h0 : Heap) (n0 : Nat) (v : Option Value) (h : Heap) (L : List Loc) : Prop := v = some (.ref t) ∧ Fr n0 L ∧ h = h0
set_option maxRecDepth 65536 in
set_option maxHeartbeats 40000000 in
theorem rmBVal (l : Launch) (Z : State) (a0 : Array Value) (hw : ∀ d ∈ tables_1, d.before a0 Z = true) (ws : List Jvm.Cond) (p0 : Addr) (zc : Int32) (fm : Value) (t : Addr) (h0 : Heap) (n0 : Nat) (Z0 : n0 ≤ h0.size) (hSt : own_St Z zc fm) (Ol : own_Old Z n0 h0) (Fbv : Fld Z h0 p0 "java/lang/AbstractStringBuilder" "value" "[B" (.ref t)) :
    MetFree l (⟨"java/lang/AbstractStringBuilder", "getValue", "()[B"⟩ : MethodName) (head1 (Jvm.Cond.code (⟨"java/lang/AbstractStringBuilder", "getValue", "()[B"⟩ : MethodName) jdk_68_method_64_code 1 (some (.array .byte)) :: ws) ({ frames := 0, cells := 0, slots := 0, locals := 0 } : Room)) (fun a U => a = #[(.ref p0)] ∧ Z.Warmed39 U.vm ∧ U.heap = h0) (fun _ _ _ _ _ => True) (fun _ U o U' => ∃ v L, o = .returned v ∧ Q_rmBVal Z p0 zc fm t h0 n0 v U'.heap L ∧ FrameEnd U o U' L ({ frames := 0, cells := 0, slots := 0, locals := 0 } : Room).cells ({ frames := 0, cells := 0, slots := 0, locals := 0 } : Room).slots) := by
  refine MetFree.of_bodySF (plainFor_of_name pn_java_lang_AbstractStringBuilder) hisR ?_
  intro p e s m args below meth c s₁ Bd hml0 hP hK
  obtain ⟨rfl, hZ, hh⟩ := hP
  have hx := Bd.exec
  have hby := Bd.bytes
  have hml : c.maxLocals = 1 := hml0
  have hown : s.vm.findClass "java/lang/AbstractStringBuilder" = some m.cls := findClass_of_methodNamed Bd.named
  have hnm := (name_of_methodNamed Bd.named Bd.method).1
  have hZo := hZ
  have howno := hown
  have X0 : Stand p l e ({ frames := 0, cells := 0, slots := 0, locals := 0 } : Room) s m #[(.ref p0)] below meth c s₁ [] 0 0 := Stand.of_body Bd
  have e0 : s₁.heap = h0 := by rw [← hh, Bd.state]; rfl
  have N0 := Fr.nil n0
  have pre0 : ∀ t, Steps p.tables e below (s₁.setTop (mkF m 0 #[.val (.ref p0)] [])) t → Steps p.tables e below (s₁.setTop (entryFrame m #[(.ref p0)] 1)) t := fun t k => castTop (ef_rmBVal m p0 ) k
  obtain ⟨T1, X1, e1, st1⟩ := getF X0 hx hZ hown (host := "") (Or.inl (hw _ (own_m 67 rfl))) Via.refl e0 Fbv (g := (mkF m 1 #[.val (.ref p0)] [(.ref p0)])) rfl rfl (hb hby d28_1)
  obtain ⟨fs, hr, hrun, hended, hW, hsame⟩ := X1.leave (v := some (.ref t)) (fun h => by rw [Bd.returns] at h; cases h)
  refine ⟨_, _, pre0 _ ?_, hrun, hended, _, _, rfl, ?_, ⟨_, rfl⟩, hW, hsame.mono (by decide) (by decide)⟩
  · show Steps p.tables e below (s₁.setTop (mkF m 0 #[.val (.ref p0)] [])) _
    refine XS.aloadN X0.here hx rfl (hb hby d28_0) rfl rfl ?_
    show Steps p.tables e below (s₁.setTop (mkF m 1 #[.val (.ref p0)] [(.ref p0)])) _
    refine st1 _ ?_
    show Steps p.tables e below (T1.setTop (mkF m 4 #[.val (.ref p0)] [(.ref t)])) _
    jvm_step X1.here [X1.here.top, hx, (hb hby d28_4), X1.method', Bd.returns, Value.isRef, FieldType.isReference]
    first | (intro acts; rw [hr _ acts rfl rfl rfl]) | rw [hr _ _ rfl rfl rfl]
    exact Steps.refl _
  · show Q_rmBVal Z p0 zc fm t h0 n0 _ T1.heap _
    rw [e1]
    exact ⟨rfl, N0, rfl⟩
theorem ef_rmALen (m : MethodId) (p0 : Addr) : entryFrame m #[(.ref p0)] 1 = mkF m 0 #[.val (.ref p0)] [] := by first | (simp [entryFrame, mkF, argsToLocals, Value.category]; done) | rfl
theorem d30_0 : decode jdk_68_method_6_code 0 = .ok (.aload_n 0, 1) := by decide +kernel
theorem d30_1 : decode jdk_68_method_6_code 1 = .ok (.getfield 79, 3) := by decide +kernel
theorem d30_4 : decode jdk_68_method_6_code 4 = .ok (.ireturn, 1) := by decide +kernel
def Q_rmALen (Z : State) (p0 : Addr) (zc : Int32) (fm : Value) (n : Int32) (h0 : Heap) (n0 : Nat) (v : Option Value) (h : Heap) (L : List Loc) : Prop := v = some (.int n) ∧ Fr n0 L ∧ h = h0
set_option maxRecDepth 65536 in
set_option maxHeartbeats 40000000 in
theorem rmALen (l : Launch) (Z : State) (a0 : Array Value) (hw : ∀ d ∈ tables_1, d.before a0 Z = true) (ws : List Jvm.Cond) (p0 : Addr) (zc : Int32) (fm : Value) (n : Int32) (h0 : Heap) (n0 : Nat) (Z0 : n0 ≤ h0.size) (hSt : own_St Z zc fm) (Ol : own_Old Z n0 h0) (Eb : Exa Z h0 p0 "java/lang/StringBuilder") (Fbn : Fld Z h0 p0 "java/lang/AbstractStringBuilder" "count" "I" (.int n)) :
    MetFree l (⟨"java/lang/AbstractStringBuilder", "length", "()I"⟩ : MethodName) (head1 (Jvm.Cond.code (⟨"java/lang/AbstractStringBuilder", "length", "()I"⟩ : MethodName) jdk_68_method_6_code 1 (some .int) :: ws) ({ frames := 0, cells := 0, slots := 0, locals := 0 } : Room)) (fun a U => a = #[(.ref p0)] ∧ Z.Warmed39 U.vm ∧ U.heap = h0) (fun _ _ _ _ _ => True) (fun _ U o U' => ∃ v L, o = .returned v ∧ Q_rmALen Z p0 zc fm n h0 n0 v U'.heap L ∧ FrameEnd U o U' L ({ frames := 0, cells := 0, slots := 0, locals := 0 } : Room).cells ({ frames := 0, cells := 0, slots := 0, locals := 0 } : Room).slots) := by
  refine MetFree.of_bodySF (plainFor_of_name pn_java_lang_AbstractStringBuilder) hisR ?_
  intro p e s m args below meth c s₁ Bd hml0 hP hK
  obtain ⟨rfl, hZ, hh⟩ := hP
  have hx := Bd.exec
  have hby := Bd.bytes
  have hml : c.maxLocals = 1 := hml0
  have hown : s.vm.findClass "java/lang/AbstractStringBuilder" = some m.cls := findClass_of_methodNamed Bd.named
  have hnm := (name_of_methodNamed Bd.named Bd.method).1
  have hZo := hZ
  have howno := hown
  have X0 : Stand p l e ({ frames := 0, cells := 0, slots := 0, locals := 0 } : Room) s m #[(.ref p0)] below meth c s₁ [] 0 0 := Stand.of_body Bd
  have e0 : s₁.heap = h0 := by rw [← hh, Bd.state]; rfl
  have N0 := Fr.nil n0
  have pre0 : ∀ t, Steps p.tables e below (s₁.setTop (mkF m 0 #[.val (.ref p0)] [])) t → Steps p.tables e below (s₁.setTop (entryFrame m #[(.ref p0)] 1)) t := fun t k => castTop (ef_rmALen m p0 ) k
  obtain ⟨T1, X1, e1, st1⟩ := getF X0 hx hZ hown (host := "") (Or.inl (hw _ (own_m 91 rfl))) Via.refl e0 Fbn (g := (mkF m 1 #[.val (.ref p0)] [(.ref p0)])) rfl rfl (hb hby d30_1)
  obtain ⟨fs, hr, hrun, hended, hW, hsame⟩ := X1.leave (v := some (.int n)) (fun h => by rw [Bd.returns] at h; cases h)
  refine ⟨_, _, pre0 _ ?_, hrun, hended, _, _, rfl, ?_, ⟨_, rfl⟩, hW, hsame.mono (by decide) (by decide)⟩
  · show Steps p.tables e below (s₁.setTop (mkF m 0 #[.val (.ref p0)] [])) _
    refine XS.aloadN X0.here hx rfl (hb hby d30_0) rfl rfl ?_
    show Steps p.tables e below (s₁.setTop (mkF m 1 #[.val (.ref p0)] [(.ref p0)])) _
    refine st1 _ ?_
    show Steps p.tables e below (T1.setTop (mkF m 4 #[.val (.ref p0)] [(.int n)])) _
    exact retI X1 hx Bd.returns (hb hby d30_4) hr
  · show Q_rmALen Z p0 zc fm n h0 n0 _ T1.heap _
    rw [e1]
    exact ⟨rfl, N0, rfl⟩
theorem ef_rmBLen (m : MethodId) (p0 : Addr) : entryFrame m #[(.ref p0)] 1 = mkF m 0 #[.val (.ref p0)] [] := by first | (simp [entryFrame, mkF, argsToLocals, Value.category]; done) | rfl
theorem d29_0 : decode jdk_67_method_93_code 0 = .ok (.aload_n 0, 1) := by decide +kernel
theorem d29_1 : decode jdk_67_method_93_code 1 = .ok (.invokespecial 343, 3) := by decide +kernel
theorem d29_4 : decode jdk_67_method_93_code 4 = .ok (.ireturn, 1) := by decide +kernel
def Q_rmBLen (Z : State) (p0 : Addr) (zc : Int32) (fm : Value) (n : Int32) (h0 : Heap) (n0 : Nat) (v : Option Value) (h : Heap) (L : List Loc) : Prop := v = some (.int n) ∧ Fr n0 L ∧ h = h0
set_option maxRecDepth 65536 in
set_option maxHeartbeats 40000000 in
theorem rmBLen (l : Launch) (Z : State) (a0 : Array Value) (hw : ∀ d ∈ tables_1, d.before a0 Z = true) (ws : List Jvm.Cond) (p0 : Addr) (zc : Int32) (fm : Value) (n : Int32) (h0 : Heap) (n0 : Nat) (Z0 : n0 ≤ h0.size) (hSt : own_St Z zc fm) (Ol : own_Old Z n0 h0) (Eb : Exa Z h0 p0 "java/lang/StringBuilder") (Fbn : Fld Z h0 p0 "java/lang/AbstractStringBuilder" "count" "I" (.int n)) :
    MetFree l (⟨"java/lang/StringBuilder", "length", "()I"⟩ : MethodName) (head1 (Jvm.Cond.code (⟨"java/lang/StringBuilder", "length", "()I"⟩ : MethodName) jdk_67_method_93_code 1 (some .int) :: ws) ({ frames := 1, cells := 0, slots := 0, locals := 12 } : Room)) (fun a U => a = #[(.ref p0)] ∧ Z.Warmed39 U.vm ∧ U.heap = h0) (fun _ _ _ _ _ => True) (fun _ U o U' => ∃ v L, o = .returned v ∧ Q_rmBLen Z p0 zc fm n h0 n0 v U'.heap L ∧ FrameEnd U o U' L ({ frames := 1, cells := 0, slots := 0, locals := 12 } : Room).cells ({ frames := 1, cells := 0, slots := 0, locals := 12 } : Room).slots) := by
  refine MetFree.of_bodySF (plainFor_of_name pn_java_lang_StringBuilder) hisR ?_
  intro p e s m args below meth c s₁ Bd hml0 hP hK
  obtain ⟨rfl, hZ, hh⟩ := hP
  have hx := Bd.exec
  have hby := Bd.bytes
  have hml : c.maxLocals = 1 := hml0
  have hown : s.vm.findClass "java/lang/StringBuilder" = some m.cls := findClass_of_methodNamed Bd.named
  have hnm := (name_of_methodNamed Bd.named Bd.method).1
  have hZo := hZ
  have howno := hown
  have X0 : Stand p l e ({ frames := 1, cells := 0, slots := 0, locals := 12 } : Room) s m #[(.ref p0)] below meth c s₁ [] 0 0 := Stand.of_body Bd
  have e0 : s₁.heap = h0 := by rw [← hh, Bd.state]; rfl
  have N0 := Fr.nil n0
  have pre0 : ∀ t, Steps p.tables e below (s₁.setTop (mkF m 0 #[.val (.ref p0)] [])) t → Steps p.tables e below (s₁.setTop (entryFrame m #[(.ref p0)] 1)) t := fun t k => castTop (ef_rmBLen m p0 ) k
  obtain ⟨_, _, ⟨T1, L1, k1, n1⟩, -, X1, ⟨Lc1, hQ1, l1, y1, z1⟩, st1⟩ := superBack X0 hx hZ (y := (⟨"java/lang/AbstractStringBuilder", "length", "()I"⟩ : MethodName)) hown (hw _ (own_m 166 rfl)) (own_same (y := (⟨"java/lang/AbstractStringBuilder", "length", "()I"⟩ : MethodName)) (hw _ (own_m 161 rfl)) (by decide) (hw _ (own_m 96 rfl)) rfl) (hw _ (own_m 162 rfl)) (hw _ (own_m 78 rfl)) (by decide) (backOf (W := 0) (rmALen l Z a0 hw [] p0 zc fm n h0 n0 Z0 hSt Ol Eb Fbn) hZ (hw _ (own_m 167 rfl)) (hw _ (own_m 63 rfl)) (by decide) (by decide)) e0 (Ins.self Eb) (g := (mkF m 1 #[.val (.ref p0)] [(.ref p0)])) rfl (by rw [hml]; rfl) (hw _ (own_m 167 rfl)) (argsL := []) (rest := []) (lenOf pd___I rfl) rfl (by show 2 * 0 + _ ≤ _; exact Nat.le_of_eq rfl) (hb hby d29_1) (fun _ _ => ⟨rfl, e0, (by decide : 0 + 0 ≤ _), (by decide : 0 + 0 ≤ _)⟩)
  dsimp only [Pt.U, Pt.locs, Pt.cells, Pt.slots] at X1 l1 y1 z1 st1 hQ1
  subst l1 y1 z1
  obtain ⟨rfl, Nq1, e1⟩ := hQ1
  have N1 := Fr.app N0 Nq1
  obtain ⟨fs, hr, hrun, hended, hW, hsame⟩ := X1.leave (v := some (.int n)) (fun h => by rw [Bd.returns] at h; cases h)
  refine ⟨_, _, pre0 _ ?_, hrun, hended, _, _, rfl, ?_, ⟨_, rfl⟩, hW, hsame.mono (by decide) (by decide)⟩
  · show Steps p.tables e below (s₁.setTop (mkF m 0 #[.val (.ref p0)] [])) _
    refine XS.aloadN X0.here hx rfl (hb hby d29_0) rfl rfl ?_
    show Steps p.tables e below (s₁.setTop (mkF m 1 #[.val (.ref p0)] [(.ref p0)])) _
    refine st1.trans ?_
    show Steps p.tables e below (T1.setTop (mkF m 4 #[.val (.ref p0)] [(.int n)])) _
    exact retI X1 hx Bd.returns (hb hby d29_4) hr
  · show Q_rmBLen Z p0 zc fm n h0 n0 _ T1.heap _
    rw [e1]
    exact ⟨rfl, N1, rfl⟩
theorem ef_rmCkL (m : MethodId) (p1 : Int32) : entryFrame m #[(.int (0 : Int32)), (.int p1)] 2 = mkF m 0 #[.val (.int (0 : Int32)), .val (.int p1)] [] := by first | (simp [entryFrame, mkF, argsToLocals, Value.category]; done) | rfl
theorem d33_0 : decode jdk_65_method_131_code 0 = .ok (.iload_n 1, 1) := by decide +kernel
theorem d33_1 : decode jdk_65_method_131_code 1 = .ok (.iload_n 0, 1) := by decide +kernel
theorem d33_2 : decode jdk_65_method_131_code 2 = .ok (.if_icmp .ge 35, 3) := by decide +kernel
theorem d33_37 : decode jdk_65_method_131_code 37 = .ok (.return_, 1) := by decide +kernel
def Q_rmCkL (Z : State) (p1 : Int32) (zc : Int32) (fm : Value) (h0 : Heap) (n0 : Nat) (v : Option Value) (h : Heap) (L : List Loc) : Prop := v = none ∧ Fr n0 L ∧ h = h0
set_option maxRecDepth 65536 in
set_option maxHeartbeats 40000000 in
theorem rmCkL (l : Launch) (Z : State) (a0 : Array Value) (hw : ∀ d ∈ tables_1, d.before a0 Z = true) (ws : List Jvm.Cond) (p1 : Int32) (zc : Int32) (fm : Value) (h0 : Heap) (n0 : Nat) (Z0 : n0 ≤ h0.size) (hSt : own_St Z zc fm) (Ol : own_Old Z n0 h0) (h1_ : ¬ p1 < (0 : Int32)) :
    MetFree l (⟨"java/util/Arrays", "checkLength", "(II)V"⟩ : MethodName) (head1 (Jvm.Cond.code (⟨"java/util/Arrays", "checkLength", "(II)V"⟩ : MethodName) jdk_65_method_131_code 2 none :: ws) ({ frames := 0, cells := 0, slots := 0, locals := 0 } : Room)) (fun a U => a = #[(.int (0 : Int32)), (.int p1)] ∧ Z.Warmed39 U.vm ∧ U.heap = h0) (fun _ _ _ _ _ => True) (fun _ U o U' => ∃ v L, o = .returned v ∧ Q_rmCkL Z p1 zc fm h0 n0 v U'.heap L ∧ FrameEnd U o U' L ({ frames := 0, cells := 0, slots := 0, locals := 0 } : Room).cells ({ frames := 0, cells := 0, slots := 0, locals := 0 } : Room).slots) := by
  refine MetFree.of_bodySF (plainFor_of_name pn_java_util_Arrays) hisR ?_
  intro p e s m args below meth c s₁ Bd hml0 hP hK
  obtain ⟨rfl, hZ, hh⟩ := hP
  have hx := Bd.exec
  have hby := Bd.bytes
  have hml : c.maxLocals = 2 := hml0
  have hown : s.vm.findClass "java/util/Arrays" = some m.cls := findClass_of_methodNamed Bd.named
  have hnm := (name_of_methodNamed Bd.named Bd.method).1
  have hZo := hZ
  have howno := hown
  have X0 : Stand p l e ({ frames := 0, cells := 0, slots := 0, locals := 0 } : Room) s m #[(.int (0 : Int32)), (.int p1)] below meth c s₁ [] 0 0 := Stand.of_body Bd
  have e0 : s₁.heap = h0 := by rw [← hh, Bd.state]; rfl
  have N0 := Fr.nil n0
  have pre0 : ∀ t, Steps p.tables e below (s₁.setTop (mkF m 0 #[.val (.int (0 : Int32)), .val (.int p1)] [])) t → Steps p.tables e below (s₁.setTop (entryFrame m #[(.int (0 : Int32)), (.int p1)] 2)) t := fun t k => castTop (ef_rmCkL m p1 ) k
  obtain ⟨fs, hr, hrun, hended, hW, hsame⟩ := X0.leave (v := none) (fun _ => rfl)
  refine ⟨_, _, pre0 _ ?_, hrun, hended, _, _, rfl, ?_, ⟨_, rfl⟩, hW, hsame.mono (by decide) (by decide)⟩
  · show Steps p.tables e below (s₁.setTop (mkF m 0 #[.val (.int (0 : Int32)), .val (.int p1)] [])) _
    refine XS.iloadN X0.here hx rfl (hb hby d33_0) rfl  ?_
    refine XS.iloadN X0.here hx rfl (hb hby d33_1) rfl  ?_
    show Steps p.tables e below (s₁.setTop (mkF m 2 #[.val (.int (0 : Int32)), .val (.int p1)] [(.int (0 : Int32)), (.int p1)])) _
    refine XS.icmpYes X0.here hx rfl (pc0 := 2) (pc' := 37) rfl (hb hby d33_2) rfl (flt h1_).2.1 (by decide) (by decide) ?_
    show Steps p.tables e below (s₁.setTop (mkF m 37 #[.val (.int (0 : Int32)), .val (.int p1)] [])) _
    exact X0.returnOut hx Bd.returns (hb hby d33_37) hr
  · show Q_rmCkL Z p1 zc fm h0 n0 _ s₁.heap _
    rw [e0]
    exact ⟨rfl, N0, rfl⟩
theorem ef_rmMin (m : MethodId) (p1 : Int32) : entryFrame m #[(.int (16 : Int32)), (.int p1)] 2 = mkF m 0 #[.val (.int (16 : Int32)), .val (.int p1)] [] := by first | (simp [entryFrame, mkF, argsToLocals, Value.category]; done) | rfl
theorem d34_0 : decode jdk_29_method_69_code 0 = .ok (.iload_n 0, 1) := by decide +kernel
theorem d34_1 : decode jdk_29_method_69_code 1 = .ok (.iload_n 1, 1) := by decide +kernel
theorem d34_2 : decode jdk_29_method_69_code 2 = .ok (.if_icmp .gt 7, 3) := by decide +kernel
theorem d34_9 : decode jdk_29_method_69_code 9 = .ok (.iload_n 1, 1) := by decide +kernel
theorem d34_10 : decode jdk_29_method_69_code 10 = .ok (.ireturn, 1) := by decide +kernel
def Q_rmMin (Z : State) (p1 : Int32) (zc : Int32) (fm : Value) (h0 : Heap) (n0 : Nat) (v : Option Value) (h : Heap) (L : List Loc) : Prop := v = some (.int p1) ∧ Fr n0 L ∧ h = h0
set_option maxRecDepth 65536 in
set_option maxHeartbeats 40000000 in
theorem rmMin (l : Launch) (Z : State) (a0 : Array Value) (hw : ∀ d ∈ tables_1, d.before a0 Z = true) (ws : List Jvm.Cond) (p1 : Int32) (zc : Int32) (fm : Value) (h0 : Heap) (n0 : Nat) (Z0 : n0 ≤ h0.size) (hSt : own_St Z zc fm) (Ol : own_Old Z n0 h0) (h1_ : p1 < (16 : Int32)) :
    MetFree l (⟨"java/lang/Math", "min", "(II)I"⟩ : MethodName) (head1 (Jvm.Cond.code (⟨"java/lang/Math", "min", "(II)I"⟩ : MethodName) jdk_29_method_69_code 2 (some .int) :: ws) ({ frames := 0, cells := 0, slots := 0, locals := 0 } : Room)) (fun a U => a = #[(.int (16 : Int32)), (.int p1)] ∧ Z.Warmed39 U.vm ∧ U.heap = h0) (fun _ _ _ _ _ => True) (fun _ U o U' => ∃ v L, o = .returned v ∧ Q_rmMin Z p1 zc fm h0 n0 v U'.heap L ∧ FrameEnd U o U' L ({ frames := 0, cells := 0, slots := 0, locals := 0 } : Room).cells ({ frames := 0, cells := 0, slots := 0, locals := 0 } : Room).slots) := by
  refine MetFree.of_bodySF (Jvm.Free.JP.mathPlain rfl (by decide +kernel)) hisR ?_
  intro p e s m args below meth c s₁ Bd hml0 hP hK
  obtain ⟨rfl, hZ, hh⟩ := hP
  have hx := Bd.exec
  have hby := Bd.bytes
  have hml : c.maxLocals = 2 := hml0
  have hown : s.vm.findClass "java/lang/Math" = some m.cls := findClass_of_methodNamed Bd.named
  have hnm := (name_of_methodNamed Bd.named Bd.method).1
  have hZo := hZ
  have howno := hown
  have X0 : Stand p l e ({ frames := 0, cells := 0, slots := 0, locals := 0 } : Room) s m #[(.int (16 : Int32)), (.int p1)] below meth c s₁ [] 0 0 := Stand.of_body Bd
  have e0 : s₁.heap = h0 := by rw [← hh, Bd.state]; rfl
  have N0 := Fr.nil n0
  have pre0 : ∀ t, Steps p.tables e below (s₁.setTop (mkF m 0 #[.val (.int (16 : Int32)), .val (.int p1)] [])) t → Steps p.tables e below (s₁.setTop (entryFrame m #[(.int (16 : Int32)), (.int p1)] 2)) t := fun t k => castTop (ef_rmMin m p1 ) k
  obtain ⟨fs, hr, hrun, hended, hW, hsame⟩ := X0.leave (v := some (.int p1)) (fun h => by rw [Bd.returns] at h; cases h)
  refine ⟨_, _, pre0 _ ?_, hrun, hended, _, _, rfl, ?_, ⟨_, rfl⟩, hW, hsame.mono (by decide) (by decide)⟩
  · show Steps p.tables e below (s₁.setTop (mkF m 0 #[.val (.int (16 : Int32)), .val (.int p1)] [])) _
    refine XS.iloadN X0.here hx rfl (hb hby d34_0) rfl  ?_
    refine XS.iloadN X0.here hx rfl (hb hby d34_1) rfl  ?_
    show Steps p.tables e below (s₁.setTop (mkF m 2 #[.val (.int (16 : Int32)), .val (.int p1)] [(.int p1), (.int (16 : Int32))])) _
    refine XS.icmpYes X0.here hx rfl (pc0 := 2) (pc' := 9) rfl (hb hby d34_2) rfl (tlt h1_).2.2.1 (by decide) (by decide) ?_
    refine XS.iloadN X0.here hx rfl (hb hby d34_9) rfl  ?_
    show Steps p.tables e below (s₁.setTop (mkF m 10 #[.val (.int (16 : Int32)), .val (.int p1)] [(.int p1)])) _
    exact retI X0 hx Bd.returns (hb hby d34_10) hr
  · show Q_rmMin Z p1 zc fm h0 n0 _ s₁.heap _
    rw [e0]
    exact ⟨rfl, N0, rfl⟩
theorem ef_rmCRB (m : MethodId) (p0 : Addr) (p2 : Int32) : entryFrame m #[(.ref p0), (.int (0 : Int32)), (.int p2)] 5 = mkF m 0 #[.val (.ref p0), .val (.int (0 : Int32)), .val (.int p2), .unset, .unset] [] := by first | (simp [entryFrame, mkF, argsToLocals, Value.category]; done) | rfl
theorem d32_0 : decode jdk_65_method_133_code 0 = .ok (.iload_n 1, 1) := by decide +kernel
theorem d32_1 : decode jdk_65_method_133_code 1 = .ok (.iload_n 2, 1) := by decide +kernel
theorem d32_2 : decode jdk_65_method_133_code 2 = .ok (.invokestatic 343, 3) := by decide +kernel
theorem d32_5 : decode jdk_65_method_133_code 5 = .ok (.iload_n 2, 1) := by decide +kernel
theorem d32_6 : decode jdk_65_method_133_code 6 = .ok (.iload_n 1, 1) := by decide +kernel
theorem d32_7 : decode jdk_65_method_133_code 7 = .ok (.isub, 1) := by decide +kernel
theorem d32_8 : decode jdk_65_method_133_code 8 = .ok (.istore_n 3, 1) := by decide +kernel
theorem d32_9 : decode jdk_65_method_133_code 9 = .ok (.iload_n 3, 1) := by decide +kernel
theorem d32_10 : decode jdk_65_method_133_code 10 = .ok (.newarray .byte, 2) := by decide +kernel
theorem d32_12 : decode jdk_65_method_133_code 12 = .ok (.astore 4, 2) := by decide +kernel
theorem d32_14 : decode jdk_65_method_133_code 14 = .ok (.aload_n 0, 1) := by decide +kernel
theorem d32_15 : decode jdk_65_method_133_code 15 = .ok (.iload_n 1, 1) := by decide +kernel
theorem d32_16 : decode jdk_65_method_133_code 16 = .ok (.aload 4, 2) := by decide +kernel
theorem d32_18 : decode jdk_65_method_133_code 18 = .ok (.iconst 0, 1) := by decide +kernel
theorem d32_19 : decode jdk_65_method_133_code 19 = .ok (.aload_n 0, 1) := by decide +kernel
theorem d32_20 : decode jdk_65_method_133_code 20 = .ok (.arraylength, 1) := by decide +kernel
theorem d32_21 : decode jdk_65_method_133_code 21 = .ok (.iload_n 1, 1) := by decide +kernel
theorem d32_22 : decode jdk_65_method_133_code 22 = .ok (.isub, 1) := by decide +kernel
theorem d32_23 : decode jdk_65_method_133_code 23 = .ok (.iload_n 3, 1) := by decide +kernel
theorem pd__II_I : parseMethodDescriptor "(II)I" = some ⟨[.int, .int], some .int⟩ := by decide +kernel
theorem d32_24 : decode jdk_65_method_133_code 24 = .ok (.invokestatic 304, 3) := by decide +kernel
theorem d32_27 : decode jdk_65_method_133_code 27 = .ok (.invokestatic 150, 3) := by decide +kernel
theorem d32_30 : decode jdk_65_method_133_code 30 = .ok (.aload 4, 2) := by decide +kernel
theorem d32_32 : decode jdk_65_method_133_code 32 = .ok (.areturn, 1) := by decide +kernel
def Q_rmCRB (Z : State) (p0 : Addr) (p2 : Int32) (zc : Int32) (fm : Value) (kb : ClassId) (bs : List Int32) (h0 : Heap) (n0 : Nat) (v : Option Value) (h : Heap) (L : List Loc) : Prop := (∃ (b : Addr) (k : ClassId), v = some (.ref b) ∧ n0 ≤ b ∧ h0.size ≤ b ∧ Arv Z h b k .byte p2 (own_nrw bs) (.int (0 : Int32))) ∧ Fr n0 L ∧ Keep h0 h []
set_option maxRecDepth 65536 in
set_option maxHeartbeats 40000000 in
theorem rmCRB (l : Launch) (Z : State) (a0 : Array Value) (hw : ∀ d ∈ tables_1, d.before a0 Z = true) (ws : List Jvm.Cond) (p0 : Addr) (p2 : Int32) (zc : Int32) (fm : Value) (kb : ClassId) (bs : List Int32) (h0 : Heap) (n0 : Nat) (Z0 : n0 ≤ h0.size) (hSt : own_St Z zc fm) (Ol : own_Old Z n0 h0) (Ab : Arv Z h0 p0 kb .byte (16 : Int32) (own_nrw bs) (.int (0 : Int32))) (hp2 : p2 = (Int32.ofNat bs.length)) (hb16 : bs.length < 16) :
    MetFree l (⟨"java/util/Arrays", "copyOfRangeByte", "([BII)[B"⟩ : MethodName) (head1 (Jvm.Cond.code (⟨"java/util/Arrays", "copyOfRangeByte", "([BII)[B"⟩ : MethodName) jdk_65_method_133_code 5 (some (.array .byte)) :: ws) ({ frames := 1, cells := 1, slots := 16, locals := 18 } : Room)) (fun a U => a = #[(.ref p0), (.int (0 : Int32)), (.int p2)] ∧ Z.Warmed39 U.vm ∧ U.heap = h0) (fun _ _ _ _ _ => True) (fun _ U o U' => ∃ v L, o = .returned v ∧ Q_rmCRB Z p0 p2 zc fm kb bs h0 n0 v U'.heap L ∧ FrameEnd U o U' L ({ frames := 1, cells := 1, slots := 16, locals := 18 } : Room).cells ({ frames := 1, cells := 1, slots := 16, locals := 18 } : Room).slots) := by
  refine MetFree.of_bodySF (plainFor_of_name pn_java_util_Arrays) hisR ?_
  intro p e s m args below meth c s₁ Bd hml0 hP hK
  obtain ⟨rfl, hZ, hh⟩ := hP
  have hx := Bd.exec
  have hby := Bd.bytes
  have hml : c.maxLocals = 5 := hml0
  have hown : s.vm.findClass "java/util/Arrays" = some m.cls := findClass_of_methodNamed Bd.named
  have hnm := (name_of_methodNamed Bd.named Bd.method).1
  have hZo := hZ
  have howno := hown
  have X0 : Stand p l e ({ frames := 1, cells := 1, slots := 16, locals := 18 } : Room) s m #[(.ref p0), (.int (0 : Int32)), (.int p2)] below meth c s₁ [] 0 0 := Stand.of_body Bd
  have e0 : s₁.heap = h0 := by rw [← hh, Bd.state]; rfl
  have N0 := Fr.nil n0
  have pre0 : ∀ t, Steps p.tables e below (s₁.setTop (mkF m 0 #[.val (.ref p0), .val (.int (0 : Int32)), .val (.int p2), .unset, .unset] [])) t → Steps p.tables e below (s₁.setTop (entryFrame m #[(.ref p0), (.int (0 : Int32)), (.int p2)] 5)) t := fun t k => castTop (ef_rmCRB m p0 p2 ) k
  have hpn : ¬ p2 < 0 ∧ p2.toNatClampNeg = bs.length := by rw [hp2]; exact own_pos (by omega)
  have hp16 : p2 < (16 : Int32) := by rw [hp2]; exact own_inr (n := 16) (own_pos (by omega)).1 (by rw [(own_pos (by omega)).2]; exact hb16) (by decide)
  obtain ⟨_, _, ⟨T1, L1, k1, n1⟩, -, X1, ⟨Lc1, hQ1, l1, y1, z1⟩, st1⟩ := Jvm.LawKit.callS X0 hx (y := (⟨"java/util/Arrays", "checkLength", "(II)V"⟩ : MethodName)) hown (mvT hZ (hw _ (own_m 176 rfl))) (mvT hZ (hw _ (own_m 177 rfl))) (mvT hZ (hw _ (own_m 171 rfl))) (mvT hZ (hw _ (own_m 178 rfl))) (by decide) (backOf (W := 0) (rmCkL l Z a0 hw [] p2 zc fm  h0 n0 Z0 hSt Ol hpn.1) hZ (hw _ (own_m 178 rfl)) (hw _ (own_m 171 rfl)) (by decide) (by decide)) (g := (mkF m 2 #[.val (.ref p0), .val (.int (0 : Int32)), .val (.int p2), .unset, .unset] [(.int p2), (.int (0 : Int32))])) rfl (by rw [hml]; rfl) (argsL := [(.int (0 : Int32)), (.int p2)]) (rest := []) (lenOf pd__II_V rfl) rfl (by show 2 * 0 + _ ≤ _; exact Nat.le_of_eq rfl) (hb hby d32_2) (fun _ _ => ⟨rfl, e0, (by decide : 0 + 0 ≤ _), (by decide : 0 + 0 ≤ _)⟩)
  dsimp only [Pt.U, Pt.locs, Pt.cells, Pt.slots] at X1 l1 y1 z1 st1 hQ1
  subst l1 y1 z1
  obtain ⟨rfl, Nq1, e1⟩ := hQ1
  have N1 := Fr.app N0 Nq1
  have pre2 : ∀ t, Steps p.tables e below (T1.setTop (mkF m 9 #[.val (.ref p0), .val (.int (0 : Int32)), .val (.int p2), .val (.int (p2 - (0 : Int32))), .unset] [])) t → Steps p.tables e below (s₁.setTop (entryFrame m #[(.ref p0), (.int (0 : Int32)), (.int p2)] 5)) t := fun t kt => pre0 t (by
    show Steps p.tables e below (s₁.setTop (mkF m 0 #[.val (.ref p0), .val (.int (0 : Int32)), .val (.int p2), .unset, .unset] [])) _
    refine XS.iloadN X0.here hx rfl (hb hby d32_0) rfl  ?_
    refine XS.iloadN X0.here hx rfl (hb hby d32_1) rfl  ?_
    show Steps p.tables e below (s₁.setTop (mkF m 2 #[.val (.ref p0), .val (.int (0 : Int32)), .val (.int p2), .unset, .unset] [(.int p2), (.int (0 : Int32))])) _
    refine st1 _ ?_
    show Steps p.tables e below (T1.setTop (mkF m 5 #[.val (.ref p0), .val (.int (0 : Int32)), .val (.int p2), .unset, .unset] [])) _
    refine XS.iloadN X1.here hx rfl (hb hby d32_5) rfl  ?_
    refine XS.iloadN X1.here hx rfl (hb hby d32_6) rfl  ?_
    refine XS.isub X1.here hx rfl (hb hby d32_7) rfl ?_
    refine XS.istoreN X1.here hx rfl (hb hby d32_8) rfl (l' := #[.val (.ref p0), .val (.int (0 : Int32)), .val (.int p2), .val (.int (p2 - (0 : Int32))), .unset]) rfl ?_
    exact kt)
  rw [own_sub0] at pre2
  obtain ⟨T3, h3, k3, X3, e3, E3, A3, st3⟩ := newP X1 hx hZ (hw _ (own_m 19 rfl)) e1 (g := (mkF m 10 #[.val (.ref p0), .val (.int (0 : Int32)), .val (.int p2), .val (.int p2), .unset] [(.int p2)])) rfl (hb hby d32_10) rfl hpn.1 (cap := 16) (by rw [hpn.2]; exact Nat.le_of_lt hb16) (by decide) (by decide) (by decide)
  obtain ⟨b3, g3⟩ : ∃ z, z = h0.size := ⟨_, rfl⟩
  rw [← g3] at A3 st3
  have ne3_p0 : p0 ≠ b3 := Nat.ne_of_lt (Nat.lt_of_lt_of_le Ab.lt (Nat.le_of_eq g3.symm))
  have ge3 : n0 ≤ b3 := Nat.le_trans Z0 (Nat.le_of_eq g3.symm)
  have sz3 : h0.size ≤ b3 := Nat.le_trans (Keep.refl h0 []).1 (Nat.le_of_eq g3.symm)
  have K3 := (Keep.refl h0 []).ext E3
  have V3 : Arv Z h3 b3 k3 .byte p2 [] (.int (0 : Int32)) := Arv.new A3 hpn.1
  have f4 := (Ab.ext E3)
  obtain ⟨cl5, Ar5, -, S5, N5, -, -⟩ := id f4
  have f6 := (Nat.le_trans Z0 E3.1)
  have f7 := (Ol.ext E3)
  obtain ⟨_, _, ⟨T8, L8, k8, n8⟩, -, X8, ⟨Lc8, hQ8, l8, y8, z8⟩, st8⟩ := Jvm.LawKit.callS X3 hx (y := (⟨"java/lang/Math", "min", "(II)I"⟩ : MethodName)) hown (mvT hZ (hw _ (own_m 179 rfl))) (mvT hZ (hw _ (own_m 180 rfl))) (mvT hZ (hw _ (own_m 181 rfl))) (mvT hZ (hw _ (own_m 182 rfl))) (by decide) (backOf (W := 4) (rmMin l Z a0 hw [] p2 zc fm  h3 n0 f6 hSt f7 hp16) hZ (hw _ (own_m 182 rfl)) (hw _ (own_m 181 rfl)) (by decide) (by decide)) (g := (mkF m 24 #[.val (.ref p0), .val (.int (0 : Int32)), .val (.int p2), .val (.int p2), .val (.ref b3)] [(.int p2), (.int (16 : Int32)), (.int (0 : Int32)), (.ref b3), (.int (0 : Int32)), (.ref p0)])) rfl (by rw [hml]; rfl) (argsL := [(.int (16 : Int32)), (.int p2)]) (rest := [(.int (0 : Int32)), (.ref b3), (.int (0 : Int32)), (.ref p0)]) (lenOf pd__II_I rfl) rfl (by show 2 * 0 + _ ≤ _; exact Nat.le_of_eq rfl) (hb hby d32_24) (fun _ _ => ⟨rfl, e3, (by decide : 1 + 0 ≤ _), (by decide : 16 + 0 ≤ _)⟩)
  dsimp only [Pt.U, Pt.locs, Pt.cells, Pt.slots] at X8 l8 y8 z8 st8 hQ8
  subst l8 y8 z8
  obtain ⟨rfl, Nq8, e8⟩ := hQ8
  have N8 := Fr.app N1 Nq8
  obtain ⟨T9, h9, L9, X9, e9, N9, K9, V9, st9⟩ := cpA X8 hx hZ hown (hw _ (own_m 183 rfl)) (hw _ (own_m 117 rfl)) (hw _ (own_m 115 rfl)) (hw _ (own_m 116 rfl)) e8 f4 (V3.pad (pad_rep _ _ 16)) (Or.inl ⟨rfl, rfl⟩) (by decide) (by decide) hpn.1 (by rw [hpn.2]; exact Nat.le_trans (Nat.le_of_eq (Nat.zero_add _)) (Nat.le_of_lt hb16)) (by rw [hpn.2]; exact Nat.le_of_eq (Nat.zero_add _)) (us := own_nrw bs) (by rw [hp2]; exact own_rng (by omega)) (by rw [hpn.2]; show 0 + _ ≤ _; simp; omega) N8 ge3 (g := (mkF m 27 #[.val (.ref p0), .val (.int (0 : Int32)), .val (.int p2), .val (.int p2), .val (.ref b3)] [(.int p2), (.int (0 : Int32)), (.ref b3), (.int (0 : Int32)), (.ref p0)])) rfl (by rw [hml]; rfl) (rest := []) rfl (hb hby d32_27) (by decide) (W := 0) (by show 2 * 0 + _ ≤ _; exact Nat.le_of_eq rfl) (by decide)
  have KK9 := K3.trans K9 (allS (Or.inr sz3) all0)
  have W9 := own_cpy hpn.2 V9
  obtain ⟨fs, hr, hrun, hended, hW, hsame⟩ := X9.leave (v := some (.ref b3)) (fun h => by rw [Bd.returns] at h; cases h)
  refine ⟨_, _, pre2 _ ?_, hrun, hended, _, _, rfl, ?_, ⟨_, rfl⟩, hW, hsame.mono (by decide) (by decide)⟩
  · show Steps p.tables e below (T1.setTop (mkF m 9 #[.val (.ref p0), .val (.int (0 : Int32)), .val (.int p2), .val (.int p2), .unset] [])) _
    refine XS.iloadN X1.here hx rfl (hb hby d32_9) rfl  ?_
    show Steps p.tables e below (T1.setTop (mkF m 10 #[.val (.ref p0), .val (.int (0 : Int32)), .val (.int p2), .val (.int p2), .unset] [(.int p2)])) _
    refine st3 _ ?_
    show Steps p.tables e below (T3.setTop (mkF m 12 #[.val (.ref p0), .val (.int (0 : Int32)), .val (.int p2), .val (.int p2), .unset] [(.ref b3)])) _
    refine XS.astore X3.here hx rfl (hb hby d32_12) rfl rfl (l' := #[.val (.ref p0), .val (.int (0 : Int32)), .val (.int p2), .val (.int p2), .val (.ref b3)]) rfl ?_
    refine XS.aloadN X3.here hx rfl (hb hby d32_14) rfl rfl ?_
    refine XS.iloadN X3.here hx rfl (hb hby d32_15) rfl  ?_
    refine XS.aload X3.here hx rfl (hb hby d32_16) rfl rfl ?_
    refine XS.iconst X3.here hx rfl (hb hby d32_18) ?_
    refine XS.aloadN X3.here hx rfl (hb hby d32_19) rfl rfl ?_
    show Steps p.tables e below (T3.setTop (mkF m 20 #[.val (.ref p0), .val (.int (0 : Int32)), .val (.int p2), .val (.int p2), .val (.ref b3)] [(.ref p0), (.int (0 : Int32)), (.ref b3), (.int (0 : Int32)), (.ref p0)])) _
    refine X3.arraylength hx (by rw [e3]; exact Ar5.1) (State.isArrayOf_alike hZ.alike Ar5.2.1) (g := (mkF m 20 #[.val (.ref p0), .val (.int (0 : Int32)), .val (.int p2), .val (.int p2), .val (.ref b3)] [(.ref p0), (.int (0 : Int32)), (.ref b3), (.int (0 : Int32)), (.ref p0)])) rfl rfl (hb hby d32_20) _ ?_
    rw [len_of S5 N5]
    show Steps p.tables e below (T3.setTop (mkF m 21 #[.val (.ref p0), .val (.int (0 : Int32)), .val (.int p2), .val (.int p2), .val (.ref b3)] [(.int (16 : Int32)), (.int (0 : Int32)), (.ref b3), (.int (0 : Int32)), (.ref p0)])) _
    refine XS.iloadN X3.here hx rfl (hb hby d32_21) rfl  ?_
    refine XS.isub X3.here hx rfl (hb hby d32_22) rfl ?_
    refine XS.iloadN X3.here hx rfl (hb hby d32_23) rfl  ?_
    show Steps p.tables e below (T3.setTop (mkF m 24 #[.val (.ref p0), .val (.int (0 : Int32)), .val (.int p2), .val (.int p2), .val (.ref b3)] [(.int p2), (.int (16 : Int32)), (.int (0 : Int32)), (.ref b3), (.int (0 : Int32)), (.ref p0)])) _
    refine st8 _ ?_
    show Steps p.tables e below (T8.setTop (mkF m 27 #[.val (.ref p0), .val (.int (0 : Int32)), .val (.int p2), .val (.int p2), .val (.ref b3)] [(.int p2), (.int (0 : Int32)), (.ref b3), (.int (0 : Int32)), (.ref p0)])) _
    refine st9 _ ?_
    show Steps p.tables e below (T9.setTop (mkF m 30 #[.val (.ref p0), .val (.int (0 : Int32)), .val (.int p2), .val (.int p2), .val (.ref b3)] [])) _
    refine XS.aload X9.here hx rfl (hb hby d32_30) rfl rfl ?_
    show Steps p.tables e below (T9.setTop (mkF m 32 #[.val (.ref p0), .val (.int (0 : Int32)), .val (.int p2), .val (.int p2), .val (.ref b3)] [(.ref b3)])) _
    jvm_step X9.here [X9.here.top, hx, (hb hby d32_32), X9.method', Bd.returns, Value.isRef, FieldType.isReference]
    first | (intro acts; rw [hr _ acts rfl rfl rfl]) | rw [hr _ _ rfl rfl rfl]
    exact Steps.refl _
  · show Q_rmCRB Z p0 p2 zc fm kb bs h0 n0 _ T9.heap _
    rw [e9]
    exact ⟨⟨_, _, rfl, ge3, sz3, W9⟩, N9, KK9⟩
theorem ef_rmCR (m : MethodId) (p0 : Addr) (p2 : Int32) : entryFrame m #[(.ref p0), (.int (0 : Int32)), (.int p2)] 3 = mkF m 0 #[.val (.ref p0), .val (.int (0 : Int32)), .val (.int p2)] [] := by first | (simp [entryFrame, mkF, argsToLocals, Value.category]; done) | rfl
theorem d31_0 : decode jdk_65_method_132_code 0 = .ok (.iload_n 1, 1) := by decide +kernel
theorem d31_1 : decode jdk_65_method_132_code 1 = .ok (.ifCond .ne 9, 3) := by decide +kernel
theorem d31_4 : decode jdk_65_method_132_code 4 = .ok (.iload_n 2, 1) := by decide +kernel
theorem d31_5 : decode jdk_65_method_132_code 5 = .ok (.aload_n 0, 1) := by decide +kernel
theorem d31_6 : decode jdk_65_method_132_code 6 = .ok (.arraylength, 1) := by decide +kernel
theorem d31_7 : decode jdk_65_method_132_code 7 = .ok (.if_icmp .eq 10, 3) := by decide +kernel
theorem d31_10 : decode jdk_65_method_132_code 10 = .ok (.aload_n 0, 1) := by decide +kernel
theorem d31_11 : decode jdk_65_method_132_code 11 = .ok (.iload_n 1, 1) := by decide +kernel
theorem d31_12 : decode jdk_65_method_132_code 12 = .ok (.iload_n 2, 1) := by decide +kernel
theorem pd___BII__B : parseMethodDescriptor "([BII)[B" = some ⟨[(.array .byte), .int, .int], some (.array .byte)⟩ := by decide +kernel
theorem d31_13 : decode jdk_65_method_132_code 13 = .ok (.invokestatic 339, 3) := by decide +kernel
theorem d31_16 : decode jdk_65_method_132_code 16 = .ok (.areturn, 1) := by decide +kernel
def Q_rmCR (Z : State) (p0 : Addr) (p2 : Int32) (zc : Int32) (fm : Value) (kb : ClassId) (bs : List Int32) (h0 : Heap) (n0 : Nat) (v : Option Value) (h : Heap) (L : List Loc) : Prop := (∃ (b : Addr) (k : ClassId), v = some (.ref b) ∧ n0 ≤ b ∧ h0.size ≤ b ∧ Arv Z h b k .byte p2 (own_nrw bs) (.int (0 : Int32))) ∧ Fr n0 L ∧ Keep h0 h []
set_option maxRecDepth 65536 in
set_option maxHeartbeats 40000000 in
theorem rmCR (l : Launch) (Z : State) (a0 : Array Value) (hw : ∀ d ∈ tables_1, d.before a0 Z = true) (ws : List Jvm.Cond) (p0 : Addr) (p2 : Int32) (zc : Int32) (fm : Value) (kb : ClassId) (bs : List Int32) (h0 : Heap) (n0 : Nat) (Z0 : n0 ≤ h0.size) (hSt : own_St Z zc fm) (Ol : own_Old Z n0 h0) (Ab : Arv Z h0 p0 kb .byte (16 : Int32) (own_nrw bs) (.int (0 : Int32))) (hp2 : p2 = (Int32.ofNat bs.length)) (hb16 : bs.length < 16) :
    MetFree l (⟨"java/util/Arrays", "copyOfRange", "([BII)[B"⟩ : MethodName) (head1 (Jvm.Cond.code (⟨"java/util/Arrays", "copyOfRange", "([BII)[B"⟩ : MethodName) jdk_65_method_132_code 3 (some (.array .byte)) :: ws) ({ frames := 2, cells := 1, slots := 16, locals := 34 } : Room)) (fun a U => a = #[(.ref p0), (.int (0 : Int32)), (.int p2)] ∧ Z.Warmed39 U.vm ∧ U.heap = h0) (fun _ _ _ _ _ => True) (fun _ U o U' => ∃ v L, o = .returned v ∧ Q_rmCR Z p0 p2 zc fm kb bs h0 n0 v U'.heap L ∧ FrameEnd U o U' L ({ frames := 2, cells := 1, slots := 16, locals := 34 } : Room).cells ({ frames := 2, cells := 1, slots := 16, locals := 34 } : Room).slots) := by
  refine MetFree.of_bodySF (plainFor_of_name pn_java_util_Arrays) hisR ?_
  intro p e s m args below meth c s₁ Bd hml0 hP hK
  obtain ⟨rfl, hZ, hh⟩ := hP
  have hx := Bd.exec
  have hby := Bd.bytes
  have hml : c.maxLocals = 3 := hml0
  have hown : s.vm.findClass "java/util/Arrays" = some m.cls := findClass_of_methodNamed Bd.named
  have hnm := (name_of_methodNamed Bd.named Bd.method).1
  have hZo := hZ
  have howno := hown
  have X0 : Stand p l e ({ frames := 2, cells := 1, slots := 16, locals := 34 } : Room) s m #[(.ref p0), (.int (0 : Int32)), (.int p2)] below meth c s₁ [] 0 0 := Stand.of_body Bd
  have e0 : s₁.heap = h0 := by rw [← hh, Bd.state]; rfl
  have N0 := Fr.nil n0
  have pre0 : ∀ t, Steps p.tables e below (s₁.setTop (mkF m 0 #[.val (.ref p0), .val (.int (0 : Int32)), .val (.int p2)] [])) t → Steps p.tables e below (s₁.setTop (entryFrame m #[(.ref p0), (.int (0 : Int32)), (.int p2)] 3)) t := fun t k => castTop (ef_rmCR m p0 p2 ) k
  obtain ⟨cl1, Ar1, -, S1, N1, -, -⟩ := id Ab
  obtain ⟨_, _, ⟨T2, L2, k2, n2⟩, -, X2, ⟨Lc2, hQ2, l2, y2, z2⟩, st2⟩ := Jvm.LawKit.callS X0 hx (y := (⟨"java/util/Arrays", "copyOfRangeByte", "([BII)[B"⟩ : MethodName)) hown (mvT hZ (hw _ (own_m 173 rfl))) (mvT hZ (hw _ (own_m 174 rfl))) (mvT hZ (hw _ (own_m 171 rfl))) (mvT hZ (hw _ (own_m 175 rfl))) (by decide) (backOf (W := 0) (rmCRB l Z a0 hw [] p0 p2 zc fm kb bs h0 n0 Z0 hSt Ol Ab hp2 hb16) hZ (hw _ (own_m 175 rfl)) (hw _ (own_m 171 rfl)) (by decide) (by decide)) (g := (mkF m 13 #[.val (.ref p0), .val (.int (0 : Int32)), .val (.int p2)] [(.int p2), (.int (0 : Int32)), (.ref p0)])) rfl (by rw [hml]; rfl) (argsL := [(.ref p0), (.int (0 : Int32)), (.int p2)]) (rest := []) (lenOf pd___BII__B rfl) rfl (by show 2 * 0 + _ ≤ _; exact Nat.le_of_eq rfl) (hb hby d31_13) (fun _ _ => ⟨rfl, e0, (by decide : 0 + 1 ≤ _), (by decide : 0 + 16 ≤ _)⟩)
  dsimp only [Pt.U, Pt.locs, Pt.cells, Pt.slots] at X2 l2 y2 z2 st2 hQ2
  subst l2 y2 z2
  obtain ⟨⟨b_, k_, rfl, gb_, sb_, at_⟩, Nq2, K2⟩ := hQ2
  have N2 := Fr.app N0 Nq2
  have KK2 := (Keep.refl h0 []).trans K2 all0
  obtain ⟨fs, hr, hrun, hended, hW, hsame⟩ := X2.leave (v := some (.ref b_)) (fun h => by rw [Bd.returns] at h; cases h)
  refine ⟨_, _, pre0 _ ?_, hrun, hended, _, _, rfl, ?_, ⟨_, rfl⟩, hW, hsame.mono (by decide) (by decide)⟩
  · show Steps p.tables e below (s₁.setTop (mkF m 0 #[.val (.ref p0), .val (.int (0 : Int32)), .val (.int p2)] [])) _
    refine XS.iloadN X0.here hx rfl (hb hby d31_0) rfl  ?_
    show Steps p.tables e below (s₁.setTop (mkF m 1 #[.val (.ref p0), .val (.int (0 : Int32)), .val (.int p2)] [(.int (0 : Int32))])) _
    refine XS.ifNo X0.here hx rfl (hb hby d31_1) rfl ((if0 _ _).trans (teq (by decide : (0 : Int32) = (0 : Int32))).2) ?_
    refine XS.iloadN X0.here hx rfl (hb hby d31_4) rfl  ?_
    refine XS.aloadN X0.here hx rfl (hb hby d31_5) rfl rfl ?_
    show Steps p.tables e below (s₁.setTop (mkF m 6 #[.val (.ref p0), .val (.int (0 : Int32)), .val (.int p2)] [(.ref p0), (.int p2)])) _
    refine X0.arraylength hx (by rw [e0]; exact Ar1.1) (State.isArrayOf_alike hZ.alike Ar1.2.1) (g := (mkF m 6 #[.val (.ref p0), .val (.int (0 : Int32)), .val (.int p2)] [(.ref p0), (.int p2)])) rfl rfl (hb hby d31_6) _ ?_
    rw [len_of S1 N1]
    show Steps p.tables e below (s₁.setTop (mkF m 7 #[.val (.ref p0), .val (.int (0 : Int32)), .val (.int p2)] [(.int (16 : Int32)), (.int p2)])) _
    refine XS.icmpNo X0.here hx rfl (hb hby d31_7) rfl (feq (fun q => by rw [hp2] at q; exact own_ofne hb16 (by decide) q)).1 ?_
    refine XS.aloadN X0.here hx rfl (hb hby d31_10) rfl rfl ?_
    refine XS.iloadN X0.here hx rfl (hb hby d31_11) rfl  ?_
    refine XS.iloadN X0.here hx rfl (hb hby d31_12) rfl  ?_
    show Steps p.tables e below (s₁.setTop (mkF m 13 #[.val (.ref p0), .val (.int (0 : Int32)), .val (.int p2)] [(.int p2), (.int (0 : Int32)), (.ref p0)])) _
    refine st2 _ ?_
    show Steps p.tables e below (T2.setTop (mkF m 16 #[.val (.ref p0), .val (.int (0 : Int32)), .val (.int p2)] [(.ref b_)])) _
    jvm_step X2.here [X2.here.top, hx, (hb hby d31_16), X2.method', Bd.returns, Value.isRef, FieldType.isReference]
    first | (intro acts; rw [hr _ acts rfl rfl rfl]) | rw [hr _ _ rfl rfl rfl]
    exact Steps.refl _
  · show Q_rmCR Z p0 p2 zc fm kb bs h0 n0 _ T2.heap _
    exact ⟨⟨_, _, rfl, gb_, sb_, at_⟩, N2, KK2⟩
theorem ef_rmStr4 (m : MethodId) (p0 : Addr) (p1 : Addr) : entryFrame m #[(.ref p0), (.ref p1), .null] 5 = mkF m 0 #[.val (.ref p0), .val (.ref p1), .val .null, .unset, .unset] [] := by first | (simp [entryFrame, mkF, argsToLocals, Value.category]; done) | rfl
theorem d27_0 : decode jdk_42_method_150_code 0 = .ok (.aload_n 0, 1) := by decide +kernel
theorem d27_1 : decode jdk_42_method_150_code 1 = .ok (.invokespecial 1, 3) := by decide +kernel
theorem d27_4 : decode jdk_42_method_150_code 4 = .ok (.aload_n 1, 1) := by decide +kernel
theorem pd____B : parseMethodDescriptor "()[B" = some ⟨[], some (.array .byte)⟩ := by decide +kernel
theorem d27_5 : decode jdk_42_method_150_code 5 = .ok (.invokevirtual 552, 3) := by decide +kernel
theorem d27_8 : decode jdk_42_method_150_code 8 = .ok (.astore_n 3, 1) := by decide +kernel
theorem d27_9 : decode jdk_42_method_150_code 9 = .ok (.aload_n 1, 1) := by decide +kernel
theorem d27_10 : decode jdk_42_method_150_code 10 = .ok (.invokevirtual 549, 3) := by decide +kernel
theorem d27_13 : decode jdk_42_method_150_code 13 = .ok (.istore 4, 2) := by decide +kernel
theorem d27_15 : decode jdk_42_method_150_code 15 = .ok (.aload_n 1, 1) := by decide +kernel
theorem d27_16 : decode jdk_42_method_150_code 16 = .ok (.invokevirtual 1047, 3) := by decide +kernel
theorem d27_19 : decode jdk_42_method_150_code 19 = .ok (.ifCond .eq 22, 3) := by decide +kernel
theorem d27_22 : decode jdk_42_method_150_code 22 = .ok (.aload_n 0, 1) := by decide +kernel
theorem d27_23 : decode jdk_42_method_150_code 23 = .ok (.iconst 0, 1) := by decide +kernel
theorem d27_24 : decode jdk_42_method_150_code 24 = .ok (.putfield 15, 3) := by decide +kernel
theorem d27_27 : decode jdk_42_method_150_code 27 = .ok (.aload_n 0, 1) := by decide +kernel
theorem d27_28 : decode jdk_42_method_150_code 28 = .ok (.aload_n 3, 1) := by decide +kernel
theorem d27_29 : decode jdk_42_method_150_code 29 = .ok (.iconst 0, 1) := by decide +kernel
theorem d27_30 : decode jdk_42_method_150_code 30 = .ok (.iload 4, 2) := by decide +kernel
theorem d27_32 : decode jdk_42_method_150_code 32 = .ok (.invokestatic 54, 3) := by decide +kernel
theorem d27_35 : decode jdk_42_method_150_code 35 = .ok (.putfield 9, 3) := by decide +kernel
theorem d27_38 : decode jdk_42_method_150_code 38 = .ok (.goto 59, 3) := by decide +kernel
theorem d27_97 : decode jdk_42_method_150_code 97 = .ok (.return_, 1) := by decide +kernel
def Q_rmStr4 (Z : State) (p0 : Addr) (p1 : Addr) (zc : Int32) (fm : Value) (t : Addr) (kb : ClassId) (bs : List Int32) (h0 : Heap) (n0 : Nat) (v : Option Value) (h : Heap) (L : List Loc) : Prop := v = none ∧ Fr n0 L ∧ Keep h0 h [p0] ∧ ∃ (ts : Addr) (ks : ClassId), h0.size ≤ ts ∧ Exa Z h p0 "java/lang/String" ∧ Fld Z h p0 "java/lang/String" "value" "[B" (.ref ts) ∧ Fld Z h p0 "java/lang/String" "coder" "B" (.int (0 : Int32)) ∧ Arv Z h ts ks .byte (Int32.ofNat bs.length) (own_nrw bs) (.int (0 : Int32))
set_option maxRecDepth 65536 in
set_option maxHeartbeats 40000000 in
theorem rmStr4 (l : Launch) (Z : State) (a0 : Array Value) (hw : ∀ d ∈ tables_1, d.before a0 Z = true) (ws : List Jvm.Cond) (p0 : Addr) (p1 : Addr) (zc : Int32) (fm : Value) (t : Addr) (kb : ClassId) (bs : List Int32) (h0 : Heap) (n0 : Nat) (Z0 : n0 ≤ h0.size) (hSt : own_St Z zc fm) (Ol : own_Old Z n0 h0) (E0 : Exa Z h0 p0 "java/lang/String") (Fv : Fld Z h0 p0 "java/lang/String" "value" "[B" .null) (Fc : Fld Z h0 p0 "java/lang/String" "coder" "B" (.int (0 : Int32))) (g0_ : n0 ≤ p0) (Eb : Exa Z h0 p1 "java/lang/StringBuilder") (Fbv : Fld Z h0 p1 "java/lang/AbstractStringBuilder" "value" "[B" (.ref t)) (Fbc : Fld Z h0 p1 "java/lang/AbstractStringBuilder" "coder" "B" (.int (0 : Int32))) (Fbn : Fld Z h0 p1 "java/lang/AbstractStringBuilder" "count" "I" (.int (Int32.ofNat bs.length))) (Ab : Arv Z h0 t kb .byte (16 : Int32) (own_nrw bs) (.int (0 : Int32))) (gb_ : n0 ≤ p1) (gt_ : n0 ≤ t) (npt : p1 ≠ t) (n01 : p0 ≠ p1) (n0t : p0 ≠ t) (hb16 : bs.length < 16) :
    MetFree l (⟨"java/lang/String", "<init>", "(Ljava/lang/AbstractStringBuilder;Ljava/lang/Void;)V"⟩ : MethodName) (head1 (Jvm.Cond.code (⟨"java/lang/String", "<init>", "(Ljava/lang/AbstractStringBuilder;Ljava/lang/Void;)V"⟩ : MethodName) jdk_42_method_150_code 5 none :: ws) ({ frames := 3, cells := 1, slots := 16, locals := 49 } : Room)) (fun a U => a = #[(.ref p0), (.ref p1), .null] ∧ Z.Warmed39 U.vm ∧ U.heap = h0) (fun _ _ _ _ _ => True) (fun _ U o U' => ∃ v L, o = .returned v ∧ Q_rmStr4 Z p0 p1 zc fm t kb bs h0 n0 v U'.heap L ∧ FrameEnd U o U' L ({ frames := 3, cells := 1, slots := 16, locals := 49 } : Room).cells ({ frames := 3, cells := 1, slots := 16, locals := 49 } : Room).slots) := by
  refine MetFree.of_bodySF (plainFor_of_name pn_java_lang_String) hisR ?_
  intro p e s m args below meth c s₁ Bd hml0 hP hK
  obtain ⟨rfl, hZ, hh⟩ := hP
  have hx := Bd.exec
  have hby := Bd.bytes
  have hml : c.maxLocals = 5 := hml0
  have hown : s.vm.findClass "java/lang/String" = some m.cls := findClass_of_methodNamed Bd.named
  have hnm := (name_of_methodNamed Bd.named Bd.method).1
  have hZo := hZ
  have howno := hown
  have X0 : Stand p l e ({ frames := 3, cells := 1, slots := 16, locals := 49 } : Room) s m #[(.ref p0), (.ref p1), .null] below meth c s₁ [] 0 0 := Stand.of_body Bd
  have e0 : s₁.heap = h0 := by rw [← hh, Bd.state]; rfl
  have N0 := Fr.nil n0
  have pre0 : ∀ t, Steps p.tables e below (s₁.setTop (mkF m 0 #[.val (.ref p0), .val (.ref p1), .val .null, .unset, .unset] [])) t → Steps p.tables e below (s₁.setTop (entryFrame m #[(.ref p0), (.ref p1), .null] 5)) t := fun t k => castTop (ef_rmStr4 m p0 p1 ) k
  obtain ⟨T1, X1, e1, st1⟩ := initO X0 hx hZ hown (hw _ (own_m 11 rfl)) (hw _ (own_m 12 rfl)) (hw _ (own_m 13 rfl)) e0 (g := (mkF m 1 #[.val (.ref p0), .val (.ref p1), .val .null, .unset, .unset] [(.ref p0)])) rfl (by rw [hml]; rfl) rfl (hb hby d27_1) (by decide) (W := 0) (by show 2 * 0 + _ ≤ _; exact Nat.le_of_eq rfl) (by decide)
  obtain ⟨cq2, kq2, q2a, q2b, q2c⟩ := isOf hZ e1 Eb
  obtain ⟨_, _, ⟨T2, L2, k2, n2⟩, -, X2, ⟨Lc2, hQ2, l2, y2, z2⟩, st2⟩ := X1.virtualBack hx (y := (⟨"java/lang/AbstractStringBuilder", "getValue", "()[B"⟩ : MethodName)) (z := (⟨"java/lang/AbstractStringBuilder", "getValue", "()[B"⟩ : MethodName)) hown (mvT hZ (hw _ (own_m 155 rfl))) (mvT hZ (hw _ (own_m 156 rfl))) (notFace_of_selects (args := #[]) (mvT hZ (hw _ (own_m 158 rfl)))) (mvT hZ (hw _ (own_m 158 rfl))) (mvT hZ (hw _ (own_m 157 rfl))) (by decide) (backOf (W := 0) (rmBVal l Z a0 hw [] p1 zc fm t h0 n0 Z0 hSt Ol Fbv) hZ (hw _ (own_m 159 rfl)) (hw _ (own_m 63 rfl)) (by decide) (by decide)) q2a q2c (g := (mkF m 5 #[.val (.ref p0), .val (.ref p1), .val .null, .unset, .unset] [(.ref p1)])) rfl (by rw [hml]; rfl) (Steps.refl _) (argsL := []) (rest := []) (lenOf pd____B rfl) rfl (by show 2 * 0 + _ ≤ _; exact Nat.le_of_eq rfl) (hb hby d27_5) (fun _ _ => ⟨rfl, e1, (by decide : 0 + 0 ≤ _), (by decide : 0 + 0 ≤ _)⟩)
  dsimp only [Pt.U, Pt.locs, Pt.cells, Pt.slots] at X2 l2 y2 z2 st2 hQ2
  subst l2 y2 z2
  obtain ⟨rfl, Nq2, e2⟩ := hQ2
  have N2 := Fr.app N0 Nq2
  obtain ⟨cq3, kq3, q3a, q3b, q3c⟩ := isOf hZ e2 Eb
  obtain ⟨_, _, ⟨T3, L3, k3, n3⟩, -, X3, ⟨Lc3, hQ3, l3, y3, z3⟩, st3⟩ := X2.virtualBack hx (y := (⟨"java/lang/AbstractStringBuilder", "length", "()I"⟩ : MethodName)) (z := (⟨"java/lang/StringBuilder", "length", "()I"⟩ : MethodName)) hown (mvT hZ (hw _ (own_m 160 rfl))) (mvT hZ (hw _ (own_m 161 rfl))) (own_nf (a0 := #[]) (y := (⟨"java/lang/AbstractStringBuilder", "length", "()I"⟩ : MethodName)) (mvT hZ (hw _ (own_m 96 rfl))) rfl) (mvT hZ (hw _ (own_m 163 rfl))) (mvT hZ (hw _ (own_m 164 rfl))) (by decide) (backOf (W := 0) (rmBLen l Z a0 hw [] p1 zc fm (Int32.ofNat bs.length) h0 n0 Z0 hSt Ol Eb Fbn) hZ (hw _ (own_m 165 rfl)) (hw _ (own_m 55 rfl)) (by decide) (by decide)) q3a q3c (g := (mkF m 10 #[.val (.ref p0), .val (.ref p1), .val .null, .val (.ref t), .unset] [(.ref p1)])) rfl (by rw [hml]; rfl) (Steps.refl _) (argsL := []) (rest := []) (lenOf pd___I rfl) rfl (by show 2 * 0 + _ ≤ _; exact Nat.le_of_eq rfl) (hb hby d27_10) (fun _ _ => ⟨rfl, e2, (by decide : 0 + 0 ≤ _), (by decide : 0 + 0 ≤ _)⟩)
  dsimp only [Pt.U, Pt.locs, Pt.cells, Pt.slots] at X3 l3 y3 z3 st3 hQ3
  subst l3 y3 z3
  obtain ⟨rfl, Nq3, e3⟩ := hQ3
  have N3 := Fr.app N2 Nq3
  obtain ⟨cq4, kq4, q4a, q4b, q4c⟩ := isOf hZ e3 Eb
  obtain ⟨_, _, ⟨T4, L4, k4, n4⟩, -, X4, ⟨Lc4, hQ4, l4, y4, z4⟩, st4⟩ := X3.virtualBack hx (y := (⟨"java/lang/AbstractStringBuilder", "isLatin1", "()Z"⟩ : MethodName)) (z := (⟨"java/lang/AbstractStringBuilder", "isLatin1", "()Z"⟩ : MethodName)) hown (mvT hZ (hw _ (own_m 168 rfl))) (mvT hZ (hw _ (own_m 135 rfl))) (notFace_of_selects (args := #[]) (mvT hZ (hw _ (own_m 137 rfl)))) (mvT hZ (hw _ (own_m 137 rfl))) (mvT hZ (hw _ (own_m 136 rfl))) (by decide) (backOf (W := 0) (rmBLat l Z a0 hw [] p1 zc fm  h0 n0 Z0 hSt Ol Fbc) hZ (hw _ (own_m 138 rfl)) (hw _ (own_m 63 rfl)) (by decide) (by decide)) q4a q4c (g := (mkF m 16 #[.val (.ref p0), .val (.ref p1), .val .null, .val (.ref t), .val (.int (Int32.ofNat bs.length))] [(.ref p1)])) rfl (by rw [hml]; rfl) (Steps.refl _) (argsL := []) (rest := []) (lenOf pd___Z rfl) rfl (by show 2 * 0 + _ ≤ _; exact Nat.le_of_eq rfl) (hb hby d27_16) (fun _ _ => ⟨rfl, e3, (by decide : 0 + 0 ≤ _), (by decide : 0 + 0 ≤ _)⟩)
  dsimp only [Pt.U, Pt.locs, Pt.cells, Pt.slots] at X4 l4 y4 z4 st4 hQ4
  subst l4 y4 z4
  obtain ⟨rfl, Nq4, e4⟩ := hQ4
  have N4 := Fr.app N3 Nq4
  obtain ⟨T5, h5, X5, e5, W5, st5⟩ := putFN X4 hx hZ hown (hw _ (own_m 26 rfl)) Via.refl e4 Fc E0 (Or.inr ⟨(hw _ (own_m 27 rfl)), rfl, hnm⟩) (hw _ (own_m 1 rfl)) (ty := .byte) (v' := (.int (0 : Int32))) (by decide) rfl (by decide) (g := (mkF m 24 #[.val (.ref p0), .val (.ref p1), .val .null, .val (.ref t), .val (.int (Int32.ofNat bs.length))] [(.int (0 : Int32)), (.ref p0)])) rfl rfl (hb hby d27_24)
  have Fw5 := Fc.same W5
  have N5 := Fr.snoc X5 N4 g0_
  have K5 := (Keep.refl h0 [p0]).wr W5 (Or.inl (own_m 0 rfl))
  have f6 := (Ab.other W5 (Ne.symm n0t))
  have f7 := (Nat.le_trans Z0 (Keep.of_wr W5).1)
  have f8 := (Ol.wr W5 g0_)
  obtain ⟨_, _, ⟨T9, L9, k9, n9⟩, -, X9, ⟨Lc9, hQ9, l9, y9, z9⟩, st9⟩ := Jvm.LawKit.callS X5 hx (y := (⟨"java/util/Arrays", "copyOfRange", "([BII)[B"⟩ : MethodName)) hown (mvT hZ (hw _ (own_m 169 rfl))) (mvT hZ (hw _ (own_m 170 rfl))) (mvT hZ (hw _ (own_m 171 rfl))) (mvT hZ (hw _ (own_m 172 rfl))) (by decide) (backOf (W := 1) (rmCR l Z a0 hw [] t (Int32.ofNat bs.length) zc fm kb bs h5 n0 f7 hSt f8 f6 rfl hb16) hZ (hw _ (own_m 172 rfl)) (hw _ (own_m 171 rfl)) (by decide) (by decide)) (g := (mkF m 32 #[.val (.ref p0), .val (.ref p1), .val .null, .val (.ref t), .val (.int (Int32.ofNat bs.length))] [(.int (Int32.ofNat bs.length)), (.int (0 : Int32)), (.ref t), (.ref p0)])) rfl (by rw [hml]; rfl) (argsL := [(.ref t), (.int (0 : Int32)), (.int (Int32.ofNat bs.length))]) (rest := [(.ref p0)]) (lenOf pd___BII__B rfl) rfl (by show 2 * 0 + _ ≤ _; exact Nat.le_of_eq rfl) (hb hby d27_32) (fun _ _ => ⟨rfl, e5, (by decide : 0 + 1 ≤ _), (by decide : 0 + 16 ≤ _)⟩)
  dsimp only [Pt.U, Pt.locs, Pt.cells, Pt.slots] at X9 l9 y9 z9 st9 hQ9
  subst l9 y9 z9
  obtain ⟨⟨b_, k_, rfl, gb_2, sb_, at_⟩, Nq9, K9⟩ := hQ9
  have N9 := Fr.app N5 Nq9
  have KK9 := K5.trans K9 all0
  have ne_b : p0 ≠ b_ := Nat.ne_of_lt (Nat.lt_of_lt_of_le E0.lt (Nat.le_trans K5.1 sb_))
  have zb_ : h0.size ≤ b_ := Nat.le_trans K5.1 sb_
  have f10 := ((E0.wr W5).keep K9)
  have f11 := ((Fv.other W5 (Or.inr (slot_ne (Or.inr (hw _ (own_m 29 rfl))) (Or.inr (hw _ (own_m 27 rfl))) (by decide) (t := (.array .byte)) (t' := .byte) (by decide) (by decide)))).keep K9 nin0)
  obtain ⟨T12, h12, X12, e12, W12, st12⟩ := putF X9 hx hZ hown (host := "") (Or.inl (hw _ (own_m 28 rfl))) Via.refl rfl f11 f10 (Or.inr ⟨(hw _ (own_m 29 rfl)), rfl, hnm⟩) (hw _ (own_m 1 rfl)) (ty := (.array .byte)) (by decide) rfl rfl (g := (mkF m 35 #[.val (.ref p0), .val (.ref p1), .val .null, .val (.ref t), .val (.int (Int32.ofNat bs.length))] [(.ref b_), (.ref p0)])) rfl rfl (hb hby d27_35)
  have Fw12 := f11.same W12
  have N12 := Fr.snoc X12 N9 g0_
  have K12 := KK9.wr W12 (Or.inl (own_m 0 rfl))
  have f13 := (f10.wr W12)
  have f14 := ((Fw5.keep K9 nin0).other W12 (Or.inr (slot_ne (Or.inr (hw _ (own_m 27 rfl))) (Or.inr (hw _ (own_m 29 rfl))) (by decide) (t := .byte) (t' := (.array .byte)) (by decide) (by decide))))
  have f15 := (at_.other W12 (Ne.symm ne_b))
  obtain ⟨fs, hr, hrun, hended, hW, hsame⟩ := X12.leave (v := none) (fun _ => rfl)
  refine ⟨_, _, pre0 _ ?_, hrun, hended, _, _, rfl, ?_, ⟨_, rfl⟩, hW, hsame.mono (by decide) (by decide)⟩
  · show Steps p.tables e below (s₁.setTop (mkF m 0 #[.val (.ref p0), .val (.ref p1), .val .null, .unset, .unset] [])) _
    refine XS.aloadN X0.here hx rfl (hb hby d27_0) rfl rfl ?_
    show Steps p.tables e below (s₁.setTop (mkF m 1 #[.val (.ref p0), .val (.ref p1), .val .null, .unset, .unset] [(.ref p0)])) _
    refine st1 _ ?_
    show Steps p.tables e below (T1.setTop (mkF m 4 #[.val (.ref p0), .val (.ref p1), .val .null, .unset, .unset] [])) _
    refine XS.aloadN X1.here hx rfl (hb hby d27_4) rfl rfl ?_
    show Steps p.tables e below (T1.setTop (mkF m 5 #[.val (.ref p0), .val (.ref p1), .val .null, .unset, .unset] [(.ref p1)])) _
    refine st2.trans ?_
    show Steps p.tables e below (T2.setTop (mkF m 8 #[.val (.ref p0), .val (.ref p1), .val .null, .unset, .unset] [(.ref t)])) _
    refine XS.astoreN X2.here hx rfl (hb hby d27_8) rfl rfl (l' := #[.val (.ref p0), .val (.ref p1), .val .null, .val (.ref t), .unset]) rfl ?_
    refine XS.aloadN X2.here hx rfl (hb hby d27_9) rfl rfl ?_
    show Steps p.tables e below (T2.setTop (mkF m 10 #[.val (.ref p0), .val (.ref p1), .val .null, .val (.ref t), .unset] [(.ref p1)])) _
    refine st3.trans ?_
    show Steps p.tables e below (T3.setTop (mkF m 13 #[.val (.ref p0), .val (.ref p1), .val .null, .val (.ref t), .unset] [(.int (Int32.ofNat bs.length))])) _
    refine XS.istore X3.here hx rfl (hb hby d27_13) rfl (l' := #[.val (.ref p0), .val (.ref p1), .val .null, .val (.ref t), .val (.int (Int32.ofNat bs.length))]) rfl ?_
    refine XS.aloadN X3.here hx rfl (hb hby d27_15) rfl rfl ?_
    show Steps p.tables e below (T3.setTop (mkF m 16 #[.val (.ref p0), .val (.ref p1), .val .null, .val (.ref t), .val (.int (Int32.ofNat bs.length))] [(.ref p1)])) _
    refine st4.trans ?_
    show Steps p.tables e below (T4.setTop (mkF m 19 #[.val (.ref p0), .val (.ref p1), .val .null, .val (.ref t), .val (.int (Int32.ofNat bs.length))] [(.int (1 : Int32))])) _
    refine XS.ifNo X4.here hx rfl (hb hby d27_19) rfl ((if0 _ _).trans (feq (by decide : ¬ ((1 : Int32) = (0 : Int32)))).1) ?_
    refine XS.aloadN X4.here hx rfl (hb hby d27_22) rfl rfl ?_
    refine XS.iconst X4.here hx rfl (hb hby d27_23) ?_
    show Steps p.tables e below (T4.setTop (mkF m 24 #[.val (.ref p0), .val (.ref p1), .val .null, .val (.ref t), .val (.int (Int32.ofNat bs.length))] [(.int (0 : Int32)), (.ref p0)])) _
    refine st5 _ ?_
    show Steps p.tables e below (T5.setTop (mkF m 27 #[.val (.ref p0), .val (.ref p1), .val .null, .val (.ref t), .val (.int (Int32.ofNat bs.length))] [])) _
    refine XS.aloadN X5.here hx rfl (hb hby d27_27) rfl rfl ?_
    refine XS.aloadN X5.here hx rfl (hb hby d27_28) rfl rfl ?_
    refine XS.iconst X5.here hx rfl (hb hby d27_29) ?_
    refine XS.iload X5.here hx rfl (hb hby d27_30) rfl  ?_
    show Steps p.tables e below (T5.setTop (mkF m 32 #[.val (.ref p0), .val (.ref p1), .val .null, .val (.ref t), .val (.int (Int32.ofNat bs.length))] [(.int (Int32.ofNat bs.length)), (.int (0 : Int32)), (.ref t), (.ref p0)])) _
    refine st9 _ ?_
    show Steps p.tables e below (T9.setTop (mkF m 35 #[.val (.ref p0), .val (.ref p1), .val .null, .val (.ref t), .val (.int (Int32.ofNat bs.length))] [(.ref b_), (.ref p0)])) _
    refine st12 _ ?_
    show Steps p.tables e below (T12.setTop (mkF m 38 #[.val (.ref p0), .val (.ref p1), .val .null, .val (.ref t), .val (.int (Int32.ofNat bs.length))] [])) _
    refine XS.goto X12.here hx rfl (pc0 := 38) (pc' := 97) rfl (hb hby d27_38) (by decide) (by decide) ?_
    show Steps p.tables e below (T12.setTop (mkF m 97 #[.val (.ref p0), .val (.ref p1), .val .null, .val (.ref t), .val (.int (Int32.ofNat bs.length))] [])) _
    exact X12.returnOut hx Bd.returns (hb hby d27_97) hr
  · show Q_rmStr4 Z p0 p1 zc fm t kb bs h0 n0 _ T12.heap _
    rw [e12]
    exact ⟨rfl, N12, K12, b_, k_, zb_, f13, Fw12, f14, f15⟩
theorem ef_rmStr2 (m : MethodId) (p0 : Addr) (p1 : Addr) : entryFrame m #[(.ref p0), (.ref p1)] 2 = mkF m 0 #[.val (.ref p0), .val (.ref p1)] [] := by first | (simp [entryFrame, mkF, argsToLocals, Value.category]; done) | rfl
theorem d26_0 : decode jdk_42_method_53_code 0 = .ok (.aload_n 0, 1) := by decide +kernel
theorem d26_1 : decode jdk_42_method_53_code 1 = .ok (.aload_n 1, 1) := by decide +kernel
theorem d26_2 : decode jdk_42_method_53_code 2 = .ok (.aconst_null, 1) := by decide +kernel
theorem pd__Ljava_lang_AbstractStringBuilder_Ljava_lang_Void__V : parseMethodDescriptor "(Ljava/lang/AbstractStringBuilder;Ljava/lang/Void;)V" = some ⟨[(.object "java/lang/AbstractStringBuilder"), (.object "java/lang/Void")], none⟩ := by decide +kernel
theorem d26_3 : decode jdk_42_method_53_code 3 = .ok (.invokespecial 489, 3) := by decide +kernel
theorem d26_6 : decode jdk_42_method_53_code 6 = .ok (.return_, 1) := by decide +kernel
def Q_rmStr2 (Z : State) (p0 : Addr) (p1 : Addr) (zc : Int32) (fm : Value) (t : Addr) (kb : ClassId) (bs : List Int32) (h0 : Heap) (n0 : Nat) (v : Option Value) (h : Heap) (L : List Loc) : Prop := v = none ∧ Fr n0 L ∧ Keep h0 h [p0] ∧ ∃ (ts : Addr) (ks : ClassId), h0.size ≤ ts ∧ Exa Z h p0 "java/lang/String" ∧ Fld Z h p0 "java/lang/String" "value" "[B" (.ref ts) ∧ Fld Z h p0 "java/lang/String" "coder" "B" (.int (0 : Int32)) ∧ Arv Z h ts ks .byte (Int32.ofNat bs.length) (own_nrw bs) (.int (0 : Int32))
set_option maxRecDepth 65536 in
set_option maxHeartbeats 40000000 in
theorem rmStr2 (l : Launch) (Z : State) (a0 : Array Value) (hw : ∀ d ∈ tables_1, d.before a0 Z = true) (ws : List Jvm.Cond) (p0 : Addr) (p1 : Addr) (zc : Int32) (fm : Value) (t : Addr) (kb : ClassId) (bs : List Int32) (h0 : Heap) (n0 : Nat) (Z0 : n0 ≤ h0.size) (hSt : own_St Z zc fm) (Ol : own_Old Z n0 h0) (E0 : Exa Z h0 p0 "java/lang/String") (Fv : Fld Z h0 p0 "java/lang/String" "value" "[B" .null) (Fc : Fld Z h0 p0 "java/lang/String" "coder" "B" (.int (0 : Int32))) (g0_ : n0 ≤ p0) (Eb : Exa Z h0 p1 "java/lang/StringBuilder") (Fbv : Fld Z h0 p1 "java/lang/AbstractStringBuilder" "value" "[B" (.ref t)) (Fbc : Fld Z h0 p1 "java/lang/AbstractStringBuilder" "coder" "B" (.int (0 : Int32))) (Fbn : Fld Z h0 p1 "java/lang/AbstractStringBuilder" "count" "I" (.int (Int32.ofNat bs.length))) (Ab : Arv Z h0 t kb .byte (16 : Int32) (own_nrw bs) (.int (0 : Int32))) (gb_ : n0 ≤ p1) (gt_ : n0 ≤ t) (npt : p1 ≠ t) (n01 : p0 ≠ p1) (n0t : p0 ≠ t) (hb16 : bs.length < 16) :
    MetFree l (⟨"java/lang/String", "<init>", "(Ljava/lang/StringBuilder;)V"⟩ : MethodName) (head1 (Jvm.Cond.code (⟨"java/lang/String", "<init>", "(Ljava/lang/StringBuilder;)V"⟩ : MethodName) jdk_42_method_53_code 2 none :: ws) ({ frames := 4, cells := 1, slots := 16, locals := 65 } : Room)) (fun a U => a = #[(.ref p0), (.ref p1)] ∧ Z.Warmed39 U.vm ∧ U.heap = h0) (fun _ _ _ _ _ => True) (fun _ U o U' => ∃ v L, o = .returned v ∧ Q_rmStr2 Z p0 p1 zc fm t kb bs h0 n0 v U'.heap L ∧ FrameEnd U o U' L ({ frames := 4, cells := 1, slots := 16, locals := 65 } : Room).cells ({ frames := 4, cells := 1, slots := 16, locals := 65 } : Room).slots) := by
  refine MetFree.of_bodySF (plainFor_of_name pn_java_lang_String) hisR ?_
  intro p e s m args below meth c s₁ Bd hml0 hP hK
  obtain ⟨rfl, hZ, hh⟩ := hP
  have hx := Bd.exec
  have hby := Bd.bytes
  have hml : c.maxLocals = 2 := hml0
  have hown : s.vm.findClass "java/lang/String" = some m.cls := findClass_of_methodNamed Bd.named
  have hnm := (name_of_methodNamed Bd.named Bd.method).1
  have hZo := hZ
  have howno := hown
  have X0 : Stand p l e ({ frames := 4, cells := 1, slots := 16, locals := 65 } : Room) s m #[(.ref p0), (.ref p1)] below meth c s₁ [] 0 0 := Stand.of_body Bd
  have e0 : s₁.heap = h0 := by rw [← hh, Bd.state]; rfl
  have N0 := Fr.nil n0
  have pre0 : ∀ t, Steps p.tables e below (s₁.setTop (mkF m 0 #[.val (.ref p0), .val (.ref p1)] [])) t → Steps p.tables e below (s₁.setTop (entryFrame m #[(.ref p0), (.ref p1)] 2)) t := fun t k => castTop (ef_rmStr2 m p0 p1 ) k
  obtain ⟨_, _, ⟨T1, L1, k1, n1⟩, -, X1, ⟨Lc1, hQ1, l1, y1, z1⟩, st1⟩ := X0.specialBack hx (y := (⟨"java/lang/String", "<init>", "(Ljava/lang/AbstractStringBuilder;Ljava/lang/Void;)V"⟩ : MethodName)) rfl hown (mvT hZ (hw _ (own_m 152 rfl))) (mvT hZ (hw _ (own_m 153 rfl))) (mvT hZ (hw _ (own_m 154 rfl))) (by decide) (backOf (W := 0) (rmStr4 l Z a0 hw [] p0 p1 zc fm t kb bs h0 n0 Z0 hSt Ol E0 Fv Fc g0_ Eb Fbv Fbc Fbn Ab gb_ gt_ npt n01 n0t hb16) hZ (hw _ (own_m 154 rfl)) (hw _ (own_m 2 rfl)) (by decide) (by decide)) (g := (mkF m 3 #[.val (.ref p0), .val (.ref p1)] [.null, (.ref p1), (.ref p0)])) rfl (by rw [hml]; rfl) (Steps.refl _) (a := p0) (argsL := [(.ref p1), .null]) (rest := []) (lenOf pd__Ljava_lang_AbstractStringBuilder_Ljava_lang_Void__V rfl) rfl (by show 2 * 0 + _ ≤ _; exact Nat.le_of_eq rfl) (hb hby d26_3) (fun _ _ => ⟨rfl, e0, (by decide : 0 + 1 ≤ _), (by decide : 0 + 16 ≤ _)⟩)
  dsimp only [Pt.U, Pt.locs, Pt.cells, Pt.slots] at X1 l1 y1 z1 st1 hQ1
  subst l1 y1 z1
  obtain ⟨rfl, Nq1, K1, hS_⟩ := hQ1
  have N1 := Fr.app N0 Nq1
  have KK1 := (Keep.refl h0 [p0]).trans K1 (allS (Or.inl (own_m 0 rfl)) all0)
  obtain ⟨fs, hr, hrun, hended, hW, hsame⟩ := X1.leave (v := none) (fun _ => rfl)
  refine ⟨_, _, pre0 _ ?_, hrun, hended, _, _, rfl, ?_, ⟨_, rfl⟩, hW, hsame.mono (by decide) (by decide)⟩
  · show Steps p.tables e below (s₁.setTop (mkF m 0 #[.val (.ref p0), .val (.ref p1)] [])) _
    refine XS.aloadN X0.here hx rfl (hb hby d26_0) rfl rfl ?_
    refine XS.aloadN X0.here hx rfl (hb hby d26_1) rfl rfl ?_
    refine XS.aconstNull X0.here hx rfl (hb hby d26_2) ?_
    show Steps p.tables e below (s₁.setTop (mkF m 3 #[.val (.ref p0), .val (.ref p1)] [.null, (.ref p1), (.ref p0)])) _
    refine st1.trans ?_
    show Steps p.tables e below (T1.setTop (mkF m 6 #[.val (.ref p0), .val (.ref p1)] [])) _
    exact X1.returnOut hx Bd.returns (hb hby d26_6) hr
  · show Q_rmStr2 Z p0 p1 zc fm t kb bs h0 n0 _ T1.heap _
    exact ⟨rfl, N1, KK1, hS_⟩
theorem ef_rmToS (m : MethodId) (p0 : Addr) : entryFrame m #[(.ref p0)] 1 = mkF m 0 #[.val (.ref p0)] [] := by first | (simp [entryFrame, mkF, argsToLocals, Value.category]; done) | rfl
theorem d25_0 : decode jdk_67_method_42_code 0 = .ok (.new 18, 3) := by decide +kernel
theorem d25_3 : decode jdk_67_method_42_code 3 = .ok (.dup, 1) := by decide +kernel
theorem d25_4 : decode jdk_67_method_42_code 4 = .ok (.aload_n 0, 1) := by decide +kernel
theorem pd__Ljava_lang_StringBuilder__V : parseMethodDescriptor "(Ljava/lang/StringBuilder;)V" = some ⟨[(.object "java/lang/StringBuilder")], none⟩ := by decide +kernel
theorem d25_5 : decode jdk_67_method_42_code 5 = .ok (.invokespecial 137, 3) := by decide +kernel
theorem d25_8 : decode jdk_67_method_42_code 8 = .ok (.areturn, 1) := by decide +kernel
def Q_rmToS (Z : State) (p0 : Addr) (zc : Int32) (fm : Value) (t : Addr) (kb : ClassId) (bs : List Int32) (h0 : Heap) (n0 : Nat) (v : Option Value) (h : Heap) (L : List Loc) : Prop := (∃ (r ts : Addr) (ks : ClassId), v = some (.ref r) ∧ h0.size ≤ r ∧ h0.size ≤ ts ∧ Exa Z h r "java/lang/String" ∧ Fld Z h r "java/lang/String" "value" "[B" (.ref ts) ∧ Fld Z h r "java/lang/String" "coder" "B" (.int (0 : Int32)) ∧ Arv Z h ts ks .byte (Int32.ofNat bs.length) (own_nrw bs) (.int (0 : Int32))) ∧ Fr n0 L ∧ Keep h0 h []
set_option maxRecDepth 65536 in
set_option maxHeartbeats 40000000 in
theorem rmToS (l : Launch) (Z : State) (a0 : Array Value) (hw : ∀ d ∈ tables_1, d.before a0 Z = true) (ws : List Jvm.Cond) (p0 : Addr) (zc : Int32) (fm : Value) (t : Addr) (kb : ClassId) (bs : List Int32) (h0 : Heap) (n0 : Nat) (Z0 : n0 ≤ h0.size) (hSt : own_St Z zc fm) (Ol : own_Old Z n0 h0) (Eb : Exa Z h0 p0 "java/lang/StringBuilder") (Fbv : Fld Z h0 p0 "java/lang/AbstractStringBuilder" "value" "[B" (.ref t)) (Fbc : Fld Z h0 p0 "java/lang/AbstractStringBuilder" "coder" "B" (.int (0 : Int32))) (Fbn : Fld Z h0 p0 "java/lang/AbstractStringBuilder" "count" "I" (.int (Int32.ofNat bs.length))) (Ab : Arv Z h0 t kb .byte (16 : Int32) (own_nrw bs) (.int (0 : Int32))) (gb_ : n0 ≤ p0) (gt_ : n0 ≤ t) (npt : p0 ≠ t) (hb16 : bs.length < 16) :
    MetFree l (⟨"java/lang/StringBuilder", "toString", "()Ljava/lang/String;"⟩ : MethodName) (head1 (Jvm.Cond.code (⟨"java/lang/StringBuilder", "toString", "()Ljava/lang/String;"⟩ : MethodName) jdk_67_method_42_code 1 (some (.object "java/lang/String")) :: ws) ({ frames := 5, cells := 2, slots := 20, locals := 79 } : Room)) (fun a U => a = #[(.ref p0)] ∧ Z.Warmed39 U.vm ∧ U.heap = h0) (fun _ _ _ _ _ => True) (fun _ U o U' => ∃ v L, o = .returned v ∧ Q_rmToS Z p0 zc fm t kb bs h0 n0 v U'.heap L ∧ FrameEnd U o U' L ({ frames := 5, cells := 2, slots := 20, locals := 79 } : Room).cells ({ frames := 5, cells := 2, slots := 20, locals := 79 } : Room).slots) := by
  refine MetFree.of_bodySF (plainFor_of_name pn_java_lang_StringBuilder) hisR ?_
  intro p e s m args below meth c s₁ Bd hml0 hP hK
  obtain ⟨rfl, hZ, hh⟩ := hP
  have hx := Bd.exec
  have hby := Bd.bytes
  have hml : c.maxLocals = 1 := hml0
  have hown : s.vm.findClass "java/lang/StringBuilder" = some m.cls := findClass_of_methodNamed Bd.named
  have hnm := (name_of_methodNamed Bd.named Bd.method).1
  have hZo := hZ
  have howno := hown
  have X0 : Stand p l e ({ frames := 5, cells := 2, slots := 20, locals := 79 } : Room) s m #[(.ref p0)] below meth c s₁ [] 0 0 := Stand.of_body Bd
  have e0 : s₁.heap = h0 := by rw [← hh, Bd.state]; rfl
  have N0 := Fr.nil n0
  have pre0 : ∀ t, Steps p.tables e below (s₁.setTop (mkF m 0 #[.val (.ref p0)] [])) t → Steps p.tables e below (s₁.setTop (entryFrame m #[(.ref p0)] 1)) t := fun t k => castTop (ef_rmToS m p0 ) k
  obtain ⟨T1, h1, X1, e1, E1, A1, D1, -, st1⟩ := newO X0 hx hZ hown (hw _ (own_m 148 rfl)) (hw _ (own_m 1 rfl)) (hw _ (own_m 2 rfl)) e0 (g := (mkF m 0 #[.val (.ref p0)] [])) rfl (hb hby d25_0) (by decide) (by decide)
  obtain ⟨b1, g1⟩ : ∃ z, z = h0.size := ⟨_, rfl⟩
  rw [← g1] at A1 D1 st1
  have ne1_p0 : p0 ≠ b1 := Nat.ne_of_lt (Nat.lt_of_lt_of_le Eb.lt (Nat.le_of_eq g1.symm))
  have ne1_t : t ≠ b1 := Nat.ne_of_lt (Nat.lt_of_lt_of_le Ab.lt (Nat.le_of_eq g1.symm))
  have ge1 : n0 ≤ b1 := Nat.le_trans Z0 (Nat.le_of_eq g1.symm)
  have sz1 : h0.size ≤ b1 := Nat.le_trans (Keep.refl h0 []).1 (Nat.le_of_eq g1.symm)
  have K1 := (Keep.refl h0 []).ext E1
  have F1_coder : Fld Z h1 b1 "java/lang/String" "coder" "B" (.int (0 : Int32)) := D1 (Or.inr (hw _ (own_m 27 rfl))) (ty := .byte) (by decide)
  have F1_value : Fld Z h1 b1 "java/lang/String" "value" "[B" .null := D1 (Or.inr (hw _ (own_m 29 rfl))) (ty := (.array .byte)) (by decide)
  have f2 := (Eb.ext E1)
  have f3 := (Fbv.ext E1)
  have f4 := (Fbc.ext E1)
  have f5 := (Fbn.ext E1)
  have f6 := (Ab.ext E1)
  have f7 := (Nat.le_trans Z0 E1.1)
  have f8 := (Ol.ext E1)
  obtain ⟨_, _, ⟨T9, L9, k9, n9⟩, -, X9, ⟨Lc9, hQ9, l9, y9, z9⟩, st9⟩ := X1.specialBack hx (y := (⟨"java/lang/String", "<init>", "(Ljava/lang/StringBuilder;)V"⟩ : MethodName)) rfl hown (mvT hZ (hw _ (own_m 149 rfl))) (mvT hZ (hw _ (own_m 150 rfl))) (mvT hZ (hw _ (own_m 151 rfl))) (by decide) (backOf (W := 1) (rmStr2 l Z a0 hw [] b1 p0 zc fm t kb bs h1 n0 f7 hSt f8 A1 F1_value F1_coder ge1 f2 f3 f4 f5 f6 gb_ gt_ npt (Ne.symm ne1_p0) (Ne.symm ne1_t) hb16) hZ (hw _ (own_m 151 rfl)) (hw _ (own_m 2 rfl)) (by decide) (by decide)) (g := (mkF m 5 #[.val (.ref p0)] [(.ref p0), (.ref b1), (.ref b1)])) rfl (by rw [hml]; rfl) (Steps.refl _) (a := b1) (argsL := [(.ref p0)]) (rest := [(.ref b1)]) (lenOf pd__Ljava_lang_StringBuilder__V rfl) rfl (by show 2 * 0 + _ ≤ _; exact Nat.le_of_eq rfl) (hb hby d25_5) (fun _ _ => ⟨rfl, e1, (by decide : 1 + 1 ≤ _), (by decide : 4 + 16 ≤ _)⟩)
  dsimp only [Pt.U, Pt.locs, Pt.cells, Pt.slots] at X9 l9 y9 z9 st9 hQ9
  subst l9 y9 z9
  obtain ⟨rfl, Nq9, K9, ts_, ks_, zt_, E_, fv_, fc_, at_⟩ := hQ9
  have N9 := Fr.app N0 Nq9
  have KK9 := K1.trans K9 (allS (Or.inr sz1) all0)
  obtain ⟨fs, hr, hrun, hended, hW, hsame⟩ := X9.leave (v := some (.ref b1)) (fun h => by rw [Bd.returns] at h; cases h)
  refine ⟨_, _, pre0 _ ?_, hrun, hended, _, _, rfl, ?_, ⟨_, rfl⟩, hW, hsame.mono (by decide) (by decide)⟩
  · show Steps p.tables e below (s₁.setTop (mkF m 0 #[.val (.ref p0)] [])) _
    refine st1 _ ?_
    show Steps p.tables e below (T1.setTop (mkF m 3 #[.val (.ref p0)] [(.ref b1)])) _
    refine XS.dup X1.here hx rfl (hb hby d25_3) rfl rfl ?_
    refine XS.aloadN X1.here hx rfl (hb hby d25_4) rfl rfl ?_
    show Steps p.tables e below (T1.setTop (mkF m 5 #[.val (.ref p0)] [(.ref p0), (.ref b1), (.ref b1)])) _
    refine st9.trans ?_
    show Steps p.tables e below (T9.setTop (mkF m 8 #[.val (.ref p0)] [(.ref b1)])) _
    jvm_step X9.here [X9.here.top, hx, (hb hby d25_8), X9.method', Bd.returns, Value.isRef, FieldType.isReference]
    first | (intro acts; rw [hr _ acts rfl rfl rfl]) | rw [hr _ _ rfl rfl rfl]
    exact Steps.refl _
  · show Q_rmToS Z p0 zc fm t kb bs h0 n0 _ T9.heap _
    exact ⟨⟨_, ts_, ks_, rfl, sz1, Nat.le_trans K1.1 zt_, E_, fv_, fc_, at_⟩, N9, KK9⟩
theorem ef_rmRec (m : MethodId) (p0 : Addr) : entryFrame m #[(.ref p0)] 1 = mkF m 0 #[.val (.ref p0)] [] := by first | (simp [entryFrame, mkF, argsToLocals, Value.category]; done) | rfl
theorem d8_0 : decode jdk_30_method_1_code 0 = .ok (.aload_n 0, 1) := by decide +kernel
theorem d8_1 : decode jdk_30_method_1_code 1 = .ok (.invokespecial 1, 3) := by decide +kernel
theorem d8_4 : decode jdk_30_method_1_code 4 = .ok (.return_, 1) := by decide +kernel
def Q_rmRec (Z : State) (p0 : Addr) (h0 : Heap) (n0 : Nat) (v : Option Value) (h : Heap) (L : List Loc) : Prop := v = none ∧ Fr n0 L ∧ h = h0
set_option maxRecDepth 65536 in
set_option maxHeartbeats 40000000 in
theorem rmRec (l : Launch) (Z : State) (a0 : Array Value) (hw : ∀ d ∈ tables_1, d.before a0 Z = true) (ws : List Jvm.Cond) (p0 : Addr) (h0 : Heap) (n0 : Nat) (Z0 : n0 ≤ h0.size) :
    MetFree l (⟨"java/lang/Record", "<init>", "()V"⟩ : MethodName) (head1 (Jvm.Cond.code (⟨"java/lang/Record", "<init>", "()V"⟩ : MethodName) jdk_30_method_1_code 1 none :: ws) ({ frames := 1, cells := 0, slots := 0, locals := 12 } : Room)) (fun a U => a = #[(.ref p0)] ∧ Z.Warmed39 U.vm ∧ U.heap = h0) (fun _ _ _ _ _ => True) (fun _ U o U' => ∃ v L, o = .returned v ∧ Q_rmRec Z p0 h0 n0 v U'.heap L ∧ FrameEnd U o U' L ({ frames := 1, cells := 0, slots := 0, locals := 12 } : Room).cells ({ frames := 1, cells := 0, slots := 0, locals := 12 } : Room).slots) := by
  refine MetFree.of_bodySF (plainFor_of_name pn_java_lang_Record) hisR ?_
  intro p e s m args below meth c s₁ Bd hml0 hP hK
  obtain ⟨rfl, hZ, hh⟩ := hP
  have hx := Bd.exec
  have hby := Bd.bytes
  have hml : c.maxLocals = 1 := hml0
  have hown : s.vm.findClass "java/lang/Record" = some m.cls := findClass_of_methodNamed Bd.named
  have hnm := (name_of_methodNamed Bd.named Bd.method).1
  have hZo := hZ
  have howno := hown
  have X0 : Stand p l e ({ frames := 1, cells := 0, slots := 0, locals := 12 } : Room) s m #[(.ref p0)] below meth c s₁ [] 0 0 := Stand.of_body Bd
  have e0 : s₁.heap = h0 := by rw [← hh, Bd.state]; rfl
  have N0 := Fr.nil n0
  have pre0 : ∀ t, Steps p.tables e below (s₁.setTop (mkF m 0 #[.val (.ref p0)] [])) t → Steps p.tables e below (s₁.setTop (entryFrame m #[(.ref p0)] 1)) t := fun t k => castTop (ef_rmRec m p0 ) k
  obtain ⟨T1, X1, e1, st1⟩ := initO X0 hx hZ hown (hw _ (own_m 43 rfl)) (hw _ (own_m 12 rfl)) (hw _ (own_m 13 rfl)) e0 (g := (mkF m 1 #[.val (.ref p0)] [(.ref p0)])) rfl (by rw [hml]; rfl) rfl (hb hby d8_1) (by decide) (W := 0) (by show 2 * 0 + _ ≤ _; exact Nat.le_of_eq rfl) (by decide)
  obtain ⟨fs, hr, hrun, hended, hW, hsame⟩ := X1.leave (v := none) (fun _ => rfl)
  refine ⟨_, _, pre0 _ ?_, hrun, hended, _, _, rfl, ?_, ⟨_, rfl⟩, hW, hsame.mono (by decide) (by decide)⟩
  · show Steps p.tables e below (s₁.setTop (mkF m 0 #[.val (.ref p0)] [])) _
    refine XS.aloadN X0.here hx rfl (hb hby d8_0) rfl rfl ?_
    show Steps p.tables e below (s₁.setTop (mkF m 1 #[.val (.ref p0)] [(.ref p0)])) _
    refine st1 _ ?_
    show Steps p.tables e below (T1.setTop (mkF m 4 #[.val (.ref p0)] [])) _
    exact X1.returnOut hx Bd.returns (hb hby d8_4) hr
  · show Q_rmRec Z p0 h0 n0 _ T1.heap _
    rw [e1]
    exact ⟨rfl, N0, rfl⟩
theorem ef_rmDom (m : MethodId) (p0 : Addr) (p1 : Addr) (p2 : Int32) : entryFrame m #[(.ref p0), (.ref p1), (.int p2)] 3 = mkF m 0 #[.val (.ref p0), .val (.ref p1), .val (.int p2)] [] := by first | (simp [entryFrame, mkF, argsToLocals, Value.category]; done) | rfl
theorem d7_0 : decode prog_6_method_1_code 0 = .ok (.aload_n 0, 1) := by decide +kernel
theorem pd___V : parseMethodDescriptor "()V" = some ⟨[], none⟩ := by decide +kernel
theorem d7_1 : decode prog_6_method_1_code 1 = .ok (.invokespecial 1, 3) := by decide +kernel
theorem d7_4 : decode prog_6_method_1_code 4 = .ok (.aload_n 0, 1) := by decide +kernel
theorem d7_5 : decode prog_6_method_1_code 5 = .ok (.aload_n 1, 1) := by decide +kernel
theorem d7_6 : decode prog_6_method_1_code 6 = .ok (.putfield 7, 3) := by decide +kernel
theorem d7_9 : decode prog_6_method_1_code 9 = .ok (.aload_n 0, 1) := by decide +kernel
theorem d7_10 : decode prog_6_method_1_code 10 = .ok (.iload_n 2, 1) := by decide +kernel
theorem d7_11 : decode prog_6_method_1_code 11 = .ok (.putfield 13, 3) := by decide +kernel
theorem d7_14 : decode prog_6_method_1_code 14 = .ok (.return_, 1) := by decide +kernel
def Q_rmDom (Z : State) (p0 : Addr) (p1 : Addr) (p2 : Int32) (h0 : Heap) (n0 : Nat) (v : Option Value) (h : Heap) (L : List Loc) : Prop := v = none ∧ Fr n0 L ∧ Keep h0 h [p0] ∧ Fld Z h p0 "com/example/kikao/kikao/Domain" "host" "Ljava/lang/String;" (.ref p1) ∧ Fld Z h p0 "com/example/kikao/kikao/Domain" "port" "I" (.int p2)
set_option maxRecDepth 65536 in
set_option maxHeartbeats 40000000 in
theorem rmDom (l : Launch) (Z : State) (a0 : Array Value) (hw : ∀ d ∈ tables_1, d.before a0 Z = true) (ws : List Jvm.Cond) (p0 : Addr) (p1 : Addr) (p2 : Int32) (h0 : Heap) (n0 : Nat) (Z0 : n0 ≤ h0.size) (E0 : Exa Z h0 p0 "com/example/kikao/kikao/Domain") (Fh : Fld Z h0 p0 "com/example/kikao/kikao/Domain" "host" "Ljava/lang/String;" .null) (Fp : Fld Z h0 p0 "com/example/kikao/kikao/Domain" "port" "I" (.int (0 : Int32))) (g0_ : n0 ≤ p0) :
    MetFree l (⟨"com/example/kikao/kikao/Domain", "<init>", "(Ljava/lang/String;I)V"⟩ : MethodName) (head1 (Jvm.Cond.code (⟨"com/example/kikao/kikao/Domain", "<init>", "(Ljava/lang/String;I)V"⟩ : MethodName) prog_6_method_1_code 3 none :: ws) ({ frames := 2, cells := 0, slots := 0, locals := 24 } : Room)) (fun a U => a = #[(.ref p0), (.ref p1), (.int p2)] ∧ Z.Warmed39 U.vm ∧ U.heap = h0) (fun _ _ _ _ _ => True) (fun _ U o U' => ∃ v L, o = .returned v ∧ Q_rmDom Z p0 p1 p2 h0 n0 v U'.heap L ∧ FrameEnd U o U' L ({ frames := 2, cells := 0, slots := 0, locals := 24 } : Room).cells ({ frames := 2, cells := 0, slots := 0, locals := 24 } : Room).slots) := by
  refine MetFree.of_bodySF (plainFor_of_name pn_com_example_kikao_kikao_Domain) hisR ?_
  intro p e s m args below meth c s₁ Bd hml0 hP hK
  obtain ⟨rfl, hZ, hh⟩ := hP
  have hx := Bd.exec
  have hby := Bd.bytes
  have hml : c.maxLocals = 3 := hml0
  have hown : s.vm.findClass "com/example/kikao/kikao/Domain" = some m.cls := findClass_of_methodNamed Bd.named
  have hnm := (name_of_methodNamed Bd.named Bd.method).1
  have hZo := hZ
  have howno := hown
  have X0 : Stand p l e ({ frames := 2, cells := 0, slots := 0, locals := 24 } : Room) s m #[(.ref p0), (.ref p1), (.int p2)] below meth c s₁ [] 0 0 := Stand.of_body Bd
  have e0 : s₁.heap = h0 := by rw [← hh, Bd.state]; rfl
  have N0 := Fr.nil n0
  have pre0 : ∀ t, Steps p.tables e below (s₁.setTop (mkF m 0 #[.val (.ref p0), .val (.ref p1), .val (.int p2)] [])) t → Steps p.tables e below (s₁.setTop (entryFrame m #[(.ref p0), (.ref p1), (.int p2)] 3)) t := fun t k => castTop (ef_rmDom m p0 p1 p2 ) k
  obtain ⟨_, _, ⟨T1, L1, k1, n1⟩, -, X1, ⟨Lc1, hQ1, l1, y1, z1⟩, st1⟩ := X0.specialBack hx (y := (⟨"java/lang/Record", "<init>", "()V"⟩ : MethodName)) rfl hown (mvT hZ (hw _ (own_m 38 rfl))) (mvT hZ (hw _ (own_m 39 rfl))) (mvT hZ (hw _ (own_m 42 rfl))) (by decide) (backOf (W := 0) (rmRec l Z a0 hw [] p0 h0 n0 Z0) hZ (hw _ (own_m 42 rfl)) (hw _ (own_m 41 rfl)) (by decide) (by decide)) (g := (mkF m 1 #[.val (.ref p0), .val (.ref p1), .val (.int p2)] [(.ref p0)])) rfl (by rw [hml]; rfl) (Steps.refl _) (a := p0) (argsL := []) (rest := []) (lenOf pd___V rfl) rfl (by show 2 * 0 + _ ≤ _; exact Nat.le_of_eq rfl) (hb hby d7_1) (fun _ _ => ⟨rfl, e0, (by decide : 0 + 0 ≤ _), (by decide : 0 + 0 ≤ _)⟩)
  dsimp only [Pt.U, Pt.locs, Pt.cells, Pt.slots] at X1 l1 y1 z1 st1 hQ1
  subst l1 y1 z1
  obtain ⟨rfl, Nq1, e1⟩ := hQ1
  have N1 := Fr.app N0 Nq1
  obtain ⟨T2, h2, X2, e2, W2, st2⟩ := putF X1 hx hZ hown (host := "") (Or.inl (hw _ (own_m 44 rfl))) Via.refl e1 Fh E0 (Or.inr ⟨(hw _ (own_m 45 rfl)), rfl, hnm⟩) (hw _ (own_m 33 rfl)) (ty := (.object "java/lang/String")) (by decide) rfl rfl (g := (mkF m 6 #[.val (.ref p0), .val (.ref p1), .val (.int p2)] [(.ref p1), (.ref p0)])) rfl rfl (hb hby d7_6)
  have Fw2 := Fh.same W2
  have N2 := Fr.snoc X2 N1 g0_
  have K2 := (Keep.refl h0 [p0]).wr W2 (Or.inl (own_m 0 rfl))
  have f3 := (E0.wr W2)
  have f4 := (Fp.other W2 (Or.inr (slot_ne (Or.inr (hw _ (own_m 47 rfl))) (Or.inr (hw _ (own_m 45 rfl))) (by decide) (t := .int) (t' := (.object "java/lang/String")) (by decide) (by decide))))
  obtain ⟨T5, h5, X5, e5, W5, st5⟩ := putF X2 hx hZ hown (host := "") (Or.inl (hw _ (own_m 46 rfl))) Via.refl e2 f4 f3 (Or.inr ⟨(hw _ (own_m 47 rfl)), rfl, hnm⟩) (hw _ (own_m 33 rfl)) (ty := .int) (by decide) rfl rfl (g := (mkF m 11 #[.val (.ref p0), .val (.ref p1), .val (.int p2)] [(.int p2), (.ref p0)])) rfl rfl (hb hby d7_11)
  have Fw5 := f4.same W5
  have N5 := Fr.snoc X5 N2 g0_
  have K5 := K2.wr W5 (Or.inl (own_m 0 rfl))
  have f6 := (Fw2.other W5 (Or.inr (slot_ne (Or.inr (hw _ (own_m 45 rfl))) (Or.inr (hw _ (own_m 47 rfl))) (by decide) (t := (.object "java/lang/String")) (t' := .int) (by decide) (by decide))))
  obtain ⟨fs, hr, hrun, hended, hW, hsame⟩ := X5.leave (v := none) (fun _ => rfl)
  refine ⟨_, _, pre0 _ ?_, hrun, hended, _, _, rfl, ?_, ⟨_, rfl⟩, hW, hsame.mono (by decide) (by decide)⟩
  · show Steps p.tables e below (s₁.setTop (mkF m 0 #[.val (.ref p0), .val (.ref p1), .val (.int p2)] [])) _
    refine XS.aloadN X0.here hx rfl (hb hby d7_0) rfl rfl ?_
    show Steps p.tables e below (s₁.setTop (mkF m 1 #[.val (.ref p0), .val (.ref p1), .val (.int p2)] [(.ref p0)])) _
    refine st1.trans ?_
    show Steps p.tables e below (T1.setTop (mkF m 4 #[.val (.ref p0), .val (.ref p1), .val (.int p2)] [])) _
    refine XS.aloadN X1.here hx rfl (hb hby d7_4) rfl rfl ?_
    refine XS.aloadN X1.here hx rfl (hb hby d7_5) rfl rfl ?_
    show Steps p.tables e below (T1.setTop (mkF m 6 #[.val (.ref p0), .val (.ref p1), .val (.int p2)] [(.ref p1), (.ref p0)])) _
    refine st2 _ ?_
    show Steps p.tables e below (T2.setTop (mkF m 9 #[.val (.ref p0), .val (.ref p1), .val (.int p2)] [])) _
    refine XS.aloadN X2.here hx rfl (hb hby d7_9) rfl rfl ?_
    refine XS.iloadN X2.here hx rfl (hb hby d7_10) rfl  ?_
    show Steps p.tables e below (T2.setTop (mkF m 11 #[.val (.ref p0), .val (.ref p1), .val (.int p2)] [(.int p2), (.ref p0)])) _
    refine st5 _ ?_
    show Steps p.tables e below (T5.setTop (mkF m 14 #[.val (.ref p0), .val (.ref p1), .val (.int p2)] [])) _
    exact X5.returnOut hx Bd.returns (hb hby d7_14) hr
  · show Q_rmDom Z p0 p1 p2 h0 n0 _ T5.heap _
    rw [e5]
    exact ⟨rfl, N5, K5, f6, Fw5⟩
theorem ef_rmTS0 (m : MethodId) (p0 : Addr) : entryFrame m #[(.ref p0)] 1 = mkF m 0 #[.val (.ref p0)] [] := by first | (simp [entryFrame, mkF, argsToLocals, Value.category]; done) | rfl
theorem d9_0 : decode prog_6_method_6_code 0 = .ok (.aload_n 0, 1) := by decide +kernel
theorem d9_1 : decode prog_6_method_6_code 1 = .ok (.getfield 13, 3) := by decide +kernel
theorem d9_4 : decode prog_6_method_6_code 4 = .ok (.iconst (-1), 1) := by decide +kernel
theorem d9_5 : decode prog_6_method_6_code 5 = .ok (.if_icmp .ne 10, 3) := by decide +kernel
theorem d9_8 : decode prog_6_method_6_code 8 = .ok (.aload_n 0, 1) := by decide +kernel
theorem d9_9 : decode prog_6_method_6_code 9 = .ok (.getfield 7, 3) := by decide +kernel
theorem d9_12 : decode prog_6_method_6_code 12 = .ok (.goto 32, 3) := by decide +kernel
theorem d9_44 : decode prog_6_method_6_code 44 = .ok (.areturn, 1) := by decide +kernel
def Q_rmTS0 (Z : State) (p0 : Addr) (x : Addr) (h0 : Heap) (n0 : Nat) (v : Option Value) (h : Heap) (L : List Loc) : Prop := v = some (.ref x) ∧ Fr n0 L ∧ h = h0
set_option maxRecDepth 65536 in
set_option maxHeartbeats 40000000 in
theorem rmTS0 (l : Launch) (Z : State) (a0 : Array Value) (hw : ∀ d ∈ tables_1, d.before a0 Z = true) (ws : List Jvm.Cond) (p0 : Addr) (x : Addr) (h0 : Heap) (n0 : Nat) (Z0 : n0 ≤ h0.size) (Fh : Fld Z h0 p0 "com/example/kikao/kikao/Domain" "host" "Ljava/lang/String;" (.ref x)) (Fp : Fld Z h0 p0 "com/example/kikao/kikao/Domain" "port" "I" (.int (-1 : Int32))) :
    MetFree l (⟨"com/example/kikao/kikao/Domain", "toString", "()Ljava/lang/String;"⟩ : MethodName) (head1 (Jvm.Cond.code (⟨"com/example/kikao/kikao/Domain", "toString", "()Ljava/lang/String;"⟩ : MethodName) prog_6_method_6_code 1 (some (.object "java/lang/String")) :: ws) ({ frames := 0, cells := 0, slots := 0, locals := 0 } : Room)) (fun a U => a = #[(.ref p0)] ∧ Z.Warmed39 U.vm ∧ U.heap = h0) (fun _ _ _ _ _ => True) (fun _ U o U' => ∃ v L, o = .returned v ∧ Q_rmTS0 Z p0 x h0 n0 v U'.heap L ∧ FrameEnd U o U' L ({ frames := 0, cells := 0, slots := 0, locals := 0 } : Room).cells ({ frames := 0, cells := 0, slots := 0, locals := 0 } : Room).slots) := by
  refine MetFree.of_bodySF (plainFor_of_name pn_com_example_kikao_kikao_Domain) hisR ?_
  intro p e s m args below meth c s₁ Bd hml0 hP hK
  obtain ⟨rfl, hZ, hh⟩ := hP
  have hx := Bd.exec
  have hby := Bd.bytes
  have hml : c.maxLocals = 1 := hml0
  have hown : s.vm.findClass "com/example/kikao/kikao/Domain" = some m.cls := findClass_of_methodNamed Bd.named
  have hnm := (name_of_methodNamed Bd.named Bd.method).1
  have hZo := hZ
  have howno := hown
  have X0 : Stand p l e ({ frames := 0, cells := 0, slots := 0, locals := 0 } : Room) s m #[(.ref p0)] below meth c s₁ [] 0 0 := Stand.of_body Bd
  have e0 : s₁.heap = h0 := by rw [← hh, Bd.state]; rfl
  have N0 := Fr.nil n0
  have pre0 : ∀ t, Steps p.tables e below (s₁.setTop (mkF m 0 #[.val (.ref p0)] [])) t → Steps p.tables e below (s₁.setTop (entryFrame m #[(.ref p0)] 1)) t := fun t k => castTop (ef_rmTS0 m p0 ) k
  obtain ⟨T1, X1, e1, st1⟩ := getF X0 hx hZ hown (host := "") (Or.inl (hw _ (own_m 46 rfl))) Via.refl e0 Fp (g := (mkF m 1 #[.val (.ref p0)] [(.ref p0)])) rfl rfl (hb hby d9_1)
  obtain ⟨T2, X2, e2, st2⟩ := getF X1 hx hZ hown (host := "") (Or.inl (hw _ (own_m 44 rfl))) Via.refl e1 Fh (g := (mkF m 9 #[.val (.ref p0)] [(.ref p0)])) rfl rfl (hb hby d9_9)
  obtain ⟨fs, hr, hrun, hended, hW, hsame⟩ := X2.leave (v := some (.ref x)) (fun h => by rw [Bd.returns] at h; cases h)
  refine ⟨_, _, pre0 _ ?_, hrun, hended, _, _, rfl, ?_, ⟨_, rfl⟩, hW, hsame.mono (by decide) (by decide)⟩
  · show Steps p.tables e below (s₁.setTop (mkF m 0 #[.val (.ref p0)] [])) _
    refine XS.aloadN X0.here hx rfl (hb hby d9_0) rfl rfl ?_
    show Steps p.tables e below (s₁.setTop (mkF m 1 #[.val (.ref p0)] [(.ref p0)])) _
    refine st1 _ ?_
    show Steps p.tables e below (T1.setTop (mkF m 4 #[.val (.ref p0)] [(.int (-1 : Int32))])) _
    refine XS.iconst X1.here hx rfl (hb hby d9_4) ?_
    show Steps p.tables e below (T1.setTop (mkF m 5 #[.val (.ref p0)] [(.int (-1 : Int32)), (.int (-1 : Int32))])) _
    refine XS.icmpNo X1.here hx rfl (hb hby d9_5) rfl (teq (by decide : (-1 : Int32) = (-1 : Int32))).2 ?_
    refine XS.aloadN X1.here hx rfl (hb hby d9_8) rfl rfl ?_
    show Steps p.tables e below (T1.setTop (mkF m 9 #[.val (.ref p0)] [(.ref p0)])) _
    refine st2 _ ?_
    show Steps p.tables e below (T2.setTop (mkF m 12 #[.val (.ref p0)] [(.ref x)])) _
    refine XS.goto X2.here hx rfl (pc0 := 12) (pc' := 44) rfl (hb hby d9_12) (by decide) (by decide) ?_
    show Steps p.tables e below (T2.setTop (mkF m 44 #[.val (.ref p0)] [(.ref x)])) _
    jvm_step X2.here [X2.here.top, hx, (hb hby d9_44), X2.method', Bd.returns, Value.isRef, FieldType.isReference]
    first | (intro acts; rw [hr _ acts rfl rfl rfl]) | rw [hr _ _ rfl rfl rfl]
    exact Steps.refl _
  · show Q_rmTS0 Z p0 x h0 n0 _ T2.heap _
    rw [e2]
    exact ⟨rfl, N0, rfl⟩
theorem ef_rmPow (m : MethodId) (p0 : Int32) : entryFrame m #[(.int p0)] 1 = mkF m 0 #[.val (.int p0)] [] := by first | (simp [entryFrame, mkF, argsToLocals, Value.category]; done) | rfl
theorem d41_0 : decode method_4_code 0 = .ok (.iload_n 0, 1) := by decide +kernel
theorem d41_1 : decode method_4_code 1 = .ok (.ifCond .ne 7, 3) := by decide +kernel
theorem d41_4 : decode method_4_code 4 = .ok (.iconst 1, 1) := by decide +kernel
theorem d41_5 : decode method_4_code 5 = .ok (.goto 37, 3) := by decide +kernel
theorem d41_42 : decode method_4_code 42 = .ok (.ireturn, 1) := by decide +kernel
theorem d41_8 : decode method_4_code 8 = .ok (.iload_n 0, 1) := by decide +kernel
theorem d41_9 : decode method_4_code 9 = .ok (.iconst 1, 1) := by decide +kernel
theorem d41_10 : decode method_4_code 10 = .ok (.if_icmp .ne 8, 3) := by decide +kernel
theorem d41_13 : decode method_4_code 13 = .ok (.bipush 10, 2) := by decide +kernel
theorem d41_15 : decode method_4_code 15 = .ok (.goto 27, 3) := by decide +kernel
theorem d41_18 : decode method_4_code 18 = .ok (.iload_n 0, 1) := by decide +kernel
theorem d41_19 : decode method_4_code 19 = .ok (.iconst 2, 1) := by decide +kernel
theorem d41_20 : decode method_4_code 20 = .ok (.if_icmp .ne 8, 3) := by decide +kernel
theorem d41_23 : decode method_4_code 23 = .ok (.bipush 100, 2) := by decide +kernel
theorem d41_25 : decode method_4_code 25 = .ok (.goto 17, 3) := by decide +kernel
theorem d41_28 : decode method_4_code 28 = .ok (.iload_n 0, 1) := by decide +kernel
theorem d41_29 : decode method_4_code 29 = .ok (.iconst 3, 1) := by decide +kernel
theorem d41_30 : decode method_4_code 30 = .ok (.if_icmp .ne 9, 3) := by decide +kernel
theorem d41_33 : decode method_4_code 33 = .ok (.sipush 1000, 3) := by decide +kernel
theorem d41_36 : decode method_4_code 36 = .ok (.goto 6, 3) := by decide +kernel
theorem d41_39 : decode method_4_code 39 = .ok (.sipush 10000, 3) := by decide +kernel
def Q_rmPow (Z : State) (p0 : Int32) (zc : Int32) (fm : Value) (r : Int32) (h0 : Heap) (n0 : Nat) (v : Option Value) (h : Heap) (L : List Loc) : Prop := v = some (.int r) ∧ Fr n0 L ∧ h = h0
set_option maxRecDepth 65536 in
set_option maxHeartbeats 40000000 in
theorem rmPow (l : Launch) (Z : State) (a0 : Array Value) (hw : ∀ d ∈ tables_1, d.before a0 Z = true) (ws : List Jvm.Cond) (p0 : Int32) (zc : Int32) (fm : Value) (r : Int32) (h0 : Heap) (n0 : Nat) (Z0 : n0 ≤ h0.size) (hSt : own_St Z zc fm) (Ol : own_Old Z n0 h0) (hres : r = own_pow p0) :
    MetFree l (⟨"com/example/kikao/kikao/DomainToStringPinLaw", "pow10", "(I)I"⟩ : MethodName) (head1 (Jvm.Cond.code (⟨"com/example/kikao/kikao/DomainToStringPinLaw", "pow10", "(I)I"⟩ : MethodName) method_4_code 1 (some .int) :: ws) ({ frames := 0, cells := 0, slots := 0, locals := 0 } : Room)) (fun a U => a = #[(.int p0)] ∧ Z.Warmed39 U.vm ∧ U.heap = h0) (fun _ _ _ _ _ => True) (fun _ U o U' => ∃ v L, o = .returned v ∧ Q_rmPow Z p0 zc fm r h0 n0 v U'.heap L ∧ FrameEnd U o U' L ({ frames := 0, cells := 0, slots := 0, locals := 0 } : Room).cells ({ frames := 0, cells := 0, slots := 0, locals := 0 } : Room).slots) := by
  refine MetFree.of_bodySF (plainFor_of_name pn_com_example_kikao_kikao_DomainToStringPinLaw) hisR ?_
  intro p e s m args below meth c s₁ Bd hml0 hP hK
  obtain ⟨rfl, hZ, hh⟩ := hP
  have hx := Bd.exec
  have hby := Bd.bytes
  have hml : c.maxLocals = 1 := hml0
  have hown : s.vm.findClass "com/example/kikao/kikao/DomainToStringPinLaw" = some m.cls := findClass_of_methodNamed Bd.named
  have hnm := (name_of_methodNamed Bd.named Bd.method).1
  have hZo := hZ
  have howno := hown
  have X0 : Stand p l e ({ frames := 0, cells := 0, slots := 0, locals := 0 } : Room) s m #[(.int p0)] below meth c s₁ [] 0 0 := Stand.of_body Bd
  have e0 : s₁.heap = h0 := by rw [← hh, Bd.state]; rfl
  have N0 := Fr.nil n0
  have pre0 : ∀ t, Steps p.tables e below (s₁.setTop (mkF m 0 #[.val (.int p0)] [])) t → Steps p.tables e below (s₁.setTop (entryFrame m #[(.int p0)] 1)) t := fun t k => castTop (ef_rmPow m p0 ) k
  have pre2 : ∀ t, Steps p.tables e below (s₁.setTop (mkF m 1 #[.val (.int p0)] [(.int p0)])) t → Steps p.tables e below (s₁.setTop (entryFrame m #[(.int p0)] 1)) t := fun t kt => pre0 t (by
    show Steps p.tables e below (s₁.setTop (mkF m 0 #[.val (.int p0)] [])) _
    refine XS.iloadN X0.here hx rfl (hb hby d41_0) rfl  ?_
    exact kt)
  by_cases hc1_1 : p0 = (0 : Int32)
  · obtain ⟨fs, hr, hrun, hended, hW, hsame⟩ := X0.leave (v := some (.int (1 : Int32))) (fun h => by rw [Bd.returns] at h; cases h)
    refine ⟨_, _, pre2 _ ?_, hrun, hended, _, _, rfl, ?_, ⟨_, rfl⟩, hW, hsame.mono (by decide) (by decide)⟩
    · show Steps p.tables e below (s₁.setTop (mkF m 1 #[.val (.int p0)] [(.int p0)])) _
      refine XS.ifNo X0.here hx rfl (hb hby d41_1) rfl ((if0 _ _).trans (teq hc1_1).2) ?_
      refine XS.iconst X0.here hx rfl (hb hby d41_4) ?_
      refine XS.goto X0.here hx rfl (pc0 := 5) (pc' := 42) rfl (hb hby d41_5) (by decide) (by decide) ?_
      show Steps p.tables e below (s₁.setTop (mkF m 42 #[.val (.int p0)] [(.int (1 : Int32))])) _
      exact retI X0 hx Bd.returns (hb hby d41_42) hr
    · show Q_rmPow Z p0 zc fm r h0 n0 _ s₁.heap _
      rw [e0]
      exact ⟨by rw [hres]; unfold own_pow; rw [if_pos hc1_1], N0, rfl⟩
  · have pre4 : ∀ t, Steps p.tables e below (s₁.setTop (mkF m 10 #[.val (.int p0)] [(.int (1 : Int32)), (.int p0)])) t → Steps p.tables e below (s₁.setTop (entryFrame m #[(.int p0)] 1)) t := fun t kt => pre2 t (by
      show Steps p.tables e below (s₁.setTop (mkF m 1 #[.val (.int p0)] [(.int p0)])) _
      refine XS.ifYes X0.here hx rfl (pc0 := 1) (pc' := 8) rfl (hb hby d41_1) rfl ((if0 _ _).trans (feq hc1_1).2) (by decide) (by decide) ?_
      refine XS.iloadN X0.here hx rfl (hb hby d41_8) rfl  ?_
      refine XS.iconst X0.here hx rfl (hb hby d41_9) ?_
      exact kt)
    by_cases hc10_3 : p0 = (1 : Int32)
    · obtain ⟨fs, hr, hrun, hended, hW, hsame⟩ := X0.leave (v := some (.int (10 : Int32))) (fun h => by rw [Bd.returns] at h; cases h)
      refine ⟨_, _, pre4 _ ?_, hrun, hended, _, _, rfl, ?_, ⟨_, rfl⟩, hW, hsame.mono (by decide) (by decide)⟩
      · show Steps p.tables e below (s₁.setTop (mkF m 10 #[.val (.int p0)] [(.int (1 : Int32)), (.int p0)])) _
        refine XS.icmpNo X0.here hx rfl (hb hby d41_10) rfl (teq hc10_3).2 ?_
        refine XS.bipush X0.here hx rfl (hb hby d41_13) ?_
        refine XS.goto X0.here hx rfl (pc0 := 15) (pc' := 42) rfl (hb hby d41_15) (by decide) (by decide) ?_
        show Steps p.tables e below (s₁.setTop (mkF m 42 #[.val (.int p0)] [(.int (10 : Int32))])) _
        exact retI X0 hx Bd.returns (hb hby d41_42) hr
      · show Q_rmPow Z p0 zc fm r h0 n0 _ s₁.heap _
        rw [e0]
        exact ⟨by rw [hres]; unfold own_pow; rw [if_neg hc1_1, if_pos hc10_3], N0, rfl⟩
    · have pre6 : ∀ t, Steps p.tables e below (s₁.setTop (mkF m 20 #[.val (.int p0)] [(.int (2 : Int32)), (.int p0)])) t → Steps p.tables e below (s₁.setTop (entryFrame m #[(.int p0)] 1)) t := fun t kt => pre4 t (by
        show Steps p.tables e below (s₁.setTop (mkF m 10 #[.val (.int p0)] [(.int (1 : Int32)), (.int p0)])) _
        refine XS.icmpYes X0.here hx rfl (pc0 := 10) (pc' := 18) rfl (hb hby d41_10) rfl (feq hc10_3).2 (by decide) (by decide) ?_
        refine XS.iloadN X0.here hx rfl (hb hby d41_18) rfl  ?_
        refine XS.iconst X0.here hx rfl (hb hby d41_19) ?_
        exact kt)
      by_cases hc20_5 : p0 = (2 : Int32)
      · obtain ⟨fs, hr, hrun, hended, hW, hsame⟩ := X0.leave (v := some (.int (100 : Int32))) (fun h => by rw [Bd.returns] at h; cases h)
        refine ⟨_, _, pre6 _ ?_, hrun, hended, _, _, rfl, ?_, ⟨_, rfl⟩, hW, hsame.mono (by decide) (by decide)⟩
        · show Steps p.tables e below (s₁.setTop (mkF m 20 #[.val (.int p0)] [(.int (2 : Int32)), (.int p0)])) _
          refine XS.icmpNo X0.here hx rfl (hb hby d41_20) rfl (teq hc20_5).2 ?_
          refine XS.bipush X0.here hx rfl (hb hby d41_23) ?_
          refine XS.goto X0.here hx rfl (pc0 := 25) (pc' := 42) rfl (hb hby d41_25) (by decide) (by decide) ?_
          show Steps p.tables e below (s₁.setTop (mkF m 42 #[.val (.int p0)] [(.int (100 : Int32))])) _
          exact retI X0 hx Bd.returns (hb hby d41_42) hr
        · show Q_rmPow Z p0 zc fm r h0 n0 _ s₁.heap _
          rw [e0]
          exact ⟨by rw [hres]; unfold own_pow; rw [if_neg hc1_1, if_neg hc10_3, if_pos hc20_5], N0, rfl⟩
      · have pre8 : ∀ t, Steps p.tables e below (s₁.setTop (mkF m 30 #[.val (.int p0)] [(.int (3 : Int32)), (.int p0)])) t → Steps p.tables e below (s₁.setTop (entryFrame m #[(.int p0)] 1)) t := fun t kt => pre6 t (by
          show Steps p.tables e below (s₁.setTop (mkF m 20 #[.val (.int p0)] [(.int (2 : Int32)), (.int p0)])) _
          refine XS.icmpYes X0.here hx rfl (pc0 := 20) (pc' := 28) rfl (hb hby d41_20) rfl (feq hc20_5).2 (by decide) (by decide) ?_
          refine XS.iloadN X0.here hx rfl (hb hby d41_28) rfl  ?_
          refine XS.iconst X0.here hx rfl (hb hby d41_29) ?_
          exact kt)
        by_cases hc30_7 : p0 = (3 : Int32)
        · obtain ⟨fs, hr, hrun, hended, hW, hsame⟩ := X0.leave (v := some (.int (1000 : Int32))) (fun h => by rw [Bd.returns] at h; cases h)
          refine ⟨_, _, pre8 _ ?_, hrun, hended, _, _, rfl, ?_, ⟨_, rfl⟩, hW, hsame.mono (by decide) (by decide)⟩
          · show Steps p.tables e below (s₁.setTop (mkF m 30 #[.val (.int p0)] [(.int (3 : Int32)), (.int p0)])) _
            refine XS.icmpNo X0.here hx rfl (hb hby d41_30) rfl (teq hc30_7).2 ?_
            refine XS.sipush X0.here hx rfl (hb hby d41_33) ?_
            refine XS.goto X0.here hx rfl (pc0 := 36) (pc' := 42) rfl (hb hby d41_36) (by decide) (by decide) ?_
            show Steps p.tables e below (s₁.setTop (mkF m 42 #[.val (.int p0)] [(.int (1000 : Int32))])) _
            exact retI X0 hx Bd.returns (hb hby d41_42) hr
          · show Q_rmPow Z p0 zc fm r h0 n0 _ s₁.heap _
            rw [e0]
            exact ⟨by rw [hres]; unfold own_pow; rw [if_neg hc1_1, if_neg hc10_3, if_neg hc20_5, if_pos hc30_7], N0, rfl⟩
        · obtain ⟨fs, hr, hrun, hended, hW, hsame⟩ := X0.leave (v := some (.int (10000 : Int32))) (fun h => by rw [Bd.returns] at h; cases h)
          refine ⟨_, _, pre8 _ ?_, hrun, hended, _, _, rfl, ?_, ⟨_, rfl⟩, hW, hsame.mono (by decide) (by decide)⟩
          · show Steps p.tables e below (s₁.setTop (mkF m 30 #[.val (.int p0)] [(.int (3 : Int32)), (.int p0)])) _
            refine XS.icmpYes X0.here hx rfl (pc0 := 30) (pc' := 39) rfl (hb hby d41_30) rfl (feq hc30_7).2 (by decide) (by decide) ?_
            refine XS.sipush X0.here hx rfl (hb hby d41_39) ?_
            show Steps p.tables e below (s₁.setTop (mkF m 42 #[.val (.int p0)] [(.int (10000 : Int32))])) _
            exact retI X0 hx Bd.returns (hb hby d41_42) hr
          · show Q_rmPow Z p0 zc fm r h0 n0 _ s₁.heap _
            rw [e0]
            exact ⟨by rw [hres]; unfold own_pow; rw [if_neg hc1_1, if_neg hc10_3, if_neg hc20_5, if_neg hc30_7], N0, rfl⟩
theorem ef_rmDk0 (m : MethodId) (p0 : Addr) (p1 : Int32) (p2 : Int32) (p3 : Int32) : entryFrame m #[(.ref p0), (.int p1), (.int p2), (.int p3)] 5 = mkF m 0 #[.val (.ref p0), .val (.int p1), .val (.int p2), .val (.int p3), .unset] [] := by first | (simp [entryFrame, mkF, argsToLocals, Value.category]; done) | rfl
theorem d40_0 : decode method_3_code 0 = .ok (.iload_n 3, 1) := by decide +kernel
theorem d40_1 : decode method_3_code 1 = .ok (.iload_n 2, 1) := by decide +kernel
theorem d40_2 : decode method_3_code 2 = .ok (.if_icmp .lt 5, 3) := by decide +kernel
theorem d40_5 : decode method_3_code 5 = .ok (.iconst 1, 1) := by decide +kernel
theorem d40_6 : decode method_3_code 6 = .ok (.ireturn, 1) := by decide +kernel
def Q_rmDk0 (Z : State) (p0 : Addr) (p1 : Int32) (p2 : Int32) (p3 : Int32) (zc : Int32) (fm : Value) (h0 : Heap) (n0 : Nat) (v : Option Value) (h : Heap) (L : List Loc) : Prop := v = some (.int (1 : Int32)) ∧ Fr n0 L ∧ h = h0
set_option maxRecDepth 65536 in
set_option maxHeartbeats 40000000 in
theorem rmDk0 (l : Launch) (Z : State) (a0 : Array Value) (hw : ∀ d ∈ tables_1, d.before a0 Z = true) (ws : List Jvm.Cond) (p0 : Addr) (p1 : Int32) (p2 : Int32) (p3 : Int32) (zc : Int32) (fm : Value) (h0 : Heap) (n0 : Nat) (Z0 : n0 ≤ h0.size) (hSt : own_St Z zc fm) (Ol : own_Old Z n0 h0) (hge : ¬ p3 < p2) :
    MetFree l (⟨"com/example/kikao/kikao/DomainToStringPinLaw", "digitOk", "(Ljava/lang/String;III)Z"⟩ : MethodName) (head1 (Jvm.Cond.code (⟨"com/example/kikao/kikao/DomainToStringPinLaw", "digitOk", "(Ljava/lang/String;III)Z"⟩ : MethodName) method_3_code 5 (some .boolean) :: ws) ({ frames := 0, cells := 0, slots := 0, locals := 0 } : Room)) (fun a U => a = #[(.ref p0), (.int p1), (.int p2), (.int p3)] ∧ Z.Warmed39 U.vm ∧ U.heap = h0) (fun _ _ _ _ _ => True) (fun _ U o U' => ∃ v L, o = .returned v ∧ Q_rmDk0 Z p0 p1 p2 p3 zc fm h0 n0 v U'.heap L ∧ FrameEnd U o U' L ({ frames := 0, cells := 0, slots := 0, locals := 0 } : Room).cells ({ frames := 0, cells := 0, slots := 0, locals := 0 } : Room).slots) := by
  refine MetFree.of_bodySF (plainFor_of_name pn_com_example_kikao_kikao_DomainToStringPinLaw) hisR ?_
  intro p e s m args below meth c s₁ Bd hml0 hP hK
  obtain ⟨rfl, hZ, hh⟩ := hP
  have hx := Bd.exec
  have hby := Bd.bytes
  have hml : c.maxLocals = 5 := hml0
  have hown : s.vm.findClass "com/example/kikao/kikao/DomainToStringPinLaw" = some m.cls := findClass_of_methodNamed Bd.named
  have hnm := (name_of_methodNamed Bd.named Bd.method).1
  have hZo := hZ
  have howno := hown
  have X0 : Stand p l e ({ frames := 0, cells := 0, slots := 0, locals := 0 } : Room) s m #[(.ref p0), (.int p1), (.int p2), (.int p3)] below meth c s₁ [] 0 0 := Stand.of_body Bd
  have e0 : s₁.heap = h0 := by rw [← hh, Bd.state]; rfl
  have N0 := Fr.nil n0
  have pre0 : ∀ t, Steps p.tables e below (s₁.setTop (mkF m 0 #[.val (.ref p0), .val (.int p1), .val (.int p2), .val (.int p3), .unset] [])) t → Steps p.tables e below (s₁.setTop (entryFrame m #[(.ref p0), (.int p1), (.int p2), (.int p3)] 5)) t := fun t k => castTop (ef_rmDk0 m p0 p1 p2 p3 ) k
  obtain ⟨fs, hr, hrun, hended, hW, hsame⟩ := X0.leave (v := some (.int (1 : Int32))) (fun h => by rw [Bd.returns] at h; cases h)
  refine ⟨_, _, pre0 _ ?_, hrun, hended, _, _, rfl, ?_, ⟨_, rfl⟩, hW, hsame.mono (by decide) (by decide)⟩
  · show Steps p.tables e below (s₁.setTop (mkF m 0 #[.val (.ref p0), .val (.int p1), .val (.int p2), .val (.int p3), .unset] [])) _
    refine XS.iloadN X0.here hx rfl (hb hby d40_0) rfl  ?_
    refine XS.iloadN X0.here hx rfl (hb hby d40_1) rfl  ?_
    show Steps p.tables e below (s₁.setTop (mkF m 2 #[.val (.ref p0), .val (.int p1), .val (.int p2), .val (.int p3), .unset] [(.int p2), (.int p3)])) _
    refine XS.icmpNo X0.here hx rfl (hb hby d40_2) rfl (flt hge).1 ?_
    refine XS.iconst X0.here hx rfl (hb hby d40_5) ?_
    show Steps p.tables e below (s₁.setTop (mkF m 6 #[.val (.ref p0), .val (.int p1), .val (.int p2), .val (.int p3), .unset] [(.int (1 : Int32))])) _
    exact retN X0 hx (t := .boolean) Bd.returns (by simp) (hb hby d40_6) hr
  · show Q_rmDk0 Z p0 p1 p2 p3 zc fm h0 n0 _ s₁.heap _
    rw [e0]
    exact ⟨rfl, N0, rfl⟩
theorem ef_rmDk (m : MethodId) (p0 : Addr) (p1 : Int32) (p2 : Int32) (p3 : Int32) : entryFrame m #[(.ref p0), (.int p1), (.int p2), (.int p3)] 5 = mkF m 0 #[.val (.ref p0), .val (.int p1), .val (.int p2), .val (.int p3), .unset] [] := by first | (simp [entryFrame, mkF, argsToLocals, Value.category]; done) | rfl
theorem d40_7 : decode method_3_code 7 = .ok (.iload_n 1, 1) := by decide +kernel
theorem d40_8 : decode method_3_code 8 = .ok (.iload_n 2, 1) := by decide +kernel
theorem d40_9 : decode method_3_code 9 = .ok (.iconst 1, 1) := by decide +kernel
theorem d40_10 : decode method_3_code 10 = .ok (.isub, 1) := by decide +kernel
theorem d40_11 : decode method_3_code 11 = .ok (.iload_n 3, 1) := by decide +kernel
theorem d40_12 : decode method_3_code 12 = .ok (.isub, 1) := by decide +kernel
theorem pd__I_I : parseMethodDescriptor "(I)I" = some ⟨[.int], some .int⟩ := by decide +kernel
theorem d40_13 : decode method_3_code 13 = .ok (.invokestatic 41, 3) := by decide +kernel
theorem d40_16 : decode method_3_code 16 = .ok (.idiv, 1) := by decide +kernel
theorem d40_17 : decode method_3_code 17 = .ok (.bipush 10, 2) := by decide +kernel
theorem d40_19 : decode method_3_code 19 = .ok (.irem, 1) := by decide +kernel
theorem d40_20 : decode method_3_code 20 = .ok (.istore 4, 2) := by decide +kernel
theorem d40_22 : decode method_3_code 22 = .ok (.aload_n 0, 1) := by decide +kernel
theorem d40_23 : decode method_3_code 23 = .ok (.iconst 3, 1) := by decide +kernel
theorem d40_24 : decode method_3_code 24 = .ok (.iload_n 3, 1) := by decide +kernel
theorem d40_25 : decode method_3_code 25 = .ok (.iadd, 1) := by decide +kernel
theorem pd__I_C : parseMethodDescriptor "(I)C" = some ⟨[.int], some .char⟩ := by decide +kernel
theorem d40_26 : decode method_3_code 26 = .ok (.invokevirtual 31, 3) := by decide +kernel
theorem d40_29 : decode method_3_code 29 = .ok (.bipush 48, 2) := by decide +kernel
theorem d40_31 : decode method_3_code 31 = .ok (.iload 4, 2) := by decide +kernel
theorem d40_33 : decode method_3_code 33 = .ok (.iadd, 1) := by decide +kernel
theorem d40_34 : decode method_3_code 34 = .ok (.i2c, 1) := by decide +kernel
theorem d40_35 : decode method_3_code 35 = .ok (.if_icmp .ne 7, 3) := by decide +kernel
theorem d40_38 : decode method_3_code 38 = .ok (.iconst 1, 1) := by decide +kernel
theorem d40_39 : decode method_3_code 39 = .ok (.goto 4, 3) := by decide +kernel
theorem d40_43 : decode method_3_code 43 = .ok (.ireturn, 1) := by decide +kernel
def Q_rmDk (Z : State) (p0 : Addr) (p1 : Int32) (p2 : Int32) (p3 : Int32) (zc : Int32) (fm : Value) (cs : List Int32) (d : Int32) (k : Int32) (h0 : Heap) (n0 : Nat) (v : Option Value) (h : Heap) (L : List Loc) : Prop := v = some (.int (1 : Int32)) ∧ Fr n0 L ∧ h = h0
set_option maxRecDepth 65536 in
set_option maxHeartbeats 40000000 in
theorem rmDk (l : Launch) (Z : State) (a0 : Array Value) (hw : ∀ d ∈ tables_1, d.before a0 Z = true) (ws : List Jvm.Cond) (p0 : Addr) (p1 : Int32) (p2 : Int32) (p3 : Int32) (zc : Int32) (fm : Value) (cs : List Int32) (d : Int32) (k : Int32) (h0 : Heap) (n0 : Nat) (Z0 : n0 ≤ h0.size) (hSt : own_St Z zc fm) (Ol : own_Old Z n0 h0) (hS : own_Str Z h0 p0 cs) (hnw : own_Nrw Z h0 p0) (hlt : p3 < p2) (hk : k = own_pow ((p2 - (1 : Int32)) - p3)) (hk0 : k ≠ (0 : Int32)) (hix : ¬ ((3 : Int32) + p3) < 0 ∧ ((3 : Int32) + p3).toNatClampNeg < cs.length) (hgd : d = cs.getD ((3 : Int32) + p3).toNatClampNeg 0) (hq : d = ((48 : Int32) + ((p1 / k) % (10 : Int32))).toUInt32.toUInt16.toUInt32.toInt32) :
    MetFree l (⟨"com/example/kikao/kikao/DomainToStringPinLaw", "digitOk", "(Ljava/lang/String;III)Z"⟩ : MethodName) (head1 (Jvm.Cond.code (⟨"com/example/kikao/kikao/DomainToStringPinLaw", "digitOk", "(Ljava/lang/String;III)Z"⟩ : MethodName) method_3_code 5 (some .boolean) :: ws) ({ frames := 4, cells := 0, slots := 0, locals := 53 } : Room)) (fun a U => a = #[(.ref p0), (.int p1), (.int p2), (.int p3)] ∧ Z.Warmed39 U.vm ∧ U.heap = h0) (fun _ _ _ _ _ => True) (fun _ U o U' => ∃ v L, o = .returned v ∧ Q_rmDk Z p0 p1 p2 p3 zc fm cs d k h0 n0 v U'.heap L ∧ FrameEnd U o U' L ({ frames := 4, cells := 0, slots := 0, locals := 53 } : Room).cells ({ frames := 4, cells := 0, slots := 0, locals := 53 } : Room).slots) := by
  refine MetFree.of_bodySF (plainFor_of_name pn_com_example_kikao_kikao_DomainToStringPinLaw) hisR ?_
  intro p e s m args below meth c s₁ Bd hml0 hP hK
  obtain ⟨rfl, hZ, hh⟩ := hP
  have hx := Bd.exec
  have hby := Bd.bytes
  have hml : c.maxLocals = 5 := hml0
  have hown : s.vm.findClass "com/example/kikao/kikao/DomainToStringPinLaw" = some m.cls := findClass_of_methodNamed Bd.named
  have hnm := (name_of_methodNamed Bd.named Bd.method).1
  have hZo := hZ
  have howno := hown
  have X0 : Stand p l e ({ frames := 4, cells := 0, slots := 0, locals := 53 } : Room) s m #[(.ref p0), (.int p1), (.int p2), (.int p3)] below meth c s₁ [] 0 0 := Stand.of_body Bd
  have e0 : s₁.heap = h0 := by rw [← hh, Bd.state]; rfl
  have N0 := Fr.nil n0
  have pre0 : ∀ t, Steps p.tables e below (s₁.setTop (mkF m 0 #[.val (.ref p0), .val (.int p1), .val (.int p2), .val (.int p3), .unset] [])) t → Steps p.tables e below (s₁.setTop (entryFrame m #[(.ref p0), (.int p1), (.int p2), (.int p3)] 5)) t := fun t k => castTop (ef_rmDk m p0 p1 p2 p3 ) k
  obtain ⟨_, _, ⟨T1, L1, k1, n1⟩, -, X1, ⟨Lc1, hQ1, l1, y1, z1⟩, st1⟩ := Jvm.LawKit.callS X0 hx (y := (⟨"com/example/kikao/kikao/DomainToStringPinLaw", "pow10", "(I)I"⟩ : MethodName)) hown (mvT hZ (hw _ (own_m 211 rfl))) (mvT hZ (hw _ (own_m 212 rfl))) (mvT hZ (hw _ (own_m 209 rfl))) (mvT hZ (hw _ (own_m 213 rfl))) (by decide) (backOf (W := 1) (rmPow l Z a0 hw [] ((p2 - (1 : Int32)) - p3) zc fm k h0 n0 Z0 hSt Ol hk) hZ (hw _ (own_m 213 rfl)) (hw _ (own_m 209 rfl)) (by decide) (by decide)) (g := (mkF m 13 #[.val (.ref p0), .val (.int p1), .val (.int p2), .val (.int p3), .unset] [(.int ((p2 - (1 : Int32)) - p3)), (.int p1)])) rfl (by rw [hml]; rfl) (argsL := [(.int ((p2 - (1 : Int32)) - p3))]) (rest := [(.int p1)]) (lenOf pd__I_I rfl) rfl (by show 2 * 0 + _ ≤ _; exact Nat.le_of_eq rfl) (hb hby d40_13) (fun _ _ => ⟨rfl, e0, (by decide : 0 + 0 ≤ _), (by decide : 0 + 0 ≤ _)⟩)
  dsimp only [Pt.U, Pt.locs, Pt.cells, Pt.slots] at X1 l1 y1 z1 st1 hQ1
  subst l1 y1 z1
  obtain ⟨rfl, Nq1, e1⟩ := hQ1
  have N1 := Fr.app N0 Nq1
  obtain ⟨cq2, kq2, q2a, q2b, q2c⟩ := isOf hZ e1 hS.exa
  obtain ⟨_, _, ⟨T2, L2, k2, n2⟩, -, X2, ⟨Lc2, hQ2, l2, y2, z2⟩, st2⟩ := X1.virtualBack hx (y := (⟨"java/lang/String", "charAt", "(I)C"⟩ : MethodName)) (z := (⟨"java/lang/String", "charAt", "(I)C"⟩ : MethodName)) hown (mvT hZ (hw _ (own_m 185 rfl))) (mvT hZ (hw _ (own_m 186 rfl))) (notFace_of_selects (args := #[]) (mvT hZ (hw _ (own_m 188 rfl)))) (mvT hZ (hw _ (own_m 188 rfl))) (mvT hZ (hw _ (own_m 187 rfl))) (by decide) (backOf (W := 0) (rmCharAt l Z a0 hw [] p0 ((3 : Int32) + p3) zc fm cs d h0 n0 Z0 hSt Ol hS hnw hix hgd) hZ (hw _ (own_m 189 rfl)) (hw _ (own_m 2 rfl)) (by decide) (by decide)) q2a q2c (g := (mkF m 26 #[.val (.ref p0), .val (.int p1), .val (.int p2), .val (.int p3), .val (.int ((p1 / k) % (10 : Int32)))] [(.int ((3 : Int32) + p3)), (.ref p0)])) rfl (by rw [hml]; rfl) (Steps.refl _) (argsL := [(.int ((3 : Int32) + p3))]) (rest := []) (lenOf pd__I_C rfl) rfl (by show 2 * 0 + _ ≤ _; exact Nat.le_of_eq rfl) (hb hby d40_26) (fun _ _ => ⟨rfl, e1, (by decide : 0 + 0 ≤ _), (by decide : 0 + 0 ≤ _)⟩)
  dsimp only [Pt.U, Pt.locs, Pt.cells, Pt.slots] at X2 l2 y2 z2 st2 hQ2
  subst l2 y2 z2
  obtain ⟨rfl, Nq2, e2⟩ := hQ2
  have N2 := Fr.app N1 Nq2
  obtain ⟨fs, hr, hrun, hended, hW, hsame⟩ := X2.leave (v := some (.int (1 : Int32))) (fun h => by rw [Bd.returns] at h; cases h)
  refine ⟨_, _, pre0 _ ?_, hrun, hended, _, _, rfl, ?_, ⟨_, rfl⟩, hW, hsame.mono (by decide) (by decide)⟩
  · show Steps p.tables e below (s₁.setTop (mkF m 0 #[.val (.ref p0), .val (.int p1), .val (.int p2), .val (.int p3), .unset] [])) _
    refine XS.iloadN X0.here hx rfl (hb hby d40_0) rfl  ?_
    refine XS.iloadN X0.here hx rfl (hb hby d40_1) rfl  ?_
    show Steps p.tables e below (s₁.setTop (mkF m 2 #[.val (.ref p0), .val (.int p1), .val (.int p2), .val (.int p3), .unset] [(.int p2), (.int p3)])) _
    refine XS.icmpYes X0.here hx rfl (pc0 := 2) (pc' := 7) rfl (hb hby d40_2) rfl (tlt hlt).1 (by decide) (by decide) ?_
    refine XS.iloadN X0.here hx rfl (hb hby d40_7) rfl  ?_
    refine XS.iloadN X0.here hx rfl (hb hby d40_8) rfl  ?_
    refine XS.iconst X0.here hx rfl (hb hby d40_9) ?_
    refine XS.isub X0.here hx rfl (hb hby d40_10) rfl ?_
    refine XS.iloadN X0.here hx rfl (hb hby d40_11) rfl  ?_
    refine XS.isub X0.here hx rfl (hb hby d40_12) rfl ?_
    show Steps p.tables e below (s₁.setTop (mkF m 13 #[.val (.ref p0), .val (.int p1), .val (.int p2), .val (.int p3), .unset] [(.int ((p2 - (1 : Int32)) - p3)), (.int p1)])) _
    refine st1 _ ?_
    show Steps p.tables e below (T1.setTop (mkF m 16 #[.val (.ref p0), .val (.int p1), .val (.int p2), .val (.int p3), .unset] [(.int k), (.int p1)])) _
    refine XS.idiv X1.here hx rfl (hb hby d40_16) rfl hk0 ?_
    refine XS.bipush X1.here hx rfl (hb hby d40_17) ?_
    show Steps p.tables e below (T1.setTop (mkF m 19 #[.val (.ref p0), .val (.int p1), .val (.int p2), .val (.int p3), .unset] [(.int (10 : Int32)), (.int (p1 / k))])) _
    refine Jvm.RoadKit.iremM X1 hx rfl (hb hby d40_19) rfl (by decide) ?_
    show Steps p.tables e below (T1.setTop (mkF m 20 #[.val (.ref p0), .val (.int p1), .val (.int p2), .val (.int p3), .unset] [(.int ((p1 / k) % (10 : Int32)))])) _
    refine XS.istore X1.here hx rfl (hb hby d40_20) rfl (l' := #[.val (.ref p0), .val (.int p1), .val (.int p2), .val (.int p3), .val (.int ((p1 / k) % (10 : Int32)))]) rfl ?_
    refine XS.aloadN X1.here hx rfl (hb hby d40_22) rfl rfl ?_
    refine XS.iconst X1.here hx rfl (hb hby d40_23) ?_
    refine XS.iloadN X1.here hx rfl (hb hby d40_24) rfl  ?_
    refine XS.iadd X1.here hx rfl (hb hby d40_25) rfl ?_
    show Steps p.tables e below (T1.setTop (mkF m 26 #[.val (.ref p0), .val (.int p1), .val (.int p2), .val (.int p3), .val (.int ((p1 / k) % (10 : Int32)))] [(.int ((3 : Int32) + p3)), (.ref p0)])) _
    refine st2.trans ?_
    show Steps p.tables e below (T2.setTop (mkF m 29 #[.val (.ref p0), .val (.int p1), .val (.int p2), .val (.int p3), .val (.int ((p1 / k) % (10 : Int32)))] [(.int d)])) _
    refine XS.bipush X2.here hx rfl (hb hby d40_29) ?_
    refine XS.iload X2.here hx rfl (hb hby d40_31) rfl  ?_
    refine XS.iadd X2.here hx rfl (hb hby d40_33) rfl ?_
    refine XS.i2c X2.here hx rfl (hb hby d40_34) rfl ?_
    show Steps p.tables e below (T2.setTop (mkF m 35 #[.val (.ref p0), .val (.int p1), .val (.int p2), .val (.int p3), .val (.int ((p1 / k) % (10 : Int32)))] [(.int (((48 : Int32) + ((p1 / k) % (10 : Int32))).toUInt32.toUInt16.toUInt32.toInt32)), (.int d)])) _
    refine XS.icmpNo X2.here hx rfl (hb hby d40_35) rfl (teq hq).2 ?_
    refine XS.iconst X2.here hx rfl (hb hby d40_38) ?_
    refine XS.goto X2.here hx rfl (pc0 := 39) (pc' := 43) rfl (hb hby d40_39) (by decide) (by decide) ?_
    show Steps p.tables e below (T2.setTop (mkF m 43 #[.val (.ref p0), .val (.int p1), .val (.int p2), .val (.int p3), .val (.int ((p1 / k) % (10 : Int32)))] [(.int (1 : Int32))])) _
    exact retN X2 hx (t := .boolean) Bd.returns (by simp) (hb hby d40_43) hr
  · show Q_rmDk Z p0 p1 p2 p3 zc fm cs d k h0 n0 _ T2.heap _
    rw [e2]
    exact ⟨rfl, N2, rfl⟩
theorem ef_rmSS1 (m : MethodId) (p0 : Int32) : entryFrame m #[(.int p0)] 4 = mkF m 0 #[.val (.int p0), .unset, .unset, .unset] [] := by first | (simp [entryFrame, mkF, argsToLocals, Value.category]; done) | rfl
theorem d22_0 : decode jdk_33_method_13_code 0 = .ok (.iconst 1, 1) := by decide +kernel
theorem d22_1 : decode jdk_33_method_13_code 1 = .ok (.istore_n 1, 1) := by decide +kernel
theorem d22_2 : decode jdk_33_method_13_code 2 = .ok (.iload_n 0, 1) := by decide +kernel
theorem d22_3 : decode jdk_33_method_13_code 3 = .ok (.ifCond .lt 8, 3) := by decide +kernel
theorem d22_6 : decode jdk_33_method_13_code 6 = .ok (.iconst 0, 1) := by decide +kernel
theorem d22_7 : decode jdk_33_method_13_code 7 = .ok (.istore_n 1, 1) := by decide +kernel
theorem d22_8 : decode jdk_33_method_13_code 8 = .ok (.iload_n 0, 1) := by decide +kernel
theorem d22_9 : decode jdk_33_method_13_code 9 = .ok (.ineg, 1) := by decide +kernel
theorem d22_10 : decode jdk_33_method_13_code 10 = .ok (.istore_n 0, 1) := by decide +kernel
theorem d22_11 : decode jdk_33_method_13_code 11 = .ok (.bipush (-10), 2) := by decide +kernel
theorem d22_13 : decode jdk_33_method_13_code 13 = .ok (.istore_n 2, 1) := by decide +kernel
theorem d22_14 : decode jdk_33_method_13_code 14 = .ok (.iconst 1, 1) := by decide +kernel
theorem d22_15 : decode jdk_33_method_13_code 15 = .ok (.istore_n 3, 1) := by decide +kernel
theorem d22_16 : decode jdk_33_method_13_code 16 = .ok (.iload_n 3, 1) := by decide +kernel
theorem d22_17 : decode jdk_33_method_13_code 17 = .ok (.bipush 10, 2) := by decide +kernel
theorem d22_19 : decode jdk_33_method_13_code 19 = .ok (.if_icmp .ge 23, 3) := by decide +kernel
theorem d22_22 : decode jdk_33_method_13_code 22 = .ok (.iload_n 0, 1) := by decide +kernel
theorem d22_23 : decode jdk_33_method_13_code 23 = .ok (.iload_n 2, 1) := by decide +kernel
theorem d22_24 : decode jdk_33_method_13_code 24 = .ok (.if_icmp .le 7, 3) := by decide +kernel
theorem d22_27 : decode jdk_33_method_13_code 27 = .ok (.iload_n 3, 1) := by decide +kernel
theorem d22_28 : decode jdk_33_method_13_code 28 = .ok (.iload_n 1, 1) := by decide +kernel
theorem d22_29 : decode jdk_33_method_13_code 29 = .ok (.iadd, 1) := by decide +kernel
theorem d22_30 : decode jdk_33_method_13_code 30 = .ok (.ireturn, 1) := by decide +kernel
def Q_rmSS1 (Z : State) (p0 : Int32) (zc : Int32) (fm : Value) (h0 : Heap) (n0 : Nat) (v : Option Value) (h : Heap) (L : List Loc) : Prop := v = some (.int (1 : Int32)) ∧ Fr n0 L ∧ h = h0
set_option maxRecDepth 65536 in
set_option maxHeartbeats 40000000 in
theorem rmSS1 (l : Launch) (Z : State) (a0 : Array Value) (hw : ∀ d ∈ tables_1, d.before a0 Z = true) (ws : List Jvm.Cond) (p0 : Int32) (zc : Int32) (fm : Value) (h0 : Heap) (n0 : Nat) (Z0 : n0 ≤ h0.size) (hSt : own_St Z zc fm) (Ol : own_Old Z n0 h0) (hp0 : 0 ≤ p0.toInt) (hlo : 0 ≤ p0.toInt) (hhi : p0.toInt < 10) :
    MetFree l (⟨"java/lang/Integer", "stringSize", "(I)I"⟩ : MethodName) (head1 (Jvm.Cond.code (⟨"java/lang/Integer", "stringSize", "(I)I"⟩ : MethodName) jdk_33_method_13_code 4 (some .int) :: ws) ({ frames := 0, cells := 0, slots := 0, locals := 0 } : Room)) (fun a U => a = #[(.int p0)] ∧ Z.Warmed39 U.vm ∧ U.heap = h0) (fun _ _ _ _ _ => True) (fun _ U o U' => ∃ v L, o = .returned v ∧ Q_rmSS1 Z p0 zc fm h0 n0 v U'.heap L ∧ FrameEnd U o U' L ({ frames := 0, cells := 0, slots := 0, locals := 0 } : Room).cells ({ frames := 0, cells := 0, slots := 0, locals := 0 } : Room).slots) := by
  refine MetFree.of_bodySF (plainFor_of_name pn_java_lang_Integer) hisR ?_
  intro p e s m args below meth c s₁ Bd hml0 hP hK
  obtain ⟨rfl, hZ, hh⟩ := hP
  have hx := Bd.exec
  have hby := Bd.bytes
  have hml : c.maxLocals = 4 := hml0
  have hown : s.vm.findClass "java/lang/Integer" = some m.cls := findClass_of_methodNamed Bd.named
  have hnm := (name_of_methodNamed Bd.named Bd.method).1
  have hZo := hZ
  have howno := hown
  have X0 : Stand p l e ({ frames := 0, cells := 0, slots := 0, locals := 0 } : Room) s m #[(.int p0)] below meth c s₁ [] 0 0 := Stand.of_body Bd
  have e0 : s₁.heap = h0 := by rw [← hh, Bd.state]; rfl
  have N0 := Fr.nil n0
  have pre0 : ∀ t, Steps p.tables e below (s₁.setTop (mkF m 0 #[.val (.int p0), .unset, .unset, .unset] [])) t → Steps p.tables e below (s₁.setTop (entryFrame m #[(.int p0)] 4)) t := fun t k => castTop (ef_rmSS1 m p0 ) k
  obtain ⟨fs, hr, hrun, hended, hW, hsame⟩ := X0.leave (v := some (.int (1 : Int32))) (fun h => by rw [Bd.returns] at h; cases h)
  refine ⟨_, _, pre0 _ ?_, hrun, hended, _, _, rfl, ?_, ⟨_, rfl⟩, hW, hsame.mono (by decide) (by decide)⟩
  · show Steps p.tables e below (s₁.setTop (mkF m 0 #[.val (.int p0), .unset, .unset, .unset] [])) _
    refine XS.iconst X0.here hx rfl (hb hby d22_0) ?_
    refine XS.istoreN X0.here hx rfl (hb hby d22_1) rfl (l' := #[.val (.int p0), .val (.int (1 : Int32)), .unset, .unset]) rfl ?_
    refine XS.iloadN X0.here hx rfl (hb hby d22_2) rfl  ?_
    show Steps p.tables e below (s₁.setTop (mkF m 3 #[.val (.int p0), .val (.int (1 : Int32)), .unset, .unset] [(.int p0)])) _
    refine XS.ifNo X0.here hx rfl (hb hby d22_3) rfl ((if0 _ _).trans (flt (own_nl hp0)).1) ?_
    refine XS.iconst X0.here hx rfl (hb hby d22_6) ?_
    refine XS.istoreN X0.here hx rfl (hb hby d22_7) rfl (l' := #[.val (.int p0), .val (.int (0 : Int32)), .unset, .unset]) rfl ?_
    refine XS.iloadN X0.here hx rfl (hb hby d22_8) rfl  ?_
    refine XS.ineg X0.here hx rfl (hb hby d22_9) rfl ?_
    refine XS.istoreN X0.here hx rfl (hb hby d22_10) rfl (l' := #[.val (.int (-p0)), .val (.int (0 : Int32)), .unset, .unset]) rfl ?_
    refine XS.bipush X0.here hx rfl (hb hby d22_11) ?_
    refine XS.istoreN X0.here hx rfl (hb hby d22_13) rfl (l' := #[.val (.int (-p0)), .val (.int (0 : Int32)), .val (.int (-10 : Int32)), .unset]) rfl ?_
    refine XS.iconst X0.here hx rfl (hb hby d22_14) ?_
    refine XS.istoreN X0.here hx rfl (hb hby d22_15) rfl (l' := #[.val (.int (-p0)), .val (.int (0 : Int32)), .val (.int (-10 : Int32)), .val (.int (1 : Int32))]) rfl ?_
    refine XS.iloadN X0.here hx rfl (hb hby d22_16) rfl  ?_
    refine XS.bipush X0.here hx rfl (hb hby d22_17) ?_
    show Steps p.tables e below (s₁.setTop (mkF m 19 #[.val (.int (-p0)), .val (.int (0 : Int32)), .val (.int (-10 : Int32)), .val (.int (1 : Int32))] [(.int (10 : Int32)), (.int (1 : Int32))])) _
    refine XS.icmpNo X0.here hx rfl (hb hby d22_19) rfl (tlt (by decide : (1 : Int32) < (10 : Int32))).2.1 ?_
    refine XS.iloadN X0.here hx rfl (hb hby d22_22) rfl  ?_
    refine XS.iloadN X0.here hx rfl (hb hby d22_23) rfl  ?_
    show Steps p.tables e below (s₁.setTop (mkF m 24 #[.val (.int (-p0)), .val (.int (0 : Int32)), .val (.int (-10 : Int32)), .val (.int (1 : Int32))] [(.int (-10 : Int32)), (.int (-p0))])) _
    refine XS.icmpNo X0.here hx rfl (hb hby d22_24) rfl (tlt ((own_ng (b := 10) (by decide) hp0).mpr (by omega))).2.2.2 ?_
    refine XS.iloadN X0.here hx rfl (hb hby d22_27) rfl  ?_
    refine XS.iloadN X0.here hx rfl (hb hby d22_28) rfl  ?_
    refine XS.iadd X0.here hx rfl (hb hby d22_29) rfl ?_
    show Steps p.tables e below (s₁.setTop (mkF m 30 #[.val (.int (-p0)), .val (.int (0 : Int32)), .val (.int (-10 : Int32)), .val (.int (1 : Int32))] [(.int (1 : Int32))])) _
    exact retI X0 hx Bd.returns (hb hby d22_30) hr
  · show Q_rmSS1 Z p0 zc fm h0 n0 _ s₁.heap _
    rw [e0]
    exact ⟨rfl, N0, rfl⟩
theorem ef_rmGC1 (m : MethodId) (p0 : Int32) (p2 : Addr) : entryFrame m #[(.int p0), (.int (4 : Int32)), (.ref p2)] 7 = mkF m 0 #[.val (.int p0), .val (.int (4 : Int32)), .val (.ref p2), .unset, .unset, .unset, .unset] [] := by first | (simp [entryFrame, mkF, argsToLocals, Value.category]; done) | rfl
theorem d24_0 : decode jdk_33_method_12_code 0 = .ok (.iload_n 1, 1) := by decide +kernel
theorem d24_1 : decode jdk_33_method_12_code 1 = .ok (.istore 5, 2) := by decide +kernel
theorem d24_3 : decode jdk_33_method_12_code 3 = .ok (.iload_n 0, 1) := by decide +kernel
theorem d24_4 : decode jdk_33_method_12_code 4 = .ok (.ifCond .ge 7, 3) := by decide +kernel
theorem d24_11 : decode jdk_33_method_12_code 11 = .ok (.iconst 0, 1) := by decide +kernel
theorem d24_12 : decode jdk_33_method_12_code 12 = .ok (.istore 6, 2) := by decide +kernel
theorem d24_14 : decode jdk_33_method_12_code 14 = .ok (.iload 6, 2) := by decide +kernel
theorem d24_16 : decode jdk_33_method_12_code 16 = .ok (.ifCond .ne 6, 3) := by decide +kernel
theorem d24_19 : decode jdk_33_method_12_code 19 = .ok (.iload_n 0, 1) := by decide +kernel
theorem d24_20 : decode jdk_33_method_12_code 20 = .ok (.ineg, 1) := by decide +kernel
theorem d24_21 : decode jdk_33_method_12_code 21 = .ok (.istore_n 0, 1) := by decide +kernel
theorem d24_22 : decode jdk_33_method_12_code 22 = .ok (.iload_n 0, 1) := by decide +kernel
theorem d24_23 : decode jdk_33_method_12_code 23 = .ok (.bipush (-100), 2) := by decide +kernel
theorem d24_25 : decode jdk_33_method_12_code 25 = .ok (.if_icmp .gt 47, 3) := by decide +kernel
theorem d24_72 : decode jdk_33_method_12_code 72 = .ok (.aload_n 2, 1) := by decide +kernel
theorem d24_73 : decode jdk_33_method_12_code 73 = .ok (.iinc 5 (-1), 3) := by decide +kernel
theorem d24_76 : decode jdk_33_method_12_code 76 = .ok (.iload 5, 2) := by decide +kernel
theorem d24_78 : decode jdk_33_method_12_code 78 = .ok (.getstatic 83, 3) := by decide +kernel
theorem d24_81 : decode jdk_33_method_12_code 81 = .ok (.iload_n 0, 1) := by decide +kernel
theorem d24_82 : decode jdk_33_method_12_code 82 = .ok (.ineg, 1) := by decide +kernel
theorem d24_83 : decode jdk_33_method_12_code 83 = .ok (.baload, 1) := by decide +kernel
theorem d24_84 : decode jdk_33_method_12_code 84 = .ok (.bastore, 1) := by decide +kernel
theorem d24_85 : decode jdk_33_method_12_code 85 = .ok (.iload_n 0, 1) := by decide +kernel
theorem d24_86 : decode jdk_33_method_12_code 86 = .ok (.bipush (-9), 2) := by decide +kernel
theorem d24_88 : decode jdk_33_method_12_code 88 = .ok (.if_icmp .ge 16, 3) := by decide +kernel
theorem d24_104 : decode jdk_33_method_12_code 104 = .ok (.iload 6, 2) := by decide +kernel
theorem d24_106 : decode jdk_33_method_12_code 106 = .ok (.ifCond .eq 12, 3) := by decide +kernel
theorem d24_118 : decode jdk_33_method_12_code 118 = .ok (.iload 5, 2) := by decide +kernel
theorem d24_120 : decode jdk_33_method_12_code 120 = .ok (.ireturn, 1) := by decide +kernel
def Q_rmGC1 (Z : State) (p0 : Int32) (p2 : Addr) (zc : Int32) (fm : Value) (wO : Addr) (cO : Cell) (wT : Addr) (cT : Cell) (kb : ClassId) (v0 : Value) (v1 : Value) (v2 : Value) (d1 : Int32) (h0 : Heap) (n0 : Nat) (v : Option Value) (h : Heap) (L : List Loc) : Prop := v = some (.int (3 : Int32)) ∧ Fr n0 L ∧ Keep h0 h [p2] ∧ Arv Z h p2 kb .byte (16 : Int32) [v0, v1, v2, (.int d1.toInt8.toInt32), (.int (0 : Int32)), (.int (0 : Int32)), (.int (0 : Int32)), (.int (0 : Int32)), (.int (0 : Int32)), (.int (0 : Int32)), (.int (0 : Int32)), (.int (0 : Int32)), (.int (0 : Int32)), (.int (0 : Int32)), (.int (0 : Int32)), (.int (0 : Int32))] (.int (0 : Int32))
set_option maxRecDepth 65536 in
set_option maxHeartbeats 40000000 in
theorem rmGC1 (l : Launch) (Z : State) (a0 : Array Value) (hw : ∀ d ∈ tables_1, d.before a0 Z = true) (ws : List Jvm.Cond) (p0 : Int32) (p2 : Addr) (zc : Int32) (fm : Value) (wO : Addr) (cO : Cell) (wT : Addr) (cT : Cell) (kb : ClassId) (v0 : Value) (v1 : Value) (v2 : Value) (d1 : Int32) (h0 : Heap) (n0 : Nat) (Z0 : n0 ≤ h0.size) (hSt : own_St Z zc fm) (Ol : own_Old Z n0 h0) (hDT : own_DT Z wO cO wT cT) (Ab : Arv Z h0 p2 kb .byte (16 : Int32) [v0, v1, v2, (.int (0 : Int32)), (.int (0 : Int32)), (.int (0 : Int32)), (.int (0 : Int32)), (.int (0 : Int32)), (.int (0 : Int32)), (.int (0 : Int32)), (.int (0 : Int32)), (.int (0 : Int32)), (.int (0 : Int32)), (.int (0 : Int32)), (.int (0 : Int32)), (.int (0 : Int32))] (.int (0 : Int32))) (gt_ : n0 ≤ p2) (hp0 : 0 ≤ p0.toInt) (hlo : 0 ≤ p0.toInt) (hhi : p0.toInt < 10) (hd1 : d1.toInt = 48 + p0.toInt % 10) :
    MetFree l (⟨"java/lang/Integer", "getChars", "(II[B)I"⟩ : MethodName) (head1 (Jvm.Cond.code (⟨"java/lang/Integer", "getChars", "(II[B)I"⟩ : MethodName) jdk_33_method_12_code 7 (some .int) :: ws) ({ frames := 0, cells := 0, slots := 0, locals := 0 } : Room)) (fun a U => a = #[(.int p0), (.int (4 : Int32)), (.ref p2)] ∧ Z.Warmed39 U.vm ∧ U.heap = h0) (fun _ _ _ _ _ => True) (fun _ U o U' => ∃ v L, o = .returned v ∧ Q_rmGC1 Z p0 p2 zc fm wO cO wT cT kb v0 v1 v2 d1 h0 n0 v U'.heap L ∧ FrameEnd U o U' L ({ frames := 0, cells := 0, slots := 0, locals := 0 } : Room).cells ({ frames := 0, cells := 0, slots := 0, locals := 0 } : Room).slots) := by
  refine MetFree.of_bodySF (plainFor_of_name pn_java_lang_Integer) hisR ?_
  intro p e s m args below meth c s₁ Bd hml0 hP hK
  obtain ⟨rfl, hZ, hh⟩ := hP
  have hx := Bd.exec
  have hby := Bd.bytes
  have hml : c.maxLocals = 7 := hml0
  have hown : s.vm.findClass "java/lang/Integer" = some m.cls := findClass_of_methodNamed Bd.named
  have hnm := (name_of_methodNamed Bd.named Bd.method).1
  have hZo := hZ
  have howno := hown
  have X0 : Stand p l e ({ frames := 0, cells := 0, slots := 0, locals := 0 } : Room) s m #[(.int p0), (.int (4 : Int32)), (.ref p2)] below meth c s₁ [] 0 0 := Stand.of_body Bd
  have e0 : s₁.heap = h0 := by rw [← hh, Bd.state]; rfl
  have N0 := Fr.nil n0
  have pre0 : ∀ t, Steps p.tables e below (s₁.setTop (mkF m 0 #[.val (.int p0), .val (.int (4 : Int32)), .val (.ref p2), .unset, .unset, .unset, .unset] [])) t → Steps p.tables e below (s₁.setTop (entryFrame m #[(.int p0), (.int (4 : Int32)), (.ref p2)] 7)) t := fun t k => castTop (ef_rmGC1 m p0 p2 ) k
  have pre1 : ∀ t, Steps p.tables e below (s₁.setTop (mkF m 22 #[.val (.int (-p0)), .val (.int (4 : Int32)), .val (.ref p2), .unset, .unset, .val (.int (4 : Int32)), .val (.int (0 : Int32))] [])) t → Steps p.tables e below (s₁.setTop (entryFrame m #[(.int p0), (.int (4 : Int32)), (.ref p2)] 7)) t := fun t kt => pre0 t (by
    show Steps p.tables e below (s₁.setTop (mkF m 0 #[.val (.int p0), .val (.int (4 : Int32)), .val (.ref p2), .unset, .unset, .unset, .unset] [])) _
    refine XS.iloadN X0.here hx rfl (hb hby d24_0) rfl  ?_
    refine XS.istore X0.here hx rfl (hb hby d24_1) rfl (l' := #[.val (.int p0), .val (.int (4 : Int32)), .val (.ref p2), .unset, .unset, .val (.int (4 : Int32)), .unset]) rfl ?_
    refine XS.iloadN X0.here hx rfl (hb hby d24_3) rfl  ?_
    show Steps p.tables e below (s₁.setTop (mkF m 4 #[.val (.int p0), .val (.int (4 : Int32)), .val (.ref p2), .unset, .unset, .val (.int (4 : Int32)), .unset] [(.int p0)])) _
    refine XS.ifYes X0.here hx rfl (pc0 := 4) (pc' := 11) rfl (hb hby d24_4) rfl ((if0 _ _).trans (flt (own_nl hp0)).2.1) (by decide) (by decide) ?_
    refine XS.iconst X0.here hx rfl (hb hby d24_11) ?_
    refine XS.istore X0.here hx rfl (hb hby d24_12) rfl (l' := #[.val (.int p0), .val (.int (4 : Int32)), .val (.ref p2), .unset, .unset, .val (.int (4 : Int32)), .val (.int (0 : Int32))]) rfl ?_
    refine XS.iload X0.here hx rfl (hb hby d24_14) rfl  ?_
    show Steps p.tables e below (s₁.setTop (mkF m 16 #[.val (.int p0), .val (.int (4 : Int32)), .val (.ref p2), .unset, .unset, .val (.int (4 : Int32)), .val (.int (0 : Int32))] [(.int (0 : Int32))])) _
    refine XS.ifNo X0.here hx rfl (hb hby d24_16) rfl ((if0 _ _).trans (teq (by decide : (0 : Int32) = (0 : Int32))).2) ?_
    refine XS.iloadN X0.here hx rfl (hb hby d24_19) rfl  ?_
    refine XS.ineg X0.here hx rfl (hb hby d24_20) rfl ?_
    refine XS.istoreN X0.here hx rfl (hb hby d24_21) rfl (l' := #[.val (.int (-p0)), .val (.int (4 : Int32)), .val (.ref p2), .unset, .unset, .val (.int (4 : Int32)), .val (.int (0 : Int32))]) rfl ?_
    exact kt)
  obtain ⟨i0, hi0⟩ : ∃ z, z = (-p0) := ⟨_, rfl⟩
  rw [← hi0] at pre1
  have ei0 : i0.toInt = -p0.toInt := by rw [hi0]; exact own_neg (Int.lt_of_lt_of_le (by decide) hp0)
  obtain ⟨xa0, xb0, xc⟩ := own_r1 hp0 hhi
  obtain ⟨T2, X2, e2, st2⟩ := getS2 X0 hx hZ hown (host := "") (Or.inl (hw _ (own_m 142 rfl))) Via.refl e0 (hDT.1.ext Ol.2) (g := (mkF m 78 #[.val (.int i0), .val (.int (4 : Int32)), .val (.ref p2), .unset, .unset, .val (.int (3 : Int32)), .val (.int (0 : Int32))] [(.int (3 : Int32)), (.ref p2)])) rfl (hb hby d24_78)
  have en : (-i0).toInt = p0.toInt := own_nn ei0 xb0
  have ti3 := own_tin (r := (-i0)) (own_e0 en xa0 xb0).1 (own_e0 en xa0 xb0).2 hDT.2.2.2.2.1.1
  have hat3 : cO.slots[((-i0)).toNatClampNeg]? = some (.int d1) := (hDT.2.2.2.2.1.2 _ ti3.1 ti3.2.1).trans (by rw [own_ones (r := (-i0)) (d := d1) (own_e0 en xa0 xb0).1 (own_e0 en xa0 xb0).2 (own_o2 en hd1)])
  have Aq3 := hDT.2.2.1.ext Ol.2
  obtain ⟨cl4, Ar4, q4, S4, N4, H4, G4⟩ := id Ab
  have hin4 : ¬ ((3 : Int32) < 0 ∨ cl4.slots.size ≤ ((3 : Int32)).toNatClampNeg) := inb_of S4 ⟨by decide, by decide⟩
  obtain ⟨T5, h5, X5, e5, W5, st5⟩ := stB X2 hx hZ e2 Ar4 (j := (3 : Int32)) hin4 (g := (mkF m 84 #[.val (.int i0), .val (.int (4 : Int32)), .val (.ref p2), .unset, .unset, .val (.int (3 : Int32)), .val (.int (0 : Int32))] [(.int d1), (.int (3 : Int32)), (.ref p2)])) rfl rfl (hb hby d24_84)
  have N5 := Fr.snoc X5 N0 gt_
  have K5 := (Keep.refl h0 [p2]).wr W5 (Or.inl (own_m 0 rfl))
  have V5 : Arv Z h5 p2 kb .byte (16 : Int32) [v0, v1, v2, (.int d1.toInt8.toInt32), (.int (0 : Int32)), (.int (0 : Int32)), (.int (0 : Int32)), (.int (0 : Int32)), (.int (0 : Int32)), (.int (0 : Int32)), (.int (0 : Int32)), (.int (0 : Int32)), (.int (0 : Int32)), (.int (0 : Int32)), (.int (0 : Int32)), (.int (0 : Int32))] (.int (0 : Int32)) := Arv.set Ar4 q4 S4 N4 H4 G4 (fits_nar_byte _) W5 3 rfl (Nat.le_of_ble_eq_true rfl)
  obtain ⟨fs, hr, hrun, hended, hW, hsame⟩ := X5.leave (v := some (.int (3 : Int32))) (fun h => by rw [Bd.returns] at h; cases h)
  refine ⟨_, _, pre1 _ ?_, hrun, hended, _, _, rfl, ?_, ⟨_, rfl⟩, hW, hsame.mono (by decide) (by decide)⟩
  · show Steps p.tables e below (s₁.setTop (mkF m 22 #[.val (.int i0), .val (.int (4 : Int32)), .val (.ref p2), .unset, .unset, .val (.int (4 : Int32)), .val (.int (0 : Int32))] [])) _
    refine XS.iloadN X0.here hx rfl (hb hby d24_22) rfl  ?_
    refine XS.bipush X0.here hx rfl (hb hby d24_23) ?_
    show Steps p.tables e below (s₁.setTop (mkF m 25 #[.val (.int i0), .val (.int (4 : Int32)), .val (.ref p2), .unset, .unset, .val (.int (4 : Int32)), .val (.int (0 : Int32))] [(.int (-100 : Int32)), (.int i0)])) _
    refine XS.icmpYes X0.here hx rfl (pc0 := 25) (pc' := 72) rfl (hb hby d24_25) rfl (tlt ((own_b100 ei0).2 xb0)).2.2.1 (by decide) (by decide) ?_
    refine XS.aloadN X0.here hx rfl (hb hby d24_72) rfl rfl ?_
    refine XS.iinc X0.here hx rfl (hb hby d24_73) rfl (l' := #[.val (.int i0), .val (.int (4 : Int32)), .val (.ref p2), .unset, .unset, .val (.int (3 : Int32)), .val (.int (0 : Int32))]) rfl ?_
    refine XS.iload X0.here hx rfl (hb hby d24_76) rfl  ?_
    show Steps p.tables e below (s₁.setTop (mkF m 78 #[.val (.int i0), .val (.int (4 : Int32)), .val (.ref p2), .unset, .unset, .val (.int (3 : Int32)), .val (.int (0 : Int32))] [(.int (3 : Int32)), (.ref p2)])) _
    refine st2 _ ?_
    show Steps p.tables e below (T2.setTop (mkF m 81 #[.val (.int i0), .val (.int (4 : Int32)), .val (.ref p2), .unset, .unset, .val (.int (3 : Int32)), .val (.int (0 : Int32))] [(.ref wO), (.int (3 : Int32)), (.ref p2)])) _
    refine XS.iloadN X2.here hx rfl (hb hby d24_81) rfl  ?_
    refine XS.ineg X2.here hx rfl (hb hby d24_82) rfl ?_
    show Steps p.tables e below (T2.setTop (mkF m 83 #[.val (.int i0), .val (.int (4 : Int32)), .val (.ref p2), .unset, .unset, .val (.int (3 : Int32)), .val (.int (0 : Int32))] [(.int (-i0)), (.ref wO), (.int (3 : Int32)), (.ref p2)])) _
    refine X2.baloadBytes hx (j := (-i0)) (v := .int d1) (by rw [e2]; exact Aq3.1) (State.isArrayOf_alike hZ.alike Aq3.2.1) Aq3.2.2 ti3.2.2 hat3 (g := (mkF m 83 #[.val (.int i0), .val (.int (4 : Int32)), .val (.ref p2), .unset, .unset, .val (.int (3 : Int32)), .val (.int (0 : Int32))] [(.int (-i0)), (.ref wO), (.int (3 : Int32)), (.ref p2)])) rfl rfl (hb hby d24_83) _ ?_
    show Steps p.tables e below (T2.setTop (mkF m 84 #[.val (.int i0), .val (.int (4 : Int32)), .val (.ref p2), .unset, .unset, .val (.int (3 : Int32)), .val (.int (0 : Int32))] [(.int d1), (.int (3 : Int32)), (.ref p2)])) _
    refine st5 _ ?_
    show Steps p.tables e below (T5.setTop (mkF m 85 #[.val (.int i0), .val (.int (4 : Int32)), .val (.ref p2), .unset, .unset, .val (.int (3 : Int32)), .val (.int (0 : Int32))] [])) _
    refine XS.iloadN X5.here hx rfl (hb hby d24_85) rfl  ?_
    refine XS.bipush X5.here hx rfl (hb hby d24_86) ?_
    show Steps p.tables e below (T5.setTop (mkF m 88 #[.val (.int i0), .val (.int (4 : Int32)), .val (.ref p2), .unset, .unset, .val (.int (3 : Int32)), .val (.int (0 : Int32))] [(.int (-9 : Int32)), (.int i0)])) _
    refine XS.icmpYes X5.here hx rfl (pc0 := 88) (pc' := 104) rfl (hb hby d24_88) rfl (flt ((own_b9 ei0).1 xc)).2.1 (by decide) (by decide) ?_
    refine XS.iload X5.here hx rfl (hb hby d24_104) rfl  ?_
    show Steps p.tables e below (T5.setTop (mkF m 106 #[.val (.int i0), .val (.int (4 : Int32)), .val (.ref p2), .unset, .unset, .val (.int (3 : Int32)), .val (.int (0 : Int32))] [(.int (0 : Int32))])) _
    refine XS.ifYes X5.here hx rfl (pc0 := 106) (pc' := 118) rfl (hb hby d24_106) rfl ((if0 _ _).trans (teq (by decide : (0 : Int32) = (0 : Int32))).1) (by decide) (by decide) ?_
    refine XS.iload X5.here hx rfl (hb hby d24_118) rfl  ?_
    show Steps p.tables e below (T5.setTop (mkF m 120 #[.val (.int i0), .val (.int (4 : Int32)), .val (.ref p2), .unset, .unset, .val (.int (3 : Int32)), .val (.int (0 : Int32))] [(.int (3 : Int32))])) _
    exact retI X5 hx Bd.returns (hb hby d24_120) hr
  · show Q_rmGC1 Z p0 p2 zc fm wO cO wT cT kb v0 v1 v2 d1 h0 n0 _ T5.heap _
    rw [e5]
    exact ⟨rfl, N5, K5, V5⟩
theorem ef_rmAppI1 (m : MethodId) (p0 : Addr) (p1 : Int32) : entryFrame m #[(.ref p0), (.int p1)] 4 = mkF m 0 #[.val (.ref p0), .val (.int p1), .unset, .unset] [] := by first | (simp [entryFrame, mkF, argsToLocals, Value.category]; done) | rfl
theorem d21_0 : decode jdk_68_method_32_code 0 = .ok (.aload_n 0, 1) := by decide +kernel
theorem d21_1 : decode jdk_68_method_32_code 1 = .ok (.getfield 79, 3) := by decide +kernel
theorem d21_4 : decode jdk_68_method_32_code 4 = .ok (.istore_n 2, 1) := by decide +kernel
theorem d21_5 : decode jdk_68_method_32_code 5 = .ok (.iload_n 2, 1) := by decide +kernel
theorem d21_6 : decode jdk_68_method_32_code 6 = .ok (.iload_n 1, 1) := by decide +kernel
theorem d21_7 : decode jdk_68_method_32_code 7 = .ok (.invokestatic 245, 3) := by decide +kernel
theorem d21_10 : decode jdk_68_method_32_code 10 = .ok (.iadd, 1) := by decide +kernel
theorem d21_11 : decode jdk_68_method_32_code 11 = .ok (.istore_n 3, 1) := by decide +kernel
theorem d21_12 : decode jdk_68_method_32_code 12 = .ok (.aload_n 0, 1) := by decide +kernel
theorem d21_13 : decode jdk_68_method_32_code 13 = .ok (.iload_n 3, 1) := by decide +kernel
theorem d21_14 : decode jdk_68_method_32_code 14 = .ok (.invokevirtual 100, 3) := by decide +kernel
theorem d21_17 : decode jdk_68_method_32_code 17 = .ok (.aload_n 0, 1) := by decide +kernel
theorem d21_18 : decode jdk_68_method_32_code 18 = .ok (.invokevirtual 83, 3) := by decide +kernel
theorem d21_21 : decode jdk_68_method_32_code 21 = .ok (.ifCond .eq 16, 3) := by decide +kernel
theorem d21_24 : decode jdk_68_method_32_code 24 = .ok (.iload_n 1, 1) := by decide +kernel
theorem d21_25 : decode jdk_68_method_32_code 25 = .ok (.iload_n 3, 1) := by decide +kernel
theorem d21_26 : decode jdk_68_method_32_code 26 = .ok (.aload_n 0, 1) := by decide +kernel
theorem d21_27 : decode jdk_68_method_32_code 27 = .ok (.getfield 15, 3) := by decide +kernel
theorem pd__II_B_I : parseMethodDescriptor "(II[B)I" = some ⟨[.int, .int, (.array .byte)], some .int⟩ := by decide +kernel
theorem d21_30 : decode jdk_68_method_32_code 30 = .ok (.invokestatic 248, 3) := by decide +kernel
theorem d21_33 : decode jdk_68_method_32_code 33 = .ok (.pop, 1) := by decide +kernel
theorem d21_34 : decode jdk_68_method_32_code 34 = .ok (.goto 14, 3) := by decide +kernel
theorem d21_48 : decode jdk_68_method_32_code 48 = .ok (.aload_n 0, 1) := by decide +kernel
theorem d21_49 : decode jdk_68_method_32_code 49 = .ok (.iload_n 3, 1) := by decide +kernel
theorem d21_50 : decode jdk_68_method_32_code 50 = .ok (.putfield 79, 3) := by decide +kernel
theorem d21_53 : decode jdk_68_method_32_code 53 = .ok (.aload_n 0, 1) := by decide +kernel
theorem d21_54 : decode jdk_68_method_32_code 54 = .ok (.areturn, 1) := by decide +kernel
def Q_rmAppI1 (Z : State) (p0 : Addr) (p1 : Int32) (zc : Int32) (fm : Value) (wO : Addr) (cO : Cell) (wT : Addr) (cT : Cell) (t : Addr) (kb : ClassId) (b0 : Int32) (b1 : Int32) (b2 : Int32) (d1 : Int32) (h0 : Heap) (n0 : Nat) (v : Option Value) (h : Heap) (L : List Loc) : Prop := v = some (.ref p0) ∧ Fr n0 L ∧ Keep h0 h [p0, t] ∧ Fld Z h p0 "java/lang/AbstractStringBuilder" "value" "[B" (.ref t) ∧ Fld Z h p0 "java/lang/AbstractStringBuilder" "coder" "B" (.int (0 : Int32)) ∧ Fld Z h p0 "java/lang/AbstractStringBuilder" "count" "I" (.int (Int32.ofNat ([b0, b1, b2, d1]).length)) ∧ Arv Z h t kb .byte (16 : Int32) (own_nrw ([b0, b1, b2, d1])) (.int (0 : Int32))
set_option maxRecDepth 65536 in
set_option maxHeartbeats 40000000 in
theorem rmAppI1 (l : Launch) (Z : State) (a0 : Array Value) (hw : ∀ d ∈ tables_1, d.before a0 Z = true) (ws : List Jvm.Cond) (p0 : Addr) (p1 : Int32) (zc : Int32) (fm : Value) (wO : Addr) (cO : Cell) (wT : Addr) (cT : Cell) (t : Addr) (kb : ClassId) (b0 : Int32) (b1 : Int32) (b2 : Int32) (d1 : Int32) (h0 : Heap) (n0 : Nat) (Z0 : n0 ≤ h0.size) (hSt : own_St Z zc fm) (Ol : own_Old Z n0 h0) (hDT : own_DT Z wO cO wT cT) (Eb : Exa Z h0 p0 "java/lang/StringBuilder") (Fbv : Fld Z h0 p0 "java/lang/AbstractStringBuilder" "value" "[B" (.ref t)) (Fbc : Fld Z h0 p0 "java/lang/AbstractStringBuilder" "coder" "B" (.int (0 : Int32))) (Fbn : Fld Z h0 p0 "java/lang/AbstractStringBuilder" "count" "I" (.int (3 : Int32))) (Ab : Arv Z h0 t kb .byte (16 : Int32) (own_nrw [b0, b1, b2]) (.int (0 : Int32))) (gb_ : n0 ≤ p0) (gt_ : n0 ≤ t) (npt : p0 ≠ t) (hp0 : 0 ≤ p1.toInt) (hlo : 0 ≤ p1.toInt) (hhi : p1.toInt < 10) (hd1 : d1.toInt = 48 + p1.toInt % 10) :
    MetFree l (⟨"java/lang/AbstractStringBuilder", "append", "(I)Ljava/lang/AbstractStringBuilder;"⟩ : MethodName) (head1 (Jvm.Cond.code (⟨"java/lang/AbstractStringBuilder", "append", "(I)Ljava/lang/AbstractStringBuilder;"⟩ : MethodName) jdk_68_method_32_code 4 (some (.object "java/lang/AbstractStringBuilder")) :: ws) ({ frames := 1, cells := 0, slots := 0, locals := 18 } : Room)) (fun a U => a = #[(.ref p0), (.int p1)] ∧ Z.Warmed39 U.vm ∧ U.heap = h0) (fun _ _ _ _ _ => True) (fun _ U o U' => ∃ v L, o = .returned v ∧ Q_rmAppI1 Z p0 p1 zc fm wO cO wT cT t kb b0 b1 b2 d1 h0 n0 v U'.heap L ∧ FrameEnd U o U' L ({ frames := 1, cells := 0, slots := 0, locals := 18 } : Room).cells ({ frames := 1, cells := 0, slots := 0, locals := 18 } : Room).slots) := by
  refine MetFree.of_bodySF (plainFor_of_name pn_java_lang_AbstractStringBuilder) hisR ?_
  intro p e s m args below meth c s₁ Bd hml0 hP hK
  obtain ⟨rfl, hZ, hh⟩ := hP
  have hx := Bd.exec
  have hby := Bd.bytes
  have hml : c.maxLocals = 4 := hml0
  have hown : s.vm.findClass "java/lang/AbstractStringBuilder" = some m.cls := findClass_of_methodNamed Bd.named
  have hnm := (name_of_methodNamed Bd.named Bd.method).1
  have hZo := hZ
  have howno := hown
  have X0 : Stand p l e ({ frames := 1, cells := 0, slots := 0, locals := 18 } : Room) s m #[(.ref p0), (.int p1)] below meth c s₁ [] 0 0 := Stand.of_body Bd
  have e0 : s₁.heap = h0 := by rw [← hh, Bd.state]; rfl
  have N0 := Fr.nil n0
  have pre0 : ∀ t, Steps p.tables e below (s₁.setTop (mkF m 0 #[.val (.ref p0), .val (.int p1), .unset, .unset] [])) t → Steps p.tables e below (s₁.setTop (entryFrame m #[(.ref p0), (.int p1)] 4)) t := fun t k => castTop (ef_rmAppI1 m p0 p1 ) k
  obtain ⟨T1, X1, e1, st1⟩ := getF X0 hx hZ hown (host := "") (Or.inl (hw _ (own_m 91 rfl))) Via.refl e0 Fbn (g := (mkF m 1 #[.val (.ref p0), .val (.int p1), .unset, .unset] [(.ref p0)])) rfl rfl (hb hby d21_1)
  obtain ⟨_, _, ⟨T2, L2, k2, n2⟩, -, X2, ⟨Lc2, hQ2, l2, y2, z2⟩, st2⟩ := Jvm.LawKit.callS X1 hx (y := (⟨"java/lang/Integer", "stringSize", "(I)I"⟩ : MethodName)) hown (mvT hZ (hw _ (own_m 130 rfl))) (mvT hZ (hw _ (own_m 131 rfl))) (mvT hZ (hw _ (own_m 132 rfl))) (mvT hZ (hw _ (own_m 133 rfl))) (by decide) (backOf (W := 1) (rmSS1 l Z a0 hw [] p1 zc fm  h0 n0 Z0 hSt Ol hp0 hlo hhi) hZ (hw _ (own_m 133 rfl)) (hw _ (own_m 132 rfl)) (by decide) (by decide)) (g := (mkF m 7 #[.val (.ref p0), .val (.int p1), .val (.int (3 : Int32)), .unset] [(.int p1), (.int (3 : Int32))])) rfl (by rw [hml]; rfl) (argsL := [(.int p1)]) (rest := [(.int (3 : Int32))]) (lenOf pd__I_I rfl) rfl (by show 2 * 0 + _ ≤ _; exact Nat.le_of_eq rfl) (hb hby d21_7) (fun _ _ => ⟨rfl, e1, (by decide : 0 + 0 ≤ _), (by decide : 0 + 0 ≤ _)⟩)
  dsimp only [Pt.U, Pt.locs, Pt.cells, Pt.slots] at X2 l2 y2 z2 st2 hQ2
  subst l2 y2 z2
  obtain ⟨rfl, Nq2, e2⟩ := hQ2
  have N2 := Fr.app N0 Nq2
  obtain ⟨cq3, kq3, q3a, q3b, q3c⟩ := isOf hZ e2 Eb
  obtain ⟨_, _, ⟨T3, L3, k3, n3⟩, -, X3, ⟨Lc3, hQ3, l3, y3, z3⟩, st3⟩ := X2.virtualBack hx (y := (⟨"java/lang/AbstractStringBuilder", "ensureCapacityInternal", "(I)V"⟩ : MethodName)) (z := (⟨"java/lang/AbstractStringBuilder", "ensureCapacityInternal", "(I)V"⟩ : MethodName)) hown (mvT hZ (hw _ (own_m 93 rfl))) (mvT hZ (own_decl (hw _ (own_m 94 rfl)) (hw _ (own_m 97 rfl)))) (notFace_of_selects (args := #[]) (mvT hZ (hw _ (own_m 96 rfl)))) (mvT hZ (hw _ (own_m 96 rfl))) (mvT hZ (hw _ (own_m 94 rfl))) (by decide) (backOf (W := 0) (rmEns l Z a0 hw [] p0 (4 : Int32) zc fm t kb (own_nrw [b0, b1, b2]) h0 n0 Z0 hSt Ol Fbv Fbc Ab (by decide)) hZ (hw _ (own_m 97 rfl)) (hw _ (own_m 63 rfl)) (by decide) (by decide)) q3a q3c (g := (mkF m 14 #[.val (.ref p0), .val (.int p1), .val (.int (3 : Int32)), .val (.int (4 : Int32))] [(.int (4 : Int32)), (.ref p0)])) rfl (by rw [hml]; rfl) (Steps.refl _) (argsL := [(.int (4 : Int32))]) (rest := []) (lenOf pd__I_V rfl) rfl (by show 2 * 0 + _ ≤ _; exact Nat.le_of_eq rfl) (hb hby d21_14) (fun _ _ => ⟨rfl, e2, (by decide : 0 + 0 ≤ _), (by decide : 0 + 0 ≤ _)⟩)
  dsimp only [Pt.U, Pt.locs, Pt.cells, Pt.slots] at X3 l3 y3 z3 st3 hQ3
  subst l3 y3 z3
  obtain ⟨rfl, Nq3, e3⟩ := hQ3
  have N3 := Fr.app N2 Nq3
  obtain ⟨cq4, kq4, q4a, q4b, q4c⟩ := isOf hZ e3 Eb
  obtain ⟨_, _, ⟨T4, L4, k4, n4⟩, -, X4, ⟨Lc4, hQ4, l4, y4, z4⟩, st4⟩ := X3.virtualBack hx (y := (⟨"java/lang/AbstractStringBuilder", "isLatin1", "()Z"⟩ : MethodName)) (z := (⟨"java/lang/AbstractStringBuilder", "isLatin1", "()Z"⟩ : MethodName)) hown (mvT hZ (hw _ (own_m 134 rfl))) (mvT hZ (hw _ (own_m 135 rfl))) (notFace_of_selects (args := #[]) (mvT hZ (hw _ (own_m 137 rfl)))) (mvT hZ (hw _ (own_m 137 rfl))) (mvT hZ (hw _ (own_m 136 rfl))) (by decide) (backOf (W := 0) (rmBLat l Z a0 hw [] p0 zc fm  h0 n0 Z0 hSt Ol Fbc) hZ (hw _ (own_m 138 rfl)) (hw _ (own_m 63 rfl)) (by decide) (by decide)) q4a q4c (g := (mkF m 18 #[.val (.ref p0), .val (.int p1), .val (.int (3 : Int32)), .val (.int (4 : Int32))] [(.ref p0)])) rfl (by rw [hml]; rfl) (Steps.refl _) (argsL := []) (rest := []) (lenOf pd___Z rfl) rfl (by show 2 * 0 + _ ≤ _; exact Nat.le_of_eq rfl) (hb hby d21_18) (fun _ _ => ⟨rfl, e3, (by decide : 0 + 0 ≤ _), (by decide : 0 + 0 ≤ _)⟩)
  dsimp only [Pt.U, Pt.locs, Pt.cells, Pt.slots] at X4 l4 y4 z4 st4 hQ4
  subst l4 y4 z4
  obtain ⟨rfl, Nq4, e4⟩ := hQ4
  have N4 := Fr.app N3 Nq4
  obtain ⟨T5, X5, e5, st5⟩ := getF X4 hx hZ hown (host := "") (Or.inl (hw _ (own_m 67 rfl))) Via.refl e4 Fbv (g := (mkF m 27 #[.val (.ref p0), .val (.int p1), .val (.int (3 : Int32)), .val (.int (4 : Int32))] [(.ref p0), (.int (4 : Int32)), (.int p1)])) rfl rfl (hb hby d21_27)
  obtain ⟨_, _, ⟨T6, L6, k6, n6⟩, -, X6, ⟨Lc6, hQ6, l6, y6, z6⟩, st6⟩ := Jvm.LawKit.callS X5 hx (y := (⟨"java/lang/Integer", "getChars", "(II[B)I"⟩ : MethodName)) hown (mvT hZ (hw _ (own_m 139 rfl))) (mvT hZ (hw _ (own_m 140 rfl))) (mvT hZ (hw _ (own_m 132 rfl))) (mvT hZ (hw _ (own_m 141 rfl))) (by decide) (backOf (W := 0) (rmGC1 l Z a0 hw [] p1 t zc fm wO cO wT cT kb (.int (own_b b0)) (.int (own_b b1)) (.int (own_b b2)) d1 h0 n0 Z0 hSt Ol hDT (Ab.pad (pad_rep (own_nrw [b0, b1, b2]) (.int (0 : Int32)) 13)) gt_ hp0 hlo hhi hd1) hZ (hw _ (own_m 141 rfl)) (hw _ (own_m 132 rfl)) (by decide) (by decide)) (g := (mkF m 30 #[.val (.ref p0), .val (.int p1), .val (.int (3 : Int32)), .val (.int (4 : Int32))] [(.ref t), (.int (4 : Int32)), (.int p1)])) rfl (by rw [hml]; rfl) (argsL := [(.int p1), (.int (4 : Int32)), (.ref t)]) (rest := []) (lenOf pd__II_B_I rfl) rfl (by show 2 * 0 + _ ≤ _; exact Nat.le_of_eq rfl) (hb hby d21_30) (fun _ _ => ⟨rfl, e5, (by decide : 0 + 0 ≤ _), (by decide : 0 + 0 ≤ _)⟩)
  dsimp only [Pt.U, Pt.locs, Pt.cells, Pt.slots] at X6 l6 y6 z6 st6 hQ6
  subst l6 y6 z6
  obtain ⟨rfl, Nq6, K6, at_⟩ := hQ6
  have N6 := Fr.app N4 Nq6
  have KK6 := (Keep.refl h0 [p0, t]).trans K6 (allS (Or.inl (own_m 1 rfl)) all0)
  rw [own_bdd hd1] at at_
  have au_ : Arv Z T6.heap t kb .byte (16 : Int32) (own_nrw [b0, b1, b2, d1]) (.int (0 : Int32)) := at_.pad (fun i => (pad_rep (own_nrw [b0, b1, b2, d1]) _ 12 i).symm)
  have f7 := (Eb.keep K6)
  have f8 := (Fbn.keep K6 (ninS npt nin0))
  obtain ⟨T9, h9, X9, e9, W9, st9⟩ := putF X6 hx hZ hown (host := "") (Or.inl (hw _ (own_m 91 rfl))) Via.refl rfl f8 f7 (Or.inl (hw _ (own_m 92 rfl))) (hw _ (own_m 54 rfl)) (ty := .int) (by decide) rfl rfl (g := (mkF m 50 #[.val (.ref p0), .val (.int p1), .val (.int (3 : Int32)), .val (.int (4 : Int32))] [(.int (4 : Int32)), (.ref p0)])) rfl rfl (hb hby d21_50)
  have Fw9 := f8.same W9
  have N9 := Fr.snoc X9 N6 gb_
  have K9 := KK6.wr W9 (Or.inl (own_m 0 rfl))
  have f10 := ((Fbv.keep K6 (ninS npt nin0)).other W9 (Or.inr (slot_ne (Or.inl (hw _ (own_m 68 rfl))) (Or.inl (hw _ (own_m 92 rfl))) (by decide) (t := (.array .byte)) (t' := .int) (by decide) (by decide))))
  have f11 := ((Fbc.keep K6 (ninS npt nin0)).other W9 (Or.inr (slot_ne (Or.inl (hw _ (own_m 70 rfl))) (Or.inl (hw _ (own_m 92 rfl))) (by decide) (t := .byte) (t' := .int) (by decide) (by decide))))
  have f12 := (au_.other W9 (Ne.symm npt))
  obtain ⟨fs, hr, hrun, hended, hW, hsame⟩ := X9.leave (v := some (.ref p0)) (fun h => by rw [Bd.returns] at h; cases h)
  refine ⟨_, _, pre0 _ ?_, hrun, hended, _, _, rfl, ?_, ⟨_, rfl⟩, hW, hsame.mono (by decide) (by decide)⟩
  · show Steps p.tables e below (s₁.setTop (mkF m 0 #[.val (.ref p0), .val (.int p1), .unset, .unset] [])) _
    refine XS.aloadN X0.here hx rfl (hb hby d21_0) rfl rfl ?_
    show Steps p.tables e below (s₁.setTop (mkF m 1 #[.val (.ref p0), .val (.int p1), .unset, .unset] [(.ref p0)])) _
    refine st1 _ ?_
    show Steps p.tables e below (T1.setTop (mkF m 4 #[.val (.ref p0), .val (.int p1), .unset, .unset] [(.int (3 : Int32))])) _
    refine XS.istoreN X1.here hx rfl (hb hby d21_4) rfl (l' := #[.val (.ref p0), .val (.int p1), .val (.int (3 : Int32)), .unset]) rfl ?_
    refine XS.iloadN X1.here hx rfl (hb hby d21_5) rfl  ?_
    refine XS.iloadN X1.here hx rfl (hb hby d21_6) rfl  ?_
    show Steps p.tables e below (T1.setTop (mkF m 7 #[.val (.ref p0), .val (.int p1), .val (.int (3 : Int32)), .unset] [(.int p1), (.int (3 : Int32))])) _
    refine st2 _ ?_
    show Steps p.tables e below (T2.setTop (mkF m 10 #[.val (.ref p0), .val (.int p1), .val (.int (3 : Int32)), .unset] [(.int (1 : Int32)), (.int (3 : Int32))])) _
    refine XS.iadd X2.here hx rfl (hb hby d21_10) rfl ?_
    refine XS.istoreN X2.here hx rfl (hb hby d21_11) rfl (l' := #[.val (.ref p0), .val (.int p1), .val (.int (3 : Int32)), .val (.int (4 : Int32))]) rfl ?_
    refine XS.aloadN X2.here hx rfl (hb hby d21_12) rfl rfl ?_
    refine XS.iloadN X2.here hx rfl (hb hby d21_13) rfl  ?_
    show Steps p.tables e below (T2.setTop (mkF m 14 #[.val (.ref p0), .val (.int p1), .val (.int (3 : Int32)), .val (.int (4 : Int32))] [(.int (4 : Int32)), (.ref p0)])) _
    refine st3.trans ?_
    show Steps p.tables e below (T3.setTop (mkF m 17 #[.val (.ref p0), .val (.int p1), .val (.int (3 : Int32)), .val (.int (4 : Int32))] [])) _
    refine XS.aloadN X3.here hx rfl (hb hby d21_17) rfl rfl ?_
    show Steps p.tables e below (T3.setTop (mkF m 18 #[.val (.ref p0), .val (.int p1), .val (.int (3 : Int32)), .val (.int (4 : Int32))] [(.ref p0)])) _
    refine st4.trans ?_
    show Steps p.tables e below (T4.setTop (mkF m 21 #[.val (.ref p0), .val (.int p1), .val (.int (3 : Int32)), .val (.int (4 : Int32))] [(.int (1 : Int32))])) _
    refine XS.ifNo X4.here hx rfl (hb hby d21_21) rfl ((if0 _ _).trans (feq (by decide : ¬ ((1 : Int32) = (0 : Int32)))).1) ?_
    refine XS.iloadN X4.here hx rfl (hb hby d21_24) rfl  ?_
    refine XS.iloadN X4.here hx rfl (hb hby d21_25) rfl  ?_
    refine XS.aloadN X4.here hx rfl (hb hby d21_26) rfl rfl ?_
    show Steps p.tables e below (T4.setTop (mkF m 27 #[.val (.ref p0), .val (.int p1), .val (.int (3 : Int32)), .val (.int (4 : Int32))] [(.ref p0), (.int (4 : Int32)), (.int p1)])) _
    refine st5 _ ?_
    show Steps p.tables e below (T5.setTop (mkF m 30 #[.val (.ref p0), .val (.int p1), .val (.int (3 : Int32)), .val (.int (4 : Int32))] [(.ref t), (.int (4 : Int32)), (.int p1)])) _
    refine st6 _ ?_
    show Steps p.tables e below (T6.setTop (mkF m 33 #[.val (.ref p0), .val (.int p1), .val (.int (3 : Int32)), .val (.int (4 : Int32))] [(.int (3 : Int32))])) _
    refine XS.pop X6.here hx rfl (hb hby d21_33) rfl rfl ?_
    refine XS.goto X6.here hx rfl (pc0 := 34) (pc' := 48) rfl (hb hby d21_34) (by decide) (by decide) ?_
    refine XS.aloadN X6.here hx rfl (hb hby d21_48) rfl rfl ?_
    refine XS.iloadN X6.here hx rfl (hb hby d21_49) rfl  ?_
    show Steps p.tables e below (T6.setTop (mkF m 50 #[.val (.ref p0), .val (.int p1), .val (.int (3 : Int32)), .val (.int (4 : Int32))] [(.int (4 : Int32)), (.ref p0)])) _
    refine st9 _ ?_
    show Steps p.tables e below (T9.setTop (mkF m 53 #[.val (.ref p0), .val (.int p1), .val (.int (3 : Int32)), .val (.int (4 : Int32))] [])) _
    refine XS.aloadN X9.here hx rfl (hb hby d21_53) rfl rfl ?_
    show Steps p.tables e below (T9.setTop (mkF m 54 #[.val (.ref p0), .val (.int p1), .val (.int (3 : Int32)), .val (.int (4 : Int32))] [(.ref p0)])) _
    jvm_step X9.here [X9.here.top, hx, (hb hby d21_54), X9.method', Bd.returns, Value.isRef, FieldType.isReference]
    first | (intro acts; rw [hr _ acts rfl rfl rfl]) | rw [hr _ _ rfl rfl rfl]
    exact Steps.refl _
  · show Q_rmAppI1 Z p0 p1 zc fm wO cO wT cT t kb b0 b1 b2 d1 h0 n0 _ T9.heap _
    rw [e9]
    exact ⟨rfl, N9, K9, f10, f11, Fw9, f12⟩
theorem ef_rmSAppI1 (m : MethodId) (p0 : Addr) (p1 : Int32) : entryFrame m #[(.ref p0), (.int p1)] 2 = mkF m 0 #[.val (.ref p0), .val (.int p1)] [] := by first | (simp [entryFrame, mkF, argsToLocals, Value.category]; done) | rfl
theorem d20_0 : decode jdk_67_method_15_code 0 = .ok (.aload_n 0, 1) := by decide +kernel
theorem d20_1 : decode jdk_67_method_15_code 1 = .ok (.iload_n 1, 1) := by decide +kernel
theorem pd__I_Ljava_lang_AbstractStringBuilder_ : parseMethodDescriptor "(I)Ljava/lang/AbstractStringBuilder;" = some ⟨[.int], some (.object "java/lang/AbstractStringBuilder")⟩ := by decide +kernel
theorem d20_2 : decode jdk_67_method_15_code 2 = .ok (.invokespecial 53, 3) := by decide +kernel
theorem d20_5 : decode jdk_67_method_15_code 5 = .ok (.pop, 1) := by decide +kernel
theorem d20_6 : decode jdk_67_method_15_code 6 = .ok (.aload_n 0, 1) := by decide +kernel
theorem d20_7 : decode jdk_67_method_15_code 7 = .ok (.areturn, 1) := by decide +kernel
def Q_rmSAppI1 (Z : State) (p0 : Addr) (p1 : Int32) (zc : Int32) (fm : Value) (wO : Addr) (cO : Cell) (wT : Addr) (cT : Cell) (t : Addr) (kb : ClassId) (b0 : Int32) (b1 : Int32) (b2 : Int32) (d1 : Int32) (h0 : Heap) (n0 : Nat) (v : Option Value) (h : Heap) (L : List Loc) : Prop := v = some (.ref p0) ∧ Fr n0 L ∧ Keep h0 h [p0, t] ∧ Fld Z h p0 "java/lang/AbstractStringBuilder" "value" "[B" (.ref t) ∧ Fld Z h p0 "java/lang/AbstractStringBuilder" "coder" "B" (.int (0 : Int32)) ∧ Fld Z h p0 "java/lang/AbstractStringBuilder" "count" "I" (.int (Int32.ofNat ([b0, b1, b2, d1]).length)) ∧ Arv Z h t kb .byte (16 : Int32) (own_nrw ([b0, b1, b2, d1])) (.int (0 : Int32))
set_option maxRecDepth 65536 in
set_option maxHeartbeats 40000000 in
theorem rmSAppI1 (l : Launch) (Z : State) (a0 : Array Value) (hw : ∀ d ∈ tables_1, d.before a0 Z = true) (ws : List Jvm.Cond) (p0 : Addr) (p1 : Int32) (zc : Int32) (fm : Value) (wO : Addr) (cO : Cell) (wT : Addr) (cT : Cell) (t : Addr) (kb : ClassId) (b0 : Int32) (b1 : Int32) (b2 : Int32) (d1 : Int32) (h0 : Heap) (n0 : Nat) (Z0 : n0 ≤ h0.size) (hSt : own_St Z zc fm) (Ol : own_Old Z n0 h0) (hDT : own_DT Z wO cO wT cT) (Eb : Exa Z h0 p0 "java/lang/StringBuilder") (Fbv : Fld Z h0 p0 "java/lang/AbstractStringBuilder" "value" "[B" (.ref t)) (Fbc : Fld Z h0 p0 "java/lang/AbstractStringBuilder" "coder" "B" (.int (0 : Int32))) (Fbn : Fld Z h0 p0 "java/lang/AbstractStringBuilder" "count" "I" (.int (3 : Int32))) (Ab : Arv Z h0 t kb .byte (16 : Int32) (own_nrw [b0, b1, b2]) (.int (0 : Int32))) (gb_ : n0 ≤ p0) (gt_ : n0 ≤ t) (npt : p0 ≠ t) (hp0 : 0 ≤ p1.toInt) (hlo : 0 ≤ p1.toInt) (hhi : p1.toInt < 10) (hd1 : d1.toInt = 48 + p1.toInt % 10) :
    MetFree l (⟨"java/lang/StringBuilder", "append", "(I)Ljava/lang/StringBuilder;"⟩ : MethodName) (head1 (Jvm.Cond.code (⟨"java/lang/StringBuilder", "append", "(I)Ljava/lang/StringBuilder;"⟩ : MethodName) jdk_67_method_15_code 2 (some (.object "java/lang/StringBuilder")) :: ws) ({ frames := 2, cells := 0, slots := 0, locals := 33 } : Room)) (fun a U => a = #[(.ref p0), (.int p1)] ∧ Z.Warmed39 U.vm ∧ U.heap = h0) (fun _ _ _ _ _ => True) (fun _ U o U' => ∃ v L, o = .returned v ∧ Q_rmSAppI1 Z p0 p1 zc fm wO cO wT cT t kb b0 b1 b2 d1 h0 n0 v U'.heap L ∧ FrameEnd U o U' L ({ frames := 2, cells := 0, slots := 0, locals := 33 } : Room).cells ({ frames := 2, cells := 0, slots := 0, locals := 33 } : Room).slots) := by
  refine MetFree.of_bodySF (plainFor_of_name pn_java_lang_StringBuilder) hisR ?_
  intro p e s m args below meth c s₁ Bd hml0 hP hK
  obtain ⟨rfl, hZ, hh⟩ := hP
  have hx := Bd.exec
  have hby := Bd.bytes
  have hml : c.maxLocals = 2 := hml0
  have hown : s.vm.findClass "java/lang/StringBuilder" = some m.cls := findClass_of_methodNamed Bd.named
  have hnm := (name_of_methodNamed Bd.named Bd.method).1
  have hZo := hZ
  have howno := hown
  have X0 : Stand p l e ({ frames := 2, cells := 0, slots := 0, locals := 33 } : Room) s m #[(.ref p0), (.int p1)] below meth c s₁ [] 0 0 := Stand.of_body Bd
  have e0 : s₁.heap = h0 := by rw [← hh, Bd.state]; rfl
  have N0 := Fr.nil n0
  have pre0 : ∀ t, Steps p.tables e below (s₁.setTop (mkF m 0 #[.val (.ref p0), .val (.int p1)] [])) t → Steps p.tables e below (s₁.setTop (entryFrame m #[(.ref p0), (.int p1)] 2)) t := fun t k => castTop (ef_rmSAppI1 m p0 p1 ) k
  obtain ⟨_, _, ⟨T1, L1, k1, n1⟩, -, X1, ⟨Lc1, hQ1, l1, y1, z1⟩, st1⟩ := superBack X0 hx hZ (y := (⟨"java/lang/AbstractStringBuilder", "append", "(I)Ljava/lang/AbstractStringBuilder;"⟩ : MethodName)) hown (hw _ (own_m 126 rfl)) (own_same (y := (⟨"java/lang/AbstractStringBuilder", "append", "(I)Ljava/lang/AbstractStringBuilder;"⟩ : MethodName)) (hw _ (own_m 128 rfl)) (by decide) (hw _ (own_m 96 rfl)) rfl) (hw _ (own_m 127 rfl)) (hw _ (own_m 78 rfl)) (by decide) (backOf (W := 0) (rmAppI1 l Z a0 hw [] p0 p1 zc fm wO cO wT cT t kb b0 b1 b2 d1 h0 n0 Z0 hSt Ol hDT Eb Fbv Fbc Fbn Ab gb_ gt_ npt hp0 hlo hhi hd1) hZ (hw _ (own_m 129 rfl)) (hw _ (own_m 63 rfl)) (by decide) (by decide)) e0 (Ins.self Eb) (g := (mkF m 2 #[.val (.ref p0), .val (.int p1)] [(.int p1), (.ref p0)])) rfl (by rw [hml]; rfl) (hw _ (own_m 129 rfl)) (argsL := [(.int p1)]) (rest := []) (lenOf pd__I_Ljava_lang_AbstractStringBuilder_ rfl) rfl (by show 2 * 0 + _ ≤ _; exact Nat.le_of_eq rfl) (hb hby d20_2) (fun _ _ => ⟨rfl, e0, (by decide : 0 + 0 ≤ _), (by decide : 0 + 0 ≤ _)⟩)
  dsimp only [Pt.U, Pt.locs, Pt.cells, Pt.slots] at X1 l1 y1 z1 st1 hQ1
  subst l1 y1 z1
  obtain ⟨rfl, Nq1, K1, fv_, fc_, fn_, at_⟩ := hQ1
  have N1 := Fr.app N0 Nq1
  have KK1 := (Keep.refl h0 [p0, t]).trans K1 (allS (Or.inl (own_m 0 rfl)) (allS (Or.inl (own_m 1 rfl)) all0))
  obtain ⟨fs, hr, hrun, hended, hW, hsame⟩ := X1.leave (v := some (.ref p0)) (fun h => by rw [Bd.returns] at h; cases h)
  refine ⟨_, _, pre0 _ ?_, hrun, hended, _, _, rfl, ?_, ⟨_, rfl⟩, hW, hsame.mono (by decide) (by decide)⟩
  · show Steps p.tables e below (s₁.setTop (mkF m 0 #[.val (.ref p0), .val (.int p1)] [])) _
    refine XS.aloadN X0.here hx rfl (hb hby d20_0) rfl rfl ?_
    refine XS.iloadN X0.here hx rfl (hb hby d20_1) rfl  ?_
    show Steps p.tables e below (s₁.setTop (mkF m 2 #[.val (.ref p0), .val (.int p1)] [(.int p1), (.ref p0)])) _
    refine st1.trans ?_
    show Steps p.tables e below (T1.setTop (mkF m 5 #[.val (.ref p0), .val (.int p1)] [(.ref p0)])) _
    refine XS.pop X1.here hx rfl (hb hby d20_5) rfl rfl ?_
    refine XS.aloadN X1.here hx rfl (hb hby d20_6) rfl rfl ?_
    show Steps p.tables e below (T1.setTop (mkF m 7 #[.val (.ref p0), .val (.int p1)] [(.ref p0)])) _
    jvm_step X1.here [X1.here.top, hx, (hb hby d20_7), X1.method', Bd.returns, Value.isRef, FieldType.isReference]
    first | (intro acts; rw [hr _ acts rfl rfl rfl]) | rw [hr _ _ rfl rfl rfl]
    exact Steps.refl _
  · show Q_rmSAppI1 Z p0 p1 zc fm wO cO wT cT t kb b0 b1 b2 d1 h0 n0 _ T1.heap _
    exact ⟨rfl, N1, KK1, fv_, fc_, fn_, at_⟩
theorem ef_rmTS1 (m : MethodId) (p0 : Addr) : entryFrame m #[(.ref p0)] 1 = mkF m 0 #[.val (.ref p0)] [] := by first | (simp [entryFrame, mkF, argsToLocals, Value.category]; done) | rfl
theorem d9_15 : decode prog_6_method_6_code 15 = .ok (.new 89, 3) := by decide +kernel
theorem d9_18 : decode prog_6_method_6_code 18 = .ok (.dup, 1) := by decide +kernel
theorem d9_19 : decode prog_6_method_6_code 19 = .ok (.invokespecial 91, 3) := by decide +kernel
theorem d9_22 : decode prog_6_method_6_code 22 = .ok (.aload_n 0, 1) := by decide +kernel
theorem d9_23 : decode prog_6_method_6_code 23 = .ok (.getfield 7, 3) := by decide +kernel
theorem pd__Ljava_lang_String__Ljava_lang_StringBuilder_ : parseMethodDescriptor "(Ljava/lang/String;)Ljava/lang/StringBuilder;" = some ⟨[(.object "java/lang/String")], some (.object "java/lang/StringBuilder")⟩ := by decide +kernel
theorem d9_26 : decode prog_6_method_6_code 26 = .ok (.invokevirtual 94, 3) := by decide +kernel
theorem d9_29 : decode prog_6_method_6_code 29 = .ok (.ldc 140, 2) := by decide +kernel
theorem d9_31 : decode prog_6_method_6_code 31 = .ok (.invokevirtual 94, 3) := by decide +kernel
theorem d9_34 : decode prog_6_method_6_code 34 = .ok (.aload_n 0, 1) := by decide +kernel
theorem d9_35 : decode prog_6_method_6_code 35 = .ok (.getfield 13, 3) := by decide +kernel
theorem pd__I_Ljava_lang_StringBuilder_ : parseMethodDescriptor "(I)Ljava/lang/StringBuilder;" = some ⟨[.int], some (.object "java/lang/StringBuilder")⟩ := by decide +kernel
theorem d9_38 : decode prog_6_method_6_code 38 = .ok (.invokevirtual 142, 3) := by decide +kernel
theorem pd___Ljava_lang_String_ : parseMethodDescriptor "()Ljava/lang/String;" = some ⟨[], some (.object "java/lang/String")⟩ := by decide +kernel
theorem d9_41 : decode prog_6_method_6_code 41 = .ok (.invokevirtual 100, 3) := by decide +kernel
def Q_rmTS1 (Z : State) (p0 : Addr) (zc : Int32) (fm : Value) (wO : Addr) (cO : Cell) (wT : Addr) (cT : Cell) (x : Addr) (ts : Addr) (ks : ClassId) (c0 : Int32) (c1 : Int32) (pt : Int32) (d1 : Int32) (h0 : Heap) (n0 : Nat) (v : Option Value) (h : Heap) (L : List Loc) : Prop := (∃ (r ts : Addr) (ks : ClassId), v = some (.ref r) ∧ Exa Z h r "java/lang/String" ∧ Fld Z h r "java/lang/String" "value" "[B" (.ref ts) ∧ Fld Z h r "java/lang/String" "coder" "B" (.int (0 : Int32)) ∧ Arv Z h ts ks .byte (Int32.ofNat [c0, c1, 58, d1].length) (own_nrw [c0, c1, 58, d1]) (.int (0 : Int32))) ∧ Fr n0 L ∧ Keep h0 h []
set_option maxRecDepth 65536 in
set_option maxHeartbeats 40000000 in
theorem rmTS1 (l : Launch) (Z : State) (a0 : Array Value) (hw : ∀ d ∈ tables_1, d.before a0 Z = true) (ws : List Jvm.Cond) (p0 : Addr) (zc : Int32) (fm : Value) (wO : Addr) (cO : Cell) (wT : Addr) (cT : Cell) (x : Addr) (ts : Addr) (ks : ClassId) (c0 : Int32) (c1 : Int32) (pt : Int32) (d1 : Int32) (h0 : Heap) (n0 : Nat) (Z0 : n0 ≤ h0.size) (hSt : own_St Z zc fm) (Ol : own_Old Z n0 h0) (hDT : own_DT Z wO cO wT cT) (Fh : Fld Z h0 p0 "com/example/kikao/kikao/Domain" "host" "Ljava/lang/String;" (.ref x)) (Fp : Fld Z h0 p0 "com/example/kikao/kikao/Domain" "port" "I" (.int pt)) (Es : Exa Z h0 x "java/lang/String") (Fsv : Fld Z h0 x "java/lang/String" "value" "[B" (.ref ts)) (Fsc : Fld Z h0 x "java/lang/String" "coder" "B" (.int (0 : Int32))) (As : Arv Z h0 ts ks .byte (Int32.ofNat [c0, c1].length) (own_nrw [c0, c1]) (.int (0 : Int32))) (hle : ∀ c ∈ [c0, c1], ¬ (255 : Int32) < c) (hch : own_Chs [c0, c1]) (hp0 : 0 ≤ pt.toInt) (hlo : 0 ≤ pt.toInt) (hhi : pt.toInt < 10) (hd1 : d1.toInt = 48 + pt.toInt % 10) (hn0 : n0 = h0.size) (hheld : Jvm.Lit.constHeld Z "com/example/kikao/kikao/Domain" 140) (hcw : Jvm.Lit.compactW.before a0 Z = true) :
    MetFree l (⟨"com/example/kikao/kikao/Domain", "toString", "()Ljava/lang/String;"⟩ : MethodName) (head1 (Jvm.Cond.code (⟨"com/example/kikao/kikao/Domain", "toString", "()Ljava/lang/String;"⟩ : MethodName) prog_6_method_6_code 1 (some (.object "java/lang/String")) :: ws) ({ frames := 6, cells := 6, slots := 48, locals := 91 } : Room)) (fun a U => a = #[(.ref p0)] ∧ Z.Warmed39 U.vm ∧ U.heap = h0 ∧ U.vm.interned = Z.vm.interned) (fun _ _ _ _ _ => True) (fun _ U o U' => ∃ v L, o = .returned v ∧ Q_rmTS1 Z p0 zc fm wO cO wT cT x ts ks c0 c1 pt d1 h0 n0 v U'.heap L ∧ ReturnedEndW U o U' L ({ frames := 6, cells := 6, slots := 48, locals := 91 } : Room).cells ({ frames := 6, cells := 6, slots := 48, locals := 91 } : Room).slots) := by
  refine MetFree.of_bodySF (plainFor_of_name pn_com_example_kikao_kikao_Domain) hisR ?_
  intro p e s m args below meth c s₁ Bd hml0 hP hK
  obtain ⟨rfl, hZ, hh, hI⟩ := hP
  have hx := Bd.exec
  have hby := Bd.bytes
  have hml : c.maxLocals = 1 := hml0
  have hown : s.vm.findClass "com/example/kikao/kikao/Domain" = some m.cls := findClass_of_methodNamed Bd.named
  have hnm := (name_of_methodNamed Bd.named Bd.method).1
  have hZo := hZ
  have howno := hown
  have X0 : Stand p l e ({ frames := 6, cells := 6, slots := 48, locals := 91 } : Room) s m #[(.ref p0)] below meth c s₁ [] 0 0 := Stand.of_body Bd
  have e0 : s₁.heap = h0 := by rw [← hh, Bd.state]; rfl
  have N0 := Fr.nil n0
  have pre0 : ∀ t, Steps p.tables e below (s₁.setTop (mkF m 0 #[.val (.ref p0)] [])) t → Steps p.tables e below (s₁.setTop (entryFrame m #[(.ref p0)] 1)) t := fun t k => castTop (ef_rmTS1 m p0 ) k
  obtain ⟨T1, X1, e1, st1⟩ := getF X0 hx hZ hown (host := "") (Or.inl (hw _ (own_m 46 rfl))) Via.refl e0 Fp (g := (mkF m 1 #[.val (.ref p0)] [(.ref p0)])) rfl rfl (hb hby d9_1)
  obtain ⟨T2, h2, X2, e2, E2, A2, D2, -, st2⟩ := newO X1 hx hZ hown (hw _ (own_m 53 rfl)) (hw _ (own_m 54 rfl)) (hw _ (own_m 55 rfl)) e1 (g := (mkF m 15 #[.val (.ref p0)] [])) rfl (hb hby d9_15) (by decide) (by decide)
  obtain ⟨b2, g2⟩ : ∃ z, z = h0.size := ⟨_, rfl⟩
  rw [← g2] at A2 D2 st2
  have ne2_p0 : p0 ≠ b2 := Nat.ne_of_lt (Nat.lt_of_lt_of_le Fh.lt (Nat.le_of_eq g2.symm))
  have ne2_x : x ≠ b2 := Nat.ne_of_lt (Nat.lt_of_lt_of_le Es.lt (Nat.le_of_eq g2.symm))
  have ne2_ts : ts ≠ b2 := Nat.ne_of_lt (Nat.lt_of_lt_of_le As.lt (Nat.le_of_eq g2.symm))
  have ge2 : n0 ≤ b2 := Nat.le_trans Z0 (Nat.le_of_eq g2.symm)
  have sz2 : h0.size ≤ b2 := Nat.le_trans (Keep.refl h0 []).1 (Nat.le_of_eq g2.symm)
  have K2 := (Keep.refl h0 []).ext E2
  have F2_value : Fld Z h2 b2 "java/lang/AbstractStringBuilder" "value" "[B" .null := D2 (Or.inl (hw _ (own_m 68 rfl))) (ty := (.array .byte)) (by decide)
  have F2_coder : Fld Z h2 b2 "java/lang/AbstractStringBuilder" "coder" "B" (.int (0 : Int32)) := D2 (Or.inl (hw _ (own_m 70 rfl))) (ty := .byte) (by decide)
  have F2_count : Fld Z h2 b2 "java/lang/AbstractStringBuilder" "count" "I" (.int (0 : Int32)) := D2 (Or.inl (hw _ (own_m 92 rfl))) (ty := .int) (by decide)
  have f3 := (Fp.ext E2)
  have f4 := (Nat.le_trans Z0 E2.1)
  have f5 := (Ol.ext E2)
  obtain ⟨_, _, ⟨T6, L6, k6, n6⟩, -, X6, ⟨Lc6, hQ6, l6, y6, z6⟩, st6⟩ := X2.specialBack hx (y := (⟨"java/lang/StringBuilder", "<init>", "()V"⟩ : MethodName)) rfl hown (mvT hZ (hw _ (own_m 56 rfl))) (mvT hZ (hw _ (own_m 57 rfl))) (mvT hZ (hw _ (own_m 58 rfl))) (by decide) (backOf (W := 1) (rmSB0 l Z a0 hw [] b2 zc fm  h2 n0 f4 hSt f5 A2 F2_value F2_coder F2_count ge2) hZ (hw _ (own_m 58 rfl)) (hw _ (own_m 55 rfl)) (by decide) (by decide)) (g := (mkF m 19 #[.val (.ref p0)] [(.ref b2), (.ref b2)])) rfl (by rw [hml]; rfl) (Steps.refl _) (a := b2) (argsL := []) (rest := [(.ref b2)]) (lenOf pd___V rfl) rfl (by show 2 * 0 + _ ≤ _; exact Nat.le_of_eq rfl) (hb hby d9_19) (fun _ _ => ⟨rfl, e2, (by decide : 1 + 1 ≤ _), (by decide : 4 + 16 ≤ _)⟩)
  dsimp only [Pt.U, Pt.locs, Pt.cells, Pt.slots] at X6 l6 y6 z6 st6 hQ6
  subst l6 y6 z6
  obtain ⟨rfl, Nq6, K6, t_, k_, gt_, zt_, fv_, fc_, fn_, at_⟩ := hQ6
  have N6 := Fr.app N0 Nq6
  have KK6 := K2.trans K6 (allS (Or.inr sz2) all0)
  have nd_ : p0 ≠ t_ := Nat.ne_of_lt (Nat.lt_of_lt_of_le f3.lt zt_)
  have nb_ : b2 ≠ t_ := Nat.ne_of_lt (Nat.lt_of_lt_of_le A2.lt zt_)
  have zz_ : h0.size ≤ t_ := Nat.le_trans K2.1 zt_
  have f7 := ((Fh.ext E2).keep K6 (ninS ne2_p0 nin0))
  obtain ⟨T8, X8, e8, st8⟩ := getF X6 hx hZ hown (host := "") (Or.inl (hw _ (own_m 44 rfl))) Via.refl rfl f7 (g := (mkF m 23 #[.val (.ref p0)] [(.ref p0), (.ref b2)])) rfl rfl (hb hby d9_23)
  have f9 := ((Es.ext E2).keep K6)
  have f10 := ((Fsv.ext E2).keep K6 (ninS ne2_x nin0))
  have f11 := ((Fsc.ext E2).keep K6 (ninS ne2_x nin0))
  have f12 := ((As.ext E2).keep K6 (ninS ne2_ts nin0))
  have f13 := (A2.keep K6)
  have f14 := (Nat.le_trans f4 K6.1)
  have f15 := (f5.keep K6 (allS ge2 all0))
  obtain ⟨cq16, kq16, q16a, q16b, q16c⟩ := isOf hZ e8 f13
  obtain ⟨_, _, ⟨T16, L16, k16, n16⟩, -, X16, ⟨Lc16, hQ16, l16, y16, z16⟩, st16⟩ := X8.virtualBack hx (y := (⟨"java/lang/StringBuilder", "append", "(Ljava/lang/String;)Ljava/lang/StringBuilder;"⟩ : MethodName)) (z := (⟨"java/lang/StringBuilder", "append", "(Ljava/lang/String;)Ljava/lang/StringBuilder;"⟩ : MethodName)) hown (mvT hZ (hw _ (own_m 71 rfl))) (mvT hZ (hw _ (own_m 72 rfl))) (notFace_of_selects (args := #[]) (mvT hZ (hw _ (own_m 74 rfl)))) (mvT hZ (hw _ (own_m 74 rfl))) (mvT hZ (hw _ (own_m 73 rfl))) (by decide) (backOf (W := 0) (rmSAppS l Z a0 hw [] b2 x zc fm ts ks [c0, c1] t_ k_ ([] : List Int32) T6.heap n0 f14 hSt f15 f9 f10 f11 f12 hle hch f13 fv_ fc_ fn_ at_ ge2 gt_ nb_ (Nat.le_of_ble_eq_true rfl)) hZ (hw _ (own_m 75 rfl)) (hw _ (own_m 55 rfl)) (by decide) (by decide)) q16a q16c (g := (mkF m 26 #[.val (.ref p0)] [(.ref x), (.ref b2)])) rfl (by rw [hml]; rfl) (Steps.refl _) (argsL := [(.ref x)]) (rest := []) (lenOf pd__Ljava_lang_String__Ljava_lang_StringBuilder_ rfl) rfl (by show 2 * 0 + _ ≤ _; exact Nat.le_of_eq rfl) (hb hby d9_26) (fun _ _ => ⟨rfl, e8, (by decide : 2 + 0 ≤ _), (by decide : 20 + 0 ≤ _)⟩)
  dsimp only [Pt.U, Pt.locs, Pt.cells, Pt.slots] at X16 l16 y16 z16 st16 hQ16
  subst l16 y16 z16
  obtain ⟨rfl, Nq16, K16, fv_1, fc_1, fn_1, at_1⟩ := hQ16
  have N16 := Fr.app N6 Nq16
  have KK16 := KK6.trans K16 (allS (Or.inr sz2) (allS (Or.inr zz_) all0))
  have pre17 : ∀ t, Steps p.tables e below (T16.setTop (mkF m 29 #[.val (.ref p0)] [(.ref b2)])) t → Steps p.tables e below (s₁.setTop (entryFrame m #[(.ref p0)] 1)) t := fun t kt => pre0 t (by
    show Steps p.tables e below (s₁.setTop (mkF m 0 #[.val (.ref p0)] [])) _
    refine XS.aloadN X0.here hx rfl (hb hby d9_0) rfl rfl ?_
    show Steps p.tables e below (s₁.setTop (mkF m 1 #[.val (.ref p0)] [(.ref p0)])) _
    refine st1 _ ?_
    show Steps p.tables e below (T1.setTop (mkF m 4 #[.val (.ref p0)] [(.int pt)])) _
    refine XS.iconst X1.here hx rfl (hb hby d9_4) ?_
    show Steps p.tables e below (T1.setTop (mkF m 5 #[.val (.ref p0)] [(.int (-1 : Int32)), (.int pt)])) _
    refine XS.icmpYes X1.here hx rfl (pc0 := 5) (pc' := 15) rfl (hb hby d9_5) rfl (feq (fun q => by rw [q] at hp0; exact absurd hp0 (by decide))).2 (by decide) (by decide) ?_
    show Steps p.tables e below (T1.setTop (mkF m 15 #[.val (.ref p0)] [])) _
    refine st2 _ ?_
    show Steps p.tables e below (T2.setTop (mkF m 18 #[.val (.ref p0)] [(.ref b2)])) _
    refine XS.dup X2.here hx rfl (hb hby d9_18) rfl rfl ?_
    show Steps p.tables e below (T2.setTop (mkF m 19 #[.val (.ref p0)] [(.ref b2), (.ref b2)])) _
    refine st6.trans ?_
    show Steps p.tables e below (T6.setTop (mkF m 22 #[.val (.ref p0)] [(.ref b2)])) _
    refine XS.aloadN X6.here hx rfl (hb hby d9_22) rfl rfl ?_
    show Steps p.tables e below (T6.setTop (mkF m 23 #[.val (.ref p0)] [(.ref p0), (.ref b2)])) _
    refine st8 _ ?_
    show Steps p.tables e below (T8.setTop (mkF m 26 #[.val (.ref p0)] [(.ref x), (.ref b2)])) _
    refine st16.trans ?_
    show Steps p.tables e below (T16.setTop (mkF m 29 #[.val (.ref p0)] [(.ref b2)])) _
    exact kt)
  have hWr := X16.warmed
  have hS18 : s.Since T16.vm T16.heap.size := X16.warmed.since _
  have hZ18 : Z.Warmed39 (s.setVm T16.vm).vm := State.Warmed39.trans hZ X16.warmed.wide
  have hown18 : (s.setVm T16.vm).vm.findClass "com/example/kikao/kikao/Domain" = some m.cls := (X16.warmed.wide.alike.findClass _ _).trans hown
  have X18 := X16.retabled X16.warmed.wide
  have hk18 : T16.heap.size ≤ T16.heap.size := Nat.le_refl _
  obtain ⟨a19, T19, h19, k19, b19, kk19, X19, e19, E19, hS19, hk19, hZ19, hown19, Ex19, Fc19, Fv19, Av19, -, -, -, -, st19⟩ := ldcSVL X18 hx hZ18 hown18 (hw _ (own_m 118 rfl)) (own_wS hw) rfl hS18 hk18 (by rw [hh, ← hn0]; exact N16) (fun b cl q => by rw [hh]; exact Ol.2.2 b cl q) (own_IB hI hWr) (fun q => nomatch q) hheld hcw (vs := own_nrw [(58 : Int32)]) (z := (1 : Int32)) ⟨by decide +kernel, by decide +kernel⟩ (by decide) (by decide) (g := (mkF m 29 #[.val (.ref p0)] [(.ref b2)])) rfl (hb hby d9_29) (n := 4) (by decide) (by decide) (by decide) (by decide)
  have f20 := (Nat.le_trans f14 K16.1)
  have K19 := KK16.ext E19
  have f21 := ((f13.keep K16).ext E19)
  have f22 := (fv_1.ext E19)
  have f23 := (fc_1.ext E19)
  have f24 := (fn_1.ext E19)
  have f25 := (at_1.ext E19)
  have f26 := (Nat.le_trans f20 E19.1)
  have f27 := ((f15.keep K16 (allS ge2 (allS gt_ all0))).ext E19)
  obtain ⟨cq28, kq28, q28a, q28b, q28c⟩ := isOf hZ19 e19 f21
  obtain ⟨_, _, ⟨T28, L28, k28, n28⟩, -, X28, ⟨Lc28, hQ28, l28, y28, z28⟩, st28⟩ := X19.virtualBack hx (y := (⟨"java/lang/StringBuilder", "append", "(Ljava/lang/String;)Ljava/lang/StringBuilder;"⟩ : MethodName)) (z := (⟨"java/lang/StringBuilder", "append", "(Ljava/lang/String;)Ljava/lang/StringBuilder;"⟩ : MethodName)) hown19 (mvT hZ19 (hw _ (own_m 71 rfl))) (mvT hZ19 (hw _ (own_m 72 rfl))) (notFace_of_selects (args := #[]) (mvT hZ19 (hw _ (own_m 74 rfl)))) (mvT hZ19 (hw _ (own_m 74 rfl))) (mvT hZ19 (hw _ (own_m 73 rfl))) (by decide) (backOf (W := 0) (rmSAppS l Z a0 hw [] b2 a19 zc fm b19 kk19 [(58 : Int32)] t_ k_ (([] : List Int32) ++ [c0, c1]) h19 n0 f26 hSt f27 Ex19 Fv19 Fc19 Av19 (own_allc (by decide) (fun _ q => nomatch q)) ⟨own_allc ⟨by decide, by decide⟩ (fun _ q => nomatch q), by decide⟩ f21 f22 f23 f24 f25 ge2 gt_ nb_ (Nat.le_of_ble_eq_true rfl)) hZ19 (hw _ (own_m 75 rfl)) (hw _ (own_m 55 rfl)) (by decide) (by decide)) q28a q28c (g := (mkF m 31 #[.val (.ref p0)] [(.ref a19), (.ref b2)])) rfl (by rw [hml]; rfl) (Steps.refl _) (argsL := [(.ref a19)]) (rest := []) (lenOf pd__Ljava_lang_String__Ljava_lang_StringBuilder_ rfl) rfl (by show 2 * 0 + _ ≤ _; exact Nat.le_of_eq rfl) (hb hby d9_31) (fun _ _ => ⟨rfl, e19, (by decide : 4 + 0 ≤ _), (by decide : 28 + 0 ≤ _)⟩)
  dsimp only [Pt.U, Pt.locs, Pt.cells, Pt.slots] at X28 l28 y28 z28 st28 hQ28
  subst l28 y28 z28
  obtain ⟨rfl, Nq28, K28, fv_2, fc_2, fn_2, at_2⟩ := hQ28
  have N28 := Fr.app N16 Nq28
  have KK28 := K19.trans K28 (allS (Or.inr sz2) (allS (Or.inr zz_) all0))
  have f29 := ((((f3.keep K6 (ninS ne2_p0 nin0)).keep K16 (ninS ne2_p0 (ninS nd_ nin0))).ext E19).keep K28 (ninS ne2_p0 (ninS nd_ nin0)))
  obtain ⟨T30, X30, e30, st30⟩ := getF X28 hx hZ19 hown19 (host := "") (Or.inl (hw _ (own_m 46 rfl))) Via.refl rfl f29 (g := (mkF m 35 #[.val (.ref p0)] [(.ref p0), (.ref b2)])) rfl rfl (hb hby d9_35)
  have f31 := (f21.keep K28)
  have f32 := (Nat.le_trans f26 K28.1)
  have f33 := (f27.keep K28 (allS ge2 (allS gt_ all0)))
  obtain ⟨cq34, kq34, q34a, q34b, q34c⟩ := isOf hZ19 e30 f31
  obtain ⟨_, _, ⟨T34, L34, k34, n34⟩, -, X34, ⟨Lc34, hQ34, l34, y34, z34⟩, st34⟩ := X30.virtualBack hx (y := (⟨"java/lang/StringBuilder", "append", "(I)Ljava/lang/StringBuilder;"⟩ : MethodName)) (z := (⟨"java/lang/StringBuilder", "append", "(I)Ljava/lang/StringBuilder;"⟩ : MethodName)) hown19 (mvT hZ19 (hw _ (own_m 121 rfl))) (mvT hZ19 (hw _ (own_m 122 rfl))) (notFace_of_selects (args := #[]) (mvT hZ19 (hw _ (own_m 124 rfl)))) (mvT hZ19 (hw _ (own_m 124 rfl))) (mvT hZ19 (hw _ (own_m 123 rfl))) (by decide) (backOf (W := 0) (rmSAppI1 l Z a0 hw [] b2 pt zc fm wO cO wT cT t_ k_ c0 c1 58 d1 T28.heap n0 f32 hSt f33 hDT f31 fv_2 fc_2 fn_2 at_2 ge2 gt_ nb_ hp0 hlo hhi hd1) hZ19 (hw _ (own_m 125 rfl)) (hw _ (own_m 55 rfl)) (by decide) (by decide)) q34a q34c (g := (mkF m 38 #[.val (.ref p0)] [(.int pt), (.ref b2)])) rfl (by rw [hml]; rfl) (Steps.refl _) (argsL := [(.int pt)]) (rest := []) (lenOf pd__I_Ljava_lang_StringBuilder_ rfl) rfl (by show 2 * 0 + _ ≤ _; exact Nat.le_of_eq rfl) (hb hby d9_38) (fun _ _ => ⟨rfl, e30, (by decide : 4 + 0 ≤ _), (by decide : 28 + 0 ≤ _)⟩)
  dsimp only [Pt.U, Pt.locs, Pt.cells, Pt.slots] at X34 l34 y34 z34 st34 hQ34
  subst l34 y34 z34
  obtain ⟨rfl, Nq34, K34, fv_3, fc_3, fn_3, at_3⟩ := hQ34
  have N34 := Fr.app N28 Nq34
  have KK34 := KK28.trans K34 (allS (Or.inr sz2) (allS (Or.inr zz_) all0))
  have f35 := (f31.keep K34)
  have f36 := (Nat.le_trans f32 K34.1)
  have f37 := (f33.keep K34 (allS ge2 (allS gt_ all0)))
  obtain ⟨cq38, kq38, q38a, q38b, q38c⟩ := isOf hZ19 rfl f35
  obtain ⟨_, _, ⟨T38, L38, k38, n38⟩, -, X38, ⟨Lc38, hQ38, l38, y38, z38⟩, st38⟩ := X34.virtualBack hx (y := (⟨"java/lang/StringBuilder", "toString", "()Ljava/lang/String;"⟩ : MethodName)) (z := (⟨"java/lang/StringBuilder", "toString", "()Ljava/lang/String;"⟩ : MethodName)) hown19 (mvT hZ19 (hw _ (own_m 143 rfl))) (mvT hZ19 (hw _ (own_m 144 rfl))) (notFace_of_selects (args := #[]) (mvT hZ19 (hw _ (own_m 146 rfl)))) (mvT hZ19 (hw _ (own_m 146 rfl))) (mvT hZ19 (hw _ (own_m 145 rfl))) (by decide) (backOf (W := 0) (rmToS l Z a0 hw [] b2 zc fm t_ k_ [c0, c1, 58, d1] T34.heap n0 f36 hSt f37 f35 fv_3 fc_3 fn_3 at_3 ge2 gt_ nb_ (Nat.le_of_ble_eq_true rfl)) hZ19 (hw _ (own_m 147 rfl)) (hw _ (own_m 55 rfl)) (by decide) (by decide)) q38a q38c (g := (mkF m 41 #[.val (.ref p0)] [(.ref b2)])) rfl (by rw [hml]; rfl) (Steps.refl _) (argsL := []) (rest := []) (lenOf pd___Ljava_lang_String_ rfl) rfl (by show 2 * 0 + _ ≤ _; exact Nat.le_of_eq rfl) (hb hby d9_41) (fun _ _ => ⟨rfl, rfl, (by decide : 4 + 2 ≤ _), (by decide : 28 + 20 ≤ _)⟩)
  dsimp only [Pt.U, Pt.locs, Pt.cells, Pt.slots] at X38 l38 y38 z38 st38 hQ38
  subst l38 y38 z38
  obtain ⟨⟨r_, ts_, ks_, rfl, zr_, zs_, E_, fv_4, fc_4, at_4⟩, Nq38, K38⟩ := hQ38
  have N38 := Fr.app N34 Nq38
  have KK38 := KK34.trans K38 all0
  have f39 := (Nat.le_trans (Nat.le_trans (Nat.le_trans hk19 K28.1) K34.1) K38.1)
  obtain ⟨fs, hr, hrun, hended, hEnd⟩ := X38.leaveW hS19 f39 (v := some (.ref r_)) (fun h => by rw [Bd.returns] at h; cases h)
  refine ⟨_, _, pre17 _ ?_, hrun, hended, _, _, rfl, ?_, hEnd.1, hEnd.2.1, hEnd.2.2.1, hEnd.2.2.2.mono (by decide) (by decide)⟩
  · show Steps p.tables e below (T16.setTop (mkF m 29 #[.val (.ref p0)] [(.ref b2)])) _
    refine st19 _ ?_
    show Steps p.tables e below (T19.setTop (mkF m 31 #[.val (.ref p0)] [(.ref a19), (.ref b2)])) _
    refine st28.trans ?_
    show Steps p.tables e below (T28.setTop (mkF m 34 #[.val (.ref p0)] [(.ref b2)])) _
    refine XS.aloadN X28.here hx rfl (hb hby d9_34) rfl rfl ?_
    show Steps p.tables e below (T28.setTop (mkF m 35 #[.val (.ref p0)] [(.ref p0), (.ref b2)])) _
    refine st30 _ ?_
    show Steps p.tables e below (T30.setTop (mkF m 38 #[.val (.ref p0)] [(.int pt), (.ref b2)])) _
    refine st34.trans ?_
    show Steps p.tables e below (T34.setTop (mkF m 41 #[.val (.ref p0)] [(.ref b2)])) _
    refine st38.trans ?_
    show Steps p.tables e below (T38.setTop (mkF m 44 #[.val (.ref p0)] [(.ref r_)])) _
    jvm_step X38.here [X38.here.top, hx, (hb hby d9_44), X38.method', Bd.returns, Value.isRef, FieldType.isReference]
    first | (intro acts; rw [hr _ acts rfl rfl rfl]) | rw [hr _ _ rfl rfl rfl]
    exact Steps.refl _
  · show Q_rmTS1 Z p0 zc fm wO cO wT cT x ts ks c0 c1 pt d1 h0 n0 _ T38.heap _
    exact ⟨⟨_, _, _, rfl, E_, fv_4, fc_4, at_4⟩, N38, KK38⟩
theorem ef_rmSS2 (m : MethodId) (p0 : Int32) : entryFrame m #[(.int p0)] 4 = mkF m 0 #[.val (.int p0), .unset, .unset, .unset] [] := by first | (simp [entryFrame, mkF, argsToLocals, Value.category]; done) | rfl
theorem d22_31 : decode jdk_33_method_13_code 31 = .ok (.bipush 10, 2) := by decide +kernel
theorem d22_33 : decode jdk_33_method_13_code 33 = .ok (.iload_n 2, 1) := by decide +kernel
theorem d22_34 : decode jdk_33_method_13_code 34 = .ok (.imul, 1) := by decide +kernel
theorem d22_35 : decode jdk_33_method_13_code 35 = .ok (.istore_n 2, 1) := by decide +kernel
theorem d22_36 : decode jdk_33_method_13_code 36 = .ok (.iinc 3 1, 3) := by decide +kernel
theorem d22_39 : decode jdk_33_method_13_code 39 = .ok (.goto (-23), 3) := by decide +kernel
def Q_rmSS2 (Z : State) (p0 : Int32) (zc : Int32) (fm : Value) (h0 : Heap) (n0 : Nat) (v : Option Value) (h : Heap) (L : List Loc) : Prop := v = some (.int (2 : Int32)) ∧ Fr n0 L ∧ h = h0
set_option maxRecDepth 65536 in
set_option maxHeartbeats 40000000 in
theorem rmSS2 (l : Launch) (Z : State) (a0 : Array Value) (hw : ∀ d ∈ tables_1, d.before a0 Z = true) (ws : List Jvm.Cond) (p0 : Int32) (zc : Int32) (fm : Value) (h0 : Heap) (n0 : Nat) (Z0 : n0 ≤ h0.size) (hSt : own_St Z zc fm) (Ol : own_Old Z n0 h0) (hp0 : 0 ≤ p0.toInt) (hlo : 10 ≤ p0.toInt) (hhi : p0.toInt < 100) :
    MetFree l (⟨"java/lang/Integer", "stringSize", "(I)I"⟩ : MethodName) (head1 (Jvm.Cond.code (⟨"java/lang/Integer", "stringSize", "(I)I"⟩ : MethodName) jdk_33_method_13_code 4 (some .int) :: ws) ({ frames := 0, cells := 0, slots := 0, locals := 0 } : Room)) (fun a U => a = #[(.int p0)] ∧ Z.Warmed39 U.vm ∧ U.heap = h0) (fun _ _ _ _ _ => True) (fun _ U o U' => ∃ v L, o = .returned v ∧ Q_rmSS2 Z p0 zc fm h0 n0 v U'.heap L ∧ FrameEnd U o U' L ({ frames := 0, cells := 0, slots := 0, locals := 0 } : Room).cells ({ frames := 0, cells := 0, slots := 0, locals := 0 } : Room).slots) := by
  refine MetFree.of_bodySF (plainFor_of_name pn_java_lang_Integer) hisR ?_
  intro p e s m args below meth c s₁ Bd hml0 hP hK
  obtain ⟨rfl, hZ, hh⟩ := hP
  have hx := Bd.exec
  have hby := Bd.bytes
  have hml : c.maxLocals = 4 := hml0
  have hown : s.vm.findClass "java/lang/Integer" = some m.cls := findClass_of_methodNamed Bd.named
  have hnm := (name_of_methodNamed Bd.named Bd.method).1
  have hZo := hZ
  have howno := hown
  have X0 : Stand p l e ({ frames := 0, cells := 0, slots := 0, locals := 0 } : Room) s m #[(.int p0)] below meth c s₁ [] 0 0 := Stand.of_body Bd
  have e0 : s₁.heap = h0 := by rw [← hh, Bd.state]; rfl
  have N0 := Fr.nil n0
  have pre0 : ∀ t, Steps p.tables e below (s₁.setTop (mkF m 0 #[.val (.int p0), .unset, .unset, .unset] [])) t → Steps p.tables e below (s₁.setTop (entryFrame m #[(.int p0)] 4)) t := fun t k => castTop (ef_rmSS2 m p0 ) k
  obtain ⟨fs, hr, hrun, hended, hW, hsame⟩ := X0.leave (v := some (.int (2 : Int32))) (fun h => by rw [Bd.returns] at h; cases h)
  refine ⟨_, _, pre0 _ ?_, hrun, hended, _, _, rfl, ?_, ⟨_, rfl⟩, hW, hsame.mono (by decide) (by decide)⟩
  · show Steps p.tables e below (s₁.setTop (mkF m 0 #[.val (.int p0), .unset, .unset, .unset] [])) _
    refine XS.iconst X0.here hx rfl (hb hby d22_0) ?_
    refine XS.istoreN X0.here hx rfl (hb hby d22_1) rfl (l' := #[.val (.int p0), .val (.int (1 : Int32)), .unset, .unset]) rfl ?_
    refine XS.iloadN X0.here hx rfl (hb hby d22_2) rfl  ?_
    show Steps p.tables e below (s₁.setTop (mkF m 3 #[.val (.int p0), .val (.int (1 : Int32)), .unset, .unset] [(.int p0)])) _
    refine XS.ifNo X0.here hx rfl (hb hby d22_3) rfl ((if0 _ _).trans (flt (own_nl hp0)).1) ?_
    refine XS.iconst X0.here hx rfl (hb hby d22_6) ?_
    refine XS.istoreN X0.here hx rfl (hb hby d22_7) rfl (l' := #[.val (.int p0), .val (.int (0 : Int32)), .unset, .unset]) rfl ?_
    refine XS.iloadN X0.here hx rfl (hb hby d22_8) rfl  ?_
    refine XS.ineg X0.here hx rfl (hb hby d22_9) rfl ?_
    refine XS.istoreN X0.here hx rfl (hb hby d22_10) rfl (l' := #[.val (.int (-p0)), .val (.int (0 : Int32)), .unset, .unset]) rfl ?_
    refine XS.bipush X0.here hx rfl (hb hby d22_11) ?_
    refine XS.istoreN X0.here hx rfl (hb hby d22_13) rfl (l' := #[.val (.int (-p0)), .val (.int (0 : Int32)), .val (.int (-10 : Int32)), .unset]) rfl ?_
    refine XS.iconst X0.here hx rfl (hb hby d22_14) ?_
    refine XS.istoreN X0.here hx rfl (hb hby d22_15) rfl (l' := #[.val (.int (-p0)), .val (.int (0 : Int32)), .val (.int (-10 : Int32)), .val (.int (1 : Int32))]) rfl ?_
    refine XS.iloadN X0.here hx rfl (hb hby d22_16) rfl  ?_
    refine XS.bipush X0.here hx rfl (hb hby d22_17) ?_
    show Steps p.tables e below (s₁.setTop (mkF m 19 #[.val (.int (-p0)), .val (.int (0 : Int32)), .val (.int (-10 : Int32)), .val (.int (1 : Int32))] [(.int (10 : Int32)), (.int (1 : Int32))])) _
    refine XS.icmpNo X0.here hx rfl (hb hby d22_19) rfl (tlt (by decide : (1 : Int32) < (10 : Int32))).2.1 ?_
    refine XS.iloadN X0.here hx rfl (hb hby d22_22) rfl  ?_
    refine XS.iloadN X0.here hx rfl (hb hby d22_23) rfl  ?_
    show Steps p.tables e below (s₁.setTop (mkF m 24 #[.val (.int (-p0)), .val (.int (0 : Int32)), .val (.int (-10 : Int32)), .val (.int (1 : Int32))] [(.int (-10 : Int32)), (.int (-p0))])) _
    refine XS.icmpYes X0.here hx rfl (pc0 := 24) (pc' := 31) rfl (hb hby d22_24) rfl (flt (fun q => absurd ((own_ng (b := 10) (by decide) hp0).mp q) (by omega))).2.2.2 (by decide) (by decide) ?_
    refine XS.bipush X0.here hx rfl (hb hby d22_31) ?_
    refine XS.iloadN X0.here hx rfl (hb hby d22_33) rfl  ?_
    refine XS.imul X0.here hx rfl (hb hby d22_34) rfl ?_
    refine XS.istoreN X0.here hx rfl (hb hby d22_35) rfl (l' := #[.val (.int (-p0)), .val (.int (0 : Int32)), .val (.int (-100 : Int32)), .val (.int (1 : Int32))]) rfl ?_
    refine XS.iinc X0.here hx rfl (hb hby d22_36) rfl (l' := #[.val (.int (-p0)), .val (.int (0 : Int32)), .val (.int (-100 : Int32)), .val (.int (2 : Int32))]) rfl ?_
    refine XS.goto X0.here hx rfl (pc0 := 39) (pc' := 16) rfl (hb hby d22_39) (by decide) (by decide) ?_
    refine XS.iloadN X0.here hx rfl (hb hby d22_16) rfl  ?_
    refine XS.bipush X0.here hx rfl (hb hby d22_17) ?_
    show Steps p.tables e below (s₁.setTop (mkF m 19 #[.val (.int (-p0)), .val (.int (0 : Int32)), .val (.int (-100 : Int32)), .val (.int (2 : Int32))] [(.int (10 : Int32)), (.int (2 : Int32))])) _
    refine XS.icmpNo X0.here hx rfl (hb hby d22_19) rfl (tlt (by decide : (2 : Int32) < (10 : Int32))).2.1 ?_
    refine XS.iloadN X0.here hx rfl (hb hby d22_22) rfl  ?_
    refine XS.iloadN X0.here hx rfl (hb hby d22_23) rfl  ?_
    show Steps p.tables e below (s₁.setTop (mkF m 24 #[.val (.int (-p0)), .val (.int (0 : Int32)), .val (.int (-100 : Int32)), .val (.int (2 : Int32))] [(.int (-100 : Int32)), (.int (-p0))])) _
    refine XS.icmpNo X0.here hx rfl (hb hby d22_24) rfl (tlt ((own_ng (b := 100) (by decide) hp0).mpr (by omega))).2.2.2 ?_
    refine XS.iloadN X0.here hx rfl (hb hby d22_27) rfl  ?_
    refine XS.iloadN X0.here hx rfl (hb hby d22_28) rfl  ?_
    refine XS.iadd X0.here hx rfl (hb hby d22_29) rfl ?_
    show Steps p.tables e below (s₁.setTop (mkF m 30 #[.val (.int (-p0)), .val (.int (0 : Int32)), .val (.int (-100 : Int32)), .val (.int (2 : Int32))] [(.int (2 : Int32))])) _
    exact retI X0 hx Bd.returns (hb hby d22_30) hr
  · show Q_rmSS2 Z p0 zc fm h0 n0 _ s₁.heap _
    rw [e0]
    exact ⟨rfl, N0, rfl⟩
theorem ef_rmGC2 (m : MethodId) (p0 : Int32) (p2 : Addr) : entryFrame m #[(.int p0), (.int (5 : Int32)), (.ref p2)] 7 = mkF m 0 #[.val (.int p0), .val (.int (5 : Int32)), .val (.ref p2), .unset, .unset, .unset, .unset] [] := by first | (simp [entryFrame, mkF, argsToLocals, Value.category]; done) | rfl
theorem d24_91 : decode jdk_33_method_12_code 91 = .ok (.aload_n 2, 1) := by decide +kernel
theorem d24_92 : decode jdk_33_method_12_code 92 = .ok (.iinc 5 (-1), 3) := by decide +kernel
theorem d24_95 : decode jdk_33_method_12_code 95 = .ok (.iload 5, 2) := by decide +kernel
theorem d24_97 : decode jdk_33_method_12_code 97 = .ok (.getstatic 87, 3) := by decide +kernel
theorem d24_100 : decode jdk_33_method_12_code 100 = .ok (.iload_n 0, 1) := by decide +kernel
theorem d24_101 : decode jdk_33_method_12_code 101 = .ok (.ineg, 1) := by decide +kernel
theorem d24_102 : decode jdk_33_method_12_code 102 = .ok (.baload, 1) := by decide +kernel
theorem d24_103 : decode jdk_33_method_12_code 103 = .ok (.bastore, 1) := by decide +kernel
def Q_rmGC2 (Z : State) (p0 : Int32) (p2 : Addr) (zc : Int32) (fm : Value) (wO : Addr) (cO : Cell) (wT : Addr) (cT : Cell) (kb : ClassId) (v0 : Value) (v1 : Value) (v2 : Value) (d1 : Int32) (d2 : Int32) (h0 : Heap) (n0 : Nat) (v : Option Value) (h : Heap) (L : List Loc) : Prop := v = some (.int (3 : Int32)) ∧ Fr n0 L ∧ Keep h0 h [p2] ∧ Arv Z h p2 kb .byte (16 : Int32) [v0, v1, v2, (.int d1.toInt8.toInt32), (.int d2.toInt8.toInt32), (.int (0 : Int32)), (.int (0 : Int32)), (.int (0 : Int32)), (.int (0 : Int32)), (.int (0 : Int32)), (.int (0 : Int32)), (.int (0 : Int32)), (.int (0 : Int32)), (.int (0 : Int32)), (.int (0 : Int32)), (.int (0 : Int32))] (.int (0 : Int32))
set_option maxRecDepth 65536 in
set_option maxHeartbeats 40000000 in
theorem rmGC2 (l : Launch) (Z : State) (a0 : Array Value) (hw : ∀ d ∈ tables_1, d.before a0 Z = true) (ws : List Jvm.Cond) (p0 : Int32) (p2 : Addr) (zc : Int32) (fm : Value) (wO : Addr) (cO : Cell) (wT : Addr) (cT : Cell) (kb : ClassId) (v0 : Value) (v1 : Value) (v2 : Value) (d1 : Int32) (d2 : Int32) (h0 : Heap) (n0 : Nat) (Z0 : n0 ≤ h0.size) (hSt : own_St Z zc fm) (Ol : own_Old Z n0 h0) (hDT : own_DT Z wO cO wT cT) (Ab : Arv Z h0 p2 kb .byte (16 : Int32) [v0, v1, v2, (.int (0 : Int32)), (.int (0 : Int32)), (.int (0 : Int32)), (.int (0 : Int32)), (.int (0 : Int32)), (.int (0 : Int32)), (.int (0 : Int32)), (.int (0 : Int32)), (.int (0 : Int32)), (.int (0 : Int32)), (.int (0 : Int32)), (.int (0 : Int32)), (.int (0 : Int32))] (.int (0 : Int32))) (gt_ : n0 ≤ p2) (hp0 : 0 ≤ p0.toInt) (hlo : 10 ≤ p0.toInt) (hhi : p0.toInt < 100) (hd1 : d1.toInt = 48 + p0.toInt / 10 % 10) (hd2 : d2.toInt = 48 + p0.toInt % 10) :
    MetFree l (⟨"java/lang/Integer", "getChars", "(II[B)I"⟩ : MethodName) (head1 (Jvm.Cond.code (⟨"java/lang/Integer", "getChars", "(II[B)I"⟩ : MethodName) jdk_33_method_12_code 7 (some .int) :: ws) ({ frames := 0, cells := 0, slots := 0, locals := 0 } : Room)) (fun a U => a = #[(.int p0), (.int (5 : Int32)), (.ref p2)] ∧ Z.Warmed39 U.vm ∧ U.heap = h0) (fun _ _ _ _ _ => True) (fun _ U o U' => ∃ v L, o = .returned v ∧ Q_rmGC2 Z p0 p2 zc fm wO cO wT cT kb v0 v1 v2 d1 d2 h0 n0 v U'.heap L ∧ FrameEnd U o U' L ({ frames := 0, cells := 0, slots := 0, locals := 0 } : Room).cells ({ frames := 0, cells := 0, slots := 0, locals := 0 } : Room).slots) := by
  refine MetFree.of_bodySF (plainFor_of_name pn_java_lang_Integer) hisR ?_
  intro p e s m args below meth c s₁ Bd hml0 hP hK
  obtain ⟨rfl, hZ, hh⟩ := hP
  have hx := Bd.exec
  have hby := Bd.bytes
  have hml : c.maxLocals = 7 := hml0
  have hown : s.vm.findClass "java/lang/Integer" = some m.cls := findClass_of_methodNamed Bd.named
  have hnm := (name_of_methodNamed Bd.named Bd.method).1
  have hZo := hZ
  have howno := hown
  have X0 : Stand p l e ({ frames := 0, cells := 0, slots := 0, locals := 0 } : Room) s m #[(.int p0), (.int (5 : Int32)), (.ref p2)] below meth c s₁ [] 0 0 := Stand.of_body Bd
  have e0 : s₁.heap = h0 := by rw [← hh, Bd.state]; rfl
  have N0 := Fr.nil n0
  have pre0 : ∀ t, Steps p.tables e below (s₁.setTop (mkF m 0 #[.val (.int p0), .val (.int (5 : Int32)), .val (.ref p2), .unset, .unset, .unset, .unset] [])) t → Steps p.tables e below (s₁.setTop (entryFrame m #[(.int p0), (.int (5 : Int32)), (.ref p2)] 7)) t := fun t k => castTop (ef_rmGC2 m p0 p2 ) k
  have pre1 : ∀ t, Steps p.tables e below (s₁.setTop (mkF m 22 #[.val (.int (-p0)), .val (.int (5 : Int32)), .val (.ref p2), .unset, .unset, .val (.int (5 : Int32)), .val (.int (0 : Int32))] [])) t → Steps p.tables e below (s₁.setTop (entryFrame m #[(.int p0), (.int (5 : Int32)), (.ref p2)] 7)) t := fun t kt => pre0 t (by
    show Steps p.tables e below (s₁.setTop (mkF m 0 #[.val (.int p0), .val (.int (5 : Int32)), .val (.ref p2), .unset, .unset, .unset, .unset] [])) _
    refine XS.iloadN X0.here hx rfl (hb hby d24_0) rfl  ?_
    refine XS.istore X0.here hx rfl (hb hby d24_1) rfl (l' := #[.val (.int p0), .val (.int (5 : Int32)), .val (.ref p2), .unset, .unset, .val (.int (5 : Int32)), .unset]) rfl ?_
    refine XS.iloadN X0.here hx rfl (hb hby d24_3) rfl  ?_
    show Steps p.tables e below (s₁.setTop (mkF m 4 #[.val (.int p0), .val (.int (5 : Int32)), .val (.ref p2), .unset, .unset, .val (.int (5 : Int32)), .unset] [(.int p0)])) _
    refine XS.ifYes X0.here hx rfl (pc0 := 4) (pc' := 11) rfl (hb hby d24_4) rfl ((if0 _ _).trans (flt (own_nl hp0)).2.1) (by decide) (by decide) ?_
    refine XS.iconst X0.here hx rfl (hb hby d24_11) ?_
    refine XS.istore X0.here hx rfl (hb hby d24_12) rfl (l' := #[.val (.int p0), .val (.int (5 : Int32)), .val (.ref p2), .unset, .unset, .val (.int (5 : Int32)), .val (.int (0 : Int32))]) rfl ?_
    refine XS.iload X0.here hx rfl (hb hby d24_14) rfl  ?_
    show Steps p.tables e below (s₁.setTop (mkF m 16 #[.val (.int p0), .val (.int (5 : Int32)), .val (.ref p2), .unset, .unset, .val (.int (5 : Int32)), .val (.int (0 : Int32))] [(.int (0 : Int32))])) _
    refine XS.ifNo X0.here hx rfl (hb hby d24_16) rfl ((if0 _ _).trans (teq (by decide : (0 : Int32) = (0 : Int32))).2) ?_
    refine XS.iloadN X0.here hx rfl (hb hby d24_19) rfl  ?_
    refine XS.ineg X0.here hx rfl (hb hby d24_20) rfl ?_
    refine XS.istoreN X0.here hx rfl (hb hby d24_21) rfl (l' := #[.val (.int (-p0)), .val (.int (5 : Int32)), .val (.ref p2), .unset, .unset, .val (.int (5 : Int32)), .val (.int (0 : Int32))]) rfl ?_
    exact kt)
  obtain ⟨i0, hi0⟩ : ∃ z, z = (-p0) := ⟨_, rfl⟩
  rw [← hi0] at pre1
  have ei0 : i0.toInt = -p0.toInt := by rw [hi0]; exact own_neg (Int.lt_of_lt_of_le (by decide) hp0)
  obtain ⟨xa0, xb0, xc⟩ := own_r2 hlo hhi
  obtain ⟨T2, X2, e2, st2⟩ := getS2 X0 hx hZ hown (host := "") (Or.inl (hw _ (own_m 142 rfl))) Via.refl e0 (hDT.1.ext Ol.2) (g := (mkF m 78 #[.val (.int i0), .val (.int (5 : Int32)), .val (.ref p2), .unset, .unset, .val (.int (4 : Int32)), .val (.int (0 : Int32))] [(.int (4 : Int32)), (.ref p2)])) rfl (hb hby d24_78)
  have en : (-i0).toInt = p0.toInt := own_nn ei0 xb0
  have ti3 := own_tin (r := (-i0)) (own_e0 en xa0 xb0).1 (own_e0 en xa0 xb0).2 hDT.2.2.2.2.1.1
  have hat3 : cO.slots[((-i0)).toNatClampNeg]? = some (.int d2) := (hDT.2.2.2.2.1.2 _ ti3.1 ti3.2.1).trans (by rw [own_ones (r := (-i0)) (d := d2) (own_e0 en xa0 xb0).1 (own_e0 en xa0 xb0).2 (own_o2 en hd2)])
  have Aq3 := hDT.2.2.1.ext Ol.2
  obtain ⟨cl4, Ar4, q4, S4, N4, H4, G4⟩ := id Ab
  have hin4 : ¬ ((4 : Int32) < 0 ∨ cl4.slots.size ≤ ((4 : Int32)).toNatClampNeg) := inb_of S4 ⟨by decide, by decide⟩
  obtain ⟨T5, h5, X5, e5, W5, st5⟩ := stB X2 hx hZ e2 Ar4 (j := (4 : Int32)) hin4 (g := (mkF m 84 #[.val (.int i0), .val (.int (5 : Int32)), .val (.ref p2), .unset, .unset, .val (.int (4 : Int32)), .val (.int (0 : Int32))] [(.int d2), (.int (4 : Int32)), (.ref p2)])) rfl rfl (hb hby d24_84)
  have N5 := Fr.snoc X5 N0 gt_
  have K5 := (Keep.refl h0 [p2]).wr W5 (Or.inl (own_m 0 rfl))
  have V5 : Arv Z h5 p2 kb .byte (16 : Int32) [v0, v1, v2, (.int (0 : Int32)), (.int d2.toInt8.toInt32), (.int (0 : Int32)), (.int (0 : Int32)), (.int (0 : Int32)), (.int (0 : Int32)), (.int (0 : Int32)), (.int (0 : Int32)), (.int (0 : Int32)), (.int (0 : Int32)), (.int (0 : Int32)), (.int (0 : Int32)), (.int (0 : Int32))] (.int (0 : Int32)) := Arv.set Ar4 q4 S4 N4 H4 G4 (fits_nar_byte _) W5 4 rfl (Nat.le_of_ble_eq_true rfl)
  have f6 := (Ol.wr W5 gt_)
  obtain ⟨T7, X7, e7, st7⟩ := getS2 X5 hx hZ hown (host := "") (Or.inl (hw _ (own_m 214 rfl))) Via.refl e5 (hDT.2.1.ext f6.2) (g := (mkF m 97 #[.val (.int i0), .val (.int (5 : Int32)), .val (.ref p2), .unset, .unset, .val (.int (3 : Int32)), .val (.int (0 : Int32))] [(.int (3 : Int32)), (.ref p2)])) rfl (hb hby d24_97)
  have ti8 := own_tin (r := (-i0)) (own_e0 en xa0 xb0).1 (own_e0 en xa0 xb0).2 hDT.2.2.2.2.2.1
  have hat8 : cT.slots[((-i0)).toNatClampNeg]? = some (.int d1) := (hDT.2.2.2.2.2.2 _ ti8.1 ti8.2.1).trans (by rw [own_tens (r := (-i0)) (d := d1) (own_e0 en xa0 xb0).1 (own_e0 en xa0 xb0).2 (own_u0 en xa0 xb0 hd1)])
  have Aq8 := hDT.2.2.2.1.ext f6.2
  obtain ⟨cl9, Ar9, q9, S9, N9, H9, G9⟩ := id V5
  have hin9 : ¬ ((3 : Int32) < 0 ∨ cl9.slots.size ≤ ((3 : Int32)).toNatClampNeg) := inb_of S9 ⟨by decide, by decide⟩
  obtain ⟨T10, h10, X10, e10, W10, st10⟩ := stB X7 hx hZ e7 Ar9 (j := (3 : Int32)) hin9 (g := (mkF m 103 #[.val (.int i0), .val (.int (5 : Int32)), .val (.ref p2), .unset, .unset, .val (.int (3 : Int32)), .val (.int (0 : Int32))] [(.int d1), (.int (3 : Int32)), (.ref p2)])) rfl rfl (hb hby d24_103)
  have N10 := Fr.snoc X10 N5 gt_
  have K10 := K5.wr W10 (Or.inl (own_m 0 rfl))
  have V10 : Arv Z h10 p2 kb .byte (16 : Int32) [v0, v1, v2, (.int d1.toInt8.toInt32), (.int d2.toInt8.toInt32), (.int (0 : Int32)), (.int (0 : Int32)), (.int (0 : Int32)), (.int (0 : Int32)), (.int (0 : Int32)), (.int (0 : Int32)), (.int (0 : Int32)), (.int (0 : Int32)), (.int (0 : Int32)), (.int (0 : Int32)), (.int (0 : Int32))] (.int (0 : Int32)) := Arv.set Ar9 q9 S9 N9 H9 G9 (fits_nar_byte _) W10 3 rfl (Nat.le_of_ble_eq_true rfl)
  obtain ⟨fs, hr, hrun, hended, hW, hsame⟩ := X10.leave (v := some (.int (3 : Int32))) (fun h => by rw [Bd.returns] at h; cases h)
  refine ⟨_, _, pre1 _ ?_, hrun, hended, _, _, rfl, ?_, ⟨_, rfl⟩, hW, hsame.mono (by decide) (by decide)⟩
  · show Steps p.tables e below (s₁.setTop (mkF m 22 #[.val (.int i0), .val (.int (5 : Int32)), .val (.ref p2), .unset, .unset, .val (.int (5 : Int32)), .val (.int (0 : Int32))] [])) _
    refine XS.iloadN X0.here hx rfl (hb hby d24_22) rfl  ?_
    refine XS.bipush X0.here hx rfl (hb hby d24_23) ?_
    show Steps p.tables e below (s₁.setTop (mkF m 25 #[.val (.int i0), .val (.int (5 : Int32)), .val (.ref p2), .unset, .unset, .val (.int (5 : Int32)), .val (.int (0 : Int32))] [(.int (-100 : Int32)), (.int i0)])) _
    refine XS.icmpYes X0.here hx rfl (pc0 := 25) (pc' := 72) rfl (hb hby d24_25) rfl (tlt ((own_b100 ei0).2 xb0)).2.2.1 (by decide) (by decide) ?_
    refine XS.aloadN X0.here hx rfl (hb hby d24_72) rfl rfl ?_
    refine XS.iinc X0.here hx rfl (hb hby d24_73) rfl (l' := #[.val (.int i0), .val (.int (5 : Int32)), .val (.ref p2), .unset, .unset, .val (.int (4 : Int32)), .val (.int (0 : Int32))]) rfl ?_
    refine XS.iload X0.here hx rfl (hb hby d24_76) rfl  ?_
    show Steps p.tables e below (s₁.setTop (mkF m 78 #[.val (.int i0), .val (.int (5 : Int32)), .val (.ref p2), .unset, .unset, .val (.int (4 : Int32)), .val (.int (0 : Int32))] [(.int (4 : Int32)), (.ref p2)])) _
    refine st2 _ ?_
    show Steps p.tables e below (T2.setTop (mkF m 81 #[.val (.int i0), .val (.int (5 : Int32)), .val (.ref p2), .unset, .unset, .val (.int (4 : Int32)), .val (.int (0 : Int32))] [(.ref wO), (.int (4 : Int32)), (.ref p2)])) _
    refine XS.iloadN X2.here hx rfl (hb hby d24_81) rfl  ?_
    refine XS.ineg X2.here hx rfl (hb hby d24_82) rfl ?_
    show Steps p.tables e below (T2.setTop (mkF m 83 #[.val (.int i0), .val (.int (5 : Int32)), .val (.ref p2), .unset, .unset, .val (.int (4 : Int32)), .val (.int (0 : Int32))] [(.int (-i0)), (.ref wO), (.int (4 : Int32)), (.ref p2)])) _
    refine X2.baloadBytes hx (j := (-i0)) (v := .int d2) (by rw [e2]; exact Aq3.1) (State.isArrayOf_alike hZ.alike Aq3.2.1) Aq3.2.2 ti3.2.2 hat3 (g := (mkF m 83 #[.val (.int i0), .val (.int (5 : Int32)), .val (.ref p2), .unset, .unset, .val (.int (4 : Int32)), .val (.int (0 : Int32))] [(.int (-i0)), (.ref wO), (.int (4 : Int32)), (.ref p2)])) rfl rfl (hb hby d24_83) _ ?_
    show Steps p.tables e below (T2.setTop (mkF m 84 #[.val (.int i0), .val (.int (5 : Int32)), .val (.ref p2), .unset, .unset, .val (.int (4 : Int32)), .val (.int (0 : Int32))] [(.int d2), (.int (4 : Int32)), (.ref p2)])) _
    refine st5 _ ?_
    show Steps p.tables e below (T5.setTop (mkF m 85 #[.val (.int i0), .val (.int (5 : Int32)), .val (.ref p2), .unset, .unset, .val (.int (4 : Int32)), .val (.int (0 : Int32))] [])) _
    refine XS.iloadN X5.here hx rfl (hb hby d24_85) rfl  ?_
    refine XS.bipush X5.here hx rfl (hb hby d24_86) ?_
    show Steps p.tables e below (T5.setTop (mkF m 88 #[.val (.int i0), .val (.int (5 : Int32)), .val (.ref p2), .unset, .unset, .val (.int (4 : Int32)), .val (.int (0 : Int32))] [(.int (-9 : Int32)), (.int i0)])) _
    refine XS.icmpNo X5.here hx rfl (hb hby d24_88) rfl (tlt ((own_b9 ei0).2 xc)).2.1 ?_
    refine XS.aloadN X5.here hx rfl (hb hby d24_91) rfl rfl ?_
    refine XS.iinc X5.here hx rfl (hb hby d24_92) rfl (l' := #[.val (.int i0), .val (.int (5 : Int32)), .val (.ref p2), .unset, .unset, .val (.int (3 : Int32)), .val (.int (0 : Int32))]) rfl ?_
    refine XS.iload X5.here hx rfl (hb hby d24_95) rfl  ?_
    show Steps p.tables e below (T5.setTop (mkF m 97 #[.val (.int i0), .val (.int (5 : Int32)), .val (.ref p2), .unset, .unset, .val (.int (3 : Int32)), .val (.int (0 : Int32))] [(.int (3 : Int32)), (.ref p2)])) _
    refine st7 _ ?_
    show Steps p.tables e below (T7.setTop (mkF m 100 #[.val (.int i0), .val (.int (5 : Int32)), .val (.ref p2), .unset, .unset, .val (.int (3 : Int32)), .val (.int (0 : Int32))] [(.ref wT), (.int (3 : Int32)), (.ref p2)])) _
    refine XS.iloadN X7.here hx rfl (hb hby d24_100) rfl  ?_
    refine XS.ineg X7.here hx rfl (hb hby d24_101) rfl ?_
    show Steps p.tables e below (T7.setTop (mkF m 102 #[.val (.int i0), .val (.int (5 : Int32)), .val (.ref p2), .unset, .unset, .val (.int (3 : Int32)), .val (.int (0 : Int32))] [(.int (-i0)), (.ref wT), (.int (3 : Int32)), (.ref p2)])) _
    refine X7.baloadBytes hx (j := (-i0)) (v := .int d1) (by rw [e7]; exact Aq8.1) (State.isArrayOf_alike hZ.alike Aq8.2.1) Aq8.2.2 ti8.2.2 hat8 (g := (mkF m 102 #[.val (.int i0), .val (.int (5 : Int32)), .val (.ref p2), .unset, .unset, .val (.int (3 : Int32)), .val (.int (0 : Int32))] [(.int (-i0)), (.ref wT), (.int (3 : Int32)), (.ref p2)])) rfl rfl (hb hby d24_102) _ ?_
    show Steps p.tables e below (T7.setTop (mkF m 103 #[.val (.int i0), .val (.int (5 : Int32)), .val (.ref p2), .unset, .unset, .val (.int (3 : Int32)), .val (.int (0 : Int32))] [(.int d1), (.int (3 : Int32)), (.ref p2)])) _
    refine st10 _ ?_
    show Steps p.tables e below (T10.setTop (mkF m 104 #[.val (.int i0), .val (.int (5 : Int32)), .val (.ref p2), .unset, .unset, .val (.int (3 : Int32)), .val (.int (0 : Int32))] [])) _
    refine XS.iload X10.here hx rfl (hb hby d24_104) rfl  ?_
    show Steps p.tables e below (T10.setTop (mkF m 106 #[.val (.int i0), .val (.int (5 : Int32)), .val (.ref p2), .unset, .unset, .val (.int (3 : Int32)), .val (.int (0 : Int32))] [(.int (0 : Int32))])) _
    refine XS.ifYes X10.here hx rfl (pc0 := 106) (pc' := 118) rfl (hb hby d24_106) rfl ((if0 _ _).trans (teq (by decide : (0 : Int32) = (0 : Int32))).1) (by decide) (by decide) ?_
    refine XS.iload X10.here hx rfl (hb hby d24_118) rfl  ?_
    show Steps p.tables e below (T10.setTop (mkF m 120 #[.val (.int i0), .val (.int (5 : Int32)), .val (.ref p2), .unset, .unset, .val (.int (3 : Int32)), .val (.int (0 : Int32))] [(.int (3 : Int32))])) _
    exact retI X10 hx Bd.returns (hb hby d24_120) hr
  · show Q_rmGC2 Z p0 p2 zc fm wO cO wT cT kb v0 v1 v2 d1 d2 h0 n0 _ T10.heap _
    rw [e10]
    exact ⟨rfl, N10, K10, V10⟩
theorem ef_rmAppI2 (m : MethodId) (p0 : Addr) (p1 : Int32) : entryFrame m #[(.ref p0), (.int p1)] 4 = mkF m 0 #[.val (.ref p0), .val (.int p1), .unset, .unset] [] := by first | (simp [entryFrame, mkF, argsToLocals, Value.category]; done) | rfl
def Q_rmAppI2 (Z : State) (p0 : Addr) (p1 : Int32) (zc : Int32) (fm : Value) (wO : Addr) (cO : Cell) (wT : Addr) (cT : Cell) (t : Addr) (kb : ClassId) (b0 : Int32) (b1 : Int32) (b2 : Int32) (d1 : Int32) (d2 : Int32) (h0 : Heap) (n0 : Nat) (v : Option Value) (h : Heap) (L : List Loc) : Prop := v = some (.ref p0) ∧ Fr n0 L ∧ Keep h0 h [p0, t] ∧ Fld Z h p0 "java/lang/AbstractStringBuilder" "value" "[B" (.ref t) ∧ Fld Z h p0 "java/lang/AbstractStringBuilder" "coder" "B" (.int (0 : Int32)) ∧ Fld Z h p0 "java/lang/AbstractStringBuilder" "count" "I" (.int (Int32.ofNat ([b0, b1, b2, d1, d2]).length)) ∧ Arv Z h t kb .byte (16 : Int32) (own_nrw ([b0, b1, b2, d1, d2])) (.int (0 : Int32))
set_option maxRecDepth 65536 in
set_option maxHeartbeats 40000000 in
theorem rmAppI2 (l : Launch) (Z : State) (a0 : Array Value) (hw : ∀ d ∈ tables_1, d.before a0 Z = true) (ws : List Jvm.Cond) (p0 : Addr) (p1 : Int32) (zc : Int32) (fm : Value) (wO : Addr) (cO : Cell) (wT : Addr) (cT : Cell) (t : Addr) (kb : ClassId) (b0 : Int32) (b1 : Int32) (b2 : Int32) (d1 : Int32) (d2 : Int32) (h0 : Heap) (n0 : Nat) (Z0 : n0 ≤ h0.size) (hSt : own_St Z zc fm) (Ol : own_Old Z n0 h0) (hDT : own_DT Z wO cO wT cT) (Eb : Exa Z h0 p0 "java/lang/StringBuilder") (Fbv : Fld Z h0 p0 "java/lang/AbstractStringBuilder" "value" "[B" (.ref t)) (Fbc : Fld Z h0 p0 "java/lang/AbstractStringBuilder" "coder" "B" (.int (0 : Int32))) (Fbn : Fld Z h0 p0 "java/lang/AbstractStringBuilder" "count" "I" (.int (3 : Int32))) (Ab : Arv Z h0 t kb .byte (16 : Int32) (own_nrw [b0, b1, b2]) (.int (0 : Int32))) (gb_ : n0 ≤ p0) (gt_ : n0 ≤ t) (npt : p0 ≠ t) (hp0 : 0 ≤ p1.toInt) (hlo : 10 ≤ p1.toInt) (hhi : p1.toInt < 100) (hd1 : d1.toInt = 48 + p1.toInt / 10 % 10) (hd2 : d2.toInt = 48 + p1.toInt % 10) :
    MetFree l (⟨"java/lang/AbstractStringBuilder", "append", "(I)Ljava/lang/AbstractStringBuilder;"⟩ : MethodName) (head1 (Jvm.Cond.code (⟨"java/lang/AbstractStringBuilder", "append", "(I)Ljava/lang/AbstractStringBuilder;"⟩ : MethodName) jdk_68_method_32_code 4 (some (.object "java/lang/AbstractStringBuilder")) :: ws) ({ frames := 1, cells := 0, slots := 0, locals := 18 } : Room)) (fun a U => a = #[(.ref p0), (.int p1)] ∧ Z.Warmed39 U.vm ∧ U.heap = h0) (fun _ _ _ _ _ => True) (fun _ U o U' => ∃ v L, o = .returned v ∧ Q_rmAppI2 Z p0 p1 zc fm wO cO wT cT t kb b0 b1 b2 d1 d2 h0 n0 v U'.heap L ∧ FrameEnd U o U' L ({ frames := 1, cells := 0, slots := 0, locals := 18 } : Room).cells ({ frames := 1, cells := 0, slots := 0, locals := 18 } : Room).slots) := by
  refine MetFree.of_bodySF (plainFor_of_name pn_java_lang_AbstractStringBuilder) hisR ?_
  intro p e s m args below meth c s₁ Bd hml0 hP hK
  obtain ⟨rfl, hZ, hh⟩ := hP
  have hx := Bd.exec
  have hby := Bd.bytes
  have hml : c.maxLocals = 4 := hml0
  have hown : s.vm.findClass "java/lang/AbstractStringBuilder" = some m.cls := findClass_of_methodNamed Bd.named
  have hnm := (name_of_methodNamed Bd.named Bd.method).1
  have hZo := hZ
  have howno := hown
  have X0 : Stand p l e ({ frames := 1, cells := 0, slots := 0, locals := 18 } : Room) s m #[(.ref p0), (.int p1)] below meth c s₁ [] 0 0 := Stand.of_body Bd
  have e0 : s₁.heap = h0 := by rw [← hh, Bd.state]; rfl
  have N0 := Fr.nil n0
  have pre0 : ∀ t, Steps p.tables e below (s₁.setTop (mkF m 0 #[.val (.ref p0), .val (.int p1), .unset, .unset] [])) t → Steps p.tables e below (s₁.setTop (entryFrame m #[(.ref p0), (.int p1)] 4)) t := fun t k => castTop (ef_rmAppI2 m p0 p1 ) k
  obtain ⟨T1, X1, e1, st1⟩ := getF X0 hx hZ hown (host := "") (Or.inl (hw _ (own_m 91 rfl))) Via.refl e0 Fbn (g := (mkF m 1 #[.val (.ref p0), .val (.int p1), .unset, .unset] [(.ref p0)])) rfl rfl (hb hby d21_1)
  obtain ⟨_, _, ⟨T2, L2, k2, n2⟩, -, X2, ⟨Lc2, hQ2, l2, y2, z2⟩, st2⟩ := Jvm.LawKit.callS X1 hx (y := (⟨"java/lang/Integer", "stringSize", "(I)I"⟩ : MethodName)) hown (mvT hZ (hw _ (own_m 130 rfl))) (mvT hZ (hw _ (own_m 131 rfl))) (mvT hZ (hw _ (own_m 132 rfl))) (mvT hZ (hw _ (own_m 133 rfl))) (by decide) (backOf (W := 1) (rmSS2 l Z a0 hw [] p1 zc fm  h0 n0 Z0 hSt Ol hp0 hlo hhi) hZ (hw _ (own_m 133 rfl)) (hw _ (own_m 132 rfl)) (by decide) (by decide)) (g := (mkF m 7 #[.val (.ref p0), .val (.int p1), .val (.int (3 : Int32)), .unset] [(.int p1), (.int (3 : Int32))])) rfl (by rw [hml]; rfl) (argsL := [(.int p1)]) (rest := [(.int (3 : Int32))]) (lenOf pd__I_I rfl) rfl (by show 2 * 0 + _ ≤ _; exact Nat.le_of_eq rfl) (hb hby d21_7) (fun _ _ => ⟨rfl, e1, (by decide : 0 + 0 ≤ _), (by decide : 0 + 0 ≤ _)⟩)
  dsimp only [Pt.U, Pt.locs, Pt.cells, Pt.slots] at X2 l2 y2 z2 st2 hQ2
  subst l2 y2 z2
  obtain ⟨rfl, Nq2, e2⟩ := hQ2
  have N2 := Fr.app N0 Nq2
  obtain ⟨cq3, kq3, q3a, q3b, q3c⟩ := isOf hZ e2 Eb
  obtain ⟨_, _, ⟨T3, L3, k3, n3⟩, -, X3, ⟨Lc3, hQ3, l3, y3, z3⟩, st3⟩ := X2.virtualBack hx (y := (⟨"java/lang/AbstractStringBuilder", "ensureCapacityInternal", "(I)V"⟩ : MethodName)) (z := (⟨"java/lang/AbstractStringBuilder", "ensureCapacityInternal", "(I)V"⟩ : MethodName)) hown (mvT hZ (hw _ (own_m 93 rfl))) (mvT hZ (own_decl (hw _ (own_m 94 rfl)) (hw _ (own_m 97 rfl)))) (notFace_of_selects (args := #[]) (mvT hZ (hw _ (own_m 96 rfl)))) (mvT hZ (hw _ (own_m 96 rfl))) (mvT hZ (hw _ (own_m 94 rfl))) (by decide) (backOf (W := 0) (rmEns l Z a0 hw [] p0 (5 : Int32) zc fm t kb (own_nrw [b0, b1, b2]) h0 n0 Z0 hSt Ol Fbv Fbc Ab (by decide)) hZ (hw _ (own_m 97 rfl)) (hw _ (own_m 63 rfl)) (by decide) (by decide)) q3a q3c (g := (mkF m 14 #[.val (.ref p0), .val (.int p1), .val (.int (3 : Int32)), .val (.int (5 : Int32))] [(.int (5 : Int32)), (.ref p0)])) rfl (by rw [hml]; rfl) (Steps.refl _) (argsL := [(.int (5 : Int32))]) (rest := []) (lenOf pd__I_V rfl) rfl (by show 2 * 0 + _ ≤ _; exact Nat.le_of_eq rfl) (hb hby d21_14) (fun _ _ => ⟨rfl, e2, (by decide : 0 + 0 ≤ _), (by decide : 0 + 0 ≤ _)⟩)
  dsimp only [Pt.U, Pt.locs, Pt.cells, Pt.slots] at X3 l3 y3 z3 st3 hQ3
  subst l3 y3 z3
  obtain ⟨rfl, Nq3, e3⟩ := hQ3
  have N3 := Fr.app N2 Nq3
  obtain ⟨cq4, kq4, q4a, q4b, q4c⟩ := isOf hZ e3 Eb
  obtain ⟨_, _, ⟨T4, L4, k4, n4⟩, -, X4, ⟨Lc4, hQ4, l4, y4, z4⟩, st4⟩ := X3.virtualBack hx (y := (⟨"java/lang/AbstractStringBuilder", "isLatin1", "()Z"⟩ : MethodName)) (z := (⟨"java/lang/AbstractStringBuilder", "isLatin1", "()Z"⟩ : MethodName)) hown (mvT hZ (hw _ (own_m 134 rfl))) (mvT hZ (hw _ (own_m 135 rfl))) (notFace_of_selects (args := #[]) (mvT hZ (hw _ (own_m 137 rfl)))) (mvT hZ (hw _ (own_m 137 rfl))) (mvT hZ (hw _ (own_m 136 rfl))) (by decide) (backOf (W := 0) (rmBLat l Z a0 hw [] p0 zc fm  h0 n0 Z0 hSt Ol Fbc) hZ (hw _ (own_m 138 rfl)) (hw _ (own_m 63 rfl)) (by decide) (by decide)) q4a q4c (g := (mkF m 18 #[.val (.ref p0), .val (.int p1), .val (.int (3 : Int32)), .val (.int (5 : Int32))] [(.ref p0)])) rfl (by rw [hml]; rfl) (Steps.refl _) (argsL := []) (rest := []) (lenOf pd___Z rfl) rfl (by show 2 * 0 + _ ≤ _; exact Nat.le_of_eq rfl) (hb hby d21_18) (fun _ _ => ⟨rfl, e3, (by decide : 0 + 0 ≤ _), (by decide : 0 + 0 ≤ _)⟩)
  dsimp only [Pt.U, Pt.locs, Pt.cells, Pt.slots] at X4 l4 y4 z4 st4 hQ4
  subst l4 y4 z4
  obtain ⟨rfl, Nq4, e4⟩ := hQ4
  have N4 := Fr.app N3 Nq4
  obtain ⟨T5, X5, e5, st5⟩ := getF X4 hx hZ hown (host := "") (Or.inl (hw _ (own_m 67 rfl))) Via.refl e4 Fbv (g := (mkF m 27 #[.val (.ref p0), .val (.int p1), .val (.int (3 : Int32)), .val (.int (5 : Int32))] [(.ref p0), (.int (5 : Int32)), (.int p1)])) rfl rfl (hb hby d21_27)
  obtain ⟨_, _, ⟨T6, L6, k6, n6⟩, -, X6, ⟨Lc6, hQ6, l6, y6, z6⟩, st6⟩ := Jvm.LawKit.callS X5 hx (y := (⟨"java/lang/Integer", "getChars", "(II[B)I"⟩ : MethodName)) hown (mvT hZ (hw _ (own_m 139 rfl))) (mvT hZ (hw _ (own_m 140 rfl))) (mvT hZ (hw _ (own_m 132 rfl))) (mvT hZ (hw _ (own_m 141 rfl))) (by decide) (backOf (W := 0) (rmGC2 l Z a0 hw [] p1 t zc fm wO cO wT cT kb (.int (own_b b0)) (.int (own_b b1)) (.int (own_b b2)) d1 d2 h0 n0 Z0 hSt Ol hDT (Ab.pad (pad_rep (own_nrw [b0, b1, b2]) (.int (0 : Int32)) 13)) gt_ hp0 hlo hhi hd1 hd2) hZ (hw _ (own_m 141 rfl)) (hw _ (own_m 132 rfl)) (by decide) (by decide)) (g := (mkF m 30 #[.val (.ref p0), .val (.int p1), .val (.int (3 : Int32)), .val (.int (5 : Int32))] [(.ref t), (.int (5 : Int32)), (.int p1)])) rfl (by rw [hml]; rfl) (argsL := [(.int p1), (.int (5 : Int32)), (.ref t)]) (rest := []) (lenOf pd__II_B_I rfl) rfl (by show 2 * 0 + _ ≤ _; exact Nat.le_of_eq rfl) (hb hby d21_30) (fun _ _ => ⟨rfl, e5, (by decide : 0 + 0 ≤ _), (by decide : 0 + 0 ≤ _)⟩)
  dsimp only [Pt.U, Pt.locs, Pt.cells, Pt.slots] at X6 l6 y6 z6 st6 hQ6
  subst l6 y6 z6
  obtain ⟨rfl, Nq6, K6, at_⟩ := hQ6
  have N6 := Fr.app N4 Nq6
  have KK6 := (Keep.refl h0 [p0, t]).trans K6 (allS (Or.inl (own_m 1 rfl)) all0)
  rw [own_bdd hd1, own_bdd hd2] at at_
  have au_ : Arv Z T6.heap t kb .byte (16 : Int32) (own_nrw [b0, b1, b2, d1, d2]) (.int (0 : Int32)) := at_.pad (fun i => (pad_rep (own_nrw [b0, b1, b2, d1, d2]) _ 11 i).symm)
  have f7 := (Eb.keep K6)
  have f8 := (Fbn.keep K6 (ninS npt nin0))
  obtain ⟨T9, h9, X9, e9, W9, st9⟩ := putF X6 hx hZ hown (host := "") (Or.inl (hw _ (own_m 91 rfl))) Via.refl rfl f8 f7 (Or.inl (hw _ (own_m 92 rfl))) (hw _ (own_m 54 rfl)) (ty := .int) (by decide) rfl rfl (g := (mkF m 50 #[.val (.ref p0), .val (.int p1), .val (.int (3 : Int32)), .val (.int (5 : Int32))] [(.int (5 : Int32)), (.ref p0)])) rfl rfl (hb hby d21_50)
  have Fw9 := f8.same W9
  have N9 := Fr.snoc X9 N6 gb_
  have K9 := KK6.wr W9 (Or.inl (own_m 0 rfl))
  have f10 := ((Fbv.keep K6 (ninS npt nin0)).other W9 (Or.inr (slot_ne (Or.inl (hw _ (own_m 68 rfl))) (Or.inl (hw _ (own_m 92 rfl))) (by decide) (t := (.array .byte)) (t' := .int) (by decide) (by decide))))
  have f11 := ((Fbc.keep K6 (ninS npt nin0)).other W9 (Or.inr (slot_ne (Or.inl (hw _ (own_m 70 rfl))) (Or.inl (hw _ (own_m 92 rfl))) (by decide) (t := .byte) (t' := .int) (by decide) (by decide))))
  have f12 := (au_.other W9 (Ne.symm npt))
  obtain ⟨fs, hr, hrun, hended, hW, hsame⟩ := X9.leave (v := some (.ref p0)) (fun h => by rw [Bd.returns] at h; cases h)
  refine ⟨_, _, pre0 _ ?_, hrun, hended, _, _, rfl, ?_, ⟨_, rfl⟩, hW, hsame.mono (by decide) (by decide)⟩
  · show Steps p.tables e below (s₁.setTop (mkF m 0 #[.val (.ref p0), .val (.int p1), .unset, .unset] [])) _
    refine XS.aloadN X0.here hx rfl (hb hby d21_0) rfl rfl ?_
    show Steps p.tables e below (s₁.setTop (mkF m 1 #[.val (.ref p0), .val (.int p1), .unset, .unset] [(.ref p0)])) _
    refine st1 _ ?_
    show Steps p.tables e below (T1.setTop (mkF m 4 #[.val (.ref p0), .val (.int p1), .unset, .unset] [(.int (3 : Int32))])) _
    refine XS.istoreN X1.here hx rfl (hb hby d21_4) rfl (l' := #[.val (.ref p0), .val (.int p1), .val (.int (3 : Int32)), .unset]) rfl ?_
    refine XS.iloadN X1.here hx rfl (hb hby d21_5) rfl  ?_
    refine XS.iloadN X1.here hx rfl (hb hby d21_6) rfl  ?_
    show Steps p.tables e below (T1.setTop (mkF m 7 #[.val (.ref p0), .val (.int p1), .val (.int (3 : Int32)), .unset] [(.int p1), (.int (3 : Int32))])) _
    refine st2 _ ?_
    show Steps p.tables e below (T2.setTop (mkF m 10 #[.val (.ref p0), .val (.int p1), .val (.int (3 : Int32)), .unset] [(.int (2 : Int32)), (.int (3 : Int32))])) _
    refine XS.iadd X2.here hx rfl (hb hby d21_10) rfl ?_
    refine XS.istoreN X2.here hx rfl (hb hby d21_11) rfl (l' := #[.val (.ref p0), .val (.int p1), .val (.int (3 : Int32)), .val (.int (5 : Int32))]) rfl ?_
    refine XS.aloadN X2.here hx rfl (hb hby d21_12) rfl rfl ?_
    refine XS.iloadN X2.here hx rfl (hb hby d21_13) rfl  ?_
    show Steps p.tables e below (T2.setTop (mkF m 14 #[.val (.ref p0), .val (.int p1), .val (.int (3 : Int32)), .val (.int (5 : Int32))] [(.int (5 : Int32)), (.ref p0)])) _
    refine st3.trans ?_
    show Steps p.tables e below (T3.setTop (mkF m 17 #[.val (.ref p0), .val (.int p1), .val (.int (3 : Int32)), .val (.int (5 : Int32))] [])) _
    refine XS.aloadN X3.here hx rfl (hb hby d21_17) rfl rfl ?_
    show Steps p.tables e below (T3.setTop (mkF m 18 #[.val (.ref p0), .val (.int p1), .val (.int (3 : Int32)), .val (.int (5 : Int32))] [(.ref p0)])) _
    refine st4.trans ?_
    show Steps p.tables e below (T4.setTop (mkF m 21 #[.val (.ref p0), .val (.int p1), .val (.int (3 : Int32)), .val (.int (5 : Int32))] [(.int (1 : Int32))])) _
    refine XS.ifNo X4.here hx rfl (hb hby d21_21) rfl ((if0 _ _).trans (feq (by decide : ¬ ((1 : Int32) = (0 : Int32)))).1) ?_
    refine XS.iloadN X4.here hx rfl (hb hby d21_24) rfl  ?_
    refine XS.iloadN X4.here hx rfl (hb hby d21_25) rfl  ?_
    refine XS.aloadN X4.here hx rfl (hb hby d21_26) rfl rfl ?_
    show Steps p.tables e below (T4.setTop (mkF m 27 #[.val (.ref p0), .val (.int p1), .val (.int (3 : Int32)), .val (.int (5 : Int32))] [(.ref p0), (.int (5 : Int32)), (.int p1)])) _
    refine st5 _ ?_
    show Steps p.tables e below (T5.setTop (mkF m 30 #[.val (.ref p0), .val (.int p1), .val (.int (3 : Int32)), .val (.int (5 : Int32))] [(.ref t), (.int (5 : Int32)), (.int p1)])) _
    refine st6 _ ?_
    show Steps p.tables e below (T6.setTop (mkF m 33 #[.val (.ref p0), .val (.int p1), .val (.int (3 : Int32)), .val (.int (5 : Int32))] [(.int (3 : Int32))])) _
    refine XS.pop X6.here hx rfl (hb hby d21_33) rfl rfl ?_
    refine XS.goto X6.here hx rfl (pc0 := 34) (pc' := 48) rfl (hb hby d21_34) (by decide) (by decide) ?_
    refine XS.aloadN X6.here hx rfl (hb hby d21_48) rfl rfl ?_
    refine XS.iloadN X6.here hx rfl (hb hby d21_49) rfl  ?_
    show Steps p.tables e below (T6.setTop (mkF m 50 #[.val (.ref p0), .val (.int p1), .val (.int (3 : Int32)), .val (.int (5 : Int32))] [(.int (5 : Int32)), (.ref p0)])) _
    refine st9 _ ?_
    show Steps p.tables e below (T9.setTop (mkF m 53 #[.val (.ref p0), .val (.int p1), .val (.int (3 : Int32)), .val (.int (5 : Int32))] [])) _
    refine XS.aloadN X9.here hx rfl (hb hby d21_53) rfl rfl ?_
    show Steps p.tables e below (T9.setTop (mkF m 54 #[.val (.ref p0), .val (.int p1), .val (.int (3 : Int32)), .val (.int (5 : Int32))] [(.ref p0)])) _
    jvm_step X9.here [X9.here.top, hx, (hb hby d21_54), X9.method', Bd.returns, Value.isRef, FieldType.isReference]
    first | (intro acts; rw [hr _ acts rfl rfl rfl]) | rw [hr _ _ rfl rfl rfl]
    exact Steps.refl _
  · show Q_rmAppI2 Z p0 p1 zc fm wO cO wT cT t kb b0 b1 b2 d1 d2 h0 n0 _ T9.heap _
    rw [e9]
    exact ⟨rfl, N9, K9, f10, f11, Fw9, f12⟩
theorem ef_rmSAppI2 (m : MethodId) (p0 : Addr) (p1 : Int32) : entryFrame m #[(.ref p0), (.int p1)] 2 = mkF m 0 #[.val (.ref p0), .val (.int p1)] [] := by first | (simp [entryFrame, mkF, argsToLocals, Value.category]; done) | rfl
def Q_rmSAppI2 (Z : State) (p0 : Addr) (p1 : Int32) (zc : Int32) (fm : Value) (wO : Addr) (cO : Cell) (wT : Addr) (cT : Cell) (t : Addr) (kb : ClassId) (b0 : Int32) (b1 : Int32) (b2 : Int32) (d1 : Int32) (d2 : Int32) (h0 : Heap) (n0 : Nat) (v : Option Value) (h : Heap) (L : List Loc) : Prop := v = some (.ref p0) ∧ Fr n0 L ∧ Keep h0 h [p0, t] ∧ Fld Z h p0 "java/lang/AbstractStringBuilder" "value" "[B" (.ref t) ∧ Fld Z h p0 "java/lang/AbstractStringBuilder" "coder" "B" (.int (0 : Int32)) ∧ Fld Z h p0 "java/lang/AbstractStringBuilder" "count" "I" (.int (Int32.ofNat ([b0, b1, b2, d1, d2]).length)) ∧ Arv Z h t kb .byte (16 : Int32) (own_nrw ([b0, b1, b2, d1, d2])) (.int (0 : Int32))
set_option maxRecDepth 65536 in
set_option maxHeartbeats 40000000 in
theorem rmSAppI2 (l : Launch) (Z : State) (a0 : Array Value) (hw : ∀ d ∈ tables_1, d.before a0 Z = true) (ws : List Jvm.Cond) (p0 : Addr) (p1 : Int32) (zc : Int32) (fm : Value) (wO : Addr) (cO : Cell) (wT : Addr) (cT : Cell) (t : Addr) (kb : ClassId) (b0 : Int32) (b1 : Int32) (b2 : Int32) (d1 : Int32) (d2 : Int32) (h0 : Heap) (n0 : Nat) (Z0 : n0 ≤ h0.size) (hSt : own_St Z zc fm) (Ol : own_Old Z n0 h0) (hDT : own_DT Z wO cO wT cT) (Eb : Exa Z h0 p0 "java/lang/StringBuilder") (Fbv : Fld Z h0 p0 "java/lang/AbstractStringBuilder" "value" "[B" (.ref t)) (Fbc : Fld Z h0 p0 "java/lang/AbstractStringBuilder" "coder" "B" (.int (0 : Int32))) (Fbn : Fld Z h0 p0 "java/lang/AbstractStringBuilder" "count" "I" (.int (3 : Int32))) (Ab : Arv Z h0 t kb .byte (16 : Int32) (own_nrw [b0, b1, b2]) (.int (0 : Int32))) (gb_ : n0 ≤ p0) (gt_ : n0 ≤ t) (npt : p0 ≠ t) (hp0 : 0 ≤ p1.toInt) (hlo : 10 ≤ p1.toInt) (hhi : p1.toInt < 100) (hd1 : d1.toInt = 48 + p1.toInt / 10 % 10) (hd2 : d2.toInt = 48 + p1.toInt % 10) :
    MetFree l (⟨"java/lang/StringBuilder", "append", "(I)Ljava/lang/StringBuilder;"⟩ : MethodName) (head1 (Jvm.Cond.code (⟨"java/lang/StringBuilder", "append", "(I)Ljava/lang/StringBuilder;"⟩ : MethodName) jdk_67_method_15_code 2 (some (.object "java/lang/StringBuilder")) :: ws) ({ frames := 2, cells := 0, slots := 0, locals := 33 } : Room)) (fun a U => a = #[(.ref p0), (.int p1)] ∧ Z.Warmed39 U.vm ∧ U.heap = h0) (fun _ _ _ _ _ => True) (fun _ U o U' => ∃ v L, o = .returned v ∧ Q_rmSAppI2 Z p0 p1 zc fm wO cO wT cT t kb b0 b1 b2 d1 d2 h0 n0 v U'.heap L ∧ FrameEnd U o U' L ({ frames := 2, cells := 0, slots := 0, locals := 33 } : Room).cells ({ frames := 2, cells := 0, slots := 0, locals := 33 } : Room).slots) := by
  refine MetFree.of_bodySF (plainFor_of_name pn_java_lang_StringBuilder) hisR ?_
  intro p e s m args below meth c s₁ Bd hml0 hP hK
  obtain ⟨rfl, hZ, hh⟩ := hP
  have hx := Bd.exec
  have hby := Bd.bytes
  have hml : c.maxLocals = 2 := hml0
  have hown : s.vm.findClass "java/lang/StringBuilder" = some m.cls := findClass_of_methodNamed Bd.named
  have hnm := (name_of_methodNamed Bd.named Bd.method).1
  have hZo := hZ
  have howno := hown
  have X0 : Stand p l e ({ frames := 2, cells := 0, slots := 0, locals := 33 } : Room) s m #[(.ref p0), (.int p1)] below meth c s₁ [] 0 0 := Stand.of_body Bd
  have e0 : s₁.heap = h0 := by rw [← hh, Bd.state]; rfl
  have N0 := Fr.nil n0
  have pre0 : ∀ t, Steps p.tables e below (s₁.setTop (mkF m 0 #[.val (.ref p0), .val (.int p1)] [])) t → Steps p.tables e below (s₁.setTop (entryFrame m #[(.ref p0), (.int p1)] 2)) t := fun t k => castTop (ef_rmSAppI2 m p0 p1 ) k
  obtain ⟨_, _, ⟨T1, L1, k1, n1⟩, -, X1, ⟨Lc1, hQ1, l1, y1, z1⟩, st1⟩ := superBack X0 hx hZ (y := (⟨"java/lang/AbstractStringBuilder", "append", "(I)Ljava/lang/AbstractStringBuilder;"⟩ : MethodName)) hown (hw _ (own_m 126 rfl)) (own_same (y := (⟨"java/lang/AbstractStringBuilder", "append", "(I)Ljava/lang/AbstractStringBuilder;"⟩ : MethodName)) (hw _ (own_m 128 rfl)) (by decide) (hw _ (own_m 96 rfl)) rfl) (hw _ (own_m 127 rfl)) (hw _ (own_m 78 rfl)) (by decide) (backOf (W := 0) (rmAppI2 l Z a0 hw [] p0 p1 zc fm wO cO wT cT t kb b0 b1 b2 d1 d2 h0 n0 Z0 hSt Ol hDT Eb Fbv Fbc Fbn Ab gb_ gt_ npt hp0 hlo hhi hd1 hd2) hZ (hw _ (own_m 129 rfl)) (hw _ (own_m 63 rfl)) (by decide) (by decide)) e0 (Ins.self Eb) (g := (mkF m 2 #[.val (.ref p0), .val (.int p1)] [(.int p1), (.ref p0)])) rfl (by rw [hml]; rfl) (hw _ (own_m 129 rfl)) (argsL := [(.int p1)]) (rest := []) (lenOf pd__I_Ljava_lang_AbstractStringBuilder_ rfl) rfl (by show 2 * 0 + _ ≤ _; exact Nat.le_of_eq rfl) (hb hby d20_2) (fun _ _ => ⟨rfl, e0, (by decide : 0 + 0 ≤ _), (by decide : 0 + 0 ≤ _)⟩)
  dsimp only [Pt.U, Pt.locs, Pt.cells, Pt.slots] at X1 l1 y1 z1 st1 hQ1
  subst l1 y1 z1
  obtain ⟨rfl, Nq1, K1, fv_, fc_, fn_, at_⟩ := hQ1
  have N1 := Fr.app N0 Nq1
  have KK1 := (Keep.refl h0 [p0, t]).trans K1 (allS (Or.inl (own_m 0 rfl)) (allS (Or.inl (own_m 1 rfl)) all0))
  obtain ⟨fs, hr, hrun, hended, hW, hsame⟩ := X1.leave (v := some (.ref p0)) (fun h => by rw [Bd.returns] at h; cases h)
  refine ⟨_, _, pre0 _ ?_, hrun, hended, _, _, rfl, ?_, ⟨_, rfl⟩, hW, hsame.mono (by decide) (by decide)⟩
  · show Steps p.tables e below (s₁.setTop (mkF m 0 #[.val (.ref p0), .val (.int p1)] [])) _
    refine XS.aloadN X0.here hx rfl (hb hby d20_0) rfl rfl ?_
    refine XS.iloadN X0.here hx rfl (hb hby d20_1) rfl  ?_
    show Steps p.tables e below (s₁.setTop (mkF m 2 #[.val (.ref p0), .val (.int p1)] [(.int p1), (.ref p0)])) _
    refine st1.trans ?_
    show Steps p.tables e below (T1.setTop (mkF m 5 #[.val (.ref p0), .val (.int p1)] [(.ref p0)])) _
    refine XS.pop X1.here hx rfl (hb hby d20_5) rfl rfl ?_
    refine XS.aloadN X1.here hx rfl (hb hby d20_6) rfl rfl ?_
    show Steps p.tables e below (T1.setTop (mkF m 7 #[.val (.ref p0), .val (.int p1)] [(.ref p0)])) _
    jvm_step X1.here [X1.here.top, hx, (hb hby d20_7), X1.method', Bd.returns, Value.isRef, FieldType.isReference]
    first | (intro acts; rw [hr _ acts rfl rfl rfl]) | rw [hr _ _ rfl rfl rfl]
    exact Steps.refl _
  · show Q_rmSAppI2 Z p0 p1 zc fm wO cO wT cT t kb b0 b1 b2 d1 d2 h0 n0 _ T1.heap _
    exact ⟨rfl, N1, KK1, fv_, fc_, fn_, at_⟩
theorem ef_rmTS2 (m : MethodId) (p0 : Addr) : entryFrame m #[(.ref p0)] 1 = mkF m 0 #[.val (.ref p0)] [] := by first | (simp [entryFrame, mkF, argsToLocals, Value.category]; done) | rfl
def Q_rmTS2 (Z : State) (p0 : Addr) (zc : Int32) (fm : Value) (wO : Addr) (cO : Cell) (wT : Addr) (cT : Cell) (x : Addr) (ts : Addr) (ks : ClassId) (c0 : Int32) (c1 : Int32) (pt : Int32) (d1 : Int32) (d2 : Int32) (h0 : Heap) (n0 : Nat) (v : Option Value) (h : Heap) (L : List Loc) : Prop := (∃ (r ts : Addr) (ks : ClassId), v = some (.ref r) ∧ Exa Z h r "java/lang/String" ∧ Fld Z h r "java/lang/String" "value" "[B" (.ref ts) ∧ Fld Z h r "java/lang/String" "coder" "B" (.int (0 : Int32)) ∧ Arv Z h ts ks .byte (Int32.ofNat [c0, c1, 58, d1, d2].length) (own_nrw [c0, c1, 58, d1, d2]) (.int (0 : Int32))) ∧ Fr n0 L ∧ Keep h0 h []
set_option maxRecDepth 65536 in
set_option maxHeartbeats 40000000 in
theorem rmTS2 (l : Launch) (Z : State) (a0 : Array Value) (hw : ∀ d ∈ tables_1, d.before a0 Z = true) (ws : List Jvm.Cond) (p0 : Addr) (zc : Int32) (fm : Value) (wO : Addr) (cO : Cell) (wT : Addr) (cT : Cell) (x : Addr) (ts : Addr) (ks : ClassId) (c0 : Int32) (c1 : Int32) (pt : Int32) (d1 : Int32) (d2 : Int32) (h0 : Heap) (n0 : Nat) (Z0 : n0 ≤ h0.size) (hSt : own_St Z zc fm) (Ol : own_Old Z n0 h0) (hDT : own_DT Z wO cO wT cT) (Fh : Fld Z h0 p0 "com/example/kikao/kikao/Domain" "host" "Ljava/lang/String;" (.ref x)) (Fp : Fld Z h0 p0 "com/example/kikao/kikao/Domain" "port" "I" (.int pt)) (Es : Exa Z h0 x "java/lang/String") (Fsv : Fld Z h0 x "java/lang/String" "value" "[B" (.ref ts)) (Fsc : Fld Z h0 x "java/lang/String" "coder" "B" (.int (0 : Int32))) (As : Arv Z h0 ts ks .byte (Int32.ofNat [c0, c1].length) (own_nrw [c0, c1]) (.int (0 : Int32))) (hle : ∀ c ∈ [c0, c1], ¬ (255 : Int32) < c) (hch : own_Chs [c0, c1]) (hp0 : 0 ≤ pt.toInt) (hlo : 10 ≤ pt.toInt) (hhi : pt.toInt < 100) (hd1 : d1.toInt = 48 + pt.toInt / 10 % 10) (hd2 : d2.toInt = 48 + pt.toInt % 10) (hn0 : n0 = h0.size) (hheld : Jvm.Lit.constHeld Z "com/example/kikao/kikao/Domain" 140) (hcw : Jvm.Lit.compactW.before a0 Z = true) :
    MetFree l (⟨"com/example/kikao/kikao/Domain", "toString", "()Ljava/lang/String;"⟩ : MethodName) (head1 (Jvm.Cond.code (⟨"com/example/kikao/kikao/Domain", "toString", "()Ljava/lang/String;"⟩ : MethodName) prog_6_method_6_code 1 (some (.object "java/lang/String")) :: ws) ({ frames := 6, cells := 6, slots := 48, locals := 91 } : Room)) (fun a U => a = #[(.ref p0)] ∧ Z.Warmed39 U.vm ∧ U.heap = h0 ∧ U.vm.interned = Z.vm.interned) (fun _ _ _ _ _ => True) (fun _ U o U' => ∃ v L, o = .returned v ∧ Q_rmTS2 Z p0 zc fm wO cO wT cT x ts ks c0 c1 pt d1 d2 h0 n0 v U'.heap L ∧ ReturnedEndW U o U' L ({ frames := 6, cells := 6, slots := 48, locals := 91 } : Room).cells ({ frames := 6, cells := 6, slots := 48, locals := 91 } : Room).slots) := by
  refine MetFree.of_bodySF (plainFor_of_name pn_com_example_kikao_kikao_Domain) hisR ?_
  intro p e s m args below meth c s₁ Bd hml0 hP hK
  obtain ⟨rfl, hZ, hh, hI⟩ := hP
  have hx := Bd.exec
  have hby := Bd.bytes
  have hml : c.maxLocals = 1 := hml0
  have hown : s.vm.findClass "com/example/kikao/kikao/Domain" = some m.cls := findClass_of_methodNamed Bd.named
  have hnm := (name_of_methodNamed Bd.named Bd.method).1
  have hZo := hZ
  have howno := hown
  have X0 : Stand p l e ({ frames := 6, cells := 6, slots := 48, locals := 91 } : Room) s m #[(.ref p0)] below meth c s₁ [] 0 0 := Stand.of_body Bd
  have e0 : s₁.heap = h0 := by rw [← hh, Bd.state]; rfl
  have N0 := Fr.nil n0
  have pre0 : ∀ t, Steps p.tables e below (s₁.setTop (mkF m 0 #[.val (.ref p0)] [])) t → Steps p.tables e below (s₁.setTop (entryFrame m #[(.ref p0)] 1)) t := fun t k => castTop (ef_rmTS2 m p0 ) k
  obtain ⟨T1, X1, e1, st1⟩ := getF X0 hx hZ hown (host := "") (Or.inl (hw _ (own_m 46 rfl))) Via.refl e0 Fp (g := (mkF m 1 #[.val (.ref p0)] [(.ref p0)])) rfl rfl (hb hby d9_1)
  obtain ⟨T2, h2, X2, e2, E2, A2, D2, -, st2⟩ := newO X1 hx hZ hown (hw _ (own_m 53 rfl)) (hw _ (own_m 54 rfl)) (hw _ (own_m 55 rfl)) e1 (g := (mkF m 15 #[.val (.ref p0)] [])) rfl (hb hby d9_15) (by decide) (by decide)
  obtain ⟨b2, g2⟩ : ∃ z, z = h0.size := ⟨_, rfl⟩
  rw [← g2] at A2 D2 st2
  have ne2_p0 : p0 ≠ b2 := Nat.ne_of_lt (Nat.lt_of_lt_of_le Fh.lt (Nat.le_of_eq g2.symm))
  have ne2_x : x ≠ b2 := Nat.ne_of_lt (Nat.lt_of_lt_of_le Es.lt (Nat.le_of_eq g2.symm))
  have ne2_ts : ts ≠ b2 := Nat.ne_of_lt (Nat.lt_of_lt_of_le As.lt (Nat.le_of_eq g2.symm))
  have ge2 : n0 ≤ b2 := Nat.le_trans Z0 (Nat.le_of_eq g2.symm)
  have sz2 : h0.size ≤ b2 := Nat.le_trans (Keep.refl h0 []).1 (Nat.le_of_eq g2.symm)
  have K2 := (Keep.refl h0 []).ext E2
  have F2_value : Fld Z h2 b2 "java/lang/AbstractStringBuilder" "value" "[B" .null := D2 (Or.inl (hw _ (own_m 68 rfl))) (ty := (.array .byte)) (by decide)
  have F2_coder : Fld Z h2 b2 "java/lang/AbstractStringBuilder" "coder" "B" (.int (0 : Int32)) := D2 (Or.inl (hw _ (own_m 70 rfl))) (ty := .byte) (by decide)
  have F2_count : Fld Z h2 b2 "java/lang/AbstractStringBuilder" "count" "I" (.int (0 : Int32)) := D2 (Or.inl (hw _ (own_m 92 rfl))) (ty := .int) (by decide)
  have f3 := (Fp.ext E2)
  have f4 := (Nat.le_trans Z0 E2.1)
  have f5 := (Ol.ext E2)
  obtain ⟨_, _, ⟨T6, L6, k6, n6⟩, -, X6, ⟨Lc6, hQ6, l6, y6, z6⟩, st6⟩ := X2.specialBack hx (y := (⟨"java/lang/StringBuilder", "<init>", "()V"⟩ : MethodName)) rfl hown (mvT hZ (hw _ (own_m 56 rfl))) (mvT hZ (hw _ (own_m 57 rfl))) (mvT hZ (hw _ (own_m 58 rfl))) (by decide) (backOf (W := 1) (rmSB0 l Z a0 hw [] b2 zc fm  h2 n0 f4 hSt f5 A2 F2_value F2_coder F2_count ge2) hZ (hw _ (own_m 58 rfl)) (hw _ (own_m 55 rfl)) (by decide) (by decide)) (g := (mkF m 19 #[.val (.ref p0)] [(.ref b2), (.ref b2)])) rfl (by rw [hml]; rfl) (Steps.refl _) (a := b2) (argsL := []) (rest := [(.ref b2)]) (lenOf pd___V rfl) rfl (by show 2 * 0 + _ ≤ _; exact Nat.le_of_eq rfl) (hb hby d9_19) (fun _ _ => ⟨rfl, e2, (by decide : 1 + 1 ≤ _), (by decide : 4 + 16 ≤ _)⟩)
  dsimp only [Pt.U, Pt.locs, Pt.cells, Pt.slots] at X6 l6 y6 z6 st6 hQ6
  subst l6 y6 z6
  obtain ⟨rfl, Nq6, K6, t_, k_, gt_, zt_, fv_, fc_, fn_, at_⟩ := hQ6
  have N6 := Fr.app N0 Nq6
  have KK6 := K2.trans K6 (allS (Or.inr sz2) all0)
  have nd_ : p0 ≠ t_ := Nat.ne_of_lt (Nat.lt_of_lt_of_le f3.lt zt_)
  have nb_ : b2 ≠ t_ := Nat.ne_of_lt (Nat.lt_of_lt_of_le A2.lt zt_)
  have zz_ : h0.size ≤ t_ := Nat.le_trans K2.1 zt_
  have f7 := ((Fh.ext E2).keep K6 (ninS ne2_p0 nin0))
  obtain ⟨T8, X8, e8, st8⟩ := getF X6 hx hZ hown (host := "") (Or.inl (hw _ (own_m 44 rfl))) Via.refl rfl f7 (g := (mkF m 23 #[.val (.ref p0)] [(.ref p0), (.ref b2)])) rfl rfl (hb hby d9_23)
  have f9 := ((Es.ext E2).keep K6)
  have f10 := ((Fsv.ext E2).keep K6 (ninS ne2_x nin0))
  have f11 := ((Fsc.ext E2).keep K6 (ninS ne2_x nin0))
  have f12 := ((As.ext E2).keep K6 (ninS ne2_ts nin0))
  have f13 := (A2.keep K6)
  have f14 := (Nat.le_trans f4 K6.1)
  have f15 := (f5.keep K6 (allS ge2 all0))
  obtain ⟨cq16, kq16, q16a, q16b, q16c⟩ := isOf hZ e8 f13
  obtain ⟨_, _, ⟨T16, L16, k16, n16⟩, -, X16, ⟨Lc16, hQ16, l16, y16, z16⟩, st16⟩ := X8.virtualBack hx (y := (⟨"java/lang/StringBuilder", "append", "(Ljava/lang/String;)Ljava/lang/StringBuilder;"⟩ : MethodName)) (z := (⟨"java/lang/StringBuilder", "append", "(Ljava/lang/String;)Ljava/lang/StringBuilder;"⟩ : MethodName)) hown (mvT hZ (hw _ (own_m 71 rfl))) (mvT hZ (hw _ (own_m 72 rfl))) (notFace_of_selects (args := #[]) (mvT hZ (hw _ (own_m 74 rfl)))) (mvT hZ (hw _ (own_m 74 rfl))) (mvT hZ (hw _ (own_m 73 rfl))) (by decide) (backOf (W := 0) (rmSAppS l Z a0 hw [] b2 x zc fm ts ks [c0, c1] t_ k_ ([] : List Int32) T6.heap n0 f14 hSt f15 f9 f10 f11 f12 hle hch f13 fv_ fc_ fn_ at_ ge2 gt_ nb_ (Nat.le_of_ble_eq_true rfl)) hZ (hw _ (own_m 75 rfl)) (hw _ (own_m 55 rfl)) (by decide) (by decide)) q16a q16c (g := (mkF m 26 #[.val (.ref p0)] [(.ref x), (.ref b2)])) rfl (by rw [hml]; rfl) (Steps.refl _) (argsL := [(.ref x)]) (rest := []) (lenOf pd__Ljava_lang_String__Ljava_lang_StringBuilder_ rfl) rfl (by show 2 * 0 + _ ≤ _; exact Nat.le_of_eq rfl) (hb hby d9_26) (fun _ _ => ⟨rfl, e8, (by decide : 2 + 0 ≤ _), (by decide : 20 + 0 ≤ _)⟩)
  dsimp only [Pt.U, Pt.locs, Pt.cells, Pt.slots] at X16 l16 y16 z16 st16 hQ16
  subst l16 y16 z16
  obtain ⟨rfl, Nq16, K16, fv_1, fc_1, fn_1, at_1⟩ := hQ16
  have N16 := Fr.app N6 Nq16
  have KK16 := KK6.trans K16 (allS (Or.inr sz2) (allS (Or.inr zz_) all0))
  have pre17 : ∀ t, Steps p.tables e below (T16.setTop (mkF m 29 #[.val (.ref p0)] [(.ref b2)])) t → Steps p.tables e below (s₁.setTop (entryFrame m #[(.ref p0)] 1)) t := fun t kt => pre0 t (by
    show Steps p.tables e below (s₁.setTop (mkF m 0 #[.val (.ref p0)] [])) _
    refine XS.aloadN X0.here hx rfl (hb hby d9_0) rfl rfl ?_
    show Steps p.tables e below (s₁.setTop (mkF m 1 #[.val (.ref p0)] [(.ref p0)])) _
    refine st1 _ ?_
    show Steps p.tables e below (T1.setTop (mkF m 4 #[.val (.ref p0)] [(.int pt)])) _
    refine XS.iconst X1.here hx rfl (hb hby d9_4) ?_
    show Steps p.tables e below (T1.setTop (mkF m 5 #[.val (.ref p0)] [(.int (-1 : Int32)), (.int pt)])) _
    refine XS.icmpYes X1.here hx rfl (pc0 := 5) (pc' := 15) rfl (hb hby d9_5) rfl (feq (fun q => by rw [q] at hp0; exact absurd hp0 (by decide))).2 (by decide) (by decide) ?_
    show Steps p.tables e below (T1.setTop (mkF m 15 #[.val (.ref p0)] [])) _
    refine st2 _ ?_
    show Steps p.tables e below (T2.setTop (mkF m 18 #[.val (.ref p0)] [(.ref b2)])) _
    refine XS.dup X2.here hx rfl (hb hby d9_18) rfl rfl ?_
    show Steps p.tables e below (T2.setTop (mkF m 19 #[.val (.ref p0)] [(.ref b2), (.ref b2)])) _
    refine st6.trans ?_
    show Steps p.tables e below (T6.setTop (mkF m 22 #[.val (.ref p0)] [(.ref b2)])) _
    refine XS.aloadN X6.here hx rfl (hb hby d9_22) rfl rfl ?_
    show Steps p.tables e below (T6.setTop (mkF m 23 #[.val (.ref p0)] [(.ref p0), (.ref b2)])) _
    refine st8 _ ?_
    show Steps p.tables e below (T8.setTop (mkF m 26 #[.val (.ref p0)] [(.ref x), (.ref b2)])) _
    refine st16.trans ?_
    show Steps p.tables e below (T16.setTop (mkF m 29 #[.val (.ref p0)] [(.ref b2)])) _
    exact kt)
  have hWr := X16.warmed
  have hS18 : s.Since T16.vm T16.heap.size := X16.warmed.since _
  have hZ18 : Z.Warmed39 (s.setVm T16.vm).vm := State.Warmed39.trans hZ X16.warmed.wide
  have hown18 : (s.setVm T16.vm).vm.findClass "com/example/kikao/kikao/Domain" = some m.cls := (X16.warmed.wide.alike.findClass _ _).trans hown
  have X18 := X16.retabled X16.warmed.wide
  have hk18 : T16.heap.size ≤ T16.heap.size := Nat.le_refl _
  obtain ⟨a19, T19, h19, k19, b19, kk19, X19, e19, E19, hS19, hk19, hZ19, hown19, Ex19, Fc19, Fv19, Av19, -, -, -, -, st19⟩ := ldcSVL X18 hx hZ18 hown18 (hw _ (own_m 118 rfl)) (own_wS hw) rfl hS18 hk18 (by rw [hh, ← hn0]; exact N16) (fun b cl q => by rw [hh]; exact Ol.2.2 b cl q) (own_IB hI hWr) (fun q => nomatch q) hheld hcw (vs := own_nrw [(58 : Int32)]) (z := (1 : Int32)) ⟨by decide +kernel, by decide +kernel⟩ (by decide) (by decide) (g := (mkF m 29 #[.val (.ref p0)] [(.ref b2)])) rfl (hb hby d9_29) (n := 4) (by decide) (by decide) (by decide) (by decide)
  have f20 := (Nat.le_trans f14 K16.1)
  have K19 := KK16.ext E19
  have f21 := ((f13.keep K16).ext E19)
  have f22 := (fv_1.ext E19)
  have f23 := (fc_1.ext E19)
  have f24 := (fn_1.ext E19)
  have f25 := (at_1.ext E19)
  have f26 := (Nat.le_trans f20 E19.1)
  have f27 := ((f15.keep K16 (allS ge2 (allS gt_ all0))).ext E19)
  obtain ⟨cq28, kq28, q28a, q28b, q28c⟩ := isOf hZ19 e19 f21
  obtain ⟨_, _, ⟨T28, L28, k28, n28⟩, -, X28, ⟨Lc28, hQ28, l28, y28, z28⟩, st28⟩ := X19.virtualBack hx (y := (⟨"java/lang/StringBuilder", "append", "(Ljava/lang/String;)Ljava/lang/StringBuilder;"⟩ : MethodName)) (z := (⟨"java/lang/StringBuilder", "append", "(Ljava/lang/String;)Ljava/lang/StringBuilder;"⟩ : MethodName)) hown19 (mvT hZ19 (hw _ (own_m 71 rfl))) (mvT hZ19 (hw _ (own_m 72 rfl))) (notFace_of_selects (args := #[]) (mvT hZ19 (hw _ (own_m 74 rfl)))) (mvT hZ19 (hw _ (own_m 74 rfl))) (mvT hZ19 (hw _ (own_m 73 rfl))) (by decide) (backOf (W := 0) (rmSAppS l Z a0 hw [] b2 a19 zc fm b19 kk19 [(58 : Int32)] t_ k_ (([] : List Int32) ++ [c0, c1]) h19 n0 f26 hSt f27 Ex19 Fv19 Fc19 Av19 (own_allc (by decide) (fun _ q => nomatch q)) ⟨own_allc ⟨by decide, by decide⟩ (fun _ q => nomatch q), by decide⟩ f21 f22 f23 f24 f25 ge2 gt_ nb_ (Nat.le_of_ble_eq_true rfl)) hZ19 (hw _ (own_m 75 rfl)) (hw _ (own_m 55 rfl)) (by decide) (by decide)) q28a q28c (g := (mkF m 31 #[.val (.ref p0)] [(.ref a19), (.ref b2)])) rfl (by rw [hml]; rfl) (Steps.refl _) (argsL := [(.ref a19)]) (rest := []) (lenOf pd__Ljava_lang_String__Ljava_lang_StringBuilder_ rfl) rfl (by show 2 * 0 + _ ≤ _; exact Nat.le_of_eq rfl) (hb hby d9_31) (fun _ _ => ⟨rfl, e19, (by decide : 4 + 0 ≤ _), (by decide : 28 + 0 ≤ _)⟩)
  dsimp only [Pt.U, Pt.locs, Pt.cells, Pt.slots] at X28 l28 y28 z28 st28 hQ28
  subst l28 y28 z28
  obtain ⟨rfl, Nq28, K28, fv_2, fc_2, fn_2, at_2⟩ := hQ28
  have N28 := Fr.app N16 Nq28
  have KK28 := K19.trans K28 (allS (Or.inr sz2) (allS (Or.inr zz_) all0))
  have f29 := ((((f3.keep K6 (ninS ne2_p0 nin0)).keep K16 (ninS ne2_p0 (ninS nd_ nin0))).ext E19).keep K28 (ninS ne2_p0 (ninS nd_ nin0)))
  obtain ⟨T30, X30, e30, st30⟩ := getF X28 hx hZ19 hown19 (host := "") (Or.inl (hw _ (own_m 46 rfl))) Via.refl rfl f29 (g := (mkF m 35 #[.val (.ref p0)] [(.ref p0), (.ref b2)])) rfl rfl (hb hby d9_35)
  have f31 := (f21.keep K28)
  have f32 := (Nat.le_trans f26 K28.1)
  have f33 := (f27.keep K28 (allS ge2 (allS gt_ all0)))
  obtain ⟨cq34, kq34, q34a, q34b, q34c⟩ := isOf hZ19 e30 f31
  obtain ⟨_, _, ⟨T34, L34, k34, n34⟩, -, X34, ⟨Lc34, hQ34, l34, y34, z34⟩, st34⟩ := X30.virtualBack hx (y := (⟨"java/lang/StringBuilder", "append", "(I)Ljava/lang/StringBuilder;"⟩ : MethodName)) (z := (⟨"java/lang/StringBuilder", "append", "(I)Ljava/lang/StringBuilder;"⟩ : MethodName)) hown19 (mvT hZ19 (hw _ (own_m 121 rfl))) (mvT hZ19 (hw _ (own_m 122 rfl))) (notFace_of_selects (args := #[]) (mvT hZ19 (hw _ (own_m 124 rfl)))) (mvT hZ19 (hw _ (own_m 124 rfl))) (mvT hZ19 (hw _ (own_m 123 rfl))) (by decide) (backOf (W := 0) (rmSAppI2 l Z a0 hw [] b2 pt zc fm wO cO wT cT t_ k_ c0 c1 58 d1 d2 T28.heap n0 f32 hSt f33 hDT f31 fv_2 fc_2 fn_2 at_2 ge2 gt_ nb_ hp0 hlo hhi hd1 hd2) hZ19 (hw _ (own_m 125 rfl)) (hw _ (own_m 55 rfl)) (by decide) (by decide)) q34a q34c (g := (mkF m 38 #[.val (.ref p0)] [(.int pt), (.ref b2)])) rfl (by rw [hml]; rfl) (Steps.refl _) (argsL := [(.int pt)]) (rest := []) (lenOf pd__I_Ljava_lang_StringBuilder_ rfl) rfl (by show 2 * 0 + _ ≤ _; exact Nat.le_of_eq rfl) (hb hby d9_38) (fun _ _ => ⟨rfl, e30, (by decide : 4 + 0 ≤ _), (by decide : 28 + 0 ≤ _)⟩)
  dsimp only [Pt.U, Pt.locs, Pt.cells, Pt.slots] at X34 l34 y34 z34 st34 hQ34
  subst l34 y34 z34
  obtain ⟨rfl, Nq34, K34, fv_3, fc_3, fn_3, at_3⟩ := hQ34
  have N34 := Fr.app N28 Nq34
  have KK34 := KK28.trans K34 (allS (Or.inr sz2) (allS (Or.inr zz_) all0))
  have f35 := (f31.keep K34)
  have f36 := (Nat.le_trans f32 K34.1)
  have f37 := (f33.keep K34 (allS ge2 (allS gt_ all0)))
  obtain ⟨cq38, kq38, q38a, q38b, q38c⟩ := isOf hZ19 rfl f35
  obtain ⟨_, _, ⟨T38, L38, k38, n38⟩, -, X38, ⟨Lc38, hQ38, l38, y38, z38⟩, st38⟩ := X34.virtualBack hx (y := (⟨"java/lang/StringBuilder", "toString", "()Ljava/lang/String;"⟩ : MethodName)) (z := (⟨"java/lang/StringBuilder", "toString", "()Ljava/lang/String;"⟩ : MethodName)) hown19 (mvT hZ19 (hw _ (own_m 143 rfl))) (mvT hZ19 (hw _ (own_m 144 rfl))) (notFace_of_selects (args := #[]) (mvT hZ19 (hw _ (own_m 146 rfl)))) (mvT hZ19 (hw _ (own_m 146 rfl))) (mvT hZ19 (hw _ (own_m 145 rfl))) (by decide) (backOf (W := 0) (rmToS l Z a0 hw [] b2 zc fm t_ k_ [c0, c1, 58, d1, d2] T34.heap n0 f36 hSt f37 f35 fv_3 fc_3 fn_3 at_3 ge2 gt_ nb_ (Nat.le_of_ble_eq_true rfl)) hZ19 (hw _ (own_m 147 rfl)) (hw _ (own_m 55 rfl)) (by decide) (by decide)) q38a q38c (g := (mkF m 41 #[.val (.ref p0)] [(.ref b2)])) rfl (by rw [hml]; rfl) (Steps.refl _) (argsL := []) (rest := []) (lenOf pd___Ljava_lang_String_ rfl) rfl (by show 2 * 0 + _ ≤ _; exact Nat.le_of_eq rfl) (hb hby d9_41) (fun _ _ => ⟨rfl, rfl, (by decide : 4 + 2 ≤ _), (by decide : 28 + 20 ≤ _)⟩)
  dsimp only [Pt.U, Pt.locs, Pt.cells, Pt.slots] at X38 l38 y38 z38 st38 hQ38
  subst l38 y38 z38
  obtain ⟨⟨r_, ts_, ks_, rfl, zr_, zs_, E_, fv_4, fc_4, at_4⟩, Nq38, K38⟩ := hQ38
  have N38 := Fr.app N34 Nq38
  have KK38 := KK34.trans K38 all0
  have f39 := (Nat.le_trans (Nat.le_trans (Nat.le_trans hk19 K28.1) K34.1) K38.1)
  obtain ⟨fs, hr, hrun, hended, hEnd⟩ := X38.leaveW hS19 f39 (v := some (.ref r_)) (fun h => by rw [Bd.returns] at h; cases h)
  refine ⟨_, _, pre17 _ ?_, hrun, hended, _, _, rfl, ?_, hEnd.1, hEnd.2.1, hEnd.2.2.1, hEnd.2.2.2.mono (by decide) (by decide)⟩
  · show Steps p.tables e below (T16.setTop (mkF m 29 #[.val (.ref p0)] [(.ref b2)])) _
    refine st19 _ ?_
    show Steps p.tables e below (T19.setTop (mkF m 31 #[.val (.ref p0)] [(.ref a19), (.ref b2)])) _
    refine st28.trans ?_
    show Steps p.tables e below (T28.setTop (mkF m 34 #[.val (.ref p0)] [(.ref b2)])) _
    refine XS.aloadN X28.here hx rfl (hb hby d9_34) rfl rfl ?_
    show Steps p.tables e below (T28.setTop (mkF m 35 #[.val (.ref p0)] [(.ref p0), (.ref b2)])) _
    refine st30 _ ?_
    show Steps p.tables e below (T30.setTop (mkF m 38 #[.val (.ref p0)] [(.int pt), (.ref b2)])) _
    refine st34.trans ?_
    show Steps p.tables e below (T34.setTop (mkF m 41 #[.val (.ref p0)] [(.ref b2)])) _
    refine st38.trans ?_
    show Steps p.tables e below (T38.setTop (mkF m 44 #[.val (.ref p0)] [(.ref r_)])) _
    jvm_step X38.here [X38.here.top, hx, (hb hby d9_44), X38.method', Bd.returns, Value.isRef, FieldType.isReference]
    first | (intro acts; rw [hr _ acts rfl rfl rfl]) | rw [hr _ _ rfl rfl rfl]
    exact Steps.refl _
  · show Q_rmTS2 Z p0 zc fm wO cO wT cT x ts ks c0 c1 pt d1 d2 h0 n0 _ T38.heap _
    exact ⟨⟨_, _, _, rfl, E_, fv_4, fc_4, at_4⟩, N38, KK38⟩
theorem ef_rmSS3 (m : MethodId) (p0 : Int32) : entryFrame m #[(.int p0)] 4 = mkF m 0 #[.val (.int p0), .unset, .unset, .unset] [] := by first | (simp [entryFrame, mkF, argsToLocals, Value.category]; done) | rfl
def Q_rmSS3 (Z : State) (p0 : Int32) (zc : Int32) (fm : Value) (h0 : Heap) (n0 : Nat) (v : Option Value) (h : Heap) (L : List Loc) : Prop := v = some (.int (3 : Int32)) ∧ Fr n0 L ∧ h = h0
set_option maxRecDepth 65536 in
set_option maxHeartbeats 40000000 in
theorem rmSS3 (l : Launch) (Z : State) (a0 : Array Value) (hw : ∀ d ∈ tables_1, d.before a0 Z = true) (ws : List Jvm.Cond) (p0 : Int32) (zc : Int32) (fm : Value) (h0 : Heap) (n0 : Nat) (Z0 : n0 ≤ h0.size) (hSt : own_St Z zc fm) (Ol : own_Old Z n0 h0) (hp0 : 0 ≤ p0.toInt) (hlo : 100 ≤ p0.toInt) (hhi : p0.toInt < 1000) :
    MetFree l (⟨"java/lang/Integer", "stringSize", "(I)I"⟩ : MethodName) (head1 (Jvm.Cond.code (⟨"java/lang/Integer", "stringSize", "(I)I"⟩ : MethodName) jdk_33_method_13_code 4 (some .int) :: ws) ({ frames := 0, cells := 0, slots := 0, locals := 0 } : Room)) (fun a U => a = #[(.int p0)] ∧ Z.Warmed39 U.vm ∧ U.heap = h0) (fun _ _ _ _ _ => True) (fun _ U o U' => ∃ v L, o = .returned v ∧ Q_rmSS3 Z p0 zc fm h0 n0 v U'.heap L ∧ FrameEnd U o U' L ({ frames := 0, cells := 0, slots := 0, locals := 0 } : Room).cells ({ frames := 0, cells := 0, slots := 0, locals := 0 } : Room).slots) := by
  refine MetFree.of_bodySF (plainFor_of_name pn_java_lang_Integer) hisR ?_
  intro p e s m args below meth c s₁ Bd hml0 hP hK
  obtain ⟨rfl, hZ, hh⟩ := hP
  have hx := Bd.exec
  have hby := Bd.bytes
  have hml : c.maxLocals = 4 := hml0
  have hown : s.vm.findClass "java/lang/Integer" = some m.cls := findClass_of_methodNamed Bd.named
  have hnm := (name_of_methodNamed Bd.named Bd.method).1
  have hZo := hZ
  have howno := hown
  have X0 : Stand p l e ({ frames := 0, cells := 0, slots := 0, locals := 0 } : Room) s m #[(.int p0)] below meth c s₁ [] 0 0 := Stand.of_body Bd
  have e0 : s₁.heap = h0 := by rw [← hh, Bd.state]; rfl
  have N0 := Fr.nil n0
  have pre0 : ∀ t, Steps p.tables e below (s₁.setTop (mkF m 0 #[.val (.int p0), .unset, .unset, .unset] [])) t → Steps p.tables e below (s₁.setTop (entryFrame m #[(.int p0)] 4)) t := fun t k => castTop (ef_rmSS3 m p0 ) k
  obtain ⟨fs, hr, hrun, hended, hW, hsame⟩ := X0.leave (v := some (.int (3 : Int32))) (fun h => by rw [Bd.returns] at h; cases h)
  refine ⟨_, _, pre0 _ ?_, hrun, hended, _, _, rfl, ?_, ⟨_, rfl⟩, hW, hsame.mono (by decide) (by decide)⟩
  · show Steps p.tables e below (s₁.setTop (mkF m 0 #[.val (.int p0), .unset, .unset, .unset] [])) _
    refine XS.iconst X0.here hx rfl (hb hby d22_0) ?_
    refine XS.istoreN X0.here hx rfl (hb hby d22_1) rfl (l' := #[.val (.int p0), .val (.int (1 : Int32)), .unset, .unset]) rfl ?_
    refine XS.iloadN X0.here hx rfl (hb hby d22_2) rfl  ?_
    show Steps p.tables e below (s₁.setTop (mkF m 3 #[.val (.int p0), .val (.int (1 : Int32)), .unset, .unset] [(.int p0)])) _
    refine XS.ifNo X0.here hx rfl (hb hby d22_3) rfl ((if0 _ _).trans (flt (own_nl hp0)).1) ?_
    refine XS.iconst X0.here hx rfl (hb hby d22_6) ?_
    refine XS.istoreN X0.here hx rfl (hb hby d22_7) rfl (l' := #[.val (.int p0), .val (.int (0 : Int32)), .unset, .unset]) rfl ?_
    refine XS.iloadN X0.here hx rfl (hb hby d22_8) rfl  ?_
    refine XS.ineg X0.here hx rfl (hb hby d22_9) rfl ?_
    refine XS.istoreN X0.here hx rfl (hb hby d22_10) rfl (l' := #[.val (.int (-p0)), .val (.int (0 : Int32)), .unset, .unset]) rfl ?_
    refine XS.bipush X0.here hx rfl (hb hby d22_11) ?_
    refine XS.istoreN X0.here hx rfl (hb hby d22_13) rfl (l' := #[.val (.int (-p0)), .val (.int (0 : Int32)), .val (.int (-10 : Int32)), .unset]) rfl ?_
    refine XS.iconst X0.here hx rfl (hb hby d22_14) ?_
    refine XS.istoreN X0.here hx rfl (hb hby d22_15) rfl (l' := #[.val (.int (-p0)), .val (.int (0 : Int32)), .val (.int (-10 : Int32)), .val (.int (1 : Int32))]) rfl ?_
    refine XS.iloadN X0.here hx rfl (hb hby d22_16) rfl  ?_
    refine XS.bipush X0.here hx rfl (hb hby d22_17) ?_
    show Steps p.tables e below (s₁.setTop (mkF m 19 #[.val (.int (-p0)), .val (.int (0 : Int32)), .val (.int (-10 : Int32)), .val (.int (1 : Int32))] [(.int (10 : Int32)), (.int (1 : Int32))])) _
    refine XS.icmpNo X0.here hx rfl (hb hby d22_19) rfl (tlt (by decide : (1 : Int32) < (10 : Int32))).2.1 ?_
    refine XS.iloadN X0.here hx rfl (hb hby d22_22) rfl  ?_
    refine XS.iloadN X0.here hx rfl (hb hby d22_23) rfl  ?_
    show Steps p.tables e below (s₁.setTop (mkF m 24 #[.val (.int (-p0)), .val (.int (0 : Int32)), .val (.int (-10 : Int32)), .val (.int (1 : Int32))] [(.int (-10 : Int32)), (.int (-p0))])) _
    refine XS.icmpYes X0.here hx rfl (pc0 := 24) (pc' := 31) rfl (hb hby d22_24) rfl (flt (fun q => absurd ((own_ng (b := 10) (by decide) hp0).mp q) (by omega))).2.2.2 (by decide) (by decide) ?_
    refine XS.bipush X0.here hx rfl (hb hby d22_31) ?_
    refine XS.iloadN X0.here hx rfl (hb hby d22_33) rfl  ?_
    refine XS.imul X0.here hx rfl (hb hby d22_34) rfl ?_
    refine XS.istoreN X0.here hx rfl (hb hby d22_35) rfl (l' := #[.val (.int (-p0)), .val (.int (0 : Int32)), .val (.int (-100 : Int32)), .val (.int (1 : Int32))]) rfl ?_
    refine XS.iinc X0.here hx rfl (hb hby d22_36) rfl (l' := #[.val (.int (-p0)), .val (.int (0 : Int32)), .val (.int (-100 : Int32)), .val (.int (2 : Int32))]) rfl ?_
    refine XS.goto X0.here hx rfl (pc0 := 39) (pc' := 16) rfl (hb hby d22_39) (by decide) (by decide) ?_
    refine XS.iloadN X0.here hx rfl (hb hby d22_16) rfl  ?_
    refine XS.bipush X0.here hx rfl (hb hby d22_17) ?_
    show Steps p.tables e below (s₁.setTop (mkF m 19 #[.val (.int (-p0)), .val (.int (0 : Int32)), .val (.int (-100 : Int32)), .val (.int (2 : Int32))] [(.int (10 : Int32)), (.int (2 : Int32))])) _
    refine XS.icmpNo X0.here hx rfl (hb hby d22_19) rfl (tlt (by decide : (2 : Int32) < (10 : Int32))).2.1 ?_
    refine XS.iloadN X0.here hx rfl (hb hby d22_22) rfl  ?_
    refine XS.iloadN X0.here hx rfl (hb hby d22_23) rfl  ?_
    show Steps p.tables e below (s₁.setTop (mkF m 24 #[.val (.int (-p0)), .val (.int (0 : Int32)), .val (.int (-100 : Int32)), .val (.int (2 : Int32))] [(.int (-100 : Int32)), (.int (-p0))])) _
    refine XS.icmpYes X0.here hx rfl (pc0 := 24) (pc' := 31) rfl (hb hby d22_24) rfl (flt (fun q => absurd ((own_ng (b := 100) (by decide) hp0).mp q) (by omega))).2.2.2 (by decide) (by decide) ?_
    refine XS.bipush X0.here hx rfl (hb hby d22_31) ?_
    refine XS.iloadN X0.here hx rfl (hb hby d22_33) rfl  ?_
    refine XS.imul X0.here hx rfl (hb hby d22_34) rfl ?_
    refine XS.istoreN X0.here hx rfl (hb hby d22_35) rfl (l' := #[.val (.int (-p0)), .val (.int (0 : Int32)), .val (.int (-1000 : Int32)), .val (.int (2 : Int32))]) rfl ?_
    refine XS.iinc X0.here hx rfl (hb hby d22_36) rfl (l' := #[.val (.int (-p0)), .val (.int (0 : Int32)), .val (.int (-1000 : Int32)), .val (.int (3 : Int32))]) rfl ?_
    refine XS.goto X0.here hx rfl (pc0 := 39) (pc' := 16) rfl (hb hby d22_39) (by decide) (by decide) ?_
    refine XS.iloadN X0.here hx rfl (hb hby d22_16) rfl  ?_
    refine XS.bipush X0.here hx rfl (hb hby d22_17) ?_
    show Steps p.tables e below (s₁.setTop (mkF m 19 #[.val (.int (-p0)), .val (.int (0 : Int32)), .val (.int (-1000 : Int32)), .val (.int (3 : Int32))] [(.int (10 : Int32)), (.int (3 : Int32))])) _
    refine XS.icmpNo X0.here hx rfl (hb hby d22_19) rfl (tlt (by decide : (3 : Int32) < (10 : Int32))).2.1 ?_
    refine XS.iloadN X0.here hx rfl (hb hby d22_22) rfl  ?_
    refine XS.iloadN X0.here hx rfl (hb hby d22_23) rfl  ?_
    show Steps p.tables e below (s₁.setTop (mkF m 24 #[.val (.int (-p0)), .val (.int (0 : Int32)), .val (.int (-1000 : Int32)), .val (.int (3 : Int32))] [(.int (-1000 : Int32)), (.int (-p0))])) _
    refine XS.icmpNo X0.here hx rfl (hb hby d22_24) rfl (tlt ((own_ng (b := 1000) (by decide) hp0).mpr (by omega))).2.2.2 ?_
    refine XS.iloadN X0.here hx rfl (hb hby d22_27) rfl  ?_
    refine XS.iloadN X0.here hx rfl (hb hby d22_28) rfl  ?_
    refine XS.iadd X0.here hx rfl (hb hby d22_29) rfl ?_
    show Steps p.tables e below (s₁.setTop (mkF m 30 #[.val (.int (-p0)), .val (.int (0 : Int32)), .val (.int (-1000 : Int32)), .val (.int (3 : Int32))] [(.int (3 : Int32))])) _
    exact retI X0 hx Bd.returns (hb hby d22_30) hr
  · show Q_rmSS3 Z p0 zc fm h0 n0 _ s₁.heap _
    rw [e0]
    exact ⟨rfl, N0, rfl⟩
theorem ef_rmGC3 (m : MethodId) (p0 : Int32) (p2 : Addr) : entryFrame m #[(.int p0), (.int (6 : Int32)), (.ref p2)] 7 = mkF m 0 #[.val (.int p0), .val (.int (6 : Int32)), .val (.ref p2), .unset, .unset, .unset, .unset] [] := by first | (simp [entryFrame, mkF, argsToLocals, Value.category]; done) | rfl
theorem d24_28 : decode jdk_33_method_12_code 28 = .ok (.iload_n 0, 1) := by decide +kernel
theorem d24_29 : decode jdk_33_method_12_code 29 = .ok (.bipush 100, 2) := by decide +kernel
theorem d24_31 : decode jdk_33_method_12_code 31 = .ok (.idiv, 1) := by decide +kernel
theorem d24_32 : decode jdk_33_method_12_code 32 = .ok (.istore_n 3, 1) := by decide +kernel
theorem d24_33 : decode jdk_33_method_12_code 33 = .ok (.iload_n 3, 1) := by decide +kernel
theorem d24_34 : decode jdk_33_method_12_code 34 = .ok (.bipush 100, 2) := by decide +kernel
theorem d24_36 : decode jdk_33_method_12_code 36 = .ok (.imul, 1) := by decide +kernel
theorem d24_37 : decode jdk_33_method_12_code 37 = .ok (.iload_n 0, 1) := by decide +kernel
theorem d24_38 : decode jdk_33_method_12_code 38 = .ok (.isub, 1) := by decide +kernel
theorem d24_39 : decode jdk_33_method_12_code 39 = .ok (.istore 4, 2) := by decide +kernel
theorem d24_41 : decode jdk_33_method_12_code 41 = .ok (.iload_n 3, 1) := by decide +kernel
theorem d24_42 : decode jdk_33_method_12_code 42 = .ok (.istore_n 0, 1) := by decide +kernel
theorem d24_43 : decode jdk_33_method_12_code 43 = .ok (.aload_n 2, 1) := by decide +kernel
theorem d24_44 : decode jdk_33_method_12_code 44 = .ok (.iinc 5 (-1), 3) := by decide +kernel
theorem d24_47 : decode jdk_33_method_12_code 47 = .ok (.iload 5, 2) := by decide +kernel
theorem d24_49 : decode jdk_33_method_12_code 49 = .ok (.getstatic 83, 3) := by decide +kernel
theorem d24_52 : decode jdk_33_method_12_code 52 = .ok (.iload 4, 2) := by decide +kernel
theorem d24_54 : decode jdk_33_method_12_code 54 = .ok (.baload, 1) := by decide +kernel
theorem d24_55 : decode jdk_33_method_12_code 55 = .ok (.bastore, 1) := by decide +kernel
theorem d24_56 : decode jdk_33_method_12_code 56 = .ok (.aload_n 2, 1) := by decide +kernel
theorem d24_57 : decode jdk_33_method_12_code 57 = .ok (.iinc 5 (-1), 3) := by decide +kernel
theorem d24_60 : decode jdk_33_method_12_code 60 = .ok (.iload 5, 2) := by decide +kernel
theorem d24_62 : decode jdk_33_method_12_code 62 = .ok (.getstatic 87, 3) := by decide +kernel
theorem d24_65 : decode jdk_33_method_12_code 65 = .ok (.iload 4, 2) := by decide +kernel
theorem d24_67 : decode jdk_33_method_12_code 67 = .ok (.baload, 1) := by decide +kernel
theorem d24_68 : decode jdk_33_method_12_code 68 = .ok (.bastore, 1) := by decide +kernel
theorem d24_69 : decode jdk_33_method_12_code 69 = .ok (.goto (-47), 3) := by decide +kernel
def Q_rmGC3 (Z : State) (p0 : Int32) (p2 : Addr) (zc : Int32) (fm : Value) (wO : Addr) (cO : Cell) (wT : Addr) (cT : Cell) (kb : ClassId) (v0 : Value) (v1 : Value) (v2 : Value) (d1 : Int32) (d2 : Int32) (d3 : Int32) (h0 : Heap) (n0 : Nat) (v : Option Value) (h : Heap) (L : List Loc) : Prop := v = some (.int (3 : Int32)) ∧ Fr n0 L ∧ Keep h0 h [p2] ∧ Arv Z h p2 kb .byte (16 : Int32) [v0, v1, v2, (.int d1.toInt8.toInt32), (.int d2.toInt8.toInt32), (.int d3.toInt8.toInt32), (.int (0 : Int32)), (.int (0 : Int32)), (.int (0 : Int32)), (.int (0 : Int32)), (.int (0 : Int32)), (.int (0 : Int32)), (.int (0 : Int32)), (.int (0 : Int32)), (.int (0 : Int32)), (.int (0 : Int32))] (.int (0 : Int32))
set_option maxRecDepth 65536 in
set_option maxHeartbeats 40000000 in
theorem rmGC3 (l : Launch) (Z : State) (a0 : Array Value) (hw : ∀ d ∈ tables_1, d.before a0 Z = true) (ws : List Jvm.Cond) (p0 : Int32) (p2 : Addr) (zc : Int32) (fm : Value) (wO : Addr) (cO : Cell) (wT : Addr) (cT : Cell) (kb : ClassId) (v0 : Value) (v1 : Value) (v2 : Value) (d1 : Int32) (d2 : Int32) (d3 : Int32) (h0 : Heap) (n0 : Nat) (Z0 : n0 ≤ h0.size) (hSt : own_St Z zc fm) (Ol : own_Old Z n0 h0) (hDT : own_DT Z wO cO wT cT) (Ab : Arv Z h0 p2 kb .byte (16 : Int32) [v0, v1, v2, (.int (0 : Int32)), (.int (0 : Int32)), (.int (0 : Int32)), (.int (0 : Int32)), (.int (0 : Int32)), (.int (0 : Int32)), (.int (0 : Int32)), (.int (0 : Int32)), (.int (0 : Int32)), (.int (0 : Int32)), (.int (0 : Int32)), (.int (0 : Int32)), (.int (0 : Int32))] (.int (0 : Int32))) (gt_ : n0 ≤ p2) (hp0 : 0 ≤ p0.toInt) (hlo : 100 ≤ p0.toInt) (hhi : p0.toInt < 1000) (hd1 : d1.toInt = 48 + p0.toInt / 100 % 10) (hd2 : d2.toInt = 48 + p0.toInt / 10 % 10) (hd3 : d3.toInt = 48 + p0.toInt % 10) :
    MetFree l (⟨"java/lang/Integer", "getChars", "(II[B)I"⟩ : MethodName) (head1 (Jvm.Cond.code (⟨"java/lang/Integer", "getChars", "(II[B)I"⟩ : MethodName) jdk_33_method_12_code 7 (some .int) :: ws) ({ frames := 0, cells := 0, slots := 0, locals := 0 } : Room)) (fun a U => a = #[(.int p0), (.int (6 : Int32)), (.ref p2)] ∧ Z.Warmed39 U.vm ∧ U.heap = h0) (fun _ _ _ _ _ => True) (fun _ U o U' => ∃ v L, o = .returned v ∧ Q_rmGC3 Z p0 p2 zc fm wO cO wT cT kb v0 v1 v2 d1 d2 d3 h0 n0 v U'.heap L ∧ FrameEnd U o U' L ({ frames := 0, cells := 0, slots := 0, locals := 0 } : Room).cells ({ frames := 0, cells := 0, slots := 0, locals := 0 } : Room).slots) := by
  refine MetFree.of_bodySF (plainFor_of_name pn_java_lang_Integer) hisR ?_
  intro p e s m args below meth c s₁ Bd hml0 hP hK
  obtain ⟨rfl, hZ, hh⟩ := hP
  have hx := Bd.exec
  have hby := Bd.bytes
  have hml : c.maxLocals = 7 := hml0
  have hown : s.vm.findClass "java/lang/Integer" = some m.cls := findClass_of_methodNamed Bd.named
  have hnm := (name_of_methodNamed Bd.named Bd.method).1
  have hZo := hZ
  have howno := hown
  have X0 : Stand p l e ({ frames := 0, cells := 0, slots := 0, locals := 0 } : Room) s m #[(.int p0), (.int (6 : Int32)), (.ref p2)] below meth c s₁ [] 0 0 := Stand.of_body Bd
  have e0 : s₁.heap = h0 := by rw [← hh, Bd.state]; rfl
  have N0 := Fr.nil n0
  have pre0 : ∀ t, Steps p.tables e below (s₁.setTop (mkF m 0 #[.val (.int p0), .val (.int (6 : Int32)), .val (.ref p2), .unset, .unset, .unset, .unset] [])) t → Steps p.tables e below (s₁.setTop (entryFrame m #[(.int p0), (.int (6 : Int32)), (.ref p2)] 7)) t := fun t k => castTop (ef_rmGC3 m p0 p2 ) k
  have pre1 : ∀ t, Steps p.tables e below (s₁.setTop (mkF m 22 #[.val (.int (-p0)), .val (.int (6 : Int32)), .val (.ref p2), .unset, .unset, .val (.int (6 : Int32)), .val (.int (0 : Int32))] [])) t → Steps p.tables e below (s₁.setTop (entryFrame m #[(.int p0), (.int (6 : Int32)), (.ref p2)] 7)) t := fun t kt => pre0 t (by
    show Steps p.tables e below (s₁.setTop (mkF m 0 #[.val (.int p0), .val (.int (6 : Int32)), .val (.ref p2), .unset, .unset, .unset, .unset] [])) _
    refine XS.iloadN X0.here hx rfl (hb hby d24_0) rfl  ?_
    refine XS.istore X0.here hx rfl (hb hby d24_1) rfl (l' := #[.val (.int p0), .val (.int (6 : Int32)), .val (.ref p2), .unset, .unset, .val (.int (6 : Int32)), .unset]) rfl ?_
    refine XS.iloadN X0.here hx rfl (hb hby d24_3) rfl  ?_
    show Steps p.tables e below (s₁.setTop (mkF m 4 #[.val (.int p0), .val (.int (6 : Int32)), .val (.ref p2), .unset, .unset, .val (.int (6 : Int32)), .unset] [(.int p0)])) _
    refine XS.ifYes X0.here hx rfl (pc0 := 4) (pc' := 11) rfl (hb hby d24_4) rfl ((if0 _ _).trans (flt (own_nl hp0)).2.1) (by decide) (by decide) ?_
    refine XS.iconst X0.here hx rfl (hb hby d24_11) ?_
    refine XS.istore X0.here hx rfl (hb hby d24_12) rfl (l' := #[.val (.int p0), .val (.int (6 : Int32)), .val (.ref p2), .unset, .unset, .val (.int (6 : Int32)), .val (.int (0 : Int32))]) rfl ?_
    refine XS.iload X0.here hx rfl (hb hby d24_14) rfl  ?_
    show Steps p.tables e below (s₁.setTop (mkF m 16 #[.val (.int p0), .val (.int (6 : Int32)), .val (.ref p2), .unset, .unset, .val (.int (6 : Int32)), .val (.int (0 : Int32))] [(.int (0 : Int32))])) _
    refine XS.ifNo X0.here hx rfl (hb hby d24_16) rfl ((if0 _ _).trans (teq (by decide : (0 : Int32) = (0 : Int32))).2) ?_
    refine XS.iloadN X0.here hx rfl (hb hby d24_19) rfl  ?_
    refine XS.ineg X0.here hx rfl (hb hby d24_20) rfl ?_
    refine XS.istoreN X0.here hx rfl (hb hby d24_21) rfl (l' := #[.val (.int (-p0)), .val (.int (6 : Int32)), .val (.ref p2), .unset, .unset, .val (.int (6 : Int32)), .val (.int (0 : Int32))]) rfl ?_
    exact kt)
  obtain ⟨i0, hi0⟩ : ∃ z, z = (-p0) := ⟨_, rfl⟩
  rw [← hi0] at pre1
  have ei0 : i0.toInt = -p0.toInt := by rw [hi0]; exact own_neg (Int.lt_of_lt_of_le (by decide) hp0)
  obtain ⟨xa0, xb0, xa1, xb1, xc⟩ := own_r3 hlo hhi
  have pre2 : ∀ t, Steps p.tables e below (s₁.setTop (mkF m 41 #[.val (.int i0), .val (.int (6 : Int32)), .val (.ref p2), .val (.int (i0 / (100 : Int32))), .val (.int (((i0 / (100 : Int32)) * (100 : Int32)) - i0)), .val (.int (6 : Int32)), .val (.int (0 : Int32))] [])) t → Steps p.tables e below (s₁.setTop (entryFrame m #[(.int p0), (.int (6 : Int32)), (.ref p2)] 7)) t := fun t kt => pre1 t (by
    show Steps p.tables e below (s₁.setTop (mkF m 22 #[.val (.int i0), .val (.int (6 : Int32)), .val (.ref p2), .unset, .unset, .val (.int (6 : Int32)), .val (.int (0 : Int32))] [])) _
    refine XS.iloadN X0.here hx rfl (hb hby d24_22) rfl  ?_
    refine XS.bipush X0.here hx rfl (hb hby d24_23) ?_
    show Steps p.tables e below (s₁.setTop (mkF m 25 #[.val (.int i0), .val (.int (6 : Int32)), .val (.ref p2), .unset, .unset, .val (.int (6 : Int32)), .val (.int (0 : Int32))] [(.int (-100 : Int32)), (.int i0)])) _
    refine XS.icmpNo X0.here hx rfl (hb hby d24_25) rfl (flt ((own_b100 ei0).1 xa0)).2.2.1 ?_
    refine XS.iloadN X0.here hx rfl (hb hby d24_28) rfl  ?_
    refine XS.bipush X0.here hx rfl (hb hby d24_29) ?_
    show Steps p.tables e below (s₁.setTop (mkF m 31 #[.val (.int i0), .val (.int (6 : Int32)), .val (.ref p2), .unset, .unset, .val (.int (6 : Int32)), .val (.int (0 : Int32))] [(.int (100 : Int32)), (.int i0)])) _
    refine XS.idiv X0.here hx rfl (hb hby d24_31) rfl (by decide) ?_
    refine XS.istoreN X0.here hx rfl (hb hby d24_32) rfl (l' := #[.val (.int i0), .val (.int (6 : Int32)), .val (.ref p2), .val (.int (i0 / (100 : Int32))), .unset, .val (.int (6 : Int32)), .val (.int (0 : Int32))]) rfl ?_
    refine XS.iloadN X0.here hx rfl (hb hby d24_33) rfl  ?_
    refine XS.bipush X0.here hx rfl (hb hby d24_34) ?_
    refine XS.imul X0.here hx rfl (hb hby d24_36) rfl ?_
    refine XS.iloadN X0.here hx rfl (hb hby d24_37) rfl  ?_
    refine XS.isub X0.here hx rfl (hb hby d24_38) rfl ?_
    refine XS.istore X0.here hx rfl (hb hby d24_39) rfl (l' := #[.val (.int i0), .val (.int (6 : Int32)), .val (.ref p2), .val (.int (i0 / (100 : Int32))), .val (.int (((i0 / (100 : Int32)) * (100 : Int32)) - i0)), .val (.int (6 : Int32)), .val (.int (0 : Int32))]) rfl ?_
    exact kt)
  obtain ⟨r0, hr0⟩ : ∃ z, z = (((i0 / (100 : Int32)) * (100 : Int32)) - i0) := ⟨_, rfl⟩
  rw [← hr0] at pre2
  have er0 : r0.toInt = p0.toInt % 100 := by rw [hr0]; exact own_rr ei0 (Int.lt_of_lt_of_le (by decide) xa0) xb0
  obtain ⟨T3, X3, e3, st3⟩ := getS2 X0 hx hZ hown (host := "") (Or.inl (hw _ (own_m 142 rfl))) Via.refl e0 (hDT.1.ext Ol.2) (g := (mkF m 49 #[.val (.int (i0 / (100 : Int32))), .val (.int (6 : Int32)), .val (.ref p2), .val (.int (i0 / (100 : Int32))), .val (.int r0), .val (.int (5 : Int32)), .val (.int (0 : Int32))] [(.int (5 : Int32)), (.ref p2)])) rfl (hb hby d24_49)
  have ti4 := own_tin (r := r0) (own_e100 er0).1 (own_e100 er0).2 hDT.2.2.2.2.1.1
  have hat4 : cO.slots[(r0).toNatClampNeg]? = some (.int d3) := (hDT.2.2.2.2.1.2 _ ti4.1 ti4.2.1).trans (by rw [own_ones (r := r0) (d := d3) (own_e100 er0).1 (own_e100 er0).2 (own_o1 er0 hd3)])
  have Aq4 := hDT.2.2.1.ext Ol.2
  obtain ⟨cl5, Ar5, q5, S5, N5, H5, G5⟩ := id Ab
  have hin5 : ¬ ((5 : Int32) < 0 ∨ cl5.slots.size ≤ ((5 : Int32)).toNatClampNeg) := inb_of S5 ⟨by decide, by decide⟩
  obtain ⟨T6, h6, X6, e6, W6, st6⟩ := stB X3 hx hZ e3 Ar5 (j := (5 : Int32)) hin5 (g := (mkF m 55 #[.val (.int (i0 / (100 : Int32))), .val (.int (6 : Int32)), .val (.ref p2), .val (.int (i0 / (100 : Int32))), .val (.int r0), .val (.int (5 : Int32)), .val (.int (0 : Int32))] [(.int d3), (.int (5 : Int32)), (.ref p2)])) rfl rfl (hb hby d24_55)
  have N6 := Fr.snoc X6 N0 gt_
  have K6 := (Keep.refl h0 [p2]).wr W6 (Or.inl (own_m 0 rfl))
  have V6 : Arv Z h6 p2 kb .byte (16 : Int32) [v0, v1, v2, (.int (0 : Int32)), (.int (0 : Int32)), (.int d3.toInt8.toInt32), (.int (0 : Int32)), (.int (0 : Int32)), (.int (0 : Int32)), (.int (0 : Int32)), (.int (0 : Int32)), (.int (0 : Int32)), (.int (0 : Int32)), (.int (0 : Int32)), (.int (0 : Int32)), (.int (0 : Int32))] (.int (0 : Int32)) := Arv.set Ar5 q5 S5 N5 H5 G5 (fits_nar_byte _) W6 5 rfl (Nat.le_of_ble_eq_true rfl)
  have f7 := (Ol.wr W6 gt_)
  obtain ⟨T8, X8, e8, st8⟩ := getS2 X6 hx hZ hown (host := "") (Or.inl (hw _ (own_m 214 rfl))) Via.refl e6 (hDT.2.1.ext f7.2) (g := (mkF m 62 #[.val (.int (i0 / (100 : Int32))), .val (.int (6 : Int32)), .val (.ref p2), .val (.int (i0 / (100 : Int32))), .val (.int r0), .val (.int (4 : Int32)), .val (.int (0 : Int32))] [(.int (4 : Int32)), (.ref p2)])) rfl (hb hby d24_62)
  have ti9 := own_tin (r := r0) (own_e100 er0).1 (own_e100 er0).2 hDT.2.2.2.2.2.1
  have hat9 : cT.slots[(r0).toNatClampNeg]? = some (.int d2) := (hDT.2.2.2.2.2.2 _ ti9.1 ti9.2.1).trans (by rw [own_tens (r := r0) (d := d2) (own_e100 er0).1 (own_e100 er0).2 (own_t0 er0 hd2)])
  have Aq9 := hDT.2.2.2.1.ext f7.2
  obtain ⟨cl10, Ar10, q10, S10, N10, H10, G10⟩ := id V6
  have hin10 : ¬ ((4 : Int32) < 0 ∨ cl10.slots.size ≤ ((4 : Int32)).toNatClampNeg) := inb_of S10 ⟨by decide, by decide⟩
  obtain ⟨T11, h11, X11, e11, W11, st11⟩ := stB X8 hx hZ e8 Ar10 (j := (4 : Int32)) hin10 (g := (mkF m 68 #[.val (.int (i0 / (100 : Int32))), .val (.int (6 : Int32)), .val (.ref p2), .val (.int (i0 / (100 : Int32))), .val (.int r0), .val (.int (4 : Int32)), .val (.int (0 : Int32))] [(.int d2), (.int (4 : Int32)), (.ref p2)])) rfl rfl (hb hby d24_68)
  have N11 := Fr.snoc X11 N6 gt_
  have K11 := K6.wr W11 (Or.inl (own_m 0 rfl))
  have V11 : Arv Z h11 p2 kb .byte (16 : Int32) [v0, v1, v2, (.int (0 : Int32)), (.int d2.toInt8.toInt32), (.int d3.toInt8.toInt32), (.int (0 : Int32)), (.int (0 : Int32)), (.int (0 : Int32)), (.int (0 : Int32)), (.int (0 : Int32)), (.int (0 : Int32)), (.int (0 : Int32)), (.int (0 : Int32)), (.int (0 : Int32)), (.int (0 : Int32))] (.int (0 : Int32)) := Arv.set Ar10 q10 S10 N10 H10 G10 (fits_nar_byte _) W11 4 rfl (Nat.le_of_ble_eq_true rfl)
  have pre12 : ∀ t, Steps p.tables e below (T11.setTop (mkF m 22 #[.val (.int (i0 / (100 : Int32))), .val (.int (6 : Int32)), .val (.ref p2), .val (.int (i0 / (100 : Int32))), .val (.int r0), .val (.int (4 : Int32)), .val (.int (0 : Int32))] [])) t → Steps p.tables e below (s₁.setTop (entryFrame m #[(.int p0), (.int (6 : Int32)), (.ref p2)] 7)) t := fun t kt => pre2 t (by
    show Steps p.tables e below (s₁.setTop (mkF m 41 #[.val (.int i0), .val (.int (6 : Int32)), .val (.ref p2), .val (.int (i0 / (100 : Int32))), .val (.int r0), .val (.int (6 : Int32)), .val (.int (0 : Int32))] [])) _
    refine XS.iloadN X0.here hx rfl (hb hby d24_41) rfl  ?_
    refine XS.istoreN X0.here hx rfl (hb hby d24_42) rfl (l' := #[.val (.int (i0 / (100 : Int32))), .val (.int (6 : Int32)), .val (.ref p2), .val (.int (i0 / (100 : Int32))), .val (.int r0), .val (.int (6 : Int32)), .val (.int (0 : Int32))]) rfl ?_
    refine XS.aloadN X0.here hx rfl (hb hby d24_43) rfl rfl ?_
    refine XS.iinc X0.here hx rfl (hb hby d24_44) rfl (l' := #[.val (.int (i0 / (100 : Int32))), .val (.int (6 : Int32)), .val (.ref p2), .val (.int (i0 / (100 : Int32))), .val (.int r0), .val (.int (5 : Int32)), .val (.int (0 : Int32))]) rfl ?_
    refine XS.iload X0.here hx rfl (hb hby d24_47) rfl  ?_
    show Steps p.tables e below (s₁.setTop (mkF m 49 #[.val (.int (i0 / (100 : Int32))), .val (.int (6 : Int32)), .val (.ref p2), .val (.int (i0 / (100 : Int32))), .val (.int r0), .val (.int (5 : Int32)), .val (.int (0 : Int32))] [(.int (5 : Int32)), (.ref p2)])) _
    refine st3 _ ?_
    show Steps p.tables e below (T3.setTop (mkF m 52 #[.val (.int (i0 / (100 : Int32))), .val (.int (6 : Int32)), .val (.ref p2), .val (.int (i0 / (100 : Int32))), .val (.int r0), .val (.int (5 : Int32)), .val (.int (0 : Int32))] [(.ref wO), (.int (5 : Int32)), (.ref p2)])) _
    refine XS.iload X3.here hx rfl (hb hby d24_52) rfl  ?_
    show Steps p.tables e below (T3.setTop (mkF m 54 #[.val (.int (i0 / (100 : Int32))), .val (.int (6 : Int32)), .val (.ref p2), .val (.int (i0 / (100 : Int32))), .val (.int r0), .val (.int (5 : Int32)), .val (.int (0 : Int32))] [(.int r0), (.ref wO), (.int (5 : Int32)), (.ref p2)])) _
    refine X3.baloadBytes hx (j := r0) (v := .int d3) (by rw [e3]; exact Aq4.1) (State.isArrayOf_alike hZ.alike Aq4.2.1) Aq4.2.2 ti4.2.2 hat4 (g := (mkF m 54 #[.val (.int (i0 / (100 : Int32))), .val (.int (6 : Int32)), .val (.ref p2), .val (.int (i0 / (100 : Int32))), .val (.int r0), .val (.int (5 : Int32)), .val (.int (0 : Int32))] [(.int r0), (.ref wO), (.int (5 : Int32)), (.ref p2)])) rfl rfl (hb hby d24_54) _ ?_
    show Steps p.tables e below (T3.setTop (mkF m 55 #[.val (.int (i0 / (100 : Int32))), .val (.int (6 : Int32)), .val (.ref p2), .val (.int (i0 / (100 : Int32))), .val (.int r0), .val (.int (5 : Int32)), .val (.int (0 : Int32))] [(.int d3), (.int (5 : Int32)), (.ref p2)])) _
    refine st6 _ ?_
    show Steps p.tables e below (T6.setTop (mkF m 56 #[.val (.int (i0 / (100 : Int32))), .val (.int (6 : Int32)), .val (.ref p2), .val (.int (i0 / (100 : Int32))), .val (.int r0), .val (.int (5 : Int32)), .val (.int (0 : Int32))] [])) _
    refine XS.aloadN X6.here hx rfl (hb hby d24_56) rfl rfl ?_
    refine XS.iinc X6.here hx rfl (hb hby d24_57) rfl (l' := #[.val (.int (i0 / (100 : Int32))), .val (.int (6 : Int32)), .val (.ref p2), .val (.int (i0 / (100 : Int32))), .val (.int r0), .val (.int (4 : Int32)), .val (.int (0 : Int32))]) rfl ?_
    refine XS.iload X6.here hx rfl (hb hby d24_60) rfl  ?_
    show Steps p.tables e below (T6.setTop (mkF m 62 #[.val (.int (i0 / (100 : Int32))), .val (.int (6 : Int32)), .val (.ref p2), .val (.int (i0 / (100 : Int32))), .val (.int r0), .val (.int (4 : Int32)), .val (.int (0 : Int32))] [(.int (4 : Int32)), (.ref p2)])) _
    refine st8 _ ?_
    show Steps p.tables e below (T8.setTop (mkF m 65 #[.val (.int (i0 / (100 : Int32))), .val (.int (6 : Int32)), .val (.ref p2), .val (.int (i0 / (100 : Int32))), .val (.int r0), .val (.int (4 : Int32)), .val (.int (0 : Int32))] [(.ref wT), (.int (4 : Int32)), (.ref p2)])) _
    refine XS.iload X8.here hx rfl (hb hby d24_65) rfl  ?_
    show Steps p.tables e below (T8.setTop (mkF m 67 #[.val (.int (i0 / (100 : Int32))), .val (.int (6 : Int32)), .val (.ref p2), .val (.int (i0 / (100 : Int32))), .val (.int r0), .val (.int (4 : Int32)), .val (.int (0 : Int32))] [(.int r0), (.ref wT), (.int (4 : Int32)), (.ref p2)])) _
    refine X8.baloadBytes hx (j := r0) (v := .int d2) (by rw [e8]; exact Aq9.1) (State.isArrayOf_alike hZ.alike Aq9.2.1) Aq9.2.2 ti9.2.2 hat9 (g := (mkF m 67 #[.val (.int (i0 / (100 : Int32))), .val (.int (6 : Int32)), .val (.ref p2), .val (.int (i0 / (100 : Int32))), .val (.int r0), .val (.int (4 : Int32)), .val (.int (0 : Int32))] [(.int r0), (.ref wT), (.int (4 : Int32)), (.ref p2)])) rfl rfl (hb hby d24_67) _ ?_
    show Steps p.tables e below (T8.setTop (mkF m 68 #[.val (.int (i0 / (100 : Int32))), .val (.int (6 : Int32)), .val (.ref p2), .val (.int (i0 / (100 : Int32))), .val (.int r0), .val (.int (4 : Int32)), .val (.int (0 : Int32))] [(.int d2), (.int (4 : Int32)), (.ref p2)])) _
    refine st11 _ ?_
    show Steps p.tables e below (T11.setTop (mkF m 69 #[.val (.int (i0 / (100 : Int32))), .val (.int (6 : Int32)), .val (.ref p2), .val (.int (i0 / (100 : Int32))), .val (.int r0), .val (.int (4 : Int32)), .val (.int (0 : Int32))] [])) _
    refine XS.goto X11.here hx rfl (pc0 := 69) (pc' := 22) rfl (hb hby d24_69) (by decide) (by decide) ?_
    exact kt)
  obtain ⟨i1, hi1⟩ : ∃ z, z = (i0 / (100 : Int32)) := ⟨_, rfl⟩
  rw [← hi1] at pre12
  have ei1 : i1.toInt = -(p0.toInt / 100) := by rw [hi1]; exact own_dv1 ei0 (Int.lt_of_lt_of_le (by decide) xa0)
  have f13 := (f7.wr W11 gt_)
  obtain ⟨T14, X14, e14, st14⟩ := getS2 X11 hx hZ hown (host := "") (Or.inl (hw _ (own_m 142 rfl))) Via.refl e11 (hDT.1.ext f13.2) (g := (mkF m 78 #[.val (.int i1), .val (.int (6 : Int32)), .val (.ref p2), .val (.int i1), .val (.int r0), .val (.int (3 : Int32)), .val (.int (0 : Int32))] [(.int (3 : Int32)), (.ref p2)])) rfl (hb hby d24_78)
  have en : (-i1).toInt = p0.toInt / 100 := own_nn ei1 xb1
  have ti15 := own_tin (r := (-i1)) (own_e0 en xa1 xb1).1 (own_e0 en xa1 xb1).2 hDT.2.2.2.2.1.1
  have hat15 : cO.slots[((-i1)).toNatClampNeg]? = some (.int d1) := (hDT.2.2.2.2.1.2 _ ti15.1 ti15.2.1).trans (by rw [own_ones (r := (-i1)) (d := d1) (own_e0 en xa1 xb1).1 (own_e0 en xa1 xb1).2 (own_o2 en hd1)])
  have Aq15 := hDT.2.2.1.ext f13.2
  obtain ⟨cl16, Ar16, q16, S16, N16, H16, G16⟩ := id V11
  have hin16 : ¬ ((3 : Int32) < 0 ∨ cl16.slots.size ≤ ((3 : Int32)).toNatClampNeg) := inb_of S16 ⟨by decide, by decide⟩
  obtain ⟨T17, h17, X17, e17, W17, st17⟩ := stB X14 hx hZ e14 Ar16 (j := (3 : Int32)) hin16 (g := (mkF m 84 #[.val (.int i1), .val (.int (6 : Int32)), .val (.ref p2), .val (.int i1), .val (.int r0), .val (.int (3 : Int32)), .val (.int (0 : Int32))] [(.int d1), (.int (3 : Int32)), (.ref p2)])) rfl rfl (hb hby d24_84)
  have N17 := Fr.snoc X17 N11 gt_
  have K17 := K11.wr W17 (Or.inl (own_m 0 rfl))
  have V17 : Arv Z h17 p2 kb .byte (16 : Int32) [v0, v1, v2, (.int d1.toInt8.toInt32), (.int d2.toInt8.toInt32), (.int d3.toInt8.toInt32), (.int (0 : Int32)), (.int (0 : Int32)), (.int (0 : Int32)), (.int (0 : Int32)), (.int (0 : Int32)), (.int (0 : Int32)), (.int (0 : Int32)), (.int (0 : Int32)), (.int (0 : Int32)), (.int (0 : Int32))] (.int (0 : Int32)) := Arv.set Ar16 q16 S16 N16 H16 G16 (fits_nar_byte _) W17 3 rfl (Nat.le_of_ble_eq_true rfl)
  obtain ⟨fs, hr, hrun, hended, hW, hsame⟩ := X17.leave (v := some (.int (3 : Int32))) (fun h => by rw [Bd.returns] at h; cases h)
  refine ⟨_, _, pre12 _ ?_, hrun, hended, _, _, rfl, ?_, ⟨_, rfl⟩, hW, hsame.mono (by decide) (by decide)⟩
  · show Steps p.tables e below (T11.setTop (mkF m 22 #[.val (.int i1), .val (.int (6 : Int32)), .val (.ref p2), .val (.int i1), .val (.int r0), .val (.int (4 : Int32)), .val (.int (0 : Int32))] [])) _
    refine XS.iloadN X11.here hx rfl (hb hby d24_22) rfl  ?_
    refine XS.bipush X11.here hx rfl (hb hby d24_23) ?_
    show Steps p.tables e below (T11.setTop (mkF m 25 #[.val (.int i1), .val (.int (6 : Int32)), .val (.ref p2), .val (.int i1), .val (.int r0), .val (.int (4 : Int32)), .val (.int (0 : Int32))] [(.int (-100 : Int32)), (.int i1)])) _
    refine XS.icmpYes X11.here hx rfl (pc0 := 25) (pc' := 72) rfl (hb hby d24_25) rfl (tlt ((own_b100 ei1).2 xb1)).2.2.1 (by decide) (by decide) ?_
    refine XS.aloadN X11.here hx rfl (hb hby d24_72) rfl rfl ?_
    refine XS.iinc X11.here hx rfl (hb hby d24_73) rfl (l' := #[.val (.int i1), .val (.int (6 : Int32)), .val (.ref p2), .val (.int i1), .val (.int r0), .val (.int (3 : Int32)), .val (.int (0 : Int32))]) rfl ?_
    refine XS.iload X11.here hx rfl (hb hby d24_76) rfl  ?_
    show Steps p.tables e below (T11.setTop (mkF m 78 #[.val (.int i1), .val (.int (6 : Int32)), .val (.ref p2), .val (.int i1), .val (.int r0), .val (.int (3 : Int32)), .val (.int (0 : Int32))] [(.int (3 : Int32)), (.ref p2)])) _
    refine st14 _ ?_
    show Steps p.tables e below (T14.setTop (mkF m 81 #[.val (.int i1), .val (.int (6 : Int32)), .val (.ref p2), .val (.int i1), .val (.int r0), .val (.int (3 : Int32)), .val (.int (0 : Int32))] [(.ref wO), (.int (3 : Int32)), (.ref p2)])) _
    refine XS.iloadN X14.here hx rfl (hb hby d24_81) rfl  ?_
    refine XS.ineg X14.here hx rfl (hb hby d24_82) rfl ?_
    show Steps p.tables e below (T14.setTop (mkF m 83 #[.val (.int i1), .val (.int (6 : Int32)), .val (.ref p2), .val (.int i1), .val (.int r0), .val (.int (3 : Int32)), .val (.int (0 : Int32))] [(.int (-i1)), (.ref wO), (.int (3 : Int32)), (.ref p2)])) _
    refine X14.baloadBytes hx (j := (-i1)) (v := .int d1) (by rw [e14]; exact Aq15.1) (State.isArrayOf_alike hZ.alike Aq15.2.1) Aq15.2.2 ti15.2.2 hat15 (g := (mkF m 83 #[.val (.int i1), .val (.int (6 : Int32)), .val (.ref p2), .val (.int i1), .val (.int r0), .val (.int (3 : Int32)), .val (.int (0 : Int32))] [(.int (-i1)), (.ref wO), (.int (3 : Int32)), (.ref p2)])) rfl rfl (hb hby d24_83) _ ?_
    show Steps p.tables e below (T14.setTop (mkF m 84 #[.val (.int i1), .val (.int (6 : Int32)), .val (.ref p2), .val (.int i1), .val (.int r0), .val (.int (3 : Int32)), .val (.int (0 : Int32))] [(.int d1), (.int (3 : Int32)), (.ref p2)])) _
    refine st17 _ ?_
    show Steps p.tables e below (T17.setTop (mkF m 85 #[.val (.int i1), .val (.int (6 : Int32)), .val (.ref p2), .val (.int i1), .val (.int r0), .val (.int (3 : Int32)), .val (.int (0 : Int32))] [])) _
    refine XS.iloadN X17.here hx rfl (hb hby d24_85) rfl  ?_
    refine XS.bipush X17.here hx rfl (hb hby d24_86) ?_
    show Steps p.tables e below (T17.setTop (mkF m 88 #[.val (.int i1), .val (.int (6 : Int32)), .val (.ref p2), .val (.int i1), .val (.int r0), .val (.int (3 : Int32)), .val (.int (0 : Int32))] [(.int (-9 : Int32)), (.int i1)])) _
    refine XS.icmpYes X17.here hx rfl (pc0 := 88) (pc' := 104) rfl (hb hby d24_88) rfl (flt ((own_b9 ei1).1 xc)).2.1 (by decide) (by decide) ?_
    refine XS.iload X17.here hx rfl (hb hby d24_104) rfl  ?_
    show Steps p.tables e below (T17.setTop (mkF m 106 #[.val (.int i1), .val (.int (6 : Int32)), .val (.ref p2), .val (.int i1), .val (.int r0), .val (.int (3 : Int32)), .val (.int (0 : Int32))] [(.int (0 : Int32))])) _
    refine XS.ifYes X17.here hx rfl (pc0 := 106) (pc' := 118) rfl (hb hby d24_106) rfl ((if0 _ _).trans (teq (by decide : (0 : Int32) = (0 : Int32))).1) (by decide) (by decide) ?_
    refine XS.iload X17.here hx rfl (hb hby d24_118) rfl  ?_
    show Steps p.tables e below (T17.setTop (mkF m 120 #[.val (.int i1), .val (.int (6 : Int32)), .val (.ref p2), .val (.int i1), .val (.int r0), .val (.int (3 : Int32)), .val (.int (0 : Int32))] [(.int (3 : Int32))])) _
    exact retI X17 hx Bd.returns (hb hby d24_120) hr
  · show Q_rmGC3 Z p0 p2 zc fm wO cO wT cT kb v0 v1 v2 d1 d2 d3 h0 n0 _ T17.heap _
    rw [e17]
    exact ⟨rfl, N17, K17, V17⟩
theorem ef_rmAppI3 (m : MethodId) (p0 : Addr) (p1 : Int32) : entryFrame m #[(.ref p0), (.int p1)] 4 = mkF m 0 #[.val (.ref p0), .val (.int p1), .unset, .unset] [] := by first | (simp [entryFrame, mkF, argsToLocals, Value.category]; done) | rfl
def Q_rmAppI3 (Z : State) (p0 : Addr) (p1 : Int32) (zc : Int32) (fm : Value) (wO : Addr) (cO : Cell) (wT : Addr) (cT : Cell) (t : Addr) (kb : ClassId) (b0 : Int32) (b1 : Int32) (b2 : Int32) (d1 : Int32) (d2 : Int32) (d3 : Int32) (h0 : Heap) (n0 : Nat) (v : Option Value) (h : Heap) (L : List Loc) : Prop := v = some (.ref p0) ∧ Fr n0 L ∧ Keep h0 h [p0, t] ∧ Fld Z h p0 "java/lang/AbstractStringBuilder" "value" "[B" (.ref t) ∧ Fld Z h p0 "java/lang/AbstractStringBuilder" "coder" "B" (.int (0 : Int32)) ∧ Fld Z h p0 "java/lang/AbstractStringBuilder" "count" "I" (.int (Int32.ofNat ([b0, b1, b2, d1, d2, d3]).length)) ∧ Arv Z h t kb .byte (16 : Int32) (own_nrw ([b0, b1, b2, d1, d2, d3])) (.int (0 : Int32))
set_option maxRecDepth 65536 in
set_option maxHeartbeats 40000000 in
theorem rmAppI3 (l : Launch) (Z : State) (a0 : Array Value) (hw : ∀ d ∈ tables_1, d.before a0 Z = true) (ws : List Jvm.Cond) (p0 : Addr) (p1 : Int32) (zc : Int32) (fm : Value) (wO : Addr) (cO : Cell) (wT : Addr) (cT : Cell) (t : Addr) (kb : ClassId) (b0 : Int32) (b1 : Int32) (b2 : Int32) (d1 : Int32) (d2 : Int32) (d3 : Int32) (h0 : Heap) (n0 : Nat) (Z0 : n0 ≤ h0.size) (hSt : own_St Z zc fm) (Ol : own_Old Z n0 h0) (hDT : own_DT Z wO cO wT cT) (Eb : Exa Z h0 p0 "java/lang/StringBuilder") (Fbv : Fld Z h0 p0 "java/lang/AbstractStringBuilder" "value" "[B" (.ref t)) (Fbc : Fld Z h0 p0 "java/lang/AbstractStringBuilder" "coder" "B" (.int (0 : Int32))) (Fbn : Fld Z h0 p0 "java/lang/AbstractStringBuilder" "count" "I" (.int (3 : Int32))) (Ab : Arv Z h0 t kb .byte (16 : Int32) (own_nrw [b0, b1, b2]) (.int (0 : Int32))) (gb_ : n0 ≤ p0) (gt_ : n0 ≤ t) (npt : p0 ≠ t) (hp0 : 0 ≤ p1.toInt) (hlo : 100 ≤ p1.toInt) (hhi : p1.toInt < 1000) (hd1 : d1.toInt = 48 + p1.toInt / 100 % 10) (hd2 : d2.toInt = 48 + p1.toInt / 10 % 10) (hd3 : d3.toInt = 48 + p1.toInt % 10) :
    MetFree l (⟨"java/lang/AbstractStringBuilder", "append", "(I)Ljava/lang/AbstractStringBuilder;"⟩ : MethodName) (head1 (Jvm.Cond.code (⟨"java/lang/AbstractStringBuilder", "append", "(I)Ljava/lang/AbstractStringBuilder;"⟩ : MethodName) jdk_68_method_32_code 4 (some (.object "java/lang/AbstractStringBuilder")) :: ws) ({ frames := 1, cells := 0, slots := 0, locals := 18 } : Room)) (fun a U => a = #[(.ref p0), (.int p1)] ∧ Z.Warmed39 U.vm ∧ U.heap = h0) (fun _ _ _ _ _ => True) (fun _ U o U' => ∃ v L, o = .returned v ∧ Q_rmAppI3 Z p0 p1 zc fm wO cO wT cT t kb b0 b1 b2 d1 d2 d3 h0 n0 v U'.heap L ∧ FrameEnd U o U' L ({ frames := 1, cells := 0, slots := 0, locals := 18 } : Room).cells ({ frames := 1, cells := 0, slots := 0, locals := 18 } : Room).slots) := by
  refine MetFree.of_bodySF (plainFor_of_name pn_java_lang_AbstractStringBuilder) hisR ?_
  intro p e s m args below meth c s₁ Bd hml0 hP hK
  obtain ⟨rfl, hZ, hh⟩ := hP
  have hx := Bd.exec
  have hby := Bd.bytes
  have hml : c.maxLocals = 4 := hml0
  have hown : s.vm.findClass "java/lang/AbstractStringBuilder" = some m.cls := findClass_of_methodNamed Bd.named
  have hnm := (name_of_methodNamed Bd.named Bd.method).1
  have hZo := hZ
  have howno := hown
  have X0 : Stand p l e ({ frames := 1, cells := 0, slots := 0, locals := 18 } : Room) s m #[(.ref p0), (.int p1)] below meth c s₁ [] 0 0 := Stand.of_body Bd
  have e0 : s₁.heap = h0 := by rw [← hh, Bd.state]; rfl
  have N0 := Fr.nil n0
  have pre0 : ∀ t, Steps p.tables e below (s₁.setTop (mkF m 0 #[.val (.ref p0), .val (.int p1), .unset, .unset] [])) t → Steps p.tables e below (s₁.setTop (entryFrame m #[(.ref p0), (.int p1)] 4)) t := fun t k => castTop (ef_rmAppI3 m p0 p1 ) k
  obtain ⟨T1, X1, e1, st1⟩ := getF X0 hx hZ hown (host := "") (Or.inl (hw _ (own_m 91 rfl))) Via.refl e0 Fbn (g := (mkF m 1 #[.val (.ref p0), .val (.int p1), .unset, .unset] [(.ref p0)])) rfl rfl (hb hby d21_1)
  obtain ⟨_, _, ⟨T2, L2, k2, n2⟩, -, X2, ⟨Lc2, hQ2, l2, y2, z2⟩, st2⟩ := Jvm.LawKit.callS X1 hx (y := (⟨"java/lang/Integer", "stringSize", "(I)I"⟩ : MethodName)) hown (mvT hZ (hw _ (own_m 130 rfl))) (mvT hZ (hw _ (own_m 131 rfl))) (mvT hZ (hw _ (own_m 132 rfl))) (mvT hZ (hw _ (own_m 133 rfl))) (by decide) (backOf (W := 1) (rmSS3 l Z a0 hw [] p1 zc fm  h0 n0 Z0 hSt Ol hp0 hlo hhi) hZ (hw _ (own_m 133 rfl)) (hw _ (own_m 132 rfl)) (by decide) (by decide)) (g := (mkF m 7 #[.val (.ref p0), .val (.int p1), .val (.int (3 : Int32)), .unset] [(.int p1), (.int (3 : Int32))])) rfl (by rw [hml]; rfl) (argsL := [(.int p1)]) (rest := [(.int (3 : Int32))]) (lenOf pd__I_I rfl) rfl (by show 2 * 0 + _ ≤ _; exact Nat.le_of_eq rfl) (hb hby d21_7) (fun _ _ => ⟨rfl, e1, (by decide : 0 + 0 ≤ _), (by decide : 0 + 0 ≤ _)⟩)
  dsimp only [Pt.U, Pt.locs, Pt.cells, Pt.slots] at X2 l2 y2 z2 st2 hQ2
  subst l2 y2 z2
  obtain ⟨rfl, Nq2, e2⟩ := hQ2
  have N2 := Fr.app N0 Nq2
  obtain ⟨cq3, kq3, q3a, q3b, q3c⟩ := isOf hZ e2 Eb
  obtain ⟨_, _, ⟨T3, L3, k3, n3⟩, -, X3, ⟨Lc3, hQ3, l3, y3, z3⟩, st3⟩ := X2.virtualBack hx (y := (⟨"java/lang/AbstractStringBuilder", "ensureCapacityInternal", "(I)V"⟩ : MethodName)) (z := (⟨"java/lang/AbstractStringBuilder", "ensureCapacityInternal", "(I)V"⟩ : MethodName)) hown (mvT hZ (hw _ (own_m 93 rfl))) (mvT hZ (own_decl (hw _ (own_m 94 rfl)) (hw _ (own_m 97 rfl)))) (notFace_of_selects (args := #[]) (mvT hZ (hw _ (own_m 96 rfl)))) (mvT hZ (hw _ (own_m 96 rfl))) (mvT hZ (hw _ (own_m 94 rfl))) (by decide) (backOf (W := 0) (rmEns l Z a0 hw [] p0 (6 : Int32) zc fm t kb (own_nrw [b0, b1, b2]) h0 n0 Z0 hSt Ol Fbv Fbc Ab (by decide)) hZ (hw _ (own_m 97 rfl)) (hw _ (own_m 63 rfl)) (by decide) (by decide)) q3a q3c (g := (mkF m 14 #[.val (.ref p0), .val (.int p1), .val (.int (3 : Int32)), .val (.int (6 : Int32))] [(.int (6 : Int32)), (.ref p0)])) rfl (by rw [hml]; rfl) (Steps.refl _) (argsL := [(.int (6 : Int32))]) (rest := []) (lenOf pd__I_V rfl) rfl (by show 2 * 0 + _ ≤ _; exact Nat.le_of_eq rfl) (hb hby d21_14) (fun _ _ => ⟨rfl, e2, (by decide : 0 + 0 ≤ _), (by decide : 0 + 0 ≤ _)⟩)
  dsimp only [Pt.U, Pt.locs, Pt.cells, Pt.slots] at X3 l3 y3 z3 st3 hQ3
  subst l3 y3 z3
  obtain ⟨rfl, Nq3, e3⟩ := hQ3
  have N3 := Fr.app N2 Nq3
  obtain ⟨cq4, kq4, q4a, q4b, q4c⟩ := isOf hZ e3 Eb
  obtain ⟨_, _, ⟨T4, L4, k4, n4⟩, -, X4, ⟨Lc4, hQ4, l4, y4, z4⟩, st4⟩ := X3.virtualBack hx (y := (⟨"java/lang/AbstractStringBuilder", "isLatin1", "()Z"⟩ : MethodName)) (z := (⟨"java/lang/AbstractStringBuilder", "isLatin1", "()Z"⟩ : MethodName)) hown (mvT hZ (hw _ (own_m 134 rfl))) (mvT hZ (hw _ (own_m 135 rfl))) (notFace_of_selects (args := #[]) (mvT hZ (hw _ (own_m 137 rfl)))) (mvT hZ (hw _ (own_m 137 rfl))) (mvT hZ (hw _ (own_m 136 rfl))) (by decide) (backOf (W := 0) (rmBLat l Z a0 hw [] p0 zc fm  h0 n0 Z0 hSt Ol Fbc) hZ (hw _ (own_m 138 rfl)) (hw _ (own_m 63 rfl)) (by decide) (by decide)) q4a q4c (g := (mkF m 18 #[.val (.ref p0), .val (.int p1), .val (.int (3 : Int32)), .val (.int (6 : Int32))] [(.ref p0)])) rfl (by rw [hml]; rfl) (Steps.refl _) (argsL := []) (rest := []) (lenOf pd___Z rfl) rfl (by show 2 * 0 + _ ≤ _; exact Nat.le_of_eq rfl) (hb hby d21_18) (fun _ _ => ⟨rfl, e3, (by decide : 0 + 0 ≤ _), (by decide : 0 + 0 ≤ _)⟩)
  dsimp only [Pt.U, Pt.locs, Pt.cells, Pt.slots] at X4 l4 y4 z4 st4 hQ4
  subst l4 y4 z4
  obtain ⟨rfl, Nq4, e4⟩ := hQ4
  have N4 := Fr.app N3 Nq4
  obtain ⟨T5, X5, e5, st5⟩ := getF X4 hx hZ hown (host := "") (Or.inl (hw _ (own_m 67 rfl))) Via.refl e4 Fbv (g := (mkF m 27 #[.val (.ref p0), .val (.int p1), .val (.int (3 : Int32)), .val (.int (6 : Int32))] [(.ref p0), (.int (6 : Int32)), (.int p1)])) rfl rfl (hb hby d21_27)
  obtain ⟨_, _, ⟨T6, L6, k6, n6⟩, -, X6, ⟨Lc6, hQ6, l6, y6, z6⟩, st6⟩ := Jvm.LawKit.callS X5 hx (y := (⟨"java/lang/Integer", "getChars", "(II[B)I"⟩ : MethodName)) hown (mvT hZ (hw _ (own_m 139 rfl))) (mvT hZ (hw _ (own_m 140 rfl))) (mvT hZ (hw _ (own_m 132 rfl))) (mvT hZ (hw _ (own_m 141 rfl))) (by decide) (backOf (W := 0) (rmGC3 l Z a0 hw [] p1 t zc fm wO cO wT cT kb (.int (own_b b0)) (.int (own_b b1)) (.int (own_b b2)) d1 d2 d3 h0 n0 Z0 hSt Ol hDT (Ab.pad (pad_rep (own_nrw [b0, b1, b2]) (.int (0 : Int32)) 13)) gt_ hp0 hlo hhi hd1 hd2 hd3) hZ (hw _ (own_m 141 rfl)) (hw _ (own_m 132 rfl)) (by decide) (by decide)) (g := (mkF m 30 #[.val (.ref p0), .val (.int p1), .val (.int (3 : Int32)), .val (.int (6 : Int32))] [(.ref t), (.int (6 : Int32)), (.int p1)])) rfl (by rw [hml]; rfl) (argsL := [(.int p1), (.int (6 : Int32)), (.ref t)]) (rest := []) (lenOf pd__II_B_I rfl) rfl (by show 2 * 0 + _ ≤ _; exact Nat.le_of_eq rfl) (hb hby d21_30) (fun _ _ => ⟨rfl, e5, (by decide : 0 + 0 ≤ _), (by decide : 0 + 0 ≤ _)⟩)
  dsimp only [Pt.U, Pt.locs, Pt.cells, Pt.slots] at X6 l6 y6 z6 st6 hQ6
  subst l6 y6 z6
  obtain ⟨rfl, Nq6, K6, at_⟩ := hQ6
  have N6 := Fr.app N4 Nq6
  have KK6 := (Keep.refl h0 [p0, t]).trans K6 (allS (Or.inl (own_m 1 rfl)) all0)
  rw [own_bdd hd1, own_bdd hd2, own_bdd hd3] at at_
  have au_ : Arv Z T6.heap t kb .byte (16 : Int32) (own_nrw [b0, b1, b2, d1, d2, d3]) (.int (0 : Int32)) := at_.pad (fun i => (pad_rep (own_nrw [b0, b1, b2, d1, d2, d3]) _ 10 i).symm)
  have f7 := (Eb.keep K6)
  have f8 := (Fbn.keep K6 (ninS npt nin0))
  obtain ⟨T9, h9, X9, e9, W9, st9⟩ := putF X6 hx hZ hown (host := "") (Or.inl (hw _ (own_m 91 rfl))) Via.refl rfl f8 f7 (Or.inl (hw _ (own_m 92 rfl))) (hw _ (own_m 54 rfl)) (ty := .int) (by decide) rfl rfl (g := (mkF m 50 #[.val (.ref p0), .val (.int p1), .val (.int (3 : Int32)), .val (.int (6 : Int32))] [(.int (6 : Int32)), (.ref p0)])) rfl rfl (hb hby d21_50)
  have Fw9 := f8.same W9
  have N9 := Fr.snoc X9 N6 gb_
  have K9 := KK6.wr W9 (Or.inl (own_m 0 rfl))
  have f10 := ((Fbv.keep K6 (ninS npt nin0)).other W9 (Or.inr (slot_ne (Or.inl (hw _ (own_m 68 rfl))) (Or.inl (hw _ (own_m 92 rfl))) (by decide) (t := (.array .byte)) (t' := .int) (by decide) (by decide))))
  have f11 := ((Fbc.keep K6 (ninS npt nin0)).other W9 (Or.inr (slot_ne (Or.inl (hw _ (own_m 70 rfl))) (Or.inl (hw _ (own_m 92 rfl))) (by decide) (t := .byte) (t' := .int) (by decide) (by decide))))
  have f12 := (au_.other W9 (Ne.symm npt))
  obtain ⟨fs, hr, hrun, hended, hW, hsame⟩ := X9.leave (v := some (.ref p0)) (fun h => by rw [Bd.returns] at h; cases h)
  refine ⟨_, _, pre0 _ ?_, hrun, hended, _, _, rfl, ?_, ⟨_, rfl⟩, hW, hsame.mono (by decide) (by decide)⟩
  · show Steps p.tables e below (s₁.setTop (mkF m 0 #[.val (.ref p0), .val (.int p1), .unset, .unset] [])) _
    refine XS.aloadN X0.here hx rfl (hb hby d21_0) rfl rfl ?_
    show Steps p.tables e below (s₁.setTop (mkF m 1 #[.val (.ref p0), .val (.int p1), .unset, .unset] [(.ref p0)])) _
    refine st1 _ ?_
    show Steps p.tables e below (T1.setTop (mkF m 4 #[.val (.ref p0), .val (.int p1), .unset, .unset] [(.int (3 : Int32))])) _
    refine XS.istoreN X1.here hx rfl (hb hby d21_4) rfl (l' := #[.val (.ref p0), .val (.int p1), .val (.int (3 : Int32)), .unset]) rfl ?_
    refine XS.iloadN X1.here hx rfl (hb hby d21_5) rfl  ?_
    refine XS.iloadN X1.here hx rfl (hb hby d21_6) rfl  ?_
    show Steps p.tables e below (T1.setTop (mkF m 7 #[.val (.ref p0), .val (.int p1), .val (.int (3 : Int32)), .unset] [(.int p1), (.int (3 : Int32))])) _
    refine st2 _ ?_
    show Steps p.tables e below (T2.setTop (mkF m 10 #[.val (.ref p0), .val (.int p1), .val (.int (3 : Int32)), .unset] [(.int (3 : Int32)), (.int (3 : Int32))])) _
    refine XS.iadd X2.here hx rfl (hb hby d21_10) rfl ?_
    refine XS.istoreN X2.here hx rfl (hb hby d21_11) rfl (l' := #[.val (.ref p0), .val (.int p1), .val (.int (3 : Int32)), .val (.int (6 : Int32))]) rfl ?_
    refine XS.aloadN X2.here hx rfl (hb hby d21_12) rfl rfl ?_
    refine XS.iloadN X2.here hx rfl (hb hby d21_13) rfl  ?_
    show Steps p.tables e below (T2.setTop (mkF m 14 #[.val (.ref p0), .val (.int p1), .val (.int (3 : Int32)), .val (.int (6 : Int32))] [(.int (6 : Int32)), (.ref p0)])) _
    refine st3.trans ?_
    show Steps p.tables e below (T3.setTop (mkF m 17 #[.val (.ref p0), .val (.int p1), .val (.int (3 : Int32)), .val (.int (6 : Int32))] [])) _
    refine XS.aloadN X3.here hx rfl (hb hby d21_17) rfl rfl ?_
    show Steps p.tables e below (T3.setTop (mkF m 18 #[.val (.ref p0), .val (.int p1), .val (.int (3 : Int32)), .val (.int (6 : Int32))] [(.ref p0)])) _
    refine st4.trans ?_
    show Steps p.tables e below (T4.setTop (mkF m 21 #[.val (.ref p0), .val (.int p1), .val (.int (3 : Int32)), .val (.int (6 : Int32))] [(.int (1 : Int32))])) _
    refine XS.ifNo X4.here hx rfl (hb hby d21_21) rfl ((if0 _ _).trans (feq (by decide : ¬ ((1 : Int32) = (0 : Int32)))).1) ?_
    refine XS.iloadN X4.here hx rfl (hb hby d21_24) rfl  ?_
    refine XS.iloadN X4.here hx rfl (hb hby d21_25) rfl  ?_
    refine XS.aloadN X4.here hx rfl (hb hby d21_26) rfl rfl ?_
    show Steps p.tables e below (T4.setTop (mkF m 27 #[.val (.ref p0), .val (.int p1), .val (.int (3 : Int32)), .val (.int (6 : Int32))] [(.ref p0), (.int (6 : Int32)), (.int p1)])) _
    refine st5 _ ?_
    show Steps p.tables e below (T5.setTop (mkF m 30 #[.val (.ref p0), .val (.int p1), .val (.int (3 : Int32)), .val (.int (6 : Int32))] [(.ref t), (.int (6 : Int32)), (.int p1)])) _
    refine st6 _ ?_
    show Steps p.tables e below (T6.setTop (mkF m 33 #[.val (.ref p0), .val (.int p1), .val (.int (3 : Int32)), .val (.int (6 : Int32))] [(.int (3 : Int32))])) _
    refine XS.pop X6.here hx rfl (hb hby d21_33) rfl rfl ?_
    refine XS.goto X6.here hx rfl (pc0 := 34) (pc' := 48) rfl (hb hby d21_34) (by decide) (by decide) ?_
    refine XS.aloadN X6.here hx rfl (hb hby d21_48) rfl rfl ?_
    refine XS.iloadN X6.here hx rfl (hb hby d21_49) rfl  ?_
    show Steps p.tables e below (T6.setTop (mkF m 50 #[.val (.ref p0), .val (.int p1), .val (.int (3 : Int32)), .val (.int (6 : Int32))] [(.int (6 : Int32)), (.ref p0)])) _
    refine st9 _ ?_
    show Steps p.tables e below (T9.setTop (mkF m 53 #[.val (.ref p0), .val (.int p1), .val (.int (3 : Int32)), .val (.int (6 : Int32))] [])) _
    refine XS.aloadN X9.here hx rfl (hb hby d21_53) rfl rfl ?_
    show Steps p.tables e below (T9.setTop (mkF m 54 #[.val (.ref p0), .val (.int p1), .val (.int (3 : Int32)), .val (.int (6 : Int32))] [(.ref p0)])) _
    jvm_step X9.here [X9.here.top, hx, (hb hby d21_54), X9.method', Bd.returns, Value.isRef, FieldType.isReference]
    first | (intro acts; rw [hr _ acts rfl rfl rfl]) | rw [hr _ _ rfl rfl rfl]
    exact Steps.refl _
  · show Q_rmAppI3 Z p0 p1 zc fm wO cO wT cT t kb b0 b1 b2 d1 d2 d3 h0 n0 _ T9.heap _
    rw [e9]
    exact ⟨rfl, N9, K9, f10, f11, Fw9, f12⟩
theorem ef_rmSAppI3 (m : MethodId) (p0 : Addr) (p1 : Int32) : entryFrame m #[(.ref p0), (.int p1)] 2 = mkF m 0 #[.val (.ref p0), .val (.int p1)] [] := by first | (simp [entryFrame, mkF, argsToLocals, Value.category]; done) | rfl
def Q_rmSAppI3 (Z : State) (p0 : Addr) (p1 : Int32) (zc : Int32) (fm : Value) (wO : Addr) (cO : Cell) (wT : Addr) (cT : Cell) (t : Addr) (kb : ClassId) (b0 : Int32) (b1 : Int32) (b2 : Int32) (d1 : Int32) (d2 : Int32) (d3 : Int32) (h0 : Heap) (n0 : Nat) (v : Option Value) (h : Heap) (L : List Loc) : Prop := v = some (.ref p0) ∧ Fr n0 L ∧ Keep h0 h [p0, t] ∧ Fld Z h p0 "java/lang/AbstractStringBuilder" "value" "[B" (.ref t) ∧ Fld Z h p0 "java/lang/AbstractStringBuilder" "coder" "B" (.int (0 : Int32)) ∧ Fld Z h p0 "java/lang/AbstractStringBuilder" "count" "I" (.int (Int32.ofNat ([b0, b1, b2, d1, d2, d3]).length)) ∧ Arv Z h t kb .byte (16 : Int32) (own_nrw ([b0, b1, b2, d1, d2, d3])) (.int (0 : Int32))
set_option maxRecDepth 65536 in
set_option maxHeartbeats 40000000 in
theorem rmSAppI3 (l : Launch) (Z : State) (a0 : Array Value) (hw : ∀ d ∈ tables_1, d.before a0 Z = true) (ws : List Jvm.Cond) (p0 : Addr) (p1 : Int32) (zc : Int32) (fm : Value) (wO : Addr) (cO : Cell) (wT : Addr) (cT : Cell) (t : Addr) (kb : ClassId) (b0 : Int32) (b1 : Int32) (b2 : Int32) (d1 : Int32) (d2 : Int32) (d3 : Int32) (h0 : Heap) (n0 : Nat) (Z0 : n0 ≤ h0.size) (hSt : own_St Z zc fm) (Ol : own_Old Z n0 h0) (hDT : own_DT Z wO cO wT cT) (Eb : Exa Z h0 p0 "java/lang/StringBuilder") (Fbv : Fld Z h0 p0 "java/lang/AbstractStringBuilder" "value" "[B" (.ref t)) (Fbc : Fld Z h0 p0 "java/lang/AbstractStringBuilder" "coder" "B" (.int (0 : Int32))) (Fbn : Fld Z h0 p0 "java/lang/AbstractStringBuilder" "count" "I" (.int (3 : Int32))) (Ab : Arv Z h0 t kb .byte (16 : Int32) (own_nrw [b0, b1, b2]) (.int (0 : Int32))) (gb_ : n0 ≤ p0) (gt_ : n0 ≤ t) (npt : p0 ≠ t) (hp0 : 0 ≤ p1.toInt) (hlo : 100 ≤ p1.toInt) (hhi : p1.toInt < 1000) (hd1 : d1.toInt = 48 + p1.toInt / 100 % 10) (hd2 : d2.toInt = 48 + p1.toInt / 10 % 10) (hd3 : d3.toInt = 48 + p1.toInt % 10) :
    MetFree l (⟨"java/lang/StringBuilder", "append", "(I)Ljava/lang/StringBuilder;"⟩ : MethodName) (head1 (Jvm.Cond.code (⟨"java/lang/StringBuilder", "append", "(I)Ljava/lang/StringBuilder;"⟩ : MethodName) jdk_67_method_15_code 2 (some (.object "java/lang/StringBuilder")) :: ws) ({ frames := 2, cells := 0, slots := 0, locals := 33 } : Room)) (fun a U => a = #[(.ref p0), (.int p1)] ∧ Z.Warmed39 U.vm ∧ U.heap = h0) (fun _ _ _ _ _ => True) (fun _ U o U' => ∃ v L, o = .returned v ∧ Q_rmSAppI3 Z p0 p1 zc fm wO cO wT cT t kb b0 b1 b2 d1 d2 d3 h0 n0 v U'.heap L ∧ FrameEnd U o U' L ({ frames := 2, cells := 0, slots := 0, locals := 33 } : Room).cells ({ frames := 2, cells := 0, slots := 0, locals := 33 } : Room).slots) := by
  refine MetFree.of_bodySF (plainFor_of_name pn_java_lang_StringBuilder) hisR ?_
  intro p e s m args below meth c s₁ Bd hml0 hP hK
  obtain ⟨rfl, hZ, hh⟩ := hP
  have hx := Bd.exec
  have hby := Bd.bytes
  have hml : c.maxLocals = 2 := hml0
  have hown : s.vm.findClass "java/lang/StringBuilder" = some m.cls := findClass_of_methodNamed Bd.named
  have hnm := (name_of_methodNamed Bd.named Bd.method).1
  have hZo := hZ
  have howno := hown
  have X0 : Stand p l e ({ frames := 2, cells := 0, slots := 0, locals := 33 } : Room) s m #[(.ref p0), (.int p1)] below meth c s₁ [] 0 0 := Stand.of_body Bd
  have e0 : s₁.heap = h0 := by rw [← hh, Bd.state]; rfl
  have N0 := Fr.nil n0
  have pre0 : ∀ t, Steps p.tables e below (s₁.setTop (mkF m 0 #[.val (.ref p0), .val (.int p1)] [])) t → Steps p.tables e below (s₁.setTop (entryFrame m #[(.ref p0), (.int p1)] 2)) t := fun t k => castTop (ef_rmSAppI3 m p0 p1 ) k
  obtain ⟨_, _, ⟨T1, L1, k1, n1⟩, -, X1, ⟨Lc1, hQ1, l1, y1, z1⟩, st1⟩ := superBack X0 hx hZ (y := (⟨"java/lang/AbstractStringBuilder", "append", "(I)Ljava/lang/AbstractStringBuilder;"⟩ : MethodName)) hown (hw _ (own_m 126 rfl)) (own_same (y := (⟨"java/lang/AbstractStringBuilder", "append", "(I)Ljava/lang/AbstractStringBuilder;"⟩ : MethodName)) (hw _ (own_m 128 rfl)) (by decide) (hw _ (own_m 96 rfl)) rfl) (hw _ (own_m 127 rfl)) (hw _ (own_m 78 rfl)) (by decide) (backOf (W := 0) (rmAppI3 l Z a0 hw [] p0 p1 zc fm wO cO wT cT t kb b0 b1 b2 d1 d2 d3 h0 n0 Z0 hSt Ol hDT Eb Fbv Fbc Fbn Ab gb_ gt_ npt hp0 hlo hhi hd1 hd2 hd3) hZ (hw _ (own_m 129 rfl)) (hw _ (own_m 63 rfl)) (by decide) (by decide)) e0 (Ins.self Eb) (g := (mkF m 2 #[.val (.ref p0), .val (.int p1)] [(.int p1), (.ref p0)])) rfl (by rw [hml]; rfl) (hw _ (own_m 129 rfl)) (argsL := [(.int p1)]) (rest := []) (lenOf pd__I_Ljava_lang_AbstractStringBuilder_ rfl) rfl (by show 2 * 0 + _ ≤ _; exact Nat.le_of_eq rfl) (hb hby d20_2) (fun _ _ => ⟨rfl, e0, (by decide : 0 + 0 ≤ _), (by decide : 0 + 0 ≤ _)⟩)
  dsimp only [Pt.U, Pt.locs, Pt.cells, Pt.slots] at X1 l1 y1 z1 st1 hQ1
  subst l1 y1 z1
  obtain ⟨rfl, Nq1, K1, fv_, fc_, fn_, at_⟩ := hQ1
  have N1 := Fr.app N0 Nq1
  have KK1 := (Keep.refl h0 [p0, t]).trans K1 (allS (Or.inl (own_m 0 rfl)) (allS (Or.inl (own_m 1 rfl)) all0))
  obtain ⟨fs, hr, hrun, hended, hW, hsame⟩ := X1.leave (v := some (.ref p0)) (fun h => by rw [Bd.returns] at h; cases h)
  refine ⟨_, _, pre0 _ ?_, hrun, hended, _, _, rfl, ?_, ⟨_, rfl⟩, hW, hsame.mono (by decide) (by decide)⟩
  · show Steps p.tables e below (s₁.setTop (mkF m 0 #[.val (.ref p0), .val (.int p1)] [])) _
    refine XS.aloadN X0.here hx rfl (hb hby d20_0) rfl rfl ?_
    refine XS.iloadN X0.here hx rfl (hb hby d20_1) rfl  ?_
    show Steps p.tables e below (s₁.setTop (mkF m 2 #[.val (.ref p0), .val (.int p1)] [(.int p1), (.ref p0)])) _
    refine st1.trans ?_
    show Steps p.tables e below (T1.setTop (mkF m 5 #[.val (.ref p0), .val (.int p1)] [(.ref p0)])) _
    refine XS.pop X1.here hx rfl (hb hby d20_5) rfl rfl ?_
    refine XS.aloadN X1.here hx rfl (hb hby d20_6) rfl rfl ?_
    show Steps p.tables e below (T1.setTop (mkF m 7 #[.val (.ref p0), .val (.int p1)] [(.ref p0)])) _
    jvm_step X1.here [X1.here.top, hx, (hb hby d20_7), X1.method', Bd.returns, Value.isRef, FieldType.isReference]
    first | (intro acts; rw [hr _ acts rfl rfl rfl]) | rw [hr _ _ rfl rfl rfl]
    exact Steps.refl _
  · show Q_rmSAppI3 Z p0 p1 zc fm wO cO wT cT t kb b0 b1 b2 d1 d2 d3 h0 n0 _ T1.heap _
    exact ⟨rfl, N1, KK1, fv_, fc_, fn_, at_⟩
theorem ef_rmTS3 (m : MethodId) (p0 : Addr) : entryFrame m #[(.ref p0)] 1 = mkF m 0 #[.val (.ref p0)] [] := by first | (simp [entryFrame, mkF, argsToLocals, Value.category]; done) | rfl
def Q_rmTS3 (Z : State) (p0 : Addr) (zc : Int32) (fm : Value) (wO : Addr) (cO : Cell) (wT : Addr) (cT : Cell) (x : Addr) (ts : Addr) (ks : ClassId) (c0 : Int32) (c1 : Int32) (pt : Int32) (d1 : Int32) (d2 : Int32) (d3 : Int32) (h0 : Heap) (n0 : Nat) (v : Option Value) (h : Heap) (L : List Loc) : Prop := (∃ (r ts : Addr) (ks : ClassId), v = some (.ref r) ∧ Exa Z h r "java/lang/String" ∧ Fld Z h r "java/lang/String" "value" "[B" (.ref ts) ∧ Fld Z h r "java/lang/String" "coder" "B" (.int (0 : Int32)) ∧ Arv Z h ts ks .byte (Int32.ofNat [c0, c1, 58, d1, d2, d3].length) (own_nrw [c0, c1, 58, d1, d2, d3]) (.int (0 : Int32))) ∧ Fr n0 L ∧ Keep h0 h []
set_option maxRecDepth 65536 in
set_option maxHeartbeats 40000000 in
theorem rmTS3 (l : Launch) (Z : State) (a0 : Array Value) (hw : ∀ d ∈ tables_1, d.before a0 Z = true) (ws : List Jvm.Cond) (p0 : Addr) (zc : Int32) (fm : Value) (wO : Addr) (cO : Cell) (wT : Addr) (cT : Cell) (x : Addr) (ts : Addr) (ks : ClassId) (c0 : Int32) (c1 : Int32) (pt : Int32) (d1 : Int32) (d2 : Int32) (d3 : Int32) (h0 : Heap) (n0 : Nat) (Z0 : n0 ≤ h0.size) (hSt : own_St Z zc fm) (Ol : own_Old Z n0 h0) (hDT : own_DT Z wO cO wT cT) (Fh : Fld Z h0 p0 "com/example/kikao/kikao/Domain" "host" "Ljava/lang/String;" (.ref x)) (Fp : Fld Z h0 p0 "com/example/kikao/kikao/Domain" "port" "I" (.int pt)) (Es : Exa Z h0 x "java/lang/String") (Fsv : Fld Z h0 x "java/lang/String" "value" "[B" (.ref ts)) (Fsc : Fld Z h0 x "java/lang/String" "coder" "B" (.int (0 : Int32))) (As : Arv Z h0 ts ks .byte (Int32.ofNat [c0, c1].length) (own_nrw [c0, c1]) (.int (0 : Int32))) (hle : ∀ c ∈ [c0, c1], ¬ (255 : Int32) < c) (hch : own_Chs [c0, c1]) (hp0 : 0 ≤ pt.toInt) (hlo : 100 ≤ pt.toInt) (hhi : pt.toInt < 1000) (hd1 : d1.toInt = 48 + pt.toInt / 100 % 10) (hd2 : d2.toInt = 48 + pt.toInt / 10 % 10) (hd3 : d3.toInt = 48 + pt.toInt % 10) (hn0 : n0 = h0.size) (hheld : Jvm.Lit.constHeld Z "com/example/kikao/kikao/Domain" 140) (hcw : Jvm.Lit.compactW.before a0 Z = true) :
    MetFree l (⟨"com/example/kikao/kikao/Domain", "toString", "()Ljava/lang/String;"⟩ : MethodName) (head1 (Jvm.Cond.code (⟨"com/example/kikao/kikao/Domain", "toString", "()Ljava/lang/String;"⟩ : MethodName) prog_6_method_6_code 1 (some (.object "java/lang/String")) :: ws) ({ frames := 6, cells := 6, slots := 48, locals := 91 } : Room)) (fun a U => a = #[(.ref p0)] ∧ Z.Warmed39 U.vm ∧ U.heap = h0 ∧ U.vm.interned = Z.vm.interned) (fun _ _ _ _ _ => True) (fun _ U o U' => ∃ v L, o = .returned v ∧ Q_rmTS3 Z p0 zc fm wO cO wT cT x ts ks c0 c1 pt d1 d2 d3 h0 n0 v U'.heap L ∧ ReturnedEndW U o U' L ({ frames := 6, cells := 6, slots := 48, locals := 91 } : Room).cells ({ frames := 6, cells := 6, slots := 48, locals := 91 } : Room).slots) := by
  refine MetFree.of_bodySF (plainFor_of_name pn_com_example_kikao_kikao_Domain) hisR ?_
  intro p e s m args below meth c s₁ Bd hml0 hP hK
  obtain ⟨rfl, hZ, hh, hI⟩ := hP
  have hx := Bd.exec
  have hby := Bd.bytes
  have hml : c.maxLocals = 1 := hml0
  have hown : s.vm.findClass "com/example/kikao/kikao/Domain" = some m.cls := findClass_of_methodNamed Bd.named
  have hnm := (name_of_methodNamed Bd.named Bd.method).1
  have hZo := hZ
  have howno := hown
  have X0 : Stand p l e ({ frames := 6, cells := 6, slots := 48, locals := 91 } : Room) s m #[(.ref p0)] below meth c s₁ [] 0 0 := Stand.of_body Bd
  have e0 : s₁.heap = h0 := by rw [← hh, Bd.state]; rfl
  have N0 := Fr.nil n0
  have pre0 : ∀ t, Steps p.tables e below (s₁.setTop (mkF m 0 #[.val (.ref p0)] [])) t → Steps p.tables e below (s₁.setTop (entryFrame m #[(.ref p0)] 1)) t := fun t k => castTop (ef_rmTS3 m p0 ) k
  obtain ⟨T1, X1, e1, st1⟩ := getF X0 hx hZ hown (host := "") (Or.inl (hw _ (own_m 46 rfl))) Via.refl e0 Fp (g := (mkF m 1 #[.val (.ref p0)] [(.ref p0)])) rfl rfl (hb hby d9_1)
  obtain ⟨T2, h2, X2, e2, E2, A2, D2, -, st2⟩ := newO X1 hx hZ hown (hw _ (own_m 53 rfl)) (hw _ (own_m 54 rfl)) (hw _ (own_m 55 rfl)) e1 (g := (mkF m 15 #[.val (.ref p0)] [])) rfl (hb hby d9_15) (by decide) (by decide)
  obtain ⟨b2, g2⟩ : ∃ z, z = h0.size := ⟨_, rfl⟩
  rw [← g2] at A2 D2 st2
  have ne2_p0 : p0 ≠ b2 := Nat.ne_of_lt (Nat.lt_of_lt_of_le Fh.lt (Nat.le_of_eq g2.symm))
  have ne2_x : x ≠ b2 := Nat.ne_of_lt (Nat.lt_of_lt_of_le Es.lt (Nat.le_of_eq g2.symm))
  have ne2_ts : ts ≠ b2 := Nat.ne_of_lt (Nat.lt_of_lt_of_le As.lt (Nat.le_of_eq g2.symm))
  have ge2 : n0 ≤ b2 := Nat.le_trans Z0 (Nat.le_of_eq g2.symm)
  have sz2 : h0.size ≤ b2 := Nat.le_trans (Keep.refl h0 []).1 (Nat.le_of_eq g2.symm)
  have K2 := (Keep.refl h0 []).ext E2
  have F2_value : Fld Z h2 b2 "java/lang/AbstractStringBuilder" "value" "[B" .null := D2 (Or.inl (hw _ (own_m 68 rfl))) (ty := (.array .byte)) (by decide)
  have F2_coder : Fld Z h2 b2 "java/lang/AbstractStringBuilder" "coder" "B" (.int (0 : Int32)) := D2 (Or.inl (hw _ (own_m 70 rfl))) (ty := .byte) (by decide)
  have F2_count : Fld Z h2 b2 "java/lang/AbstractStringBuilder" "count" "I" (.int (0 : Int32)) := D2 (Or.inl (hw _ (own_m 92 rfl))) (ty := .int) (by decide)
  have f3 := (Fp.ext E2)
  have f4 := (Nat.le_trans Z0 E2.1)
  have f5 := (Ol.ext E2)
  obtain ⟨_, _, ⟨T6, L6, k6, n6⟩, -, X6, ⟨Lc6, hQ6, l6, y6, z6⟩, st6⟩ := X2.specialBack hx (y := (⟨"java/lang/StringBuilder", "<init>", "()V"⟩ : MethodName)) rfl hown (mvT hZ (hw _ (own_m 56 rfl))) (mvT hZ (hw _ (own_m 57 rfl))) (mvT hZ (hw _ (own_m 58 rfl))) (by decide) (backOf (W := 1) (rmSB0 l Z a0 hw [] b2 zc fm  h2 n0 f4 hSt f5 A2 F2_value F2_coder F2_count ge2) hZ (hw _ (own_m 58 rfl)) (hw _ (own_m 55 rfl)) (by decide) (by decide)) (g := (mkF m 19 #[.val (.ref p0)] [(.ref b2), (.ref b2)])) rfl (by rw [hml]; rfl) (Steps.refl _) (a := b2) (argsL := []) (rest := [(.ref b2)]) (lenOf pd___V rfl) rfl (by show 2 * 0 + _ ≤ _; exact Nat.le_of_eq rfl) (hb hby d9_19) (fun _ _ => ⟨rfl, e2, (by decide : 1 + 1 ≤ _), (by decide : 4 + 16 ≤ _)⟩)
  dsimp only [Pt.U, Pt.locs, Pt.cells, Pt.slots] at X6 l6 y6 z6 st6 hQ6
  subst l6 y6 z6
  obtain ⟨rfl, Nq6, K6, t_, k_, gt_, zt_, fv_, fc_, fn_, at_⟩ := hQ6
  have N6 := Fr.app N0 Nq6
  have KK6 := K2.trans K6 (allS (Or.inr sz2) all0)
  have nd_ : p0 ≠ t_ := Nat.ne_of_lt (Nat.lt_of_lt_of_le f3.lt zt_)
  have nb_ : b2 ≠ t_ := Nat.ne_of_lt (Nat.lt_of_lt_of_le A2.lt zt_)
  have zz_ : h0.size ≤ t_ := Nat.le_trans K2.1 zt_
  have f7 := ((Fh.ext E2).keep K6 (ninS ne2_p0 nin0))
  obtain ⟨T8, X8, e8, st8⟩ := getF X6 hx hZ hown (host := "") (Or.inl (hw _ (own_m 44 rfl))) Via.refl rfl f7 (g := (mkF m 23 #[.val (.ref p0)] [(.ref p0), (.ref b2)])) rfl rfl (hb hby d9_23)
  have f9 := ((Es.ext E2).keep K6)
  have f10 := ((Fsv.ext E2).keep K6 (ninS ne2_x nin0))
  have f11 := ((Fsc.ext E2).keep K6 (ninS ne2_x nin0))
  have f12 := ((As.ext E2).keep K6 (ninS ne2_ts nin0))
  have f13 := (A2.keep K6)
  have f14 := (Nat.le_trans f4 K6.1)
  have f15 := (f5.keep K6 (allS ge2 all0))
  obtain ⟨cq16, kq16, q16a, q16b, q16c⟩ := isOf hZ e8 f13
  obtain ⟨_, _, ⟨T16, L16, k16, n16⟩, -, X16, ⟨Lc16, hQ16, l16, y16, z16⟩, st16⟩ := X8.virtualBack hx (y := (⟨"java/lang/StringBuilder", "append", "(Ljava/lang/String;)Ljava/lang/StringBuilder;"⟩ : MethodName)) (z := (⟨"java/lang/StringBuilder", "append", "(Ljava/lang/String;)Ljava/lang/StringBuilder;"⟩ : MethodName)) hown (mvT hZ (hw _ (own_m 71 rfl))) (mvT hZ (hw _ (own_m 72 rfl))) (notFace_of_selects (args := #[]) (mvT hZ (hw _ (own_m 74 rfl)))) (mvT hZ (hw _ (own_m 74 rfl))) (mvT hZ (hw _ (own_m 73 rfl))) (by decide) (backOf (W := 0) (rmSAppS l Z a0 hw [] b2 x zc fm ts ks [c0, c1] t_ k_ ([] : List Int32) T6.heap n0 f14 hSt f15 f9 f10 f11 f12 hle hch f13 fv_ fc_ fn_ at_ ge2 gt_ nb_ (Nat.le_of_ble_eq_true rfl)) hZ (hw _ (own_m 75 rfl)) (hw _ (own_m 55 rfl)) (by decide) (by decide)) q16a q16c (g := (mkF m 26 #[.val (.ref p0)] [(.ref x), (.ref b2)])) rfl (by rw [hml]; rfl) (Steps.refl _) (argsL := [(.ref x)]) (rest := []) (lenOf pd__Ljava_lang_String__Ljava_lang_StringBuilder_ rfl) rfl (by show 2 * 0 + _ ≤ _; exact Nat.le_of_eq rfl) (hb hby d9_26) (fun _ _ => ⟨rfl, e8, (by decide : 2 + 0 ≤ _), (by decide : 20 + 0 ≤ _)⟩)
  dsimp only [Pt.U, Pt.locs, Pt.cells, Pt.slots] at X16 l16 y16 z16 st16 hQ16
  subst l16 y16 z16
  obtain ⟨rfl, Nq16, K16, fv_1, fc_1, fn_1, at_1⟩ := hQ16
  have N16 := Fr.app N6 Nq16
  have KK16 := KK6.trans K16 (allS (Or.inr sz2) (allS (Or.inr zz_) all0))
  have pre17 : ∀ t, Steps p.tables e below (T16.setTop (mkF m 29 #[.val (.ref p0)] [(.ref b2)])) t → Steps p.tables e below (s₁.setTop (entryFrame m #[(.ref p0)] 1)) t := fun t kt => pre0 t (by
    show Steps p.tables e below (s₁.setTop (mkF m 0 #[.val (.ref p0)] [])) _
    refine XS.aloadN X0.here hx rfl (hb hby d9_0) rfl rfl ?_
    show Steps p.tables e below (s₁.setTop (mkF m 1 #[.val (.ref p0)] [(.ref p0)])) _
    refine st1 _ ?_
    show Steps p.tables e below (T1.setTop (mkF m 4 #[.val (.ref p0)] [(.int pt)])) _
    refine XS.iconst X1.here hx rfl (hb hby d9_4) ?_
    show Steps p.tables e below (T1.setTop (mkF m 5 #[.val (.ref p0)] [(.int (-1 : Int32)), (.int pt)])) _
    refine XS.icmpYes X1.here hx rfl (pc0 := 5) (pc' := 15) rfl (hb hby d9_5) rfl (feq (fun q => by rw [q] at hp0; exact absurd hp0 (by decide))).2 (by decide) (by decide) ?_
    show Steps p.tables e below (T1.setTop (mkF m 15 #[.val (.ref p0)] [])) _
    refine st2 _ ?_
    show Steps p.tables e below (T2.setTop (mkF m 18 #[.val (.ref p0)] [(.ref b2)])) _
    refine XS.dup X2.here hx rfl (hb hby d9_18) rfl rfl ?_
    show Steps p.tables e below (T2.setTop (mkF m 19 #[.val (.ref p0)] [(.ref b2), (.ref b2)])) _
    refine st6.trans ?_
    show Steps p.tables e below (T6.setTop (mkF m 22 #[.val (.ref p0)] [(.ref b2)])) _
    refine XS.aloadN X6.here hx rfl (hb hby d9_22) rfl rfl ?_
    show Steps p.tables e below (T6.setTop (mkF m 23 #[.val (.ref p0)] [(.ref p0), (.ref b2)])) _
    refine st8 _ ?_
    show Steps p.tables e below (T8.setTop (mkF m 26 #[.val (.ref p0)] [(.ref x), (.ref b2)])) _
    refine st16.trans ?_
    show Steps p.tables e below (T16.setTop (mkF m 29 #[.val (.ref p0)] [(.ref b2)])) _
    exact kt)
  have hWr := X16.warmed
  have hS18 : s.Since T16.vm T16.heap.size := X16.warmed.since _
  have hZ18 : Z.Warmed39 (s.setVm T16.vm).vm := State.Warmed39.trans hZ X16.warmed.wide
  have hown18 : (s.setVm T16.vm).vm.findClass "com/example/kikao/kikao/Domain" = some m.cls := (X16.warmed.wide.alike.findClass _ _).trans hown
  have X18 := X16.retabled X16.warmed.wide
  have hk18 : T16.heap.size ≤ T16.heap.size := Nat.le_refl _
  obtain ⟨a19, T19, h19, k19, b19, kk19, X19, e19, E19, hS19, hk19, hZ19, hown19, Ex19, Fc19, Fv19, Av19, -, -, -, -, st19⟩ := ldcSVL X18 hx hZ18 hown18 (hw _ (own_m 118 rfl)) (own_wS hw) rfl hS18 hk18 (by rw [hh, ← hn0]; exact N16) (fun b cl q => by rw [hh]; exact Ol.2.2 b cl q) (own_IB hI hWr) (fun q => nomatch q) hheld hcw (vs := own_nrw [(58 : Int32)]) (z := (1 : Int32)) ⟨by decide +kernel, by decide +kernel⟩ (by decide) (by decide) (g := (mkF m 29 #[.val (.ref p0)] [(.ref b2)])) rfl (hb hby d9_29) (n := 4) (by decide) (by decide) (by decide) (by decide)
  have f20 := (Nat.le_trans f14 K16.1)
  have K19 := KK16.ext E19
  have f21 := ((f13.keep K16).ext E19)
  have f22 := (fv_1.ext E19)
  have f23 := (fc_1.ext E19)
  have f24 := (fn_1.ext E19)
  have f25 := (at_1.ext E19)
  have f26 := (Nat.le_trans f20 E19.1)
  have f27 := ((f15.keep K16 (allS ge2 (allS gt_ all0))).ext E19)
  obtain ⟨cq28, kq28, q28a, q28b, q28c⟩ := isOf hZ19 e19 f21
  obtain ⟨_, _, ⟨T28, L28, k28, n28⟩, -, X28, ⟨Lc28, hQ28, l28, y28, z28⟩, st28⟩ := X19.virtualBack hx (y := (⟨"java/lang/StringBuilder", "append", "(Ljava/lang/String;)Ljava/lang/StringBuilder;"⟩ : MethodName)) (z := (⟨"java/lang/StringBuilder", "append", "(Ljava/lang/String;)Ljava/lang/StringBuilder;"⟩ : MethodName)) hown19 (mvT hZ19 (hw _ (own_m 71 rfl))) (mvT hZ19 (hw _ (own_m 72 rfl))) (notFace_of_selects (args := #[]) (mvT hZ19 (hw _ (own_m 74 rfl)))) (mvT hZ19 (hw _ (own_m 74 rfl))) (mvT hZ19 (hw _ (own_m 73 rfl))) (by decide) (backOf (W := 0) (rmSAppS l Z a0 hw [] b2 a19 zc fm b19 kk19 [(58 : Int32)] t_ k_ (([] : List Int32) ++ [c0, c1]) h19 n0 f26 hSt f27 Ex19 Fv19 Fc19 Av19 (own_allc (by decide) (fun _ q => nomatch q)) ⟨own_allc ⟨by decide, by decide⟩ (fun _ q => nomatch q), by decide⟩ f21 f22 f23 f24 f25 ge2 gt_ nb_ (Nat.le_of_ble_eq_true rfl)) hZ19 (hw _ (own_m 75 rfl)) (hw _ (own_m 55 rfl)) (by decide) (by decide)) q28a q28c (g := (mkF m 31 #[.val (.ref p0)] [(.ref a19), (.ref b2)])) rfl (by rw [hml]; rfl) (Steps.refl _) (argsL := [(.ref a19)]) (rest := []) (lenOf pd__Ljava_lang_String__Ljava_lang_StringBuilder_ rfl) rfl (by show 2 * 0 + _ ≤ _; exact Nat.le_of_eq rfl) (hb hby d9_31) (fun _ _ => ⟨rfl, e19, (by decide : 4 + 0 ≤ _), (by decide : 28 + 0 ≤ _)⟩)
  dsimp only [Pt.U, Pt.locs, Pt.cells, Pt.slots] at X28 l28 y28 z28 st28 hQ28
  subst l28 y28 z28
  obtain ⟨rfl, Nq28, K28, fv_2, fc_2, fn_2, at_2⟩ := hQ28
  have N28 := Fr.app N16 Nq28
  have KK28 := K19.trans K28 (allS (Or.inr sz2) (allS (Or.inr zz_) all0))
  have f29 := ((((f3.keep K6 (ninS ne2_p0 nin0)).keep K16 (ninS ne2_p0 (ninS nd_ nin0))).ext E19).keep K28 (ninS ne2_p0 (ninS nd_ nin0)))
  obtain ⟨T30, X30, e30, st30⟩ := getF X28 hx hZ19 hown19 (host := "") (Or.inl (hw _ (own_m 46 rfl))) Via.refl rfl f29 (g := (mkF m 35 #[.val (.ref p0)] [(.ref p0), (.ref b2)])) rfl rfl (hb hby d9_35)
  have f31 := (f21.keep K28)
  have f32 := (Nat.le_trans f26 K28.1)
  have f33 := (f27.keep K28 (allS ge2 (allS gt_ all0)))
  obtain ⟨cq34, kq34, q34a, q34b, q34c⟩ := isOf hZ19 e30 f31
  obtain ⟨_, _, ⟨T34, L34, k34, n34⟩, -, X34, ⟨Lc34, hQ34, l34, y34, z34⟩, st34⟩ := X30.virtualBack hx (y := (⟨"java/lang/StringBuilder", "append", "(I)Ljava/lang/StringBuilder;"⟩ : MethodName)) (z := (⟨"java/lang/StringBuilder", "append", "(I)Ljava/lang/StringBuilder;"⟩ : MethodName)) hown19 (mvT hZ19 (hw _ (own_m 121 rfl))) (mvT hZ19 (hw _ (own_m 122 rfl))) (notFace_of_selects (args := #[]) (mvT hZ19 (hw _ (own_m 124 rfl)))) (mvT hZ19 (hw _ (own_m 124 rfl))) (mvT hZ19 (hw _ (own_m 123 rfl))) (by decide) (backOf (W := 0) (rmSAppI3 l Z a0 hw [] b2 pt zc fm wO cO wT cT t_ k_ c0 c1 58 d1 d2 d3 T28.heap n0 f32 hSt f33 hDT f31 fv_2 fc_2 fn_2 at_2 ge2 gt_ nb_ hp0 hlo hhi hd1 hd2 hd3) hZ19 (hw _ (own_m 125 rfl)) (hw _ (own_m 55 rfl)) (by decide) (by decide)) q34a q34c (g := (mkF m 38 #[.val (.ref p0)] [(.int pt), (.ref b2)])) rfl (by rw [hml]; rfl) (Steps.refl _) (argsL := [(.int pt)]) (rest := []) (lenOf pd__I_Ljava_lang_StringBuilder_ rfl) rfl (by show 2 * 0 + _ ≤ _; exact Nat.le_of_eq rfl) (hb hby d9_38) (fun _ _ => ⟨rfl, e30, (by decide : 4 + 0 ≤ _), (by decide : 28 + 0 ≤ _)⟩)
  dsimp only [Pt.U, Pt.locs, Pt.cells, Pt.slots] at X34 l34 y34 z34 st34 hQ34
  subst l34 y34 z34
  obtain ⟨rfl, Nq34, K34, fv_3, fc_3, fn_3, at_3⟩ := hQ34
  have N34 := Fr.app N28 Nq34
  have KK34 := KK28.trans K34 (allS (Or.inr sz2) (allS (Or.inr zz_) all0))
  have f35 := (f31.keep K34)
  have f36 := (Nat.le_trans f32 K34.1)
  have f37 := (f33.keep K34 (allS ge2 (allS gt_ all0)))
  obtain ⟨cq38, kq38, q38a, q38b, q38c⟩ := isOf hZ19 rfl f35
  obtain ⟨_, _, ⟨T38, L38, k38, n38⟩, -, X38, ⟨Lc38, hQ38, l38, y38, z38⟩, st38⟩ := X34.virtualBack hx (y := (⟨"java/lang/StringBuilder", "toString", "()Ljava/lang/String;"⟩ : MethodName)) (z := (⟨"java/lang/StringBuilder", "toString", "()Ljava/lang/String;"⟩ : MethodName)) hown19 (mvT hZ19 (hw _ (own_m 143 rfl))) (mvT hZ19 (hw _ (own_m 144 rfl))) (notFace_of_selects (args := #[]) (mvT hZ19 (hw _ (own_m 146 rfl)))) (mvT hZ19 (hw _ (own_m 146 rfl))) (mvT hZ19 (hw _ (own_m 145 rfl))) (by decide) (backOf (W := 0) (rmToS l Z a0 hw [] b2 zc fm t_ k_ [c0, c1, 58, d1, d2, d3] T34.heap n0 f36 hSt f37 f35 fv_3 fc_3 fn_3 at_3 ge2 gt_ nb_ (Nat.le_of_ble_eq_true rfl)) hZ19 (hw _ (own_m 147 rfl)) (hw _ (own_m 55 rfl)) (by decide) (by decide)) q38a q38c (g := (mkF m 41 #[.val (.ref p0)] [(.ref b2)])) rfl (by rw [hml]; rfl) (Steps.refl _) (argsL := []) (rest := []) (lenOf pd___Ljava_lang_String_ rfl) rfl (by show 2 * 0 + _ ≤ _; exact Nat.le_of_eq rfl) (hb hby d9_41) (fun _ _ => ⟨rfl, rfl, (by decide : 4 + 2 ≤ _), (by decide : 28 + 20 ≤ _)⟩)
  dsimp only [Pt.U, Pt.locs, Pt.cells, Pt.slots] at X38 l38 y38 z38 st38 hQ38
  subst l38 y38 z38
  obtain ⟨⟨r_, ts_, ks_, rfl, zr_, zs_, E_, fv_4, fc_4, at_4⟩, Nq38, K38⟩ := hQ38
  have N38 := Fr.app N34 Nq38
  have KK38 := KK34.trans K38 all0
  have f39 := (Nat.le_trans (Nat.le_trans (Nat.le_trans hk19 K28.1) K34.1) K38.1)
  obtain ⟨fs, hr, hrun, hended, hEnd⟩ := X38.leaveW hS19 f39 (v := some (.ref r_)) (fun h => by rw [Bd.returns] at h; cases h)
  refine ⟨_, _, pre17 _ ?_, hrun, hended, _, _, rfl, ?_, hEnd.1, hEnd.2.1, hEnd.2.2.1, hEnd.2.2.2.mono (by decide) (by decide)⟩
  · show Steps p.tables e below (T16.setTop (mkF m 29 #[.val (.ref p0)] [(.ref b2)])) _
    refine st19 _ ?_
    show Steps p.tables e below (T19.setTop (mkF m 31 #[.val (.ref p0)] [(.ref a19), (.ref b2)])) _
    refine st28.trans ?_
    show Steps p.tables e below (T28.setTop (mkF m 34 #[.val (.ref p0)] [(.ref b2)])) _
    refine XS.aloadN X28.here hx rfl (hb hby d9_34) rfl rfl ?_
    show Steps p.tables e below (T28.setTop (mkF m 35 #[.val (.ref p0)] [(.ref p0), (.ref b2)])) _
    refine st30 _ ?_
    show Steps p.tables e below (T30.setTop (mkF m 38 #[.val (.ref p0)] [(.int pt), (.ref b2)])) _
    refine st34.trans ?_
    show Steps p.tables e below (T34.setTop (mkF m 41 #[.val (.ref p0)] [(.ref b2)])) _
    refine st38.trans ?_
    show Steps p.tables e below (T38.setTop (mkF m 44 #[.val (.ref p0)] [(.ref r_)])) _
    jvm_step X38.here [X38.here.top, hx, (hb hby d9_44), X38.method', Bd.returns, Value.isRef, FieldType.isReference]
    first | (intro acts; rw [hr _ acts rfl rfl rfl]) | rw [hr _ _ rfl rfl rfl]
    exact Steps.refl _
  · show Q_rmTS3 Z p0 zc fm wO cO wT cT x ts ks c0 c1 pt d1 d2 d3 h0 n0 _ T38.heap _
    exact ⟨⟨_, _, _, rfl, E_, fv_4, fc_4, at_4⟩, N38, KK38⟩
theorem ef_rmSS4 (m : MethodId) (p0 : Int32) : entryFrame m #[(.int p0)] 4 = mkF m 0 #[.val (.int p0), .unset, .unset, .unset] [] := by first | (simp [entryFrame, mkF, argsToLocals, Value.category]; done) | rfl
def Q_rmSS4 (Z : State) (p0 : Int32) (zc : Int32) (fm : Value) (h0 : Heap) (n0 : Nat) (v : Option Value) (h : Heap) (L : List Loc) : Prop := v = some (.int (4 : Int32)) ∧ Fr n0 L ∧ h = h0
set_option maxRecDepth 65536 in
set_option maxHeartbeats 40000000 in
theorem rmSS4 (l : Launch) (Z : State) (a0 : Array Value) (hw : ∀ d ∈ tables_1, d.before a0 Z = true) (ws : List Jvm.Cond) (p0 : Int32) (zc : Int32) (fm : Value) (h0 : Heap) (n0 : Nat) (Z0 : n0 ≤ h0.size) (hSt : own_St Z zc fm) (Ol : own_Old Z n0 h0) (hp0 : 0 ≤ p0.toInt) (hlo : 1000 ≤ p0.toInt) (hhi : p0.toInt < 10000) :
    MetFree l (⟨"java/lang/Integer", "stringSize", "(I)I"⟩ : MethodName) (head1 (Jvm.Cond.code (⟨"java/lang/Integer", "stringSize", "(I)I"⟩ : MethodName) jdk_33_method_13_code 4 (some .int) :: ws) ({ frames := 0, cells := 0, slots := 0, locals := 0 } : Room)) (fun a U => a = #[(.int p0)] ∧ Z.Warmed39 U.vm ∧ U.heap = h0) (fun _ _ _ _ _ => True) (fun _ U o U' => ∃ v L, o = .returned v ∧ Q_rmSS4 Z p0 zc fm h0 n0 v U'.heap L ∧ FrameEnd U o U' L ({ frames := 0, cells := 0, slots := 0, locals := 0 } : Room).cells ({ frames := 0, cells := 0, slots := 0, locals := 0 } : Room).slots) := by
  refine MetFree.of_bodySF (plainFor_of_name pn_java_lang_Integer) hisR ?_
  intro p e s m args below meth c s₁ Bd hml0 hP hK
  obtain ⟨rfl, hZ, hh⟩ := hP
  have hx := Bd.exec
  have hby := Bd.bytes
  have hml : c.maxLocals = 4 := hml0
  have hown : s.vm.findClass "java/lang/Integer" = some m.cls := findClass_of_methodNamed Bd.named
  have hnm := (name_of_methodNamed Bd.named Bd.method).1
  have hZo := hZ
  have howno := hown
  have X0 : Stand p l e ({ frames := 0, cells := 0, slots := 0, locals := 0 } : Room) s m #[(.int p0)] below meth c s₁ [] 0 0 := Stand.of_body Bd
  have e0 : s₁.heap = h0 := by rw [← hh, Bd.state]; rfl
  have N0 := Fr.nil n0
  have pre0 : ∀ t, Steps p.tables e below (s₁.setTop (mkF m 0 #[.val (.int p0), .unset, .unset, .unset] [])) t → Steps p.tables e below (s₁.setTop (entryFrame m #[(.int p0)] 4)) t := fun t k => castTop (ef_rmSS4 m p0 ) k
  obtain ⟨fs, hr, hrun, hended, hW, hsame⟩ := X0.leave (v := some (.int (4 : Int32))) (fun h => by rw [Bd.returns] at h; cases h)
  refine ⟨_, _, pre0 _ ?_, hrun, hended, _, _, rfl, ?_, ⟨_, rfl⟩, hW, hsame.mono (by decide) (by decide)⟩
  · show Steps p.tables e below (s₁.setTop (mkF m 0 #[.val (.int p0), .unset, .unset, .unset] [])) _
    refine XS.iconst X0.here hx rfl (hb hby d22_0) ?_
    refine XS.istoreN X0.here hx rfl (hb hby d22_1) rfl (l' := #[.val (.int p0), .val (.int (1 : Int32)), .unset, .unset]) rfl ?_
    refine XS.iloadN X0.here hx rfl (hb hby d22_2) rfl  ?_
    show Steps p.tables e below (s₁.setTop (mkF m 3 #[.val (.int p0), .val (.int (1 : Int32)), .unset, .unset] [(.int p0)])) _
    refine XS.ifNo X0.here hx rfl (hb hby d22_3) rfl ((if0 _ _).trans (flt (own_nl hp0)).1) ?_
    refine XS.iconst X0.here hx rfl (hb hby d22_6) ?_
    refine XS.istoreN X0.here hx rfl (hb hby d22_7) rfl (l' := #[.val (.int p0), .val (.int (0 : Int32)), .unset, .unset]) rfl ?_
    refine XS.iloadN X0.here hx rfl (hb hby d22_8) rfl  ?_
    refine XS.ineg X0.here hx rfl (hb hby d22_9) rfl ?_
    refine XS.istoreN X0.here hx rfl (hb hby d22_10) rfl (l' := #[.val (.int (-p0)), .val (.int (0 : Int32)), .unset, .unset]) rfl ?_
    refine XS.bipush X0.here hx rfl (hb hby d22_11) ?_
    refine XS.istoreN X0.here hx rfl (hb hby d22_13) rfl (l' := #[.val (.int (-p0)), .val (.int (0 : Int32)), .val (.int (-10 : Int32)), .unset]) rfl ?_
    refine XS.iconst X0.here hx rfl (hb hby d22_14) ?_
    refine XS.istoreN X0.here hx rfl (hb hby d22_15) rfl (l' := #[.val (.int (-p0)), .val (.int (0 : Int32)), .val (.int (-10 : Int32)), .val (.int (1 : Int32))]) rfl ?_
    refine XS.iloadN X0.here hx rfl (hb hby d22_16) rfl  ?_
    refine XS.bipush X0.here hx rfl (hb hby d22_17) ?_
    show Steps p.tables e below (s₁.setTop (mkF m 19 #[.val (.int (-p0)), .val (.int (0 : Int32)), .val (.int (-10 : Int32)), .val (.int (1 : Int32))] [(.int (10 : Int32)), (.int (1 : Int32))])) _
    refine XS.icmpNo X0.here hx rfl (hb hby d22_19) rfl (tlt (by decide : (1 : Int32) < (10 : Int32))).2.1 ?_
    refine XS.iloadN X0.here hx rfl (hb hby d22_22) rfl  ?_
    refine XS.iloadN X0.here hx rfl (hb hby d22_23) rfl  ?_
    show Steps p.tables e below (s₁.setTop (mkF m 24 #[.val (.int (-p0)), .val (.int (0 : Int32)), .val (.int (-10 : Int32)), .val (.int (1 : Int32))] [(.int (-10 : Int32)), (.int (-p0))])) _
    refine XS.icmpYes X0.here hx rfl (pc0 := 24) (pc' := 31) rfl (hb hby d22_24) rfl (flt (fun q => absurd ((own_ng (b := 10) (by decide) hp0).mp q) (by omega))).2.2.2 (by decide) (by decide) ?_
    refine XS.bipush X0.here hx rfl (hb hby d22_31) ?_
    refine XS.iloadN X0.here hx rfl (hb hby d22_33) rfl  ?_
    refine XS.imul X0.here hx rfl (hb hby d22_34) rfl ?_
    refine XS.istoreN X0.here hx rfl (hb hby d22_35) rfl (l' := #[.val (.int (-p0)), .val (.int (0 : Int32)), .val (.int (-100 : Int32)), .val (.int (1 : Int32))]) rfl ?_
    refine XS.iinc X0.here hx rfl (hb hby d22_36) rfl (l' := #[.val (.int (-p0)), .val (.int (0 : Int32)), .val (.int (-100 : Int32)), .val (.int (2 : Int32))]) rfl ?_
    refine XS.goto X0.here hx rfl (pc0 := 39) (pc' := 16) rfl (hb hby d22_39) (by decide) (by decide) ?_
    refine XS.iloadN X0.here hx rfl (hb hby d22_16) rfl  ?_
    refine XS.bipush X0.here hx rfl (hb hby d22_17) ?_
    show Steps p.tables e below (s₁.setTop (mkF m 19 #[.val (.int (-p0)), .val (.int (0 : Int32)), .val (.int (-100 : Int32)), .val (.int (2 : Int32))] [(.int (10 : Int32)), (.int (2 : Int32))])) _
    refine XS.icmpNo X0.here hx rfl (hb hby d22_19) rfl (tlt (by decide : (2 : Int32) < (10 : Int32))).2.1 ?_
    refine XS.iloadN X0.here hx rfl (hb hby d22_22) rfl  ?_
    refine XS.iloadN X0.here hx rfl (hb hby d22_23) rfl  ?_
    show Steps p.tables e below (s₁.setTop (mkF m 24 #[.val (.int (-p0)), .val (.int (0 : Int32)), .val (.int (-100 : Int32)), .val (.int (2 : Int32))] [(.int (-100 : Int32)), (.int (-p0))])) _
    refine XS.icmpYes X0.here hx rfl (pc0 := 24) (pc' := 31) rfl (hb hby d22_24) rfl (flt (fun q => absurd ((own_ng (b := 100) (by decide) hp0).mp q) (by omega))).2.2.2 (by decide) (by decide) ?_
    refine XS.bipush X0.here hx rfl (hb hby d22_31) ?_
    refine XS.iloadN X0.here hx rfl (hb hby d22_33) rfl  ?_
    refine XS.imul X0.here hx rfl (hb hby d22_34) rfl ?_
    refine XS.istoreN X0.here hx rfl (hb hby d22_35) rfl (l' := #[.val (.int (-p0)), .val (.int (0 : Int32)), .val (.int (-1000 : Int32)), .val (.int (2 : Int32))]) rfl ?_
    refine XS.iinc X0.here hx rfl (hb hby d22_36) rfl (l' := #[.val (.int (-p0)), .val (.int (0 : Int32)), .val (.int (-1000 : Int32)), .val (.int (3 : Int32))]) rfl ?_
    refine XS.goto X0.here hx rfl (pc0 := 39) (pc' := 16) rfl (hb hby d22_39) (by decide) (by decide) ?_
    refine XS.iloadN X0.here hx rfl (hb hby d22_16) rfl  ?_
    refine XS.bipush X0.here hx rfl (hb hby d22_17) ?_
    show Steps p.tables e below (s₁.setTop (mkF m 19 #[.val (.int (-p0)), .val (.int (0 : Int32)), .val (.int (-1000 : Int32)), .val (.int (3 : Int32))] [(.int (10 : Int32)), (.int (3 : Int32))])) _
    refine XS.icmpNo X0.here hx rfl (hb hby d22_19) rfl (tlt (by decide : (3 : Int32) < (10 : Int32))).2.1 ?_
    refine XS.iloadN X0.here hx rfl (hb hby d22_22) rfl  ?_
    refine XS.iloadN X0.here hx rfl (hb hby d22_23) rfl  ?_
    show Steps p.tables e below (s₁.setTop (mkF m 24 #[.val (.int (-p0)), .val (.int (0 : Int32)), .val (.int (-1000 : Int32)), .val (.int (3 : Int32))] [(.int (-1000 : Int32)), (.int (-p0))])) _
    refine XS.icmpYes X0.here hx rfl (pc0 := 24) (pc' := 31) rfl (hb hby d22_24) rfl (flt (fun q => absurd ((own_ng (b := 1000) (by decide) hp0).mp q) (by omega))).2.2.2 (by decide) (by decide) ?_
    refine XS.bipush X0.here hx rfl (hb hby d22_31) ?_
    refine XS.iloadN X0.here hx rfl (hb hby d22_33) rfl  ?_
    refine XS.imul X0.here hx rfl (hb hby d22_34) rfl ?_
    refine XS.istoreN X0.here hx rfl (hb hby d22_35) rfl (l' := #[.val (.int (-p0)), .val (.int (0 : Int32)), .val (.int (-10000 : Int32)), .val (.int (3 : Int32))]) rfl ?_
    refine XS.iinc X0.here hx rfl (hb hby d22_36) rfl (l' := #[.val (.int (-p0)), .val (.int (0 : Int32)), .val (.int (-10000 : Int32)), .val (.int (4 : Int32))]) rfl ?_
    refine XS.goto X0.here hx rfl (pc0 := 39) (pc' := 16) rfl (hb hby d22_39) (by decide) (by decide) ?_
    refine XS.iloadN X0.here hx rfl (hb hby d22_16) rfl  ?_
    refine XS.bipush X0.here hx rfl (hb hby d22_17) ?_
    show Steps p.tables e below (s₁.setTop (mkF m 19 #[.val (.int (-p0)), .val (.int (0 : Int32)), .val (.int (-10000 : Int32)), .val (.int (4 : Int32))] [(.int (10 : Int32)), (.int (4 : Int32))])) _
    refine XS.icmpNo X0.here hx rfl (hb hby d22_19) rfl (tlt (by decide : (4 : Int32) < (10 : Int32))).2.1 ?_
    refine XS.iloadN X0.here hx rfl (hb hby d22_22) rfl  ?_
    refine XS.iloadN X0.here hx rfl (hb hby d22_23) rfl  ?_
    show Steps p.tables e below (s₁.setTop (mkF m 24 #[.val (.int (-p0)), .val (.int (0 : Int32)), .val (.int (-10000 : Int32)), .val (.int (4 : Int32))] [(.int (-10000 : Int32)), (.int (-p0))])) _
    refine XS.icmpNo X0.here hx rfl (hb hby d22_24) rfl (tlt ((own_ng (b := 10000) (by decide) hp0).mpr (by omega))).2.2.2 ?_
    refine XS.iloadN X0.here hx rfl (hb hby d22_27) rfl  ?_
    refine XS.iloadN X0.here hx rfl (hb hby d22_28) rfl  ?_
    refine XS.iadd X0.here hx rfl (hb hby d22_29) rfl ?_
    show Steps p.tables e below (s₁.setTop (mkF m 30 #[.val (.int (-p0)), .val (.int (0 : Int32)), .val (.int (-10000 : Int32)), .val (.int (4 : Int32))] [(.int (4 : Int32))])) _
    exact retI X0 hx Bd.returns (hb hby d22_30) hr
  · show Q_rmSS4 Z p0 zc fm h0 n0 _ s₁.heap _
    rw [e0]
    exact ⟨rfl, N0, rfl⟩
theorem ef_rmGC4 (m : MethodId) (p0 : Int32) (p2 : Addr) : entryFrame m #[(.int p0), (.int (7 : Int32)), (.ref p2)] 7 = mkF m 0 #[.val (.int p0), .val (.int (7 : Int32)), .val (.ref p2), .unset, .unset, .unset, .unset] [] := by first | (simp [entryFrame, mkF, argsToLocals, Value.category]; done) | rfl
def Q_rmGC4 (Z : State) (p0 : Int32) (p2 : Addr) (zc : Int32) (fm : Value) (wO : Addr) (cO : Cell) (wT : Addr) (cT : Cell) (kb : ClassId) (v0 : Value) (v1 : Value) (v2 : Value) (d1 : Int32) (d2 : Int32) (d3 : Int32) (d4 : Int32) (h0 : Heap) (n0 : Nat) (v : Option Value) (h : Heap) (L : List Loc) : Prop := v = some (.int (3 : Int32)) ∧ Fr n0 L ∧ Keep h0 h [p2] ∧ Arv Z h p2 kb .byte (16 : Int32) [v0, v1, v2, (.int d1.toInt8.toInt32), (.int d2.toInt8.toInt32), (.int d3.toInt8.toInt32), (.int d4.toInt8.toInt32), (.int (0 : Int32)), (.int (0 : Int32)), (.int (0 : Int32)), (.int (0 : Int32)), (.int (0 : Int32)), (.int (0 : Int32)), (.int (0 : Int32)), (.int (0 : Int32)), (.int (0 : Int32))] (.int (0 : Int32))
set_option maxRecDepth 65536 in
set_option maxHeartbeats 40000000 in
theorem rmGC4 (l : Launch) (Z : State) (a0 : Array Value) (hw : ∀ d ∈ tables_1, d.before a0 Z = true) (ws : List Jvm.Cond) (p0 : Int32) (p2 : Addr) (zc : Int32) (fm : Value) (wO : Addr) (cO : Cell) (wT : Addr) (cT : Cell) (kb : ClassId) (v0 : Value) (v1 : Value) (v2 : Value) (d1 : Int32) (d2 : Int32) (d3 : Int32) (d4 : Int32) (h0 : Heap) (n0 : Nat) (Z0 : n0 ≤ h0.size) (hSt : own_St Z zc fm) (Ol : own_Old Z n0 h0) (hDT : own_DT Z wO cO wT cT) (Ab : Arv Z h0 p2 kb .byte (16 : Int32) [v0, v1, v2, (.int (0 : Int32)), (.int (0 : Int32)), (.int (0 : Int32)), (.int (0 : Int32)), (.int (0 : Int32)), (.int (0 : Int32)), (.int (0 : Int32)), (.int (0 : Int32)), (.int (0 : Int32)), (.int (0 : Int32)), (.int (0 : Int32)), (.int (0 : Int32)), (.int (0 : Int32))] (.int (0 : Int32))) (gt_ : n0 ≤ p2) (hp0 : 0 ≤ p0.toInt) (hlo : 1000 ≤ p0.toInt) (hhi : p0.toInt < 10000) (hd1 : d1.toInt = 48 + p0.toInt / 1000 % 10) (hd2 : d2.toInt = 48 + p0.toInt / 100 % 10) (hd3 : d3.toInt = 48 + p0.toInt / 10 % 10) (hd4 : d4.toInt = 48 + p0.toInt % 10) :
    MetFree l (⟨"java/lang/Integer", "getChars", "(II[B)I"⟩ : MethodName) (head1 (Jvm.Cond.code (⟨"java/lang/Integer", "getChars", "(II[B)I"⟩ : MethodName) jdk_33_method_12_code 7 (some .int) :: ws) ({ frames := 0, cells := 0, slots := 0, locals := 0 } : Room)) (fun a U => a = #[(.int p0), (.int (7 : Int32)), (.ref p2)] ∧ Z.Warmed39 U.vm ∧ U.heap = h0) (fun _ _ _ _ _ => True) (fun _ U o U' => ∃ v L, o = .returned v ∧ Q_rmGC4 Z p0 p2 zc fm wO cO wT cT kb v0 v1 v2 d1 d2 d3 d4 h0 n0 v U'.heap L ∧ FrameEnd U o U' L ({ frames := 0, cells := 0, slots := 0, locals := 0 } : Room).cells ({ frames := 0, cells := 0, slots := 0, locals := 0 } : Room).slots) := by
  refine MetFree.of_bodySF (plainFor_of_name pn_java_lang_Integer) hisR ?_
  intro p e s m args below meth c s₁ Bd hml0 hP hK
  obtain ⟨rfl, hZ, hh⟩ := hP
  have hx := Bd.exec
  have hby := Bd.bytes
  have hml : c.maxLocals = 7 := hml0
  have hown : s.vm.findClass "java/lang/Integer" = some m.cls := findClass_of_methodNamed Bd.named
  have hnm := (name_of_methodNamed Bd.named Bd.method).1
  have hZo := hZ
  have howno := hown
  have X0 : Stand p l e ({ frames := 0, cells := 0, slots := 0, locals := 0 } : Room) s m #[(.int p0), (.int (7 : Int32)), (.ref p2)] below meth c s₁ [] 0 0 := Stand.of_body Bd
  have e0 : s₁.heap = h0 := by rw [← hh, Bd.state]; rfl
  have N0 := Fr.nil n0
  have pre0 : ∀ t, Steps p.tables e below (s₁.setTop (mkF m 0 #[.val (.int p0), .val (.int (7 : Int32)), .val (.ref p2), .unset, .unset, .unset, .unset] [])) t → Steps p.tables e below (s₁.setTop (entryFrame m #[(.int p0), (.int (7 : Int32)), (.ref p2)] 7)) t := fun t k => castTop (ef_rmGC4 m p0 p2 ) k
  have pre1 : ∀ t, Steps p.tables e below (s₁.setTop (mkF m 22 #[.val (.int (-p0)), .val (.int (7 : Int32)), .val (.ref p2), .unset, .unset, .val (.int (7 : Int32)), .val (.int (0 : Int32))] [])) t → Steps p.tables e below (s₁.setTop (entryFrame m #[(.int p0), (.int (7 : Int32)), (.ref p2)] 7)) t := fun t kt => pre0 t (by
    show Steps p.tables e below (s₁.setTop (mkF m 0 #[.val (.int p0), .val (.int (7 : Int32)), .val (.ref p2), .unset, .unset, .unset, .unset] [])) _
    refine XS.iloadN X0.here hx rfl (hb hby d24_0) rfl  ?_
    refine XS.istore X0.here hx rfl (hb hby d24_1) rfl (l' := #[.val (.int p0), .val (.int (7 : Int32)), .val (.ref p2), .unset, .unset, .val (.int (7 : Int32)), .unset]) rfl ?_
    refine XS.iloadN X0.here hx rfl (hb hby d24_3) rfl  ?_
    show Steps p.tables e below (s₁.setTop (mkF m 4 #[.val (.int p0), .val (.int (7 : Int32)), .val (.ref p2), .unset, .unset, .val (.int (7 : Int32)), .unset] [(.int p0)])) _
    refine XS.ifYes X0.here hx rfl (pc0 := 4) (pc' := 11) rfl (hb hby d24_4) rfl ((if0 _ _).trans (flt (own_nl hp0)).2.1) (by decide) (by decide) ?_
    refine XS.iconst X0.here hx rfl (hb hby d24_11) ?_
    refine XS.istore X0.here hx rfl (hb hby d24_12) rfl (l' := #[.val (.int p0), .val (.int (7 : Int32)), .val (.ref p2), .unset, .unset, .val (.int (7 : Int32)), .val (.int (0 : Int32))]) rfl ?_
    refine XS.iload X0.here hx rfl (hb hby d24_14) rfl  ?_
    show Steps p.tables e below (s₁.setTop (mkF m 16 #[.val (.int p0), .val (.int (7 : Int32)), .val (.ref p2), .unset, .unset, .val (.int (7 : Int32)), .val (.int (0 : Int32))] [(.int (0 : Int32))])) _
    refine XS.ifNo X0.here hx rfl (hb hby d24_16) rfl ((if0 _ _).trans (teq (by decide : (0 : Int32) = (0 : Int32))).2) ?_
    refine XS.iloadN X0.here hx rfl (hb hby d24_19) rfl  ?_
    refine XS.ineg X0.here hx rfl (hb hby d24_20) rfl ?_
    refine XS.istoreN X0.here hx rfl (hb hby d24_21) rfl (l' := #[.val (.int (-p0)), .val (.int (7 : Int32)), .val (.ref p2), .unset, .unset, .val (.int (7 : Int32)), .val (.int (0 : Int32))]) rfl ?_
    exact kt)
  obtain ⟨i0, hi0⟩ : ∃ z, z = (-p0) := ⟨_, rfl⟩
  rw [← hi0] at pre1
  have ei0 : i0.toInt = -p0.toInt := by rw [hi0]; exact own_neg (Int.lt_of_lt_of_le (by decide) hp0)
  obtain ⟨xa0, xb0, xa1, xb1, xc⟩ := own_r4 hlo hhi
  have pre2 : ∀ t, Steps p.tables e below (s₁.setTop (mkF m 41 #[.val (.int i0), .val (.int (7 : Int32)), .val (.ref p2), .val (.int (i0 / (100 : Int32))), .val (.int (((i0 / (100 : Int32)) * (100 : Int32)) - i0)), .val (.int (7 : Int32)), .val (.int (0 : Int32))] [])) t → Steps p.tables e below (s₁.setTop (entryFrame m #[(.int p0), (.int (7 : Int32)), (.ref p2)] 7)) t := fun t kt => pre1 t (by
    show Steps p.tables e below (s₁.setTop (mkF m 22 #[.val (.int i0), .val (.int (7 : Int32)), .val (.ref p2), .unset, .unset, .val (.int (7 : Int32)), .val (.int (0 : Int32))] [])) _
    refine XS.iloadN X0.here hx rfl (hb hby d24_22) rfl  ?_
    refine XS.bipush X0.here hx rfl (hb hby d24_23) ?_
    show Steps p.tables e below (s₁.setTop (mkF m 25 #[.val (.int i0), .val (.int (7 : Int32)), .val (.ref p2), .unset, .unset, .val (.int (7 : Int32)), .val (.int (0 : Int32))] [(.int (-100 : Int32)), (.int i0)])) _
    refine XS.icmpNo X0.here hx rfl (hb hby d24_25) rfl (flt ((own_b100 ei0).1 xa0)).2.2.1 ?_
    refine XS.iloadN X0.here hx rfl (hb hby d24_28) rfl  ?_
    refine XS.bipush X0.here hx rfl (hb hby d24_29) ?_
    show Steps p.tables e below (s₁.setTop (mkF m 31 #[.val (.int i0), .val (.int (7 : Int32)), .val (.ref p2), .unset, .unset, .val (.int (7 : Int32)), .val (.int (0 : Int32))] [(.int (100 : Int32)), (.int i0)])) _
    refine XS.idiv X0.here hx rfl (hb hby d24_31) rfl (by decide) ?_
    refine XS.istoreN X0.here hx rfl (hb hby d24_32) rfl (l' := #[.val (.int i0), .val (.int (7 : Int32)), .val (.ref p2), .val (.int (i0 / (100 : Int32))), .unset, .val (.int (7 : Int32)), .val (.int (0 : Int32))]) rfl ?_
    refine XS.iloadN X0.here hx rfl (hb hby d24_33) rfl  ?_
    refine XS.bipush X0.here hx rfl (hb hby d24_34) ?_
    refine XS.imul X0.here hx rfl (hb hby d24_36) rfl ?_
    refine XS.iloadN X0.here hx rfl (hb hby d24_37) rfl  ?_
    refine XS.isub X0.here hx rfl (hb hby d24_38) rfl ?_
    refine XS.istore X0.here hx rfl (hb hby d24_39) rfl (l' := #[.val (.int i0), .val (.int (7 : Int32)), .val (.ref p2), .val (.int (i0 / (100 : Int32))), .val (.int (((i0 / (100 : Int32)) * (100 : Int32)) - i0)), .val (.int (7 : Int32)), .val (.int (0 : Int32))]) rfl ?_
    exact kt)
  obtain ⟨r0, hr0⟩ : ∃ z, z = (((i0 / (100 : Int32)) * (100 : Int32)) - i0) := ⟨_, rfl⟩
  rw [← hr0] at pre2
  have er0 : r0.toInt = p0.toInt % 100 := by rw [hr0]; exact own_rr ei0 (Int.lt_of_lt_of_le (by decide) xa0) xb0
  obtain ⟨T3, X3, e3, st3⟩ := getS2 X0 hx hZ hown (host := "") (Or.inl (hw _ (own_m 142 rfl))) Via.refl e0 (hDT.1.ext Ol.2) (g := (mkF m 49 #[.val (.int (i0 / (100 : Int32))), .val (.int (7 : Int32)), .val (.ref p2), .val (.int (i0 / (100 : Int32))), .val (.int r0), .val (.int (6 : Int32)), .val (.int (0 : Int32))] [(.int (6 : Int32)), (.ref p2)])) rfl (hb hby d24_49)
  have ti4 := own_tin (r := r0) (own_e100 er0).1 (own_e100 er0).2 hDT.2.2.2.2.1.1
  have hat4 : cO.slots[(r0).toNatClampNeg]? = some (.int d4) := (hDT.2.2.2.2.1.2 _ ti4.1 ti4.2.1).trans (by rw [own_ones (r := r0) (d := d4) (own_e100 er0).1 (own_e100 er0).2 (own_o1 er0 hd4)])
  have Aq4 := hDT.2.2.1.ext Ol.2
  obtain ⟨cl5, Ar5, q5, S5, N5, H5, G5⟩ := id Ab
  have hin5 : ¬ ((6 : Int32) < 0 ∨ cl5.slots.size ≤ ((6 : Int32)).toNatClampNeg) := inb_of S5 ⟨by decide, by decide⟩
  obtain ⟨T6, h6, X6, e6, W6, st6⟩ := stB X3 hx hZ e3 Ar5 (j := (6 : Int32)) hin5 (g := (mkF m 55 #[.val (.int (i0 / (100 : Int32))), .val (.int (7 : Int32)), .val (.ref p2), .val (.int (i0 / (100 : Int32))), .val (.int r0), .val (.int (6 : Int32)), .val (.int (0 : Int32))] [(.int d4), (.int (6 : Int32)), (.ref p2)])) rfl rfl (hb hby d24_55)
  have N6 := Fr.snoc X6 N0 gt_
  have K6 := (Keep.refl h0 [p2]).wr W6 (Or.inl (own_m 0 rfl))
  have V6 : Arv Z h6 p2 kb .byte (16 : Int32) [v0, v1, v2, (.int (0 : Int32)), (.int (0 : Int32)), (.int (0 : Int32)), (.int d4.toInt8.toInt32), (.int (0 : Int32)), (.int (0 : Int32)), (.int (0 : Int32)), (.int (0 : Int32)), (.int (0 : Int32)), (.int (0 : Int32)), (.int (0 : Int32)), (.int (0 : Int32)), (.int (0 : Int32))] (.int (0 : Int32)) := Arv.set Ar5 q5 S5 N5 H5 G5 (fits_nar_byte _) W6 6 rfl (Nat.le_of_ble_eq_true rfl)
  have f7 := (Ol.wr W6 gt_)
  obtain ⟨T8, X8, e8, st8⟩ := getS2 X6 hx hZ hown (host := "") (Or.inl (hw _ (own_m 214 rfl))) Via.refl e6 (hDT.2.1.ext f7.2) (g := (mkF m 62 #[.val (.int (i0 / (100 : Int32))), .val (.int (7 : Int32)), .val (.ref p2), .val (.int (i0 / (100 : Int32))), .val (.int r0), .val (.int (5 : Int32)), .val (.int (0 : Int32))] [(.int (5 : Int32)), (.ref p2)])) rfl (hb hby d24_62)
  have ti9 := own_tin (r := r0) (own_e100 er0).1 (own_e100 er0).2 hDT.2.2.2.2.2.1
  have hat9 : cT.slots[(r0).toNatClampNeg]? = some (.int d3) := (hDT.2.2.2.2.2.2 _ ti9.1 ti9.2.1).trans (by rw [own_tens (r := r0) (d := d3) (own_e100 er0).1 (own_e100 er0).2 (own_t0 er0 hd3)])
  have Aq9 := hDT.2.2.2.1.ext f7.2
  obtain ⟨cl10, Ar10, q10, S10, N10, H10, G10⟩ := id V6
  have hin10 : ¬ ((5 : Int32) < 0 ∨ cl10.slots.size ≤ ((5 : Int32)).toNatClampNeg) := inb_of S10 ⟨by decide, by decide⟩
  obtain ⟨T11, h11, X11, e11, W11, st11⟩ := stB X8 hx hZ e8 Ar10 (j := (5 : Int32)) hin10 (g := (mkF m 68 #[.val (.int (i0 / (100 : Int32))), .val (.int (7 : Int32)), .val (.ref p2), .val (.int (i0 / (100 : Int32))), .val (.int r0), .val (.int (5 : Int32)), .val (.int (0 : Int32))] [(.int d3), (.int (5 : Int32)), (.ref p2)])) rfl rfl (hb hby d24_68)
  have N11 := Fr.snoc X11 N6 gt_
  have K11 := K6.wr W11 (Or.inl (own_m 0 rfl))
  have V11 : Arv Z h11 p2 kb .byte (16 : Int32) [v0, v1, v2, (.int (0 : Int32)), (.int (0 : Int32)), (.int d3.toInt8.toInt32), (.int d4.toInt8.toInt32), (.int (0 : Int32)), (.int (0 : Int32)), (.int (0 : Int32)), (.int (0 : Int32)), (.int (0 : Int32)), (.int (0 : Int32)), (.int (0 : Int32)), (.int (0 : Int32)), (.int (0 : Int32))] (.int (0 : Int32)) := Arv.set Ar10 q10 S10 N10 H10 G10 (fits_nar_byte _) W11 5 rfl (Nat.le_of_ble_eq_true rfl)
  have pre12 : ∀ t, Steps p.tables e below (T11.setTop (mkF m 22 #[.val (.int (i0 / (100 : Int32))), .val (.int (7 : Int32)), .val (.ref p2), .val (.int (i0 / (100 : Int32))), .val (.int r0), .val (.int (5 : Int32)), .val (.int (0 : Int32))] [])) t → Steps p.tables e below (s₁.setTop (entryFrame m #[(.int p0), (.int (7 : Int32)), (.ref p2)] 7)) t := fun t kt => pre2 t (by
    show Steps p.tables e below (s₁.setTop (mkF m 41 #[.val (.int i0), .val (.int (7 : Int32)), .val (.ref p2), .val (.int (i0 / (100 : Int32))), .val (.int r0), .val (.int (7 : Int32)), .val (.int (0 : Int32))] [])) _
    refine XS.iloadN X0.here hx rfl (hb hby d24_41) rfl  ?_
    refine XS.istoreN X0.here hx rfl (hb hby d24_42) rfl (l' := #[.val (.int (i0 / (100 : Int32))), .val (.int (7 : Int32)), .val (.ref p2), .val (.int (i0 / (100 : Int32))), .val (.int r0), .val (.int (7 : Int32)), .val (.int (0 : Int32))]) rfl ?_
    refine XS.aloadN X0.here hx rfl (hb hby d24_43) rfl rfl ?_
    refine XS.iinc X0.here hx rfl (hb hby d24_44) rfl (l' := #[.val (.int (i0 / (100 : Int32))), .val (.int (7 : Int32)), .val (.ref p2), .val (.int (i0 / (100 : Int32))), .val (.int r0), .val (.int (6 : Int32)), .val (.int (0 : Int32))]) rfl ?_
    refine XS.iload X0.here hx rfl (hb hby d24_47) rfl  ?_
    show Steps p.tables e below (s₁.setTop (mkF m 49 #[.val (.int (i0 / (100 : Int32))), .val (.int (7 : Int32)), .val (.ref p2), .val (.int (i0 / (100 : Int32))), .val (.int r0), .val (.int (6 : Int32)), .val (.int (0 : Int32))] [(.int (6 : Int32)), (.ref p2)])) _
    refine st3 _ ?_
    show Steps p.tables e below (T3.setTop (mkF m 52 #[.val (.int (i0 / (100 : Int32))), .val (.int (7 : Int32)), .val (.ref p2), .val (.int (i0 / (100 : Int32))), .val (.int r0), .val (.int (6 : Int32)), .val (.int (0 : Int32))] [(.ref wO), (.int (6 : Int32)), (.ref p2)])) _
    refine XS.iload X3.here hx rfl (hb hby d24_52) rfl  ?_
    show Steps p.tables e below (T3.setTop (mkF m 54 #[.val (.int (i0 / (100 : Int32))), .val (.int (7 : Int32)), .val (.ref p2), .val (.int (i0 / (100 : Int32))), .val (.int r0), .val (.int (6 : Int32)), .val (.int (0 : Int32))] [(.int r0), (.ref wO), (.int (6 : Int32)), (.ref p2)])) _
    refine X3.baloadBytes hx (j := r0) (v := .int d4) (by rw [e3]; exact Aq4.1) (State.isArrayOf_alike hZ.alike Aq4.2.1) Aq4.2.2 ti4.2.2 hat4 (g := (mkF m 54 #[.val (.int (i0 / (100 : Int32))), .val (.int (7 : Int32)), .val (.ref p2), .val (.int (i0 / (100 : Int32))), .val (.int r0), .val (.int (6 : Int32)), .val (.int (0 : Int32))] [(.int r0), (.ref wO), (.int (6 : Int32)), (.ref p2)])) rfl rfl (hb hby d24_54) _ ?_
    show Steps p.tables e below (T3.setTop (mkF m 55 #[.val (.int (i0 / (100 : Int32))), .val (.int (7 : Int32)), .val (.ref p2), .val (.int (i0 / (100 : Int32))), .val (.int r0), .val (.int (6 : Int32)), .val (.int (0 : Int32))] [(.int d4), (.int (6 : Int32)), (.ref p2)])) _
    refine st6 _ ?_
    show Steps p.tables e below (T6.setTop (mkF m 56 #[.val (.int (i0 / (100 : Int32))), .val (.int (7 : Int32)), .val (.ref p2), .val (.int (i0 / (100 : Int32))), .val (.int r0), .val (.int (6 : Int32)), .val (.int (0 : Int32))] [])) _
    refine XS.aloadN X6.here hx rfl (hb hby d24_56) rfl rfl ?_
    refine XS.iinc X6.here hx rfl (hb hby d24_57) rfl (l' := #[.val (.int (i0 / (100 : Int32))), .val (.int (7 : Int32)), .val (.ref p2), .val (.int (i0 / (100 : Int32))), .val (.int r0), .val (.int (5 : Int32)), .val (.int (0 : Int32))]) rfl ?_
    refine XS.iload X6.here hx rfl (hb hby d24_60) rfl  ?_
    show Steps p.tables e below (T6.setTop (mkF m 62 #[.val (.int (i0 / (100 : Int32))), .val (.int (7 : Int32)), .val (.ref p2), .val (.int (i0 / (100 : Int32))), .val (.int r0), .val (.int (5 : Int32)), .val (.int (0 : Int32))] [(.int (5 : Int32)), (.ref p2)])) _
    refine st8 _ ?_
    show Steps p.tables e below (T8.setTop (mkF m 65 #[.val (.int (i0 / (100 : Int32))), .val (.int (7 : Int32)), .val (.ref p2), .val (.int (i0 / (100 : Int32))), .val (.int r0), .val (.int (5 : Int32)), .val (.int (0 : Int32))] [(.ref wT), (.int (5 : Int32)), (.ref p2)])) _
    refine XS.iload X8.here hx rfl (hb hby d24_65) rfl  ?_
    show Steps p.tables e below (T8.setTop (mkF m 67 #[.val (.int (i0 / (100 : Int32))), .val (.int (7 : Int32)), .val (.ref p2), .val (.int (i0 / (100 : Int32))), .val (.int r0), .val (.int (5 : Int32)), .val (.int (0 : Int32))] [(.int r0), (.ref wT), (.int (5 : Int32)), (.ref p2)])) _
    refine X8.baloadBytes hx (j := r0) (v := .int d3) (by rw [e8]; exact Aq9.1) (State.isArrayOf_alike hZ.alike Aq9.2.1) Aq9.2.2 ti9.2.2 hat9 (g := (mkF m 67 #[.val (.int (i0 / (100 : Int32))), .val (.int (7 : Int32)), .val (.ref p2), .val (.int (i0 / (100 : Int32))), .val (.int r0), .val (.int (5 : Int32)), .val (.int (0 : Int32))] [(.int r0), (.ref wT), (.int (5 : Int32)), (.ref p2)])) rfl rfl (hb hby d24_67) _ ?_
    show Steps p.tables e below (T8.setTop (mkF m 68 #[.val (.int (i0 / (100 : Int32))), .val (.int (7 : Int32)), .val (.ref p2), .val (.int (i0 / (100 : Int32))), .val (.int r0), .val (.int (5 : Int32)), .val (.int (0 : Int32))] [(.int d3), (.int (5 : Int32)), (.ref p2)])) _
    refine st11 _ ?_
    show Steps p.tables e below (T11.setTop (mkF m 69 #[.val (.int (i0 / (100 : Int32))), .val (.int (7 : Int32)), .val (.ref p2), .val (.int (i0 / (100 : Int32))), .val (.int r0), .val (.int (5 : Int32)), .val (.int (0 : Int32))] [])) _
    refine XS.goto X11.here hx rfl (pc0 := 69) (pc' := 22) rfl (hb hby d24_69) (by decide) (by decide) ?_
    exact kt)
  obtain ⟨i1, hi1⟩ : ∃ z, z = (i0 / (100 : Int32)) := ⟨_, rfl⟩
  rw [← hi1] at pre12
  have ei1 : i1.toInt = -(p0.toInt / 100) := by rw [hi1]; exact own_dv1 ei0 (Int.lt_of_lt_of_le (by decide) xa0)
  have f13 := (f7.wr W11 gt_)
  obtain ⟨T14, X14, e14, st14⟩ := getS2 X11 hx hZ hown (host := "") (Or.inl (hw _ (own_m 142 rfl))) Via.refl e11 (hDT.1.ext f13.2) (g := (mkF m 78 #[.val (.int i1), .val (.int (7 : Int32)), .val (.ref p2), .val (.int i1), .val (.int r0), .val (.int (4 : Int32)), .val (.int (0 : Int32))] [(.int (4 : Int32)), (.ref p2)])) rfl (hb hby d24_78)
  have en : (-i1).toInt = p0.toInt / 100 := own_nn ei1 xb1
  have ti15 := own_tin (r := (-i1)) (own_e0 en xa1 xb1).1 (own_e0 en xa1 xb1).2 hDT.2.2.2.2.1.1
  have hat15 : cO.slots[((-i1)).toNatClampNeg]? = some (.int d2) := (hDT.2.2.2.2.1.2 _ ti15.1 ti15.2.1).trans (by rw [own_ones (r := (-i1)) (d := d2) (own_e0 en xa1 xb1).1 (own_e0 en xa1 xb1).2 (own_o2 en hd2)])
  have Aq15 := hDT.2.2.1.ext f13.2
  obtain ⟨cl16, Ar16, q16, S16, N16, H16, G16⟩ := id V11
  have hin16 : ¬ ((4 : Int32) < 0 ∨ cl16.slots.size ≤ ((4 : Int32)).toNatClampNeg) := inb_of S16 ⟨by decide, by decide⟩
  obtain ⟨T17, h17, X17, e17, W17, st17⟩ := stB X14 hx hZ e14 Ar16 (j := (4 : Int32)) hin16 (g := (mkF m 84 #[.val (.int i1), .val (.int (7 : Int32)), .val (.ref p2), .val (.int i1), .val (.int r0), .val (.int (4 : Int32)), .val (.int (0 : Int32))] [(.int d2), (.int (4 : Int32)), (.ref p2)])) rfl rfl (hb hby d24_84)
  have N17 := Fr.snoc X17 N11 gt_
  have K17 := K11.wr W17 (Or.inl (own_m 0 rfl))
  have V17 : Arv Z h17 p2 kb .byte (16 : Int32) [v0, v1, v2, (.int (0 : Int32)), (.int d2.toInt8.toInt32), (.int d3.toInt8.toInt32), (.int d4.toInt8.toInt32), (.int (0 : Int32)), (.int (0 : Int32)), (.int (0 : Int32)), (.int (0 : Int32)), (.int (0 : Int32)), (.int (0 : Int32)), (.int (0 : Int32)), (.int (0 : Int32)), (.int (0 : Int32))] (.int (0 : Int32)) := Arv.set Ar16 q16 S16 N16 H16 G16 (fits_nar_byte _) W17 4 rfl (Nat.le_of_ble_eq_true rfl)
  have f18 := (f13.wr W17 gt_)
  obtain ⟨T19, X19, e19, st19⟩ := getS2 X17 hx hZ hown (host := "") (Or.inl (hw _ (own_m 214 rfl))) Via.refl e17 (hDT.2.1.ext f18.2) (g := (mkF m 97 #[.val (.int i1), .val (.int (7 : Int32)), .val (.ref p2), .val (.int i1), .val (.int r0), .val (.int (3 : Int32)), .val (.int (0 : Int32))] [(.int (3 : Int32)), (.ref p2)])) rfl (hb hby d24_97)
  have ti20 := own_tin (r := (-i1)) (own_e0 en xa1 xb1).1 (own_e0 en xa1 xb1).2 hDT.2.2.2.2.2.1
  have hat20 : cT.slots[((-i1)).toNatClampNeg]? = some (.int d1) := (hDT.2.2.2.2.2.2 _ ti20.1 ti20.2.1).trans (by rw [own_tens (r := (-i1)) (d := d1) (own_e0 en xa1 xb1).1 (own_e0 en xa1 xb1).2 (own_u1 en xa1 xb1 hd1)])
  have Aq20 := hDT.2.2.2.1.ext f18.2
  obtain ⟨cl21, Ar21, q21, S21, N21, H21, G21⟩ := id V17
  have hin21 : ¬ ((3 : Int32) < 0 ∨ cl21.slots.size ≤ ((3 : Int32)).toNatClampNeg) := inb_of S21 ⟨by decide, by decide⟩
  obtain ⟨T22, h22, X22, e22, W22, st22⟩ := stB X19 hx hZ e19 Ar21 (j := (3 : Int32)) hin21 (g := (mkF m 103 #[.val (.int i1), .val (.int (7 : Int32)), .val (.ref p2), .val (.int i1), .val (.int r0), .val (.int (3 : Int32)), .val (.int (0 : Int32))] [(.int d1), (.int (3 : Int32)), (.ref p2)])) rfl rfl (hb hby d24_103)
  have N22 := Fr.snoc X22 N17 gt_
  have K22 := K17.wr W22 (Or.inl (own_m 0 rfl))
  have V22 : Arv Z h22 p2 kb .byte (16 : Int32) [v0, v1, v2, (.int d1.toInt8.toInt32), (.int d2.toInt8.toInt32), (.int d3.toInt8.toInt32), (.int d4.toInt8.toInt32), (.int (0 : Int32)), (.int (0 : Int32)), (.int (0 : Int32)), (.int (0 : Int32)), (.int (0 : Int32)), (.int (0 : Int32)), (.int (0 : Int32)), (.int (0 : Int32)), (.int (0 : Int32))] (.int (0 : Int32)) := Arv.set Ar21 q21 S21 N21 H21 G21 (fits_nar_byte _) W22 3 rfl (Nat.le_of_ble_eq_true rfl)
  obtain ⟨fs, hr, hrun, hended, hW, hsame⟩ := X22.leave (v := some (.int (3 : Int32))) (fun h => by rw [Bd.returns] at h; cases h)
  refine ⟨_, _, pre12 _ ?_, hrun, hended, _, _, rfl, ?_, ⟨_, rfl⟩, hW, hsame.mono (by decide) (by decide)⟩
  · show Steps p.tables e below (T11.setTop (mkF m 22 #[.val (.int i1), .val (.int (7 : Int32)), .val (.ref p2), .val (.int i1), .val (.int r0), .val (.int (5 : Int32)), .val (.int (0 : Int32))] [])) _
    refine XS.iloadN X11.here hx rfl (hb hby d24_22) rfl  ?_
    refine XS.bipush X11.here hx rfl (hb hby d24_23) ?_
    show Steps p.tables e below (T11.setTop (mkF m 25 #[.val (.int i1), .val (.int (7 : Int32)), .val (.ref p2), .val (.int i1), .val (.int r0), .val (.int (5 : Int32)), .val (.int (0 : Int32))] [(.int (-100 : Int32)), (.int i1)])) _
    refine XS.icmpYes X11.here hx rfl (pc0 := 25) (pc' := 72) rfl (hb hby d24_25) rfl (tlt ((own_b100 ei1).2 xb1)).2.2.1 (by decide) (by decide) ?_
    refine XS.aloadN X11.here hx rfl (hb hby d24_72) rfl rfl ?_
    refine XS.iinc X11.here hx rfl (hb hby d24_73) rfl (l' := #[.val (.int i1), .val (.int (7 : Int32)), .val (.ref p2), .val (.int i1), .val (.int r0), .val (.int (4 : Int32)), .val (.int (0 : Int32))]) rfl ?_
    refine XS.iload X11.here hx rfl (hb hby d24_76) rfl  ?_
    show Steps p.tables e below (T11.setTop (mkF m 78 #[.val (.int i1), .val (.int (7 : Int32)), .val (.ref p2), .val (.int i1), .val (.int r0), .val (.int (4 : Int32)), .val (.int (0 : Int32))] [(.int (4 : Int32)), (.ref p2)])) _
    refine st14 _ ?_
    show Steps p.tables e below (T14.setTop (mkF m 81 #[.val (.int i1), .val (.int (7 : Int32)), .val (.ref p2), .val (.int i1), .val (.int r0), .val (.int (4 : Int32)), .val (.int (0 : Int32))] [(.ref wO), (.int (4 : Int32)), (.ref p2)])) _
    refine XS.iloadN X14.here hx rfl (hb hby d24_81) rfl  ?_
    refine XS.ineg X14.here hx rfl (hb hby d24_82) rfl ?_
    show Steps p.tables e below (T14.setTop (mkF m 83 #[.val (.int i1), .val (.int (7 : Int32)), .val (.ref p2), .val (.int i1), .val (.int r0), .val (.int (4 : Int32)), .val (.int (0 : Int32))] [(.int (-i1)), (.ref wO), (.int (4 : Int32)), (.ref p2)])) _
    refine X14.baloadBytes hx (j := (-i1)) (v := .int d2) (by rw [e14]; exact Aq15.1) (State.isArrayOf_alike hZ.alike Aq15.2.1) Aq15.2.2 ti15.2.2 hat15 (g := (mkF m 83 #[.val (.int i1), .val (.int (7 : Int32)), .val (.ref p2), .val (.int i1), .val (.int r0), .val (.int (4 : Int32)), .val (.int (0 : Int32))] [(.int (-i1)), (.ref wO), (.int (4 : Int32)), (.ref p2)])) rfl rfl (hb hby d24_83) _ ?_
    show Steps p.tables e below (T14.setTop (mkF m 84 #[.val (.int i1), .val (.int (7 : Int32)), .val (.ref p2), .val (.int i1), .val (.int r0), .val (.int (4 : Int32)), .val (.int (0 : Int32))] [(.int d2), (.int (4 : Int32)), (.ref p2)])) _
    refine st17 _ ?_
    show Steps p.tables e below (T17.setTop (mkF m 85 #[.val (.int i1), .val (.int (7 : Int32)), .val (.ref p2), .val (.int i1), .val (.int r0), .val (.int (4 : Int32)), .val (.int (0 : Int32))] [])) _
    refine XS.iloadN X17.here hx rfl (hb hby d24_85) rfl  ?_
    refine XS.bipush X17.here hx rfl (hb hby d24_86) ?_
    show Steps p.tables e below (T17.setTop (mkF m 88 #[.val (.int i1), .val (.int (7 : Int32)), .val (.ref p2), .val (.int i1), .val (.int r0), .val (.int (4 : Int32)), .val (.int (0 : Int32))] [(.int (-9 : Int32)), (.int i1)])) _
    refine XS.icmpNo X17.here hx rfl (hb hby d24_88) rfl (tlt ((own_b9 ei1).2 xc)).2.1 ?_
    refine XS.aloadN X17.here hx rfl (hb hby d24_91) rfl rfl ?_
    refine XS.iinc X17.here hx rfl (hb hby d24_92) rfl (l' := #[.val (.int i1), .val (.int (7 : Int32)), .val (.ref p2), .val (.int i1), .val (.int r0), .val (.int (3 : Int32)), .val (.int (0 : Int32))]) rfl ?_
    refine XS.iload X17.here hx rfl (hb hby d24_95) rfl  ?_
    show Steps p.tables e below (T17.setTop (mkF m 97 #[.val (.int i1), .val (.int (7 : Int32)), .val (.ref p2), .val (.int i1), .val (.int r0), .val (.int (3 : Int32)), .val (.int (0 : Int32))] [(.int (3 : Int32)), (.ref p2)])) _
    refine st19 _ ?_
    show Steps p.tables e below (T19.setTop (mkF m 100 #[.val (.int i1), .val (.int (7 : Int32)), .val (.ref p2), .val (.int i1), .val (.int r0), .val (.int (3 : Int32)), .val (.int (0 : Int32))] [(.ref wT), (.int (3 : Int32)), (.ref p2)])) _
    refine XS.iloadN X19.here hx rfl (hb hby d24_100) rfl  ?_
    refine XS.ineg X19.here hx rfl (hb hby d24_101) rfl ?_
    show Steps p.tables e below (T19.setTop (mkF m 102 #[.val (.int i1), .val (.int (7 : Int32)), .val (.ref p2), .val (.int i1), .val (.int r0), .val (.int (3 : Int32)), .val (.int (0 : Int32))] [(.int (-i1)), (.ref wT), (.int (3 : Int32)), (.ref p2)])) _
    refine X19.baloadBytes hx (j := (-i1)) (v := .int d1) (by rw [e19]; exact Aq20.1) (State.isArrayOf_alike hZ.alike Aq20.2.1) Aq20.2.2 ti20.2.2 hat20 (g := (mkF m 102 #[.val (.int i1), .val (.int (7 : Int32)), .val (.ref p2), .val (.int i1), .val (.int r0), .val (.int (3 : Int32)), .val (.int (0 : Int32))] [(.int (-i1)), (.ref wT), (.int (3 : Int32)), (.ref p2)])) rfl rfl (hb hby d24_102) _ ?_
    show Steps p.tables e below (T19.setTop (mkF m 103 #[.val (.int i1), .val (.int (7 : Int32)), .val (.ref p2), .val (.int i1), .val (.int r0), .val (.int (3 : Int32)), .val (.int (0 : Int32))] [(.int d1), (.int (3 : Int32)), (.ref p2)])) _
    refine st22 _ ?_
    show Steps p.tables e below (T22.setTop (mkF m 104 #[.val (.int i1), .val (.int (7 : Int32)), .val (.ref p2), .val (.int i1), .val (.int r0), .val (.int (3 : Int32)), .val (.int (0 : Int32))] [])) _
    refine XS.iload X22.here hx rfl (hb hby d24_104) rfl  ?_
    show Steps p.tables e below (T22.setTop (mkF m 106 #[.val (.int i1), .val (.int (7 : Int32)), .val (.ref p2), .val (.int i1), .val (.int r0), .val (.int (3 : Int32)), .val (.int (0 : Int32))] [(.int (0 : Int32))])) _
    refine XS.ifYes X22.here hx rfl (pc0 := 106) (pc' := 118) rfl (hb hby d24_106) rfl ((if0 _ _).trans (teq (by decide : (0 : Int32) = (0 : Int32))).1) (by decide) (by decide) ?_
    refine XS.iload X22.here hx rfl (hb hby d24_118) rfl  ?_
    show Steps p.tables e below (T22.setTop (mkF m 120 #[.val (.int i1), .val (.int (7 : Int32)), .val (.ref p2), .val (.int i1), .val (.int r0), .val (.int (3 : Int32)), .val (.int (0 : Int32))] [(.int (3 : Int32))])) _
    exact retI X22 hx Bd.returns (hb hby d24_120) hr
  · show Q_rmGC4 Z p0 p2 zc fm wO cO wT cT kb v0 v1 v2 d1 d2 d3 d4 h0 n0 _ T22.heap _
    rw [e22]
    exact ⟨rfl, N22, K22, V22⟩
theorem ef_rmAppI4 (m : MethodId) (p0 : Addr) (p1 : Int32) : entryFrame m #[(.ref p0), (.int p1)] 4 = mkF m 0 #[.val (.ref p0), .val (.int p1), .unset, .unset] [] := by first | (simp [entryFrame, mkF, argsToLocals, Value.category]; done) | rfl
def Q_rmAppI4 (Z : State) (p0 : Addr) (p1 : Int32) (zc : Int32) (fm : Value) (wO : Addr) (cO : Cell) (wT : Addr) (cT : Cell) (t : Addr) (kb : ClassId) (b0 : Int32) (b1 : Int32) (b2 : Int32) (d1 : Int32) (d2 : Int32) (d3 : Int32) (d4 : Int32) (h0 : Heap) (n0 : Nat) (v : Option Value) (h : Heap) (L : List Loc) : Prop := v = some (.ref p0) ∧ Fr n0 L ∧ Keep h0 h [p0, t] ∧ Fld Z h p0 "java/lang/AbstractStringBuilder" "value" "[B" (.ref t) ∧ Fld Z h p0 "java/lang/AbstractStringBuilder" "coder" "B" (.int (0 : Int32)) ∧ Fld Z h p0 "java/lang/AbstractStringBuilder" "count" "I" (.int (Int32.ofNat ([b0, b1, b2, d1, d2, d3, d4]).length)) ∧ Arv Z h t kb .byte (16 : Int32) (own_nrw ([b0, b1, b2, d1, d2, d3, d4])) (.int (0 : Int32))
set_option maxRecDepth 65536 in
set_option maxHeartbeats 40000000 in
theorem rmAppI4 (l : Launch) (Z : State) (a0 : Array Value) (hw : ∀ d ∈ tables_1, d.before a0 Z = true) (ws : List Jvm.Cond) (p0 : Addr) (p1 : Int32) (zc : Int32) (fm : Value) (wO : Addr) (cO : Cell) (wT : Addr) (cT : Cell) (t : Addr) (kb : ClassId) (b0 : Int32) (b1 : Int32) (b2 : Int32) (d1 : Int32) (d2 : Int32) (d3 : Int32) (d4 : Int32) (h0 : Heap) (n0 : Nat) (Z0 : n0 ≤ h0.size) (hSt : own_St Z zc fm) (Ol : own_Old Z n0 h0) (hDT : own_DT Z wO cO wT cT) (Eb : Exa Z h0 p0 "java/lang/StringBuilder") (Fbv : Fld Z h0 p0 "java/lang/AbstractStringBuilder" "value" "[B" (.ref t)) (Fbc : Fld Z h0 p0 "java/lang/AbstractStringBuilder" "coder" "B" (.int (0 : Int32))) (Fbn : Fld Z h0 p0 "java/lang/AbstractStringBuilder" "count" "I" (.int (3 : Int32))) (Ab : Arv Z h0 t kb .byte (16 : Int32) (own_nrw [b0, b1, b2]) (.int (0 : Int32))) (gb_ : n0 ≤ p0) (gt_ : n0 ≤ t) (npt : p0 ≠ t) (hp0 : 0 ≤ p1.toInt) (hlo : 1000 ≤ p1.toInt) (hhi : p1.toInt < 10000) (hd1 : d1.toInt = 48 + p1.toInt / 1000 % 10) (hd2 : d2.toInt = 48 + p1.toInt / 100 % 10) (hd3 : d3.toInt = 48 + p1.toInt / 10 % 10) (hd4 : d4.toInt = 48 + p1.toInt % 10) :
    MetFree l (⟨"java/lang/AbstractStringBuilder", "append", "(I)Ljava/lang/AbstractStringBuilder;"⟩ : MethodName) (head1 (Jvm.Cond.code (⟨"java/lang/AbstractStringBuilder", "append", "(I)Ljava/lang/AbstractStringBuilder;"⟩ : MethodName) jdk_68_method_32_code 4 (some (.object "java/lang/AbstractStringBuilder")) :: ws) ({ frames := 1, cells := 0, slots := 0, locals := 18 } : Room)) (fun a U => a = #[(.ref p0), (.int p1)] ∧ Z.Warmed39 U.vm ∧ U.heap = h0) (fun _ _ _ _ _ => True) (fun _ U o U' => ∃ v L, o = .returned v ∧ Q_rmAppI4 Z p0 p1 zc fm wO cO wT cT t kb b0 b1 b2 d1 d2 d3 d4 h0 n0 v U'.heap L ∧ FrameEnd U o U' L ({ frames := 1, cells := 0, slots := 0, locals := 18 } : Room).cells ({ frames := 1, cells := 0, slots := 0, locals := 18 } : Room).slots) := by
  refine MetFree.of_bodySF (plainFor_of_name pn_java_lang_AbstractStringBuilder) hisR ?_
  intro p e s m args below meth c s₁ Bd hml0 hP hK
  obtain ⟨rfl, hZ, hh⟩ := hP
  have hx := Bd.exec
  have hby := Bd.bytes
  have hml : c.maxLocals = 4 := hml0
  have hown : s.vm.findClass "java/lang/AbstractStringBuilder" = some m.cls := findClass_of_methodNamed Bd.named
  have hnm := (name_of_methodNamed Bd.named Bd.method).1
  have hZo := hZ
  have howno := hown
  have X0 : Stand p l e ({ frames := 1, cells := 0, slots := 0, locals := 18 } : Room) s m #[(.ref p0), (.int p1)] below meth c s₁ [] 0 0 := Stand.of_body Bd
  have e0 : s₁.heap = h0 := by rw [← hh, Bd.state]; rfl
  have N0 := Fr.nil n0
  have pre0 : ∀ t, Steps p.tables e below (s₁.setTop (mkF m 0 #[.val (.ref p0), .val (.int p1), .unset, .unset] [])) t → Steps p.tables e below (s₁.setTop (entryFrame m #[(.ref p0), (.int p1)] 4)) t := fun t k => castTop (ef_rmAppI4 m p0 p1 ) k
  obtain ⟨T1, X1, e1, st1⟩ := getF X0 hx hZ hown (host := "") (Or.inl (hw _ (own_m 91 rfl))) Via.refl e0 Fbn (g := (mkF m 1 #[.val (.ref p0), .val (.int p1), .unset, .unset] [(.ref p0)])) rfl rfl (hb hby d21_1)
  obtain ⟨_, _, ⟨T2, L2, k2, n2⟩, -, X2, ⟨Lc2, hQ2, l2, y2, z2⟩, st2⟩ := Jvm.LawKit.callS X1 hx (y := (⟨"java/lang/Integer", "stringSize", "(I)I"⟩ : MethodName)) hown (mvT hZ (hw _ (own_m 130 rfl))) (mvT hZ (hw _ (own_m 131 rfl))) (mvT hZ (hw _ (own_m 132 rfl))) (mvT hZ (hw _ (own_m 133 rfl))) (by decide) (backOf (W := 1) (rmSS4 l Z a0 hw [] p1 zc fm  h0 n0 Z0 hSt Ol hp0 hlo hhi) hZ (hw _ (own_m 133 rfl)) (hw _ (own_m 132 rfl)) (by decide) (by decide)) (g := (mkF m 7 #[.val (.ref p0), .val (.int p1), .val (.int (3 : Int32)), .unset] [(.int p1), (.int (3 : Int32))])) rfl (by rw [hml]; rfl) (argsL := [(.int p1)]) (rest := [(.int (3 : Int32))]) (lenOf pd__I_I rfl) rfl (by show 2 * 0 + _ ≤ _; exact Nat.le_of_eq rfl) (hb hby d21_7) (fun _ _ => ⟨rfl, e1, (by decide : 0 + 0 ≤ _), (by decide : 0 + 0 ≤ _)⟩)
  dsimp only [Pt.U, Pt.locs, Pt.cells, Pt.slots] at X2 l2 y2 z2 st2 hQ2
  subst l2 y2 z2
  obtain ⟨rfl, Nq2, e2⟩ := hQ2
  have N2 := Fr.app N0 Nq2
  obtain ⟨cq3, kq3, q3a, q3b, q3c⟩ := isOf hZ e2 Eb
  obtain ⟨_, _, ⟨T3, L3, k3, n3⟩, -, X3, ⟨Lc3, hQ3, l3, y3, z3⟩, st3⟩ := X2.virtualBack hx (y := (⟨"java/lang/AbstractStringBuilder", "ensureCapacityInternal", "(I)V"⟩ : MethodName)) (z := (⟨"java/lang/AbstractStringBuilder", "ensureCapacityInternal", "(I)V"⟩ : MethodName)) hown (mvT hZ (hw _ (own_m 93 rfl))) (mvT hZ (own_decl (hw _ (own_m 94 rfl)) (hw _ (own_m 97 rfl)))) (notFace_of_selects (args := #[]) (mvT hZ (hw _ (own_m 96 rfl)))) (mvT hZ (hw _ (own_m 96 rfl))) (mvT hZ (hw _ (own_m 94 rfl))) (by decide) (backOf (W := 0) (rmEns l Z a0 hw [] p0 (7 : Int32) zc fm t kb (own_nrw [b0, b1, b2]) h0 n0 Z0 hSt Ol Fbv Fbc Ab (by decide)) hZ (hw _ (own_m 97 rfl)) (hw _ (own_m 63 rfl)) (by decide) (by decide)) q3a q3c (g := (mkF m 14 #[.val (.ref p0), .val (.int p1), .val (.int (3 : Int32)), .val (.int (7 : Int32))] [(.int (7 : Int32)), (.ref p0)])) rfl (by rw [hml]; rfl) (Steps.refl _) (argsL := [(.int (7 : Int32))]) (rest := []) (lenOf pd__I_V rfl) rfl (by show 2 * 0 + _ ≤ _; exact Nat.le_of_eq rfl) (hb hby d21_14) (fun _ _ => ⟨rfl, e2, (by decide : 0 + 0 ≤ _), (by decide : 0 + 0 ≤ _)⟩)
  dsimp only [Pt.U, Pt.locs, Pt.cells, Pt.slots] at X3 l3 y3 z3 st3 hQ3
  subst l3 y3 z3
  obtain ⟨rfl, Nq3, e3⟩ := hQ3
  have N3 := Fr.app N2 Nq3
  obtain ⟨cq4, kq4, q4a, q4b, q4c⟩ := isOf hZ e3 Eb
  obtain ⟨_, _, ⟨T4, L4, k4, n4⟩, -, X4, ⟨Lc4, hQ4, l4, y4, z4⟩, st4⟩ := X3.virtualBack hx (y := (⟨"java/lang/AbstractStringBuilder", "isLatin1", "()Z"⟩ : MethodName)) (z := (⟨"java/lang/AbstractStringBuilder", "isLatin1", "()Z"⟩ : MethodName)) hown (mvT hZ (hw _ (own_m 134 rfl))) (mvT hZ (hw _ (own_m 135 rfl))) (notFace_of_selects (args := #[]) (mvT hZ (hw _ (own_m 137 rfl)))) (mvT hZ (hw _ (own_m 137 rfl))) (mvT hZ (hw _ (own_m 136 rfl))) (by decide) (backOf (W := 0) (rmBLat l Z a0 hw [] p0 zc fm  h0 n0 Z0 hSt Ol Fbc) hZ (hw _ (own_m 138 rfl)) (hw _ (own_m 63 rfl)) (by decide) (by decide)) q4a q4c (g := (mkF m 18 #[.val (.ref p0), .val (.int p1), .val (.int (3 : Int32)), .val (.int (7 : Int32))] [(.ref p0)])) rfl (by rw [hml]; rfl) (Steps.refl _) (argsL := []) (rest := []) (lenOf pd___Z rfl) rfl (by show 2 * 0 + _ ≤ _; exact Nat.le_of_eq rfl) (hb hby d21_18) (fun _ _ => ⟨rfl, e3, (by decide : 0 + 0 ≤ _), (by decide : 0 + 0 ≤ _)⟩)
  dsimp only [Pt.U, Pt.locs, Pt.cells, Pt.slots] at X4 l4 y4 z4 st4 hQ4
  subst l4 y4 z4
  obtain ⟨rfl, Nq4, e4⟩ := hQ4
  have N4 := Fr.app N3 Nq4
  obtain ⟨T5, X5, e5, st5⟩ := getF X4 hx hZ hown (host := "") (Or.inl (hw _ (own_m 67 rfl))) Via.refl e4 Fbv (g := (mkF m 27 #[.val (.ref p0), .val (.int p1), .val (.int (3 : Int32)), .val (.int (7 : Int32))] [(.ref p0), (.int (7 : Int32)), (.int p1)])) rfl rfl (hb hby d21_27)
  obtain ⟨_, _, ⟨T6, L6, k6, n6⟩, -, X6, ⟨Lc6, hQ6, l6, y6, z6⟩, st6⟩ := Jvm.LawKit.callS X5 hx (y := (⟨"java/lang/Integer", "getChars", "(II[B)I"⟩ : MethodName)) hown (mvT hZ (hw _ (own_m 139 rfl))) (mvT hZ (hw _ (own_m 140 rfl))) (mvT hZ (hw _ (own_m 132 rfl))) (mvT hZ (hw _ (own_m 141 rfl))) (by decide) (backOf (W := 0) (rmGC4 l Z a0 hw [] p1 t zc fm wO cO wT cT kb (.int (own_b b0)) (.int (own_b b1)) (.int (own_b b2)) d1 d2 d3 d4 h0 n0 Z0 hSt Ol hDT (Ab.pad (pad_rep (own_nrw [b0, b1, b2]) (.int (0 : Int32)) 13)) gt_ hp0 hlo hhi hd1 hd2 hd3 hd4) hZ (hw _ (own_m 141 rfl)) (hw _ (own_m 132 rfl)) (by decide) (by decide)) (g := (mkF m 30 #[.val (.ref p0), .val (.int p1), .val (.int (3 : Int32)), .val (.int (7 : Int32))] [(.ref t), (.int (7 : Int32)), (.int p1)])) rfl (by rw [hml]; rfl) (argsL := [(.int p1), (.int (7 : Int32)), (.ref t)]) (rest := []) (lenOf pd__II_B_I rfl) rfl (by show 2 * 0 + _ ≤ _; exact Nat.le_of_eq rfl) (hb hby d21_30) (fun _ _ => ⟨rfl, e5, (by decide : 0 + 0 ≤ _), (by decide : 0 + 0 ≤ _)⟩)
  dsimp only [Pt.U, Pt.locs, Pt.cells, Pt.slots] at X6 l6 y6 z6 st6 hQ6
  subst l6 y6 z6
  obtain ⟨rfl, Nq6, K6, at_⟩ := hQ6
  have N6 := Fr.app N4 Nq6
  have KK6 := (Keep.refl h0 [p0, t]).trans K6 (allS (Or.inl (own_m 1 rfl)) all0)
  rw [own_bdd hd1, own_bdd hd2, own_bdd hd3, own_bdd hd4] at at_
  have au_ : Arv Z T6.heap t kb .byte (16 : Int32) (own_nrw [b0, b1, b2, d1, d2, d3, d4]) (.int (0 : Int32)) := at_.pad (fun i => (pad_rep (own_nrw [b0, b1, b2, d1, d2, d3, d4]) _ 9 i).symm)
  have f7 := (Eb.keep K6)
  have f8 := (Fbn.keep K6 (ninS npt nin0))
  obtain ⟨T9, h9, X9, e9, W9, st9⟩ := putF X6 hx hZ hown (host := "") (Or.inl (hw _ (own_m 91 rfl))) Via.refl rfl f8 f7 (Or.inl (hw _ (own_m 92 rfl))) (hw _ (own_m 54 rfl)) (ty := .int) (by decide) rfl rfl (g := (mkF m 50 #[.val (.ref p0), .val (.int p1), .val (.int (3 : Int32)), .val (.int (7 : Int32))] [(.int (7 : Int32)), (.ref p0)])) rfl rfl (hb hby d21_50)
  have Fw9 := f8.same W9
  have N9 := Fr.snoc X9 N6 gb_
  have K9 := KK6.wr W9 (Or.inl (own_m 0 rfl))
  have f10 := ((Fbv.keep K6 (ninS npt nin0)).other W9 (Or.inr (slot_ne (Or.inl (hw _ (own_m 68 rfl))) (Or.inl (hw _ (own_m 92 rfl))) (by decide) (t := (.array .byte)) (t' := .int) (by decide) (by decide))))
  have f11 := ((Fbc.keep K6 (ninS npt nin0)).other W9 (Or.inr (slot_ne (Or.inl (hw _ (own_m 70 rfl))) (Or.inl (hw _ (own_m 92 rfl))) (by decide) (t := .byte) (t' := .int) (by decide) (by decide))))
  have f12 := (au_.other W9 (Ne.symm npt))
  obtain ⟨fs, hr, hrun, hended, hW, hsame⟩ := X9.leave (v := some (.ref p0)) (fun h => by rw [Bd.returns] at h; cases h)
  refine ⟨_, _, pre0 _ ?_, hrun, hended, _, _, rfl, ?_, ⟨_, rfl⟩, hW, hsame.mono (by decide) (by decide)⟩
  · show Steps p.tables e below (s₁.setTop (mkF m 0 #[.val (.ref p0), .val (.int p1), .unset, .unset] [])) _
    refine XS.aloadN X0.here hx rfl (hb hby d21_0) rfl rfl ?_
    show Steps p.tables e below (s₁.setTop (mkF m 1 #[.val (.ref p0), .val (.int p1), .unset, .unset] [(.ref p0)])) _
    refine st1 _ ?_
    show Steps p.tables e below (T1.setTop (mkF m 4 #[.val (.ref p0), .val (.int p1), .unset, .unset] [(.int (3 : Int32))])) _
    refine XS.istoreN X1.here hx rfl (hb hby d21_4) rfl (l' := #[.val (.ref p0), .val (.int p1), .val (.int (3 : Int32)), .unset]) rfl ?_
    refine XS.iloadN X1.here hx rfl (hb hby d21_5) rfl  ?_
    refine XS.iloadN X1.here hx rfl (hb hby d21_6) rfl  ?_
    show Steps p.tables e below (T1.setTop (mkF m 7 #[.val (.ref p0), .val (.int p1), .val (.int (3 : Int32)), .unset] [(.int p1), (.int (3 : Int32))])) _
    refine st2 _ ?_
    show Steps p.tables e below (T2.setTop (mkF m 10 #[.val (.ref p0), .val (.int p1), .val (.int (3 : Int32)), .unset] [(.int (4 : Int32)), (.int (3 : Int32))])) _
    refine XS.iadd X2.here hx rfl (hb hby d21_10) rfl ?_
    refine XS.istoreN X2.here hx rfl (hb hby d21_11) rfl (l' := #[.val (.ref p0), .val (.int p1), .val (.int (3 : Int32)), .val (.int (7 : Int32))]) rfl ?_
    refine XS.aloadN X2.here hx rfl (hb hby d21_12) rfl rfl ?_
    refine XS.iloadN X2.here hx rfl (hb hby d21_13) rfl  ?_
    show Steps p.tables e below (T2.setTop (mkF m 14 #[.val (.ref p0), .val (.int p1), .val (.int (3 : Int32)), .val (.int (7 : Int32))] [(.int (7 : Int32)), (.ref p0)])) _
    refine st3.trans ?_
    show Steps p.tables e below (T3.setTop (mkF m 17 #[.val (.ref p0), .val (.int p1), .val (.int (3 : Int32)), .val (.int (7 : Int32))] [])) _
    refine XS.aloadN X3.here hx rfl (hb hby d21_17) rfl rfl ?_
    show Steps p.tables e below (T3.setTop (mkF m 18 #[.val (.ref p0), .val (.int p1), .val (.int (3 : Int32)), .val (.int (7 : Int32))] [(.ref p0)])) _
    refine st4.trans ?_
    show Steps p.tables e below (T4.setTop (mkF m 21 #[.val (.ref p0), .val (.int p1), .val (.int (3 : Int32)), .val (.int (7 : Int32))] [(.int (1 : Int32))])) _
    refine XS.ifNo X4.here hx rfl (hb hby d21_21) rfl ((if0 _ _).trans (feq (by decide : ¬ ((1 : Int32) = (0 : Int32)))).1) ?_
    refine XS.iloadN X4.here hx rfl (hb hby d21_24) rfl  ?_
    refine XS.iloadN X4.here hx rfl (hb hby d21_25) rfl  ?_
    refine XS.aloadN X4.here hx rfl (hb hby d21_26) rfl rfl ?_
    show Steps p.tables e below (T4.setTop (mkF m 27 #[.val (.ref p0), .val (.int p1), .val (.int (3 : Int32)), .val (.int (7 : Int32))] [(.ref p0), (.int (7 : Int32)), (.int p1)])) _
    refine st5 _ ?_
    show Steps p.tables e below (T5.setTop (mkF m 30 #[.val (.ref p0), .val (.int p1), .val (.int (3 : Int32)), .val (.int (7 : Int32))] [(.ref t), (.int (7 : Int32)), (.int p1)])) _
    refine st6 _ ?_
    show Steps p.tables e below (T6.setTop (mkF m 33 #[.val (.ref p0), .val (.int p1), .val (.int (3 : Int32)), .val (.int (7 : Int32))] [(.int (3 : Int32))])) _
    refine XS.pop X6.here hx rfl (hb hby d21_33) rfl rfl ?_
    refine XS.goto X6.here hx rfl (pc0 := 34) (pc' := 48) rfl (hb hby d21_34) (by decide) (by decide) ?_
    refine XS.aloadN X6.here hx rfl (hb hby d21_48) rfl rfl ?_
    refine XS.iloadN X6.here hx rfl (hb hby d21_49) rfl  ?_
    show Steps p.tables e below (T6.setTop (mkF m 50 #[.val (.ref p0), .val (.int p1), .val (.int (3 : Int32)), .val (.int (7 : Int32))] [(.int (7 : Int32)), (.ref p0)])) _
    refine st9 _ ?_
    show Steps p.tables e below (T9.setTop (mkF m 53 #[.val (.ref p0), .val (.int p1), .val (.int (3 : Int32)), .val (.int (7 : Int32))] [])) _
    refine XS.aloadN X9.here hx rfl (hb hby d21_53) rfl rfl ?_
    show Steps p.tables e below (T9.setTop (mkF m 54 #[.val (.ref p0), .val (.int p1), .val (.int (3 : Int32)), .val (.int (7 : Int32))] [(.ref p0)])) _
    jvm_step X9.here [X9.here.top, hx, (hb hby d21_54), X9.method', Bd.returns, Value.isRef, FieldType.isReference]
    first | (intro acts; rw [hr _ acts rfl rfl rfl]) | rw [hr _ _ rfl rfl rfl]
    exact Steps.refl _
  · show Q_rmAppI4 Z p0 p1 zc fm wO cO wT cT t kb b0 b1 b2 d1 d2 d3 d4 h0 n0 _ T9.heap _
    rw [e9]
    exact ⟨rfl, N9, K9, f10, f11, Fw9, f12⟩
theorem ef_rmSAppI4 (m : MethodId) (p0 : Addr) (p1 : Int32) : entryFrame m #[(.ref p0), (.int p1)] 2 = mkF m 0 #[.val (.ref p0), .val (.int p1)] [] := by first | (simp [entryFrame, mkF, argsToLocals, Value.category]; done) | rfl
def Q_rmSAppI4 (Z : State) (p0 : Addr) (p1 : Int32) (zc : Int32) (fm : Value) (wO : Addr) (cO : Cell) (wT : Addr) (cT : Cell) (t : Addr) (kb : ClassId) (b0 : Int32) (b1 : Int32) (b2 : Int32) (d1 : Int32) (d2 : Int32) (d3 : Int32) (d4 : Int32) (h0 : Heap) (n0 : Nat) (v : Option Value) (h : Heap) (L : List Loc) : Prop := v = some (.ref p0) ∧ Fr n0 L ∧ Keep h0 h [p0, t] ∧ Fld Z h p0 "java/lang/AbstractStringBuilder" "value" "[B" (.ref t) ∧ Fld Z h p0 "java/lang/AbstractStringBuilder" "coder" "B" (.int (0 : Int32)) ∧ Fld Z h p0 "java/lang/AbstractStringBuilder" "count" "I" (.int (Int32.ofNat ([b0, b1, b2, d1, d2, d3, d4]).length)) ∧ Arv Z h t kb .byte (16 : Int32) (own_nrw ([b0, b1, b2, d1, d2, d3, d4])) (.int (0 : Int32))
set_option maxRecDepth 65536 in
set_option maxHeartbeats 40000000 in
theorem rmSAppI4 (l : Launch) (Z : State) (a0 : Array Value) (hw : ∀ d ∈ tables_1, d.before a0 Z = true) (ws : List Jvm.Cond) (p0 : Addr) (p1 : Int32) (zc : Int32) (fm : Value) (wO : Addr) (cO : Cell) (wT : Addr) (cT : Cell) (t : Addr) (kb : ClassId) (b0 : Int32) (b1 : Int32) (b2 : Int32) (d1 : Int32) (d2 : Int32) (d3 : Int32) (d4 : Int32) (h0 : Heap) (n0 : Nat) (Z0 : n0 ≤ h0.size) (hSt : own_St Z zc fm) (Ol : own_Old Z n0 h0) (hDT : own_DT Z wO cO wT cT) (Eb : Exa Z h0 p0 "java/lang/StringBuilder") (Fbv : Fld Z h0 p0 "java/lang/AbstractStringBuilder" "value" "[B" (.ref t)) (Fbc : Fld Z h0 p0 "java/lang/AbstractStringBuilder" "coder" "B" (.int (0 : Int32))) (Fbn : Fld Z h0 p0 "java/lang/AbstractStringBuilder" "count" "I" (.int (3 : Int32))) (Ab : Arv Z h0 t kb .byte (16 : Int32) (own_nrw [b0, b1, b2]) (.int (0 : Int32))) (gb_ : n0 ≤ p0) (gt_ : n0 ≤ t) (npt : p0 ≠ t) (hp0 : 0 ≤ p1.toInt) (hlo : 1000 ≤ p1.toInt) (hhi : p1.toInt < 10000) (hd1 : d1.toInt = 48 + p1.toInt / 1000 % 10) (hd2 : d2.toInt = 48 + p1.toInt / 100 % 10) (hd3 : d3.toInt = 48 + p1.toInt / 10 % 10) (hd4 : d4.toInt = 48 + p1.toInt % 10) :
    MetFree l (⟨"java/lang/StringBuilder", "append", "(I)Ljava/lang/StringBuilder;"⟩ : MethodName) (head1 (Jvm.Cond.code (⟨"java/lang/StringBuilder", "append", "(I)Ljava/lang/StringBuilder;"⟩ : MethodName) jdk_67_method_15_code 2 (some (.object "java/lang/StringBuilder")) :: ws) ({ frames := 2, cells := 0, slots := 0, locals := 33 } : Room)) (fun a U => a = #[(.ref p0), (.int p1)] ∧ Z.Warmed39 U.vm ∧ U.heap = h0) (fun _ _ _ _ _ => True) (fun _ U o U' => ∃ v L, o = .returned v ∧ Q_rmSAppI4 Z p0 p1 zc fm wO cO wT cT t kb b0 b1 b2 d1 d2 d3 d4 h0 n0 v U'.heap L ∧ FrameEnd U o U' L ({ frames := 2, cells := 0, slots := 0, locals := 33 } : Room).cells ({ frames := 2, cells := 0, slots := 0, locals := 33 } : Room).slots) := by
  refine MetFree.of_bodySF (plainFor_of_name pn_java_lang_StringBuilder) hisR ?_
  intro p e s m args below meth c s₁ Bd hml0 hP hK
  obtain ⟨rfl, hZ, hh⟩ := hP
  have hx := Bd.exec
  have hby := Bd.bytes
  have hml : c.maxLocals = 2 := hml0
  have hown : s.vm.findClass "java/lang/StringBuilder" = some m.cls := findClass_of_methodNamed Bd.named
  have hnm := (name_of_methodNamed Bd.named Bd.method).1
  have hZo := hZ
  have howno := hown
  have X0 : Stand p l e ({ frames := 2, cells := 0, slots := 0, locals := 33 } : Room) s m #[(.ref p0), (.int p1)] below meth c s₁ [] 0 0 := Stand.of_body Bd
  have e0 : s₁.heap = h0 := by rw [← hh, Bd.state]; rfl
  have N0 := Fr.nil n0
  have pre0 : ∀ t, Steps p.tables e below (s₁.setTop (mkF m 0 #[.val (.ref p0), .val (.int p1)] [])) t → Steps p.tables e below (s₁.setTop (entryFrame m #[(.ref p0), (.int p1)] 2)) t := fun t k => castTop (ef_rmSAppI4 m p0 p1 ) k
  obtain ⟨_, _, ⟨T1, L1, k1, n1⟩, -, X1, ⟨Lc1, hQ1, l1, y1, z1⟩, st1⟩ := superBack X0 hx hZ (y := (⟨"java/lang/AbstractStringBuilder", "append", "(I)Ljava/lang/AbstractStringBuilder;"⟩ : MethodName)) hown (hw _ (own_m 126 rfl)) (own_same (y := (⟨"java/lang/AbstractStringBuilder", "append", "(I)Ljava/lang/AbstractStringBuilder;"⟩ : MethodName)) (hw _ (own_m 128 rfl)) (by decide) (hw _ (own_m 96 rfl)) rfl) (hw _ (own_m 127 rfl)) (hw _ (own_m 78 rfl)) (by decide) (backOf (W := 0) (rmAppI4 l Z a0 hw [] p0 p1 zc fm wO cO wT cT t kb b0 b1 b2 d1 d2 d3 d4 h0 n0 Z0 hSt Ol hDT Eb Fbv Fbc Fbn Ab gb_ gt_ npt hp0 hlo hhi hd1 hd2 hd3 hd4) hZ (hw _ (own_m 129 rfl)) (hw _ (own_m 63 rfl)) (by decide) (by decide)) e0 (Ins.self Eb) (g := (mkF m 2 #[.val (.ref p0), .val (.int p1)] [(.int p1), (.ref p0)])) rfl (by rw [hml]; rfl) (hw _ (own_m 129 rfl)) (argsL := [(.int p1)]) (rest := []) (lenOf pd__I_Ljava_lang_AbstractStringBuilder_ rfl) rfl (by show 2 * 0 + _ ≤ _; exact Nat.le_of_eq rfl) (hb hby d20_2) (fun _ _ => ⟨rfl, e0, (by decide : 0 + 0 ≤ _), (by decide : 0 + 0 ≤ _)⟩)
  dsimp only [Pt.U, Pt.locs, Pt.cells, Pt.slots] at X1 l1 y1 z1 st1 hQ1
  subst l1 y1 z1
  obtain ⟨rfl, Nq1, K1, fv_, fc_, fn_, at_⟩ := hQ1
  have N1 := Fr.app N0 Nq1
  have KK1 := (Keep.refl h0 [p0, t]).trans K1 (allS (Or.inl (own_m 0 rfl)) (allS (Or.inl (own_m 1 rfl)) all0))
  obtain ⟨fs, hr, hrun, hended, hW, hsame⟩ := X1.leave (v := some (.ref p0)) (fun h => by rw [Bd.returns] at h; cases h)
  refine ⟨_, _, pre0 _ ?_, hrun, hended, _, _, rfl, ?_, ⟨_, rfl⟩, hW, hsame.mono (by decide) (by decide)⟩
  · show Steps p.tables e below (s₁.setTop (mkF m 0 #[.val (.ref p0), .val (.int p1)] [])) _
    refine XS.aloadN X0.here hx rfl (hb hby d20_0) rfl rfl ?_
    refine XS.iloadN X0.here hx rfl (hb hby d20_1) rfl  ?_
    show Steps p.tables e below (s₁.setTop (mkF m 2 #[.val (.ref p0), .val (.int p1)] [(.int p1), (.ref p0)])) _
    refine st1.trans ?_
    show Steps p.tables e below (T1.setTop (mkF m 5 #[.val (.ref p0), .val (.int p1)] [(.ref p0)])) _
    refine XS.pop X1.here hx rfl (hb hby d20_5) rfl rfl ?_
    refine XS.aloadN X1.here hx rfl (hb hby d20_6) rfl rfl ?_
    show Steps p.tables e below (T1.setTop (mkF m 7 #[.val (.ref p0), .val (.int p1)] [(.ref p0)])) _
    jvm_step X1.here [X1.here.top, hx, (hb hby d20_7), X1.method', Bd.returns, Value.isRef, FieldType.isReference]
    first | (intro acts; rw [hr _ acts rfl rfl rfl]) | rw [hr _ _ rfl rfl rfl]
    exact Steps.refl _
  · show Q_rmSAppI4 Z p0 p1 zc fm wO cO wT cT t kb b0 b1 b2 d1 d2 d3 d4 h0 n0 _ T1.heap _
    exact ⟨rfl, N1, KK1, fv_, fc_, fn_, at_⟩
theorem ef_rmTS4 (m : MethodId) (p0 : Addr) : entryFrame m #[(.ref p0)] 1 = mkF m 0 #[.val (.ref p0)] [] := by first | (simp [entryFrame, mkF, argsToLocals, Value.category]; done) | rfl
def Q_rmTS4 (Z : State) (p0 : Addr) (zc : Int32) (fm : Value) (wO : Addr) (cO : Cell) (wT : Addr) (cT : Cell) (x : Addr) (ts : Addr) (ks : ClassId) (c0 : Int32) (c1 : Int32) (pt : Int32) (d1 : Int32) (d2 : Int32) (d3 : Int32) (d4 : Int32) (h0 : Heap) (n0 : Nat) (v : Option Value) (h : Heap) (L : List Loc) : Prop := (∃ (r ts : Addr) (ks : ClassId), v = some (.ref r) ∧ Exa Z h r "java/lang/String" ∧ Fld Z h r "java/lang/String" "value" "[B" (.ref ts) ∧ Fld Z h r "java/lang/String" "coder" "B" (.int (0 : Int32)) ∧ Arv Z h ts ks .byte (Int32.ofNat [c0, c1, 58, d1, d2, d3, d4].length) (own_nrw [c0, c1, 58, d1, d2, d3, d4]) (.int (0 : Int32))) ∧ Fr n0 L ∧ Keep h0 h []
set_option maxRecDepth 65536 in
set_option maxHeartbeats 40000000 in
theorem rmTS4 (l : Launch) (Z : State) (a0 : Array Value) (hw : ∀ d ∈ tables_1, d.before a0 Z = true) (ws : List Jvm.Cond) (p0 : Addr) (zc : Int32) (fm : Value) (wO : Addr) (cO : Cell) (wT : Addr) (cT : Cell) (x : Addr) (ts : Addr) (ks : ClassId) (c0 : Int32) (c1 : Int32) (pt : Int32) (d1 : Int32) (d2 : Int32) (d3 : Int32) (d4 : Int32) (h0 : Heap) (n0 : Nat) (Z0 : n0 ≤ h0.size) (hSt : own_St Z zc fm) (Ol : own_Old Z n0 h0) (hDT : own_DT Z wO cO wT cT) (Fh : Fld Z h0 p0 "com/example/kikao/kikao/Domain" "host" "Ljava/lang/String;" (.ref x)) (Fp : Fld Z h0 p0 "com/example/kikao/kikao/Domain" "port" "I" (.int pt)) (Es : Exa Z h0 x "java/lang/String") (Fsv : Fld Z h0 x "java/lang/String" "value" "[B" (.ref ts)) (Fsc : Fld Z h0 x "java/lang/String" "coder" "B" (.int (0 : Int32))) (As : Arv Z h0 ts ks .byte (Int32.ofNat [c0, c1].length) (own_nrw [c0, c1]) (.int (0 : Int32))) (hle : ∀ c ∈ [c0, c1], ¬ (255 : Int32) < c) (hch : own_Chs [c0, c1]) (hp0 : 0 ≤ pt.toInt) (hlo : 1000 ≤ pt.toInt) (hhi : pt.toInt < 10000) (hd1 : d1.toInt = 48 + pt.toInt / 1000 % 10) (hd2 : d2.toInt = 48 + pt.toInt / 100 % 10) (hd3 : d3.toInt = 48 + pt.toInt / 10 % 10) (hd4 : d4.toInt = 48 + pt.toInt % 10) (hn0 : n0 = h0.size) (hheld : Jvm.Lit.constHeld Z "com/example/kikao/kikao/Domain" 140) (hcw : Jvm.Lit.compactW.before a0 Z = true) :
    MetFree l (⟨"com/example/kikao/kikao/Domain", "toString", "()Ljava/lang/String;"⟩ : MethodName) (head1 (Jvm.Cond.code (⟨"com/example/kikao/kikao/Domain", "toString", "()Ljava/lang/String;"⟩ : MethodName) prog_6_method_6_code 1 (some (.object "java/lang/String")) :: ws) ({ frames := 6, cells := 6, slots := 48, locals := 91 } : Room)) (fun a U => a = #[(.ref p0)] ∧ Z.Warmed39 U.vm ∧ U.heap = h0 ∧ U.vm.interned = Z.vm.interned) (fun _ _ _ _ _ => True) (fun _ U o U' => ∃ v L, o = .returned v ∧ Q_rmTS4 Z p0 zc fm wO cO wT cT x ts ks c0 c1 pt d1 d2 d3 d4 h0 n0 v U'.heap L ∧ ReturnedEndW U o U' L ({ frames := 6, cells := 6, slots := 48, locals := 91 } : Room).cells ({ frames := 6, cells := 6, slots := 48, locals := 91 } : Room).slots) := by
  refine MetFree.of_bodySF (plainFor_of_name pn_com_example_kikao_kikao_Domain) hisR ?_
  intro p e s m args below meth c s₁ Bd hml0 hP hK
  obtain ⟨rfl, hZ, hh, hI⟩ := hP
  have hx := Bd.exec
  have hby := Bd.bytes
  have hml : c.maxLocals = 1 := hml0
  have hown : s.vm.findClass "com/example/kikao/kikao/Domain" = some m.cls := findClass_of_methodNamed Bd.named
  have hnm := (name_of_methodNamed Bd.named Bd.method).1
  have hZo := hZ
  have howno := hown
  have X0 : Stand p l e ({ frames := 6, cells := 6, slots := 48, locals := 91 } : Room) s m #[(.ref p0)] below meth c s₁ [] 0 0 := Stand.of_body Bd
  have e0 : s₁.heap = h0 := by rw [← hh, Bd.state]; rfl
  have N0 := Fr.nil n0
  have pre0 : ∀ t, Steps p.tables e below (s₁.setTop (mkF m 0 #[.val (.ref p0)] [])) t → Steps p.tables e below (s₁.setTop (entryFrame m #[(.ref p0)] 1)) t := fun t k => castTop (ef_rmTS4 m p0 ) k
  obtain ⟨T1, X1, e1, st1⟩ := getF X0 hx hZ hown (host := "") (Or.inl (hw _ (own_m 46 rfl))) Via.refl e0 Fp (g := (mkF m 1 #[.val (.ref p0)] [(.ref p0)])) rfl rfl (hb hby d9_1)
  obtain ⟨T2, h2, X2, e2, E2, A2, D2, -, st2⟩ := newO X1 hx hZ hown (hw _ (own_m 53 rfl)) (hw _ (own_m 54 rfl)) (hw _ (own_m 55 rfl)) e1 (g := (mkF m 15 #[.val (.ref p0)] [])) rfl (hb hby d9_15) (by decide) (by decide)
  obtain ⟨b2, g2⟩ : ∃ z, z = h0.size := ⟨_, rfl⟩
  rw [← g2] at A2 D2 st2
  have ne2_p0 : p0 ≠ b2 := Nat.ne_of_lt (Nat.lt_of_lt_of_le Fh.lt (Nat.le_of_eq g2.symm))
  have ne2_x : x ≠ b2 := Nat.ne_of_lt (Nat.lt_of_lt_of_le Es.lt (Nat.le_of_eq g2.symm))
  have ne2_ts : ts ≠ b2 := Nat.ne_of_lt (Nat.lt_of_lt_of_le As.lt (Nat.le_of_eq g2.symm))
  have ge2 : n0 ≤ b2 := Nat.le_trans Z0 (Nat.le_of_eq g2.symm)
  have sz2 : h0.size ≤ b2 := Nat.le_trans (Keep.refl h0 []).1 (Nat.le_of_eq g2.symm)
  have K2 := (Keep.refl h0 []).ext E2
  have F2_value : Fld Z h2 b2 "java/lang/AbstractStringBuilder" "value" "[B" .null := D2 (Or.inl (hw _ (own_m 68 rfl))) (ty := (.array .byte)) (by decide)
  have F2_coder : Fld Z h2 b2 "java/lang/AbstractStringBuilder" "coder" "B" (.int (0 : Int32)) := D2 (Or.inl (hw _ (own_m 70 rfl))) (ty := .byte) (by decide)
  have F2_count : Fld Z h2 b2 "java/lang/AbstractStringBuilder" "count" "I" (.int (0 : Int32)) := D2 (Or.inl (hw _ (own_m 92 rfl))) (ty := .int) (by decide)
  have f3 := (Fp.ext E2)
  have f4 := (Nat.le_trans Z0 E2.1)
  have f5 := (Ol.ext E2)
  obtain ⟨_, _, ⟨T6, L6, k6, n6⟩, -, X6, ⟨Lc6, hQ6, l6, y6, z6⟩, st6⟩ := X2.specialBack hx (y := (⟨"java/lang/StringBuilder", "<init>", "()V"⟩ : MethodName)) rfl hown (mvT hZ (hw _ (own_m 56 rfl))) (mvT hZ (hw _ (own_m 57 rfl))) (mvT hZ (hw _ (own_m 58 rfl))) (by decide) (backOf (W := 1) (rmSB0 l Z a0 hw [] b2 zc fm  h2 n0 f4 hSt f5 A2 F2_value F2_coder F2_count ge2) hZ (hw _ (own_m 58 rfl)) (hw _ (own_m 55 rfl)) (by decide) (by decide)) (g := (mkF m 19 #[.val (.ref p0)] [(.ref b2), (.ref b2)])) rfl (by rw [hml]; rfl) (Steps.refl _) (a := b2) (argsL := []) (rest := [(.ref b2)]) (lenOf pd___V rfl) rfl (by show 2 * 0 + _ ≤ _; exact Nat.le_of_eq rfl) (hb hby d9_19) (fun _ _ => ⟨rfl, e2, (by decide : 1 + 1 ≤ _), (by decide : 4 + 16 ≤ _)⟩)
  dsimp only [Pt.U, Pt.locs, Pt.cells, Pt.slots] at X6 l6 y6 z6 st6 hQ6
  subst l6 y6 z6
  obtain ⟨rfl, Nq6, K6, t_, k_, gt_, zt_, fv_, fc_, fn_, at_⟩ := hQ6
  have N6 := Fr.app N0 Nq6
  have KK6 := K2.trans K6 (allS (Or.inr sz2) all0)
  have nd_ : p0 ≠ t_ := Nat.ne_of_lt (Nat.lt_of_lt_of_le f3.lt zt_)
  have nb_ : b2 ≠ t_ := Nat.ne_of_lt (Nat.lt_of_lt_of_le A2.lt zt_)
  have zz_ : h0.size ≤ t_ := Nat.le_trans K2.1 zt_
  have f7 := ((Fh.ext E2).keep K6 (ninS ne2_p0 nin0))
  obtain ⟨T8, X8, e8, st8⟩ := getF X6 hx hZ hown (host := "") (Or.inl (hw _ (own_m 44 rfl))) Via.refl rfl f7 (g := (mkF m 23 #[.val (.ref p0)] [(.ref p0), (.ref b2)])) rfl rfl (hb hby d9_23)
  have f9 := ((Es.ext E2).keep K6)
  have f10 := ((Fsv.ext E2).keep K6 (ninS ne2_x nin0))
  have f11 := ((Fsc.ext E2).keep K6 (ninS ne2_x nin0))
  have f12 := ((As.ext E2).keep K6 (ninS ne2_ts nin0))
  have f13 := (A2.keep K6)
  have f14 := (Nat.le_trans f4 K6.1)
  have f15 := (f5.keep K6 (allS ge2 all0))
  obtain ⟨cq16, kq16, q16a, q16b, q16c⟩ := isOf hZ e8 f13
  obtain ⟨_, _, ⟨T16, L16, k16, n16⟩, -, X16, ⟨Lc16, hQ16, l16, y16, z16⟩, st16⟩ := X8.virtualBack hx (y := (⟨"java/lang/StringBuilder", "append", "(Ljava/lang/String;)Ljava/lang/StringBuilder;"⟩ : MethodName)) (z := (⟨"java/lang/StringBuilder", "append", "(Ljava/lang/String;)Ljava/lang/StringBuilder;"⟩ : MethodName)) hown (mvT hZ (hw _ (own_m 71 rfl))) (mvT hZ (hw _ (own_m 72 rfl))) (notFace_of_selects (args := #[]) (mvT hZ (hw _ (own_m 74 rfl)))) (mvT hZ (hw _ (own_m 74 rfl))) (mvT hZ (hw _ (own_m 73 rfl))) (by decide) (backOf (W := 0) (rmSAppS l Z a0 hw [] b2 x zc fm ts ks [c0, c1] t_ k_ ([] : List Int32) T6.heap n0 f14 hSt f15 f9 f10 f11 f12 hle hch f13 fv_ fc_ fn_ at_ ge2 gt_ nb_ (Nat.le_of_ble_eq_true rfl)) hZ (hw _ (own_m 75 rfl)) (hw _ (own_m 55 rfl)) (by decide) (by decide)) q16a q16c (g := (mkF m 26 #[.val (.ref p0)] [(.ref x), (.ref b2)])) rfl (by rw [hml]; rfl) (Steps.refl _) (argsL := [(.ref x)]) (rest := []) (lenOf pd__Ljava_lang_String__Ljava_lang_StringBuilder_ rfl) rfl (by show 2 * 0 + _ ≤ _; exact Nat.le_of_eq rfl) (hb hby d9_26) (fun _ _ => ⟨rfl, e8, (by decide : 2 + 0 ≤ _), (by decide : 20 + 0 ≤ _)⟩)
  dsimp only [Pt.U, Pt.locs, Pt.cells, Pt.slots] at X16 l16 y16 z16 st16 hQ16
  subst l16 y16 z16
  obtain ⟨rfl, Nq16, K16, fv_1, fc_1, fn_1, at_1⟩ := hQ16
  have N16 := Fr.app N6 Nq16
  have KK16 := KK6.trans K16 (allS (Or.inr sz2) (allS (Or.inr zz_) all0))
  have pre17 : ∀ t, Steps p.tables e below (T16.setTop (mkF m 29 #[.val (.ref p0)] [(.ref b2)])) t → Steps p.tables e below (s₁.setTop (entryFrame m #[(.ref p0)] 1)) t := fun t kt => pre0 t (by
    show Steps p.tables e below (s₁.setTop (mkF m 0 #[.val (.ref p0)] [])) _
    refine XS.aloadN X0.here hx rfl (hb hby d9_0) rfl rfl ?_
    show Steps p.tables e below (s₁.setTop (mkF m 1 #[.val (.ref p0)] [(.ref p0)])) _
    refine st1 _ ?_
    show Steps p.tables e below (T1.setTop (mkF m 4 #[.val (.ref p0)] [(.int pt)])) _
    refine XS.iconst X1.here hx rfl (hb hby d9_4) ?_
    show Steps p.tables e below (T1.setTop (mkF m 5 #[.val (.ref p0)] [(.int (-1 : Int32)), (.int pt)])) _
    refine XS.icmpYes X1.here hx rfl (pc0 := 5) (pc' := 15) rfl (hb hby d9_5) rfl (feq (fun q => by rw [q] at hp0; exact absurd hp0 (by decide))).2 (by decide) (by decide) ?_
    show Steps p.tables e below (T1.setTop (mkF m 15 #[.val (.ref p0)] [])) _
    refine st2 _ ?_
    show Steps p.tables e below (T2.setTop (mkF m 18 #[.val (.ref p0)] [(.ref b2)])) _
    refine XS.dup X2.here hx rfl (hb hby d9_18) rfl rfl ?_
    show Steps p.tables e below (T2.setTop (mkF m 19 #[.val (.ref p0)] [(.ref b2), (.ref b2)])) _
    refine st6.trans ?_
    show Steps p.tables e below (T6.setTop (mkF m 22 #[.val (.ref p0)] [(.ref b2)])) _
    refine XS.aloadN X6.here hx rfl (hb hby d9_22) rfl rfl ?_
    show Steps p.tables e below (T6.setTop (mkF m 23 #[.val (.ref p0)] [(.ref p0), (.ref b2)])) _
    refine st8 _ ?_
    show Steps p.tables e below (T8.setTop (mkF m 26 #[.val (.ref p0)] [(.ref x), (.ref b2)])) _
    refine st16.trans ?_
    show Steps p.tables e below (T16.setTop (mkF m 29 #[.val (.ref p0)] [(.ref b2)])) _
    exact kt)
  have hWr := X16.warmed
  have hS18 : s.Since T16.vm T16.heap.size := X16.warmed.since _
  have hZ18 : Z.Warmed39 (s.setVm T16.vm).vm := State.Warmed39.trans hZ X16.warmed.wide
  have hown18 : (s.setVm T16.vm).vm.findClass "com/example/kikao/kikao/Domain" = some m.cls := (X16.warmed.wide.alike.findClass _ _).trans hown
  have X18 := X16.retabled X16.warmed.wide
  have hk18 : T16.heap.size ≤ T16.heap.size := Nat.le_refl _
  obtain ⟨a19, T19, h19, k19, b19, kk19, X19, e19, E19, hS19, hk19, hZ19, hown19, Ex19, Fc19, Fv19, Av19, -, -, -, -, st19⟩ := ldcSVL X18 hx hZ18 hown18 (hw _ (own_m 118 rfl)) (own_wS hw) rfl hS18 hk18 (by rw [hh, ← hn0]; exact N16) (fun b cl q => by rw [hh]; exact Ol.2.2 b cl q) (own_IB hI hWr) (fun q => nomatch q) hheld hcw (vs := own_nrw [(58 : Int32)]) (z := (1 : Int32)) ⟨by decide +kernel, by decide +kernel⟩ (by decide) (by decide) (g := (mkF m 29 #[.val (.ref p0)] [(.ref b2)])) rfl (hb hby d9_29) (n := 4) (by decide) (by decide) (by decide) (by decide)
  have f20 := (Nat.le_trans f14 K16.1)
  have K19 := KK16.ext E19
  have f21 := ((f13.keep K16).ext E19)
  have f22 := (fv_1.ext E19)
  have f23 := (fc_1.ext E19)
  have f24 := (fn_1.ext E19)
  have f25 := (at_1.ext E19)
  have f26 := (Nat.le_trans f20 E19.1)
  have f27 := ((f15.keep K16 (allS ge2 (allS gt_ all0))).ext E19)
  obtain ⟨cq28, kq28, q28a, q28b, q28c⟩ := isOf hZ19 e19 f21
  obtain ⟨_, _, ⟨T28, L28, k28, n28⟩, -, X28, ⟨Lc28, hQ28, l28, y28, z28⟩, st28⟩ := X19.virtualBack hx (y := (⟨"java/lang/StringBuilder", "append", "(Ljava/lang/String;)Ljava/lang/StringBuilder;"⟩ : MethodName)) (z := (⟨"java/lang/StringBuilder", "append", "(Ljava/lang/String;)Ljava/lang/StringBuilder;"⟩ : MethodName)) hown19 (mvT hZ19 (hw _ (own_m 71 rfl))) (mvT hZ19 (hw _ (own_m 72 rfl))) (notFace_of_selects (args := #[]) (mvT hZ19 (hw _ (own_m 74 rfl)))) (mvT hZ19 (hw _ (own_m 74 rfl))) (mvT hZ19 (hw _ (own_m 73 rfl))) (by decide) (backOf (W := 0) (rmSAppS l Z a0 hw [] b2 a19 zc fm b19 kk19 [(58 : Int32)] t_ k_ (([] : List Int32) ++ [c0, c1]) h19 n0 f26 hSt f27 Ex19 Fv19 Fc19 Av19 (own_allc (by decide) (fun _ q => nomatch q)) ⟨own_allc ⟨by decide, by decide⟩ (fun _ q => nomatch q), by decide⟩ f21 f22 f23 f24 f25 ge2 gt_ nb_ (Nat.le_of_ble_eq_true rfl)) hZ19 (hw _ (own_m 75 rfl)) (hw _ (own_m 55 rfl)) (by decide) (by decide)) q28a q28c (g := (mkF m 31 #[.val (.ref p0)] [(.ref a19), (.ref b2)])) rfl (by rw [hml]; rfl) (Steps.refl _) (argsL := [(.ref a19)]) (rest := []) (lenOf pd__Ljava_lang_String__Ljava_lang_StringBuilder_ rfl) rfl (by show 2 * 0 + _ ≤ _; exact Nat.le_of_eq rfl) (hb hby d9_31) (fun _ _ => ⟨rfl, e19, (by decide : 4 + 0 ≤ _), (by decide : 28 + 0 ≤ _)⟩)
  dsimp only [Pt.U, Pt.locs, Pt.cells, Pt.slots] at X28 l28 y28 z28 st28 hQ28
  subst l28 y28 z28
  obtain ⟨rfl, Nq28, K28, fv_2, fc_2, fn_2, at_2⟩ := hQ28
  have N28 := Fr.app N16 Nq28
  have KK28 := K19.trans K28 (allS (Or.inr sz2) (allS (Or.inr zz_) all0))
  have f29 := ((((f3.keep K6 (ninS ne2_p0 nin0)).keep K16 (ninS ne2_p0 (ninS nd_ nin0))).ext E19).keep K28 (ninS ne2_p0 (ninS nd_ nin0)))
  obtain ⟨T30, X30, e30, st30⟩ := getF X28 hx hZ19 hown19 (host := "") (Or.inl (hw _ (own_m 46 rfl))) Via.refl rfl f29 (g := (mkF m 35 #[.val (.ref p0)] [(.ref p0), (.ref b2)])) rfl rfl (hb hby d9_35)
  have f31 := (f21.keep K28)
  have f32 := (Nat.le_trans f26 K28.1)
  have f33 := (f27.keep K28 (allS ge2 (allS gt_ all0)))
  obtain ⟨cq34, kq34, q34a, q34b, q34c⟩ := isOf hZ19 e30 f31
  obtain ⟨_, _, ⟨T34, L34, k34, n34⟩, -, X34, ⟨Lc34, hQ34, l34, y34, z34⟩, st34⟩ := X30.virtualBack hx (y := (⟨"java/lang/StringBuilder", "append", "(I)Ljava/lang/StringBuilder;"⟩ : MethodName)) (z := (⟨"java/lang/StringBuilder", "append", "(I)Ljava/lang/StringBuilder;"⟩ : MethodName)) hown19 (mvT hZ19 (hw _ (own_m 121 rfl))) (mvT hZ19 (hw _ (own_m 122 rfl))) (notFace_of_selects (args := #[]) (mvT hZ19 (hw _ (own_m 124 rfl)))) (mvT hZ19 (hw _ (own_m 124 rfl))) (mvT hZ19 (hw _ (own_m 123 rfl))) (by decide) (backOf (W := 0) (rmSAppI4 l Z a0 hw [] b2 pt zc fm wO cO wT cT t_ k_ c0 c1 58 d1 d2 d3 d4 T28.heap n0 f32 hSt f33 hDT f31 fv_2 fc_2 fn_2 at_2 ge2 gt_ nb_ hp0 hlo hhi hd1 hd2 hd3 hd4) hZ19 (hw _ (own_m 125 rfl)) (hw _ (own_m 55 rfl)) (by decide) (by decide)) q34a q34c (g := (mkF m 38 #[.val (.ref p0)] [(.int pt), (.ref b2)])) rfl (by rw [hml]; rfl) (Steps.refl _) (argsL := [(.int pt)]) (rest := []) (lenOf pd__I_Ljava_lang_StringBuilder_ rfl) rfl (by show 2 * 0 + _ ≤ _; exact Nat.le_of_eq rfl) (hb hby d9_38) (fun _ _ => ⟨rfl, e30, (by decide : 4 + 0 ≤ _), (by decide : 28 + 0 ≤ _)⟩)
  dsimp only [Pt.U, Pt.locs, Pt.cells, Pt.slots] at X34 l34 y34 z34 st34 hQ34
  subst l34 y34 z34
  obtain ⟨rfl, Nq34, K34, fv_3, fc_3, fn_3, at_3⟩ := hQ34
  have N34 := Fr.app N28 Nq34
  have KK34 := KK28.trans K34 (allS (Or.inr sz2) (allS (Or.inr zz_) all0))
  have f35 := (f31.keep K34)
  have f36 := (Nat.le_trans f32 K34.1)
  have f37 := (f33.keep K34 (allS ge2 (allS gt_ all0)))
  obtain ⟨cq38, kq38, q38a, q38b, q38c⟩ := isOf hZ19 rfl f35
  obtain ⟨_, _, ⟨T38, L38, k38, n38⟩, -, X38, ⟨Lc38, hQ38, l38, y38, z38⟩, st38⟩ := X34.virtualBack hx (y := (⟨"java/lang/StringBuilder", "toString", "()Ljava/lang/String;"⟩ : MethodName)) (z := (⟨"java/lang/StringBuilder", "toString", "()Ljava/lang/String;"⟩ : MethodName)) hown19 (mvT hZ19 (hw _ (own_m 143 rfl))) (mvT hZ19 (hw _ (own_m 144 rfl))) (notFace_of_selects (args := #[]) (mvT hZ19 (hw _ (own_m 146 rfl)))) (mvT hZ19 (hw _ (own_m 146 rfl))) (mvT hZ19 (hw _ (own_m 145 rfl))) (by decide) (backOf (W := 0) (rmToS l Z a0 hw [] b2 zc fm t_ k_ [c0, c1, 58, d1, d2, d3, d4] T34.heap n0 f36 hSt f37 f35 fv_3 fc_3 fn_3 at_3 ge2 gt_ nb_ (Nat.le_of_ble_eq_true rfl)) hZ19 (hw _ (own_m 147 rfl)) (hw _ (own_m 55 rfl)) (by decide) (by decide)) q38a q38c (g := (mkF m 41 #[.val (.ref p0)] [(.ref b2)])) rfl (by rw [hml]; rfl) (Steps.refl _) (argsL := []) (rest := []) (lenOf pd___Ljava_lang_String_ rfl) rfl (by show 2 * 0 + _ ≤ _; exact Nat.le_of_eq rfl) (hb hby d9_41) (fun _ _ => ⟨rfl, rfl, (by decide : 4 + 2 ≤ _), (by decide : 28 + 20 ≤ _)⟩)
  dsimp only [Pt.U, Pt.locs, Pt.cells, Pt.slots] at X38 l38 y38 z38 st38 hQ38
  subst l38 y38 z38
  obtain ⟨⟨r_, ts_, ks_, rfl, zr_, zs_, E_, fv_4, fc_4, at_4⟩, Nq38, K38⟩ := hQ38
  have N38 := Fr.app N34 Nq38
  have KK38 := KK34.trans K38 all0
  have f39 := (Nat.le_trans (Nat.le_trans (Nat.le_trans hk19 K28.1) K34.1) K38.1)
  obtain ⟨fs, hr, hrun, hended, hEnd⟩ := X38.leaveW hS19 f39 (v := some (.ref r_)) (fun h => by rw [Bd.returns] at h; cases h)
  refine ⟨_, _, pre17 _ ?_, hrun, hended, _, _, rfl, ?_, hEnd.1, hEnd.2.1, hEnd.2.2.1, hEnd.2.2.2.mono (by decide) (by decide)⟩
  · show Steps p.tables e below (T16.setTop (mkF m 29 #[.val (.ref p0)] [(.ref b2)])) _
    refine st19 _ ?_
    show Steps p.tables e below (T19.setTop (mkF m 31 #[.val (.ref p0)] [(.ref a19), (.ref b2)])) _
    refine st28.trans ?_
    show Steps p.tables e below (T28.setTop (mkF m 34 #[.val (.ref p0)] [(.ref b2)])) _
    refine XS.aloadN X28.here hx rfl (hb hby d9_34) rfl rfl ?_
    show Steps p.tables e below (T28.setTop (mkF m 35 #[.val (.ref p0)] [(.ref p0), (.ref b2)])) _
    refine st30 _ ?_
    show Steps p.tables e below (T30.setTop (mkF m 38 #[.val (.ref p0)] [(.int pt), (.ref b2)])) _
    refine st34.trans ?_
    show Steps p.tables e below (T34.setTop (mkF m 41 #[.val (.ref p0)] [(.ref b2)])) _
    refine st38.trans ?_
    show Steps p.tables e below (T38.setTop (mkF m 44 #[.val (.ref p0)] [(.ref r_)])) _
    jvm_step X38.here [X38.here.top, hx, (hb hby d9_44), X38.method', Bd.returns, Value.isRef, FieldType.isReference]
    first | (intro acts; rw [hr _ acts rfl rfl rfl]) | rw [hr _ _ rfl rfl rfl]
    exact Steps.refl _
  · show Q_rmTS4 Z p0 zc fm wO cO wT cT x ts ks c0 c1 pt d1 d2 d3 d4 h0 n0 _ T38.heap _
    exact ⟨⟨_, _, _, rfl, E_, fv_4, fc_4, at_4⟩, N38, KK38⟩
theorem ef_rmSS5 (m : MethodId) (p0 : Int32) : entryFrame m #[(.int p0)] 4 = mkF m 0 #[.val (.int p0), .unset, .unset, .unset] [] := by first | (simp [entryFrame, mkF, argsToLocals, Value.category]; done) | rfl
def Q_rmSS5 (Z : State) (p0 : Int32) (zc : Int32) (fm : Value) (h0 : Heap) (n0 : Nat) (v : Option Value) (h : Heap) (L : List Loc) : Prop := v = some (.int (5 : Int32)) ∧ Fr n0 L ∧ h = h0
set_option maxRecDepth 65536 in
set_option maxHeartbeats 40000000 in
theorem rmSS5 (l : Launch) (Z : State) (a0 : Array Value) (hw : ∀ d ∈ tables_1, d.before a0 Z = true) (ws : List Jvm.Cond) (p0 : Int32) (zc : Int32) (fm : Value) (h0 : Heap) (n0 : Nat) (Z0 : n0 ≤ h0.size) (hSt : own_St Z zc fm) (Ol : own_Old Z n0 h0) (hp0 : 0 ≤ p0.toInt) (hlo : 10000 ≤ p0.toInt) (hhi : p0.toInt < 100000) :
    MetFree l (⟨"java/lang/Integer", "stringSize", "(I)I"⟩ : MethodName) (head1 (Jvm.Cond.code (⟨"java/lang/Integer", "stringSize", "(I)I"⟩ : MethodName) jdk_33_method_13_code 4 (some .int) :: ws) ({ frames := 0, cells := 0, slots := 0, locals := 0 } : Room)) (fun a U => a = #[(.int p0)] ∧ Z.Warmed39 U.vm ∧ U.heap = h0) (fun _ _ _ _ _ => True) (fun _ U o U' => ∃ v L, o = .returned v ∧ Q_rmSS5 Z p0 zc fm h0 n0 v U'.heap L ∧ FrameEnd U o U' L ({ frames := 0, cells := 0, slots := 0, locals := 0 } : Room).cells ({ frames := 0, cells := 0, slots := 0, locals := 0 } : Room).slots) := by
  refine MetFree.of_bodySF (plainFor_of_name pn_java_lang_Integer) hisR ?_
  intro p e s m args below meth c s₁ Bd hml0 hP hK
  obtain ⟨rfl, hZ, hh⟩ := hP
  have hx := Bd.exec
  have hby := Bd.bytes
  have hml : c.maxLocals = 4 := hml0
  have hown : s.vm.findClass "java/lang/Integer" = some m.cls := findClass_of_methodNamed Bd.named
  have hnm := (name_of_methodNamed Bd.named Bd.method).1
  have hZo := hZ
  have howno := hown
  have X0 : Stand p l e ({ frames := 0, cells := 0, slots := 0, locals := 0 } : Room) s m #[(.int p0)] below meth c s₁ [] 0 0 := Stand.of_body Bd
  have e0 : s₁.heap = h0 := by rw [← hh, Bd.state]; rfl
  have N0 := Fr.nil n0
  have pre0 : ∀ t, Steps p.tables e below (s₁.setTop (mkF m 0 #[.val (.int p0), .unset, .unset, .unset] [])) t → Steps p.tables e below (s₁.setTop (entryFrame m #[(.int p0)] 4)) t := fun t k => castTop (ef_rmSS5 m p0 ) k
  obtain ⟨fs, hr, hrun, hended, hW, hsame⟩ := X0.leave (v := some (.int (5 : Int32))) (fun h => by rw [Bd.returns] at h; cases h)
  refine ⟨_, _, pre0 _ ?_, hrun, hended, _, _, rfl, ?_, ⟨_, rfl⟩, hW, hsame.mono (by decide) (by decide)⟩
  · show Steps p.tables e below (s₁.setTop (mkF m 0 #[.val (.int p0), .unset, .unset, .unset] [])) _
    refine XS.iconst X0.here hx rfl (hb hby d22_0) ?_
    refine XS.istoreN X0.here hx rfl (hb hby d22_1) rfl (l' := #[.val (.int p0), .val (.int (1 : Int32)), .unset, .unset]) rfl ?_
    refine XS.iloadN X0.here hx rfl (hb hby d22_2) rfl  ?_
    show Steps p.tables e below (s₁.setTop (mkF m 3 #[.val (.int p0), .val (.int (1 : Int32)), .unset, .unset] [(.int p0)])) _
    refine XS.ifNo X0.here hx rfl (hb hby d22_3) rfl ((if0 _ _).trans (flt (own_nl hp0)).1) ?_
    refine XS.iconst X0.here hx rfl (hb hby d22_6) ?_
    refine XS.istoreN X0.here hx rfl (hb hby d22_7) rfl (l' := #[.val (.int p0), .val (.int (0 : Int32)), .unset, .unset]) rfl ?_
    refine XS.iloadN X0.here hx rfl (hb hby d22_8) rfl  ?_
    refine XS.ineg X0.here hx rfl (hb hby d22_9) rfl ?_
    refine XS.istoreN X0.here hx rfl (hb hby d22_10) rfl (l' := #[.val (.int (-p0)), .val (.int (0 : Int32)), .unset, .unset]) rfl ?_
    refine XS.bipush X0.here hx rfl (hb hby d22_11) ?_
    refine XS.istoreN X0.here hx rfl (hb hby d22_13) rfl (l' := #[.val (.int (-p0)), .val (.int (0 : Int32)), .val (.int (-10 : Int32)), .unset]) rfl ?_
    refine XS.iconst X0.here hx rfl (hb hby d22_14) ?_
    refine XS.istoreN X0.here hx rfl (hb hby d22_15) rfl (l' := #[.val (.int (-p0)), .val (.int (0 : Int32)), .val (.int (-10 : Int32)), .val (.int (1 : Int32))]) rfl ?_
    refine XS.iloadN X0.here hx rfl (hb hby d22_16) rfl  ?_
    refine XS.bipush X0.here hx rfl (hb hby d22_17) ?_
    show Steps p.tables e below (s₁.setTop (mkF m 19 #[.val (.int (-p0)), .val (.int (0 : Int32)), .val (.int (-10 : Int32)), .val (.int (1 : Int32))] [(.int (10 : Int32)), (.int (1 : Int32))])) _
    refine XS.icmpNo X0.here hx rfl (hb hby d22_19) rfl (tlt (by decide : (1 : Int32) < (10 : Int32))).2.1 ?_
    refine XS.iloadN X0.here hx rfl (hb hby d22_22) rfl  ?_
    refine XS.iloadN X0.here hx rfl (hb hby d22_23) rfl  ?_
    show Steps p.tables e below (s₁.setTop (mkF m 24 #[.val (.int (-p0)), .val (.int (0 : Int32)), .val (.int (-10 : Int32)), .val (.int (1 : Int32))] [(.int (-10 : Int32)), (.int (-p0))])) _
    refine XS.icmpYes X0.here hx rfl (pc0 := 24) (pc' := 31) rfl (hb hby d22_24) rfl (flt (fun q => absurd ((own_ng (b := 10) (by decide) hp0).mp q) (by omega))).2.2.2 (by decide) (by decide) ?_
    refine XS.bipush X0.here hx rfl (hb hby d22_31) ?_
    refine XS.iloadN X0.here hx rfl (hb hby d22_33) rfl  ?_
    refine XS.imul X0.here hx rfl (hb hby d22_34) rfl ?_
    refine XS.istoreN X0.here hx rfl (hb hby d22_35) rfl (l' := #[.val (.int (-p0)), .val (.int (0 : Int32)), .val (.int (-100 : Int32)), .val (.int (1 : Int32))]) rfl ?_
    refine XS.iinc X0.here hx rfl (hb hby d22_36) rfl (l' := #[.val (.int (-p0)), .val (.int (0 : Int32)), .val (.int (-100 : Int32)), .val (.int (2 : Int32))]) rfl ?_
    refine XS.goto X0.here hx rfl (pc0 := 39) (pc' := 16) rfl (hb hby d22_39) (by decide) (by decide) ?_
    refine XS.iloadN X0.here hx rfl (hb hby d22_16) rfl  ?_
    refine XS.bipush X0.here hx rfl (hb hby d22_17) ?_
    show Steps p.tables e below (s₁.setTop (mkF m 19 #[.val (.int (-p0)), .val (.int (0 : Int32)), .val (.int (-100 : Int32)), .val (.int (2 : Int32))] [(.int (10 : Int32)), (.int (2 : Int32))])) _
    refine XS.icmpNo X0.here hx rfl (hb hby d22_19) rfl (tlt (by decide : (2 : Int32) < (10 : Int32))).2.1 ?_
    refine XS.iloadN X0.here hx rfl (hb hby d22_22) rfl  ?_
    refine XS.iloadN X0.here hx rfl (hb hby d22_23) rfl  ?_
    show Steps p.tables e below (s₁.setTop (mkF m 24 #[.val (.int (-p0)), .val (.int (0 : Int32)), .val (.int (-100 : Int32)), .val (.int (2 : Int32))] [(.int (-100 : Int32)), (.int (-p0))])) _
    refine XS.icmpYes X0.here hx rfl (pc0 := 24) (pc' := 31) rfl (hb hby d22_24) rfl (flt (fun q => absurd ((own_ng (b := 100) (by decide) hp0).mp q) (by omega))).2.2.2 (by decide) (by decide) ?_
    refine XS.bipush X0.here hx rfl (hb hby d22_31) ?_
    refine XS.iloadN X0.here hx rfl (hb hby d22_33) rfl  ?_
    refine XS.imul X0.here hx rfl (hb hby d22_34) rfl ?_
    refine XS.istoreN X0.here hx rfl (hb hby d22_35) rfl (l' := #[.val (.int (-p0)), .val (.int (0 : Int32)), .val (.int (-1000 : Int32)), .val (.int (2 : Int32))]) rfl ?_
    refine XS.iinc X0.here hx rfl (hb hby d22_36) rfl (l' := #[.val (.int (-p0)), .val (.int (0 : Int32)), .val (.int (-1000 : Int32)), .val (.int (3 : Int32))]) rfl ?_
    refine XS.goto X0.here hx rfl (pc0 := 39) (pc' := 16) rfl (hb hby d22_39) (by decide) (by decide) ?_
    refine XS.iloadN X0.here hx rfl (hb hby d22_16) rfl  ?_
    refine XS.bipush X0.here hx rfl (hb hby d22_17) ?_
    show Steps p.tables e below (s₁.setTop (mkF m 19 #[.val (.int (-p0)), .val (.int (0 : Int32)), .val (.int (-1000 : Int32)), .val (.int (3 : Int32))] [(.int (10 : Int32)), (.int (3 : Int32))])) _
    refine XS.icmpNo X0.here hx rfl (hb hby d22_19) rfl (tlt (by decide : (3 : Int32) < (10 : Int32))).2.1 ?_
    refine XS.iloadN X0.here hx rfl (hb hby d22_22) rfl  ?_
    refine XS.iloadN X0.here hx rfl (hb hby d22_23) rfl  ?_
    show Steps p.tables e below (s₁.setTop (mkF m 24 #[.val (.int (-p0)), .val (.int (0 : Int32)), .val (.int (-1000 : Int32)), .val (.int (3 : Int32))] [(.int (-1000 : Int32)), (.int (-p0))])) _
    refine XS.icmpYes X0.here hx rfl (pc0 := 24) (pc' := 31) rfl (hb hby d22_24) rfl (flt (fun q => absurd ((own_ng (b := 1000) (by decide) hp0).mp q) (by omega))).2.2.2 (by decide) (by decide) ?_
    refine XS.bipush X0.here hx rfl (hb hby d22_31) ?_
    refine XS.iloadN X0.here hx rfl (hb hby d22_33) rfl  ?_
    refine XS.imul X0.here hx rfl (hb hby d22_34) rfl ?_
    refine XS.istoreN X0.here hx rfl (hb hby d22_35) rfl (l' := #[.val (.int (-p0)), .val (.int (0 : Int32)), .val (.int (-10000 : Int32)), .val (.int (3 : Int32))]) rfl ?_
    refine XS.iinc X0.here hx rfl (hb hby d22_36) rfl (l' := #[.val (.int (-p0)), .val (.int (0 : Int32)), .val (.int (-10000 : Int32)), .val (.int (4 : Int32))]) rfl ?_
    refine XS.goto X0.here hx rfl (pc0 := 39) (pc' := 16) rfl (hb hby d22_39) (by decide) (by decide) ?_
    refine XS.iloadN X0.here hx rfl (hb hby d22_16) rfl  ?_
    refine XS.bipush X0.here hx rfl (hb hby d22_17) ?_
    show Steps p.tables e below (s₁.setTop (mkF m 19 #[.val (.int (-p0)), .val (.int (0 : Int32)), .val (.int (-10000 : Int32)), .val (.int (4 : Int32))] [(.int (10 : Int32)), (.int (4 : Int32))])) _
    refine XS.icmpNo X0.here hx rfl (hb hby d22_19) rfl (tlt (by decide : (4 : Int32) < (10 : Int32))).2.1 ?_
    refine XS.iloadN X0.here hx rfl (hb hby d22_22) rfl  ?_
    refine XS.iloadN X0.here hx rfl (hb hby d22_23) rfl  ?_
    show Steps p.tables e below (s₁.setTop (mkF m 24 #[.val (.int (-p0)), .val (.int (0 : Int32)), .val (.int (-10000 : Int32)), .val (.int (4 : Int32))] [(.int (-10000 : Int32)), (.int (-p0))])) _
    refine XS.icmpYes X0.here hx rfl (pc0 := 24) (pc' := 31) rfl (hb hby d22_24) rfl (flt (fun q => absurd ((own_ng (b := 10000) (by decide) hp0).mp q) (by omega))).2.2.2 (by decide) (by decide) ?_
    refine XS.bipush X0.here hx rfl (hb hby d22_31) ?_
    refine XS.iloadN X0.here hx rfl (hb hby d22_33) rfl  ?_
    refine XS.imul X0.here hx rfl (hb hby d22_34) rfl ?_
    refine XS.istoreN X0.here hx rfl (hb hby d22_35) rfl (l' := #[.val (.int (-p0)), .val (.int (0 : Int32)), .val (.int (-100000 : Int32)), .val (.int (4 : Int32))]) rfl ?_
    refine XS.iinc X0.here hx rfl (hb hby d22_36) rfl (l' := #[.val (.int (-p0)), .val (.int (0 : Int32)), .val (.int (-100000 : Int32)), .val (.int (5 : Int32))]) rfl ?_
    refine XS.goto X0.here hx rfl (pc0 := 39) (pc' := 16) rfl (hb hby d22_39) (by decide) (by decide) ?_
    refine XS.iloadN X0.here hx rfl (hb hby d22_16) rfl  ?_
    refine XS.bipush X0.here hx rfl (hb hby d22_17) ?_
    show Steps p.tables e below (s₁.setTop (mkF m 19 #[.val (.int (-p0)), .val (.int (0 : Int32)), .val (.int (-100000 : Int32)), .val (.int (5 : Int32))] [(.int (10 : Int32)), (.int (5 : Int32))])) _
    refine XS.icmpNo X0.here hx rfl (hb hby d22_19) rfl (tlt (by decide : (5 : Int32) < (10 : Int32))).2.1 ?_
    refine XS.iloadN X0.here hx rfl (hb hby d22_22) rfl  ?_
    refine XS.iloadN X0.here hx rfl (hb hby d22_23) rfl  ?_
    show Steps p.tables e below (s₁.setTop (mkF m 24 #[.val (.int (-p0)), .val (.int (0 : Int32)), .val (.int (-100000 : Int32)), .val (.int (5 : Int32))] [(.int (-100000 : Int32)), (.int (-p0))])) _
    refine XS.icmpNo X0.here hx rfl (hb hby d22_24) rfl (tlt ((own_ng (b := 100000) (by decide) hp0).mpr (by omega))).2.2.2 ?_
    refine XS.iloadN X0.here hx rfl (hb hby d22_27) rfl  ?_
    refine XS.iloadN X0.here hx rfl (hb hby d22_28) rfl  ?_
    refine XS.iadd X0.here hx rfl (hb hby d22_29) rfl ?_
    show Steps p.tables e below (s₁.setTop (mkF m 30 #[.val (.int (-p0)), .val (.int (0 : Int32)), .val (.int (-100000 : Int32)), .val (.int (5 : Int32))] [(.int (5 : Int32))])) _
    exact retI X0 hx Bd.returns (hb hby d22_30) hr
  · show Q_rmSS5 Z p0 zc fm h0 n0 _ s₁.heap _
    rw [e0]
    exact ⟨rfl, N0, rfl⟩
theorem ef_rmGC5 (m : MethodId) (p0 : Int32) (p2 : Addr) : entryFrame m #[(.int p0), (.int (8 : Int32)), (.ref p2)] 7 = mkF m 0 #[.val (.int p0), .val (.int (8 : Int32)), .val (.ref p2), .unset, .unset, .unset, .unset] [] := by first | (simp [entryFrame, mkF, argsToLocals, Value.category]; done) | rfl
def Q_rmGC5 (Z : State) (p0 : Int32) (p2 : Addr) (zc : Int32) (fm : Value) (wO : Addr) (cO : Cell) (wT : Addr) (cT : Cell) (kb : ClassId) (v0 : Value) (v1 : Value) (v2 : Value) (d1 : Int32) (d2 : Int32) (d3 : Int32) (d4 : Int32) (d5 : Int32) (h0 : Heap) (n0 : Nat) (v : Option Value) (h : Heap) (L : List Loc) : Prop := v = some (.int (3 : Int32)) ∧ Fr n0 L ∧ Keep h0 h [p2] ∧ Arv Z h p2 kb .byte (16 : Int32) [v0, v1, v2, (.int d1.toInt8.toInt32), (.int d2.toInt8.toInt32), (.int d3.toInt8.toInt32), (.int d4.toInt8.toInt32), (.int d5.toInt8.toInt32), (.int (0 : Int32)), (.int (0 : Int32)), (.int (0 : Int32)), (.int (0 : Int32)), (.int (0 : Int32)), (.int (0 : Int32)), (.int (0 : Int32)), (.int (0 : Int32))] (.int (0 : Int32))
set_option maxRecDepth 65536 in
set_option maxHeartbeats 40000000 in
theorem rmGC5 (l : Launch) (Z : State) (a0 : Array Value) (hw : ∀ d ∈ tables_1, d.before a0 Z = true) (ws : List Jvm.Cond) (p0 : Int32) (p2 : Addr) (zc : Int32) (fm : Value) (wO : Addr) (cO : Cell) (wT : Addr) (cT : Cell) (kb : ClassId) (v0 : Value) (v1 : Value) (v2 : Value) (d1 : Int32) (d2 : Int32) (d3 : Int32) (d4 : Int32) (d5 : Int32) (h0 : Heap) (n0 : Nat) (Z0 : n0 ≤ h0.size) (hSt : own_St Z zc fm) (Ol : own_Old Z n0 h0) (hDT : own_DT Z wO cO wT cT) (Ab : Arv Z h0 p2 kb .byte (16 : Int32) [v0, v1, v2, (.int (0 : Int32)), (.int (0 : Int32)), (.int (0 : Int32)), (.int (0 : Int32)), (.int (0 : Int32)), (.int (0 : Int32)), (.int (0 : Int32)), (.int (0 : Int32)), (.int (0 : Int32)), (.int (0 : Int32)), (.int (0 : Int32)), (.int (0 : Int32)), (.int (0 : Int32))] (.int (0 : Int32))) (gt_ : n0 ≤ p2) (hp0 : 0 ≤ p0.toInt) (hlo : 10000 ≤ p0.toInt) (hhi : p0.toInt < 100000) (hd1 : d1.toInt = 48 + p0.toInt / 10000 % 10) (hd2 : d2.toInt = 48 + p0.toInt / 1000 % 10) (hd3 : d3.toInt = 48 + p0.toInt / 100 % 10) (hd4 : d4.toInt = 48 + p0.toInt / 10 % 10) (hd5 : d5.toInt = 48 + p0.toInt % 10) :
    MetFree l (⟨"java/lang/Integer", "getChars", "(II[B)I"⟩ : MethodName) (head1 (Jvm.Cond.code (⟨"java/lang/Integer", "getChars", "(II[B)I"⟩ : MethodName) jdk_33_method_12_code 7 (some .int) :: ws) ({ frames := 0, cells := 0, slots := 0, locals := 0 } : Room)) (fun a U => a = #[(.int p0), (.int (8 : Int32)), (.ref p2)] ∧ Z.Warmed39 U.vm ∧ U.heap = h0) (fun _ _ _ _ _ => True) (fun _ U o U' => ∃ v L, o = .returned v ∧ Q_rmGC5 Z p0 p2 zc fm wO cO wT cT kb v0 v1 v2 d1 d2 d3 d4 d5 h0 n0 v U'.heap L ∧ FrameEnd U o U' L ({ frames := 0, cells := 0, slots := 0, locals := 0 } : Room).cells ({ frames := 0, cells := 0, slots := 0, locals := 0 } : Room).slots) := by
  refine MetFree.of_bodySF (plainFor_of_name pn_java_lang_Integer) hisR ?_
  intro p e s m args below meth c s₁ Bd hml0 hP hK
  obtain ⟨rfl, hZ, hh⟩ := hP
  have hx := Bd.exec
  have hby := Bd.bytes
  have hml : c.maxLocals = 7 := hml0
  have hown : s.vm.findClass "java/lang/Integer" = some m.cls := findClass_of_methodNamed Bd.named
  have hnm := (name_of_methodNamed Bd.named Bd.method).1
  have hZo := hZ
  have howno := hown
  have X0 : Stand p l e ({ frames := 0, cells := 0, slots := 0, locals := 0 } : Room) s m #[(.int p0), (.int (8 : Int32)), (.ref p2)] below meth c s₁ [] 0 0 := Stand.of_body Bd
  have e0 : s₁.heap = h0 := by rw [← hh, Bd.state]; rfl
  have N0 := Fr.nil n0
  have pre0 : ∀ t, Steps p.tables e below (s₁.setTop (mkF m 0 #[.val (.int p0), .val (.int (8 : Int32)), .val (.ref p2), .unset, .unset, .unset, .unset] [])) t → Steps p.tables e below (s₁.setTop (entryFrame m #[(.int p0), (.int (8 : Int32)), (.ref p2)] 7)) t := fun t k => castTop (ef_rmGC5 m p0 p2 ) k
  have pre1 : ∀ t, Steps p.tables e below (s₁.setTop (mkF m 22 #[.val (.int (-p0)), .val (.int (8 : Int32)), .val (.ref p2), .unset, .unset, .val (.int (8 : Int32)), .val (.int (0 : Int32))] [])) t → Steps p.tables e below (s₁.setTop (entryFrame m #[(.int p0), (.int (8 : Int32)), (.ref p2)] 7)) t := fun t kt => pre0 t (by
    show Steps p.tables e below (s₁.setTop (mkF m 0 #[.val (.int p0), .val (.int (8 : Int32)), .val (.ref p2), .unset, .unset, .unset, .unset] [])) _
    refine XS.iloadN X0.here hx rfl (hb hby d24_0) rfl  ?_
    refine XS.istore X0.here hx rfl (hb hby d24_1) rfl (l' := #[.val (.int p0), .val (.int (8 : Int32)), .val (.ref p2), .unset, .unset, .val (.int (8 : Int32)), .unset]) rfl ?_
    refine XS.iloadN X0.here hx rfl (hb hby d24_3) rfl  ?_
    show Steps p.tables e below (s₁.setTop (mkF m 4 #[.val (.int p0), .val (.int (8 : Int32)), .val (.ref p2), .unset, .unset, .val (.int (8 : Int32)), .unset] [(.int p0)])) _
    refine XS.ifYes X0.here hx rfl (pc0 := 4) (pc' := 11) rfl (hb hby d24_4) rfl ((if0 _ _).trans (flt (own_nl hp0)).2.1) (by decide) (by decide) ?_
    refine XS.iconst X0.here hx rfl (hb hby d24_11) ?_
    refine XS.istore X0.here hx rfl (hb hby d24_12) rfl (l' := #[.val (.int p0), .val (.int (8 : Int32)), .val (.ref p2), .unset, .unset, .val (.int (8 : Int32)), .val (.int (0 : Int32))]) rfl ?_
    refine XS.iload X0.here hx rfl (hb hby d24_14) rfl  ?_
    show Steps p.tables e below (s₁.setTop (mkF m 16 #[.val (.int p0), .val (.int (8 : Int32)), .val (.ref p2), .unset, .unset, .val (.int (8 : Int32)), .val (.int (0 : Int32))] [(.int (0 : Int32))])) _
    refine XS.ifNo X0.here hx rfl (hb hby d24_16) rfl ((if0 _ _).trans (teq (by decide : (0 : Int32) = (0 : Int32))).2) ?_
    refine XS.iloadN X0.here hx rfl (hb hby d24_19) rfl  ?_
    refine XS.ineg X0.here hx rfl (hb hby d24_20) rfl ?_
    refine XS.istoreN X0.here hx rfl (hb hby d24_21) rfl (l' := #[.val (.int (-p0)), .val (.int (8 : Int32)), .val (.ref p2), .unset, .unset, .val (.int (8 : Int32)), .val (.int (0 : Int32))]) rfl ?_
    exact kt)
  obtain ⟨i0, hi0⟩ : ∃ z, z = (-p0) := ⟨_, rfl⟩
  rw [← hi0] at pre1
  have ei0 : i0.toInt = -p0.toInt := by rw [hi0]; exact own_neg (Int.lt_of_lt_of_le (by decide) hp0)
  obtain ⟨xa0, xb0, xa1, xb1, xa2, xb2, xc⟩ := own_r5 hlo hhi
  have pre2 : ∀ t, Steps p.tables e below (s₁.setTop (mkF m 41 #[.val (.int i0), .val (.int (8 : Int32)), .val (.ref p2), .val (.int (i0 / (100 : Int32))), .val (.int (((i0 / (100 : Int32)) * (100 : Int32)) - i0)), .val (.int (8 : Int32)), .val (.int (0 : Int32))] [])) t → Steps p.tables e below (s₁.setTop (entryFrame m #[(.int p0), (.int (8 : Int32)), (.ref p2)] 7)) t := fun t kt => pre1 t (by
    show Steps p.tables e below (s₁.setTop (mkF m 22 #[.val (.int i0), .val (.int (8 : Int32)), .val (.ref p2), .unset, .unset, .val (.int (8 : Int32)), .val (.int (0 : Int32))] [])) _
    refine XS.iloadN X0.here hx rfl (hb hby d24_22) rfl  ?_
    refine XS.bipush X0.here hx rfl (hb hby d24_23) ?_
    show Steps p.tables e below (s₁.setTop (mkF m 25 #[.val (.int i0), .val (.int (8 : Int32)), .val (.ref p2), .unset, .unset, .val (.int (8 : Int32)), .val (.int (0 : Int32))] [(.int (-100 : Int32)), (.int i0)])) _
    refine XS.icmpNo X0.here hx rfl (hb hby d24_25) rfl (flt ((own_b100 ei0).1 xa0)).2.2.1 ?_
    refine XS.iloadN X0.here hx rfl (hb hby d24_28) rfl  ?_
    refine XS.bipush X0.here hx rfl (hb hby d24_29) ?_
    show Steps p.tables e below (s₁.setTop (mkF m 31 #[.val (.int i0), .val (.int (8 : Int32)), .val (.ref p2), .unset, .unset, .val (.int (8 : Int32)), .val (.int (0 : Int32))] [(.int (100 : Int32)), (.int i0)])) _
    refine XS.idiv X0.here hx rfl (hb hby d24_31) rfl (by decide) ?_
    refine XS.istoreN X0.here hx rfl (hb hby d24_32) rfl (l' := #[.val (.int i0), .val (.int (8 : Int32)), .val (.ref p2), .val (.int (i0 / (100 : Int32))), .unset, .val (.int (8 : Int32)), .val (.int (0 : Int32))]) rfl ?_
    refine XS.iloadN X0.here hx rfl (hb hby d24_33) rfl  ?_
    refine XS.bipush X0.here hx rfl (hb hby d24_34) ?_
    refine XS.imul X0.here hx rfl (hb hby d24_36) rfl ?_
    refine XS.iloadN X0.here hx rfl (hb hby d24_37) rfl  ?_
    refine XS.isub X0.here hx rfl (hb hby d24_38) rfl ?_
    refine XS.istore X0.here hx rfl (hb hby d24_39) rfl (l' := #[.val (.int i0), .val (.int (8 : Int32)), .val (.ref p2), .val (.int (i0 / (100 : Int32))), .val (.int (((i0 / (100 : Int32)) * (100 : Int32)) - i0)), .val (.int (8 : Int32)), .val (.int (0 : Int32))]) rfl ?_
    exact kt)
  obtain ⟨r0, hr0⟩ : ∃ z, z = (((i0 / (100 : Int32)) * (100 : Int32)) - i0) := ⟨_, rfl⟩
  rw [← hr0] at pre2
  have er0 : r0.toInt = p0.toInt % 100 := by rw [hr0]; exact own_rr ei0 (Int.lt_of_lt_of_le (by decide) xa0) xb0
  obtain ⟨T3, X3, e3, st3⟩ := getS2 X0 hx hZ hown (host := "") (Or.inl (hw _ (own_m 142 rfl))) Via.refl e0 (hDT.1.ext Ol.2) (g := (mkF m 49 #[.val (.int (i0 / (100 : Int32))), .val (.int (8 : Int32)), .val (.ref p2), .val (.int (i0 / (100 : Int32))), .val (.int r0), .val (.int (7 : Int32)), .val (.int (0 : Int32))] [(.int (7 : Int32)), (.ref p2)])) rfl (hb hby d24_49)
  have ti4 := own_tin (r := r0) (own_e100 er0).1 (own_e100 er0).2 hDT.2.2.2.2.1.1
  have hat4 : cO.slots[(r0).toNatClampNeg]? = some (.int d5) := (hDT.2.2.2.2.1.2 _ ti4.1 ti4.2.1).trans (by rw [own_ones (r := r0) (d := d5) (own_e100 er0).1 (own_e100 er0).2 (own_o1 er0 hd5)])
  have Aq4 := hDT.2.2.1.ext Ol.2
  obtain ⟨cl5, Ar5, q5, S5, N5, H5, G5⟩ := id Ab
  have hin5 : ¬ ((7 : Int32) < 0 ∨ cl5.slots.size ≤ ((7 : Int32)).toNatClampNeg) := inb_of S5 ⟨by decide, by decide⟩
  obtain ⟨T6, h6, X6, e6, W6, st6⟩ := stB X3 hx hZ e3 Ar5 (j := (7 : Int32)) hin5 (g := (mkF m 55 #[.val (.int (i0 / (100 : Int32))), .val (.int (8 : Int32)), .val (.ref p2), .val (.int (i0 / (100 : Int32))), .val (.int r0), .val (.int (7 : Int32)), .val (.int (0 : Int32))] [(.int d5), (.int (7 : Int32)), (.ref p2)])) rfl rfl (hb hby d24_55)
  have N6 := Fr.snoc X6 N0 gt_
  have K6 := (Keep.refl h0 [p2]).wr W6 (Or.inl (own_m 0 rfl))
  have V6 : Arv Z h6 p2 kb .byte (16 : Int32) [v0, v1, v2, (.int (0 : Int32)), (.int (0 : Int32)), (.int (0 : Int32)), (.int (0 : Int32)), (.int d5.toInt8.toInt32), (.int (0 : Int32)), (.int (0 : Int32)), (.int (0 : Int32)), (.int (0 : Int32)), (.int (0 : Int32)), (.int (0 : Int32)), (.int (0 : Int32)), (.int (0 : Int32))] (.int (0 : Int32)) := Arv.set Ar5 q5 S5 N5 H5 G5 (fits_nar_byte _) W6 7 rfl (Nat.le_of_ble_eq_true rfl)
  have f7 := (Ol.wr W6 gt_)
  obtain ⟨T8, X8, e8, st8⟩ := getS2 X6 hx hZ hown (host := "") (Or.inl (hw _ (own_m 214 rfl))) Via.refl e6 (hDT.2.1.ext f7.2) (g := (mkF m 62 #[.val (.int (i0 / (100 : Int32))), .val (.int (8 : Int32)), .val (.ref p2), .val (.int (i0 / (100 : Int32))), .val (.int r0), .val (.int (6 : Int32)), .val (.int (0 : Int32))] [(.int (6 : Int32)), (.ref p2)])) rfl (hb hby d24_62)
  have ti9 := own_tin (r := r0) (own_e100 er0).1 (own_e100 er0).2 hDT.2.2.2.2.2.1
  have hat9 : cT.slots[(r0).toNatClampNeg]? = some (.int d4) := (hDT.2.2.2.2.2.2 _ ti9.1 ti9.2.1).trans (by rw [own_tens (r := r0) (d := d4) (own_e100 er0).1 (own_e100 er0).2 (own_t0 er0 hd4)])
  have Aq9 := hDT.2.2.2.1.ext f7.2
  obtain ⟨cl10, Ar10, q10, S10, N10, H10, G10⟩ := id V6
  have hin10 : ¬ ((6 : Int32) < 0 ∨ cl10.slots.size ≤ ((6 : Int32)).toNatClampNeg) := inb_of S10 ⟨by decide, by decide⟩
  obtain ⟨T11, h11, X11, e11, W11, st11⟩ := stB X8 hx hZ e8 Ar10 (j := (6 : Int32)) hin10 (g := (mkF m 68 #[.val (.int (i0 / (100 : Int32))), .val (.int (8 : Int32)), .val (.ref p2), .val (.int (i0 / (100 : Int32))), .val (.int r0), .val (.int (6 : Int32)), .val (.int (0 : Int32))] [(.int d4), (.int (6 : Int32)), (.ref p2)])) rfl rfl (hb hby d24_68)
  have N11 := Fr.snoc X11 N6 gt_
  have K11 := K6.wr W11 (Or.inl (own_m 0 rfl))
  have V11 : Arv Z h11 p2 kb .byte (16 : Int32) [v0, v1, v2, (.int (0 : Int32)), (.int (0 : Int32)), (.int (0 : Int32)), (.int d4.toInt8.toInt32), (.int d5.toInt8.toInt32), (.int (0 : Int32)), (.int (0 : Int32)), (.int (0 : Int32)), (.int (0 : Int32)), (.int (0 : Int32)), (.int (0 : Int32)), (.int (0 : Int32)), (.int (0 : Int32))] (.int (0 : Int32)) := Arv.set Ar10 q10 S10 N10 H10 G10 (fits_nar_byte _) W11 6 rfl (Nat.le_of_ble_eq_true rfl)
  have pre12 : ∀ t, Steps p.tables e below (T11.setTop (mkF m 22 #[.val (.int (i0 / (100 : Int32))), .val (.int (8 : Int32)), .val (.ref p2), .val (.int (i0 / (100 : Int32))), .val (.int r0), .val (.int (6 : Int32)), .val (.int (0 : Int32))] [])) t → Steps p.tables e below (s₁.setTop (entryFrame m #[(.int p0), (.int (8 : Int32)), (.ref p2)] 7)) t := fun t kt => pre2 t (by
    show Steps p.tables e below (s₁.setTop (mkF m 41 #[.val (.int i0), .val (.int (8 : Int32)), .val (.ref p2), .val (.int (i0 / (100 : Int32))), .val (.int r0), .val (.int (8 : Int32)), .val (.int (0 : Int32))] [])) _
    refine XS.iloadN X0.here hx rfl (hb hby d24_41) rfl  ?_
    refine XS.istoreN X0.here hx rfl (hb hby d24_42) rfl (l' := #[.val (.int (i0 / (100 : Int32))), .val (.int (8 : Int32)), .val (.ref p2), .val (.int (i0 / (100 : Int32))), .val (.int r0), .val (.int (8 : Int32)), .val (.int (0 : Int32))]) rfl ?_
    refine XS.aloadN X0.here hx rfl (hb hby d24_43) rfl rfl ?_
    refine XS.iinc X0.here hx rfl (hb hby d24_44) rfl (l' := #[.val (.int (i0 / (100 : Int32))), .val (.int (8 : Int32)), .val (.ref p2), .val (.int (i0 / (100 : Int32))), .val (.int r0), .val (.int (7 : Int32)), .val (.int (0 : Int32))]) rfl ?_
    refine XS.iload X0.here hx rfl (hb hby d24_47) rfl  ?_
    show Steps p.tables e below (s₁.setTop (mkF m 49 #[.val (.int (i0 / (100 : Int32))), .val (.int (8 : Int32)), .val (.ref p2), .val (.int (i0 / (100 : Int32))), .val (.int r0), .val (.int (7 : Int32)), .val (.int (0 : Int32))] [(.int (7 : Int32)), (.ref p2)])) _
    refine st3 _ ?_
    show Steps p.tables e below (T3.setTop (mkF m 52 #[.val (.int (i0 / (100 : Int32))), .val (.int (8 : Int32)), .val (.ref p2), .val (.int (i0 / (100 : Int32))), .val (.int r0), .val (.int (7 : Int32)), .val (.int (0 : Int32))] [(.ref wO), (.int (7 : Int32)), (.ref p2)])) _
    refine XS.iload X3.here hx rfl (hb hby d24_52) rfl  ?_
    show Steps p.tables e below (T3.setTop (mkF m 54 #[.val (.int (i0 / (100 : Int32))), .val (.int (8 : Int32)), .val (.ref p2), .val (.int (i0 / (100 : Int32))), .val (.int r0), .val (.int (7 : Int32)), .val (.int (0 : Int32))] [(.int r0), (.ref wO), (.int (7 : Int32)), (.ref p2)])) _
    refine X3.baloadBytes hx (j := r0) (v := .int d5) (by rw [e3]; exact Aq4.1) (State.isArrayOf_alike hZ.alike Aq4.2.1) Aq4.2.2 ti4.2.2 hat4 (g := (mkF m 54 #[.val (.int (i0 / (100 : Int32))), .val (.int (8 : Int32)), .val (.ref p2), .val (.int (i0 / (100 : Int32))), .val (.int r0), .val (.int (7 : Int32)), .val (.int (0 : Int32))] [(.int r0), (.ref wO), (.int (7 : Int32)), (.ref p2)])) rfl rfl (hb hby d24_54) _ ?_
    show Steps p.tables e below (T3.setTop (mkF m 55 #[.val (.int (i0 / (100 : Int32))), .val (.int (8 : Int32)), .val (.ref p2), .val (.int (i0 / (100 : Int32))), .val (.int r0), .val (.int (7 : Int32)), .val (.int (0 : Int32))] [(.int d5), (.int (7 : Int32)), (.ref p2)])) _
    refine st6 _ ?_
    show Steps p.tables e below (T6.setTop (mkF m 56 #[.val (.int (i0 / (100 : Int32))), .val (.int (8 : Int32)), .val (.ref p2), .val (.int (i0 / (100 : Int32))), .val (.int r0), .val (.int (7 : Int32)), .val (.int (0 : Int32))] [])) _
    refine XS.aloadN X6.here hx rfl (hb hby d24_56) rfl rfl ?_
    refine XS.iinc X6.here hx rfl (hb hby d24_57) rfl (l' := #[.val (.int (i0 / (100 : Int32))), .val (.int (8 : Int32)), .val (.ref p2), .val (.int (i0 / (100 : Int32))), .val (.int r0), .val (.int (6 : Int32)), .val (.int (0 : Int32))]) rfl ?_
    refine XS.iload X6.here hx rfl (hb hby d24_60) rfl  ?_
    show Steps p.tables e below (T6.setTop (mkF m 62 #[.val (.int (i0 / (100 : Int32))), .val (.int (8 : Int32)), .val (.ref p2), .val (.int (i0 / (100 : Int32))), .val (.int r0), .val (.int (6 : Int32)), .val (.int (0 : Int32))] [(.int (6 : Int32)), (.ref p2)])) _
    refine st8 _ ?_
    show Steps p.tables e below (T8.setTop (mkF m 65 #[.val (.int (i0 / (100 : Int32))), .val (.int (8 : Int32)), .val (.ref p2), .val (.int (i0 / (100 : Int32))), .val (.int r0), .val (.int (6 : Int32)), .val (.int (0 : Int32))] [(.ref wT), (.int (6 : Int32)), (.ref p2)])) _
    refine XS.iload X8.here hx rfl (hb hby d24_65) rfl  ?_
    show Steps p.tables e below (T8.setTop (mkF m 67 #[.val (.int (i0 / (100 : Int32))), .val (.int (8 : Int32)), .val (.ref p2), .val (.int (i0 / (100 : Int32))), .val (.int r0), .val (.int (6 : Int32)), .val (.int (0 : Int32))] [(.int r0), (.ref wT), (.int (6 : Int32)), (.ref p2)])) _
    refine X8.baloadBytes hx (j := r0) (v := .int d4) (by rw [e8]; exact Aq9.1) (State.isArrayOf_alike hZ.alike Aq9.2.1) Aq9.2.2 ti9.2.2 hat9 (g := (mkF m 67 #[.val (.int (i0 / (100 : Int32))), .val (.int (8 : Int32)), .val (.ref p2), .val (.int (i0 / (100 : Int32))), .val (.int r0), .val (.int (6 : Int32)), .val (.int (0 : Int32))] [(.int r0), (.ref wT), (.int (6 : Int32)), (.ref p2)])) rfl rfl (hb hby d24_67) _ ?_
    show Steps p.tables e below (T8.setTop (mkF m 68 #[.val (.int (i0 / (100 : Int32))), .val (.int (8 : Int32)), .val (.ref p2), .val (.int (i0 / (100 : Int32))), .val (.int r0), .val (.int (6 : Int32)), .val (.int (0 : Int32))] [(.int d4), (.int (6 : Int32)), (.ref p2)])) _
    refine st11 _ ?_
    show Steps p.tables e below (T11.setTop (mkF m 69 #[.val (.int (i0 / (100 : Int32))), .val (.int (8 : Int32)), .val (.ref p2), .val (.int (i0 / (100 : Int32))), .val (.int r0), .val (.int (6 : Int32)), .val (.int (0 : Int32))] [])) _
    refine XS.goto X11.here hx rfl (pc0 := 69) (pc' := 22) rfl (hb hby d24_69) (by decide) (by decide) ?_
    exact kt)
  obtain ⟨i1, hi1⟩ : ∃ z, z = (i0 / (100 : Int32)) := ⟨_, rfl⟩
  rw [← hi1] at pre12
  have ei1 : i1.toInt = -(p0.toInt / 100) := by rw [hi1]; exact own_dv1 ei0 (Int.lt_of_lt_of_le (by decide) xa0)
  have pre13 : ∀ t, Steps p.tables e below (T11.setTop (mkF m 41 #[.val (.int i1), .val (.int (8 : Int32)), .val (.ref p2), .val (.int (i1 / (100 : Int32))), .val (.int (((i1 / (100 : Int32)) * (100 : Int32)) - i1)), .val (.int (6 : Int32)), .val (.int (0 : Int32))] [])) t → Steps p.tables e below (s₁.setTop (entryFrame m #[(.int p0), (.int (8 : Int32)), (.ref p2)] 7)) t := fun t kt => pre12 t (by
    show Steps p.tables e below (T11.setTop (mkF m 22 #[.val (.int i1), .val (.int (8 : Int32)), .val (.ref p2), .val (.int i1), .val (.int r0), .val (.int (6 : Int32)), .val (.int (0 : Int32))] [])) _
    refine XS.iloadN X11.here hx rfl (hb hby d24_22) rfl  ?_
    refine XS.bipush X11.here hx rfl (hb hby d24_23) ?_
    show Steps p.tables e below (T11.setTop (mkF m 25 #[.val (.int i1), .val (.int (8 : Int32)), .val (.ref p2), .val (.int i1), .val (.int r0), .val (.int (6 : Int32)), .val (.int (0 : Int32))] [(.int (-100 : Int32)), (.int i1)])) _
    refine XS.icmpNo X11.here hx rfl (hb hby d24_25) rfl (flt ((own_b100 ei1).1 xa1)).2.2.1 ?_
    refine XS.iloadN X11.here hx rfl (hb hby d24_28) rfl  ?_
    refine XS.bipush X11.here hx rfl (hb hby d24_29) ?_
    show Steps p.tables e below (T11.setTop (mkF m 31 #[.val (.int i1), .val (.int (8 : Int32)), .val (.ref p2), .val (.int i1), .val (.int r0), .val (.int (6 : Int32)), .val (.int (0 : Int32))] [(.int (100 : Int32)), (.int i1)])) _
    refine XS.idiv X11.here hx rfl (hb hby d24_31) rfl (by decide) ?_
    refine XS.istoreN X11.here hx rfl (hb hby d24_32) rfl (l' := #[.val (.int i1), .val (.int (8 : Int32)), .val (.ref p2), .val (.int (i1 / (100 : Int32))), .val (.int r0), .val (.int (6 : Int32)), .val (.int (0 : Int32))]) rfl ?_
    refine XS.iloadN X11.here hx rfl (hb hby d24_33) rfl  ?_
    refine XS.bipush X11.here hx rfl (hb hby d24_34) ?_
    refine XS.imul X11.here hx rfl (hb hby d24_36) rfl ?_
    refine XS.iloadN X11.here hx rfl (hb hby d24_37) rfl  ?_
    refine XS.isub X11.here hx rfl (hb hby d24_38) rfl ?_
    refine XS.istore X11.here hx rfl (hb hby d24_39) rfl (l' := #[.val (.int i1), .val (.int (8 : Int32)), .val (.ref p2), .val (.int (i1 / (100 : Int32))), .val (.int (((i1 / (100 : Int32)) * (100 : Int32)) - i1)), .val (.int (6 : Int32)), .val (.int (0 : Int32))]) rfl ?_
    exact kt)
  obtain ⟨r1, hr1⟩ : ∃ z, z = (((i1 / (100 : Int32)) * (100 : Int32)) - i1) := ⟨_, rfl⟩
  rw [← hr1] at pre13
  have er1 : r1.toInt = p0.toInt / 100 % 100 := by rw [hr1]; exact own_rr ei1 (Int.lt_of_lt_of_le (by decide) xa1) xb1
  have f14 := (f7.wr W11 gt_)
  obtain ⟨T15, X15, e15, st15⟩ := getS2 X11 hx hZ hown (host := "") (Or.inl (hw _ (own_m 142 rfl))) Via.refl e11 (hDT.1.ext f14.2) (g := (mkF m 49 #[.val (.int (i1 / (100 : Int32))), .val (.int (8 : Int32)), .val (.ref p2), .val (.int (i1 / (100 : Int32))), .val (.int r1), .val (.int (5 : Int32)), .val (.int (0 : Int32))] [(.int (5 : Int32)), (.ref p2)])) rfl (hb hby d24_49)
  have ti16 := own_tin (r := r1) (own_e100 er1).1 (own_e100 er1).2 hDT.2.2.2.2.1.1
  have hat16 : cO.slots[(r1).toNatClampNeg]? = some (.int d3) := (hDT.2.2.2.2.1.2 _ ti16.1 ti16.2.1).trans (by rw [own_ones (r := r1) (d := d3) (own_e100 er1).1 (own_e100 er1).2 (own_o1 er1 hd3)])
  have Aq16 := hDT.2.2.1.ext f14.2
  obtain ⟨cl17, Ar17, q17, S17, N17, H17, G17⟩ := id V11
  have hin17 : ¬ ((5 : Int32) < 0 ∨ cl17.slots.size ≤ ((5 : Int32)).toNatClampNeg) := inb_of S17 ⟨by decide, by decide⟩
  obtain ⟨T18, h18, X18, e18, W18, st18⟩ := stB X15 hx hZ e15 Ar17 (j := (5 : Int32)) hin17 (g := (mkF m 55 #[.val (.int (i1 / (100 : Int32))), .val (.int (8 : Int32)), .val (.ref p2), .val (.int (i1 / (100 : Int32))), .val (.int r1), .val (.int (5 : Int32)), .val (.int (0 : Int32))] [(.int d3), (.int (5 : Int32)), (.ref p2)])) rfl rfl (hb hby d24_55)
  have N18 := Fr.snoc X18 N11 gt_
  have K18 := K11.wr W18 (Or.inl (own_m 0 rfl))
  have V18 : Arv Z h18 p2 kb .byte (16 : Int32) [v0, v1, v2, (.int (0 : Int32)), (.int (0 : Int32)), (.int d3.toInt8.toInt32), (.int d4.toInt8.toInt32), (.int d5.toInt8.toInt32), (.int (0 : Int32)), (.int (0 : Int32)), (.int (0 : Int32)), (.int (0 : Int32)), (.int (0 : Int32)), (.int (0 : Int32)), (.int (0 : Int32)), (.int (0 : Int32))] (.int (0 : Int32)) := Arv.set Ar17 q17 S17 N17 H17 G17 (fits_nar_byte _) W18 5 rfl (Nat.le_of_ble_eq_true rfl)
  have f19 := (f14.wr W18 gt_)
  obtain ⟨T20, X20, e20, st20⟩ := getS2 X18 hx hZ hown (host := "") (Or.inl (hw _ (own_m 214 rfl))) Via.refl e18 (hDT.2.1.ext f19.2) (g := (mkF m 62 #[.val (.int (i1 / (100 : Int32))), .val (.int (8 : Int32)), .val (.ref p2), .val (.int (i1 / (100 : Int32))), .val (.int r1), .val (.int (4 : Int32)), .val (.int (0 : Int32))] [(.int (4 : Int32)), (.ref p2)])) rfl (hb hby d24_62)
  have ti21 := own_tin (r := r1) (own_e100 er1).1 (own_e100 er1).2 hDT.2.2.2.2.2.1
  have hat21 : cT.slots[(r1).toNatClampNeg]? = some (.int d2) := (hDT.2.2.2.2.2.2 _ ti21.1 ti21.2.1).trans (by rw [own_tens (r := r1) (d := d2) (own_e100 er1).1 (own_e100 er1).2 (own_t1 er1 hd2)])
  have Aq21 := hDT.2.2.2.1.ext f19.2
  obtain ⟨cl22, Ar22, q22, S22, N22, H22, G22⟩ := id V18
  have hin22 : ¬ ((4 : Int32) < 0 ∨ cl22.slots.size ≤ ((4 : Int32)).toNatClampNeg) := inb_of S22 ⟨by decide, by decide⟩
  obtain ⟨T23, h23, X23, e23, W23, st23⟩ := stB X20 hx hZ e20 Ar22 (j := (4 : Int32)) hin22 (g := (mkF m 68 #[.val (.int (i1 / (100 : Int32))), .val (.int (8 : Int32)), .val (.ref p2), .val (.int (i1 / (100 : Int32))), .val (.int r1), .val (.int (4 : Int32)), .val (.int (0 : Int32))] [(.int d2), (.int (4 : Int32)), (.ref p2)])) rfl rfl (hb hby d24_68)
  have N23 := Fr.snoc X23 N18 gt_
  have K23 := K18.wr W23 (Or.inl (own_m 0 rfl))
  have V23 : Arv Z h23 p2 kb .byte (16 : Int32) [v0, v1, v2, (.int (0 : Int32)), (.int d2.toInt8.toInt32), (.int d3.toInt8.toInt32), (.int d4.toInt8.toInt32), (.int d5.toInt8.toInt32), (.int (0 : Int32)), (.int (0 : Int32)), (.int (0 : Int32)), (.int (0 : Int32)), (.int (0 : Int32)), (.int (0 : Int32)), (.int (0 : Int32)), (.int (0 : Int32))] (.int (0 : Int32)) := Arv.set Ar22 q22 S22 N22 H22 G22 (fits_nar_byte _) W23 4 rfl (Nat.le_of_ble_eq_true rfl)
  have pre24 : ∀ t, Steps p.tables e below (T23.setTop (mkF m 22 #[.val (.int (i1 / (100 : Int32))), .val (.int (8 : Int32)), .val (.ref p2), .val (.int (i1 / (100 : Int32))), .val (.int r1), .val (.int (4 : Int32)), .val (.int (0 : Int32))] [])) t → Steps p.tables e below (s₁.setTop (entryFrame m #[(.int p0), (.int (8 : Int32)), (.ref p2)] 7)) t := fun t kt => pre13 t (by
    show Steps p.tables e below (T11.setTop (mkF m 41 #[.val (.int i1), .val (.int (8 : Int32)), .val (.ref p2), .val (.int (i1 / (100 : Int32))), .val (.int r1), .val (.int (6 : Int32)), .val (.int (0 : Int32))] [])) _
    refine XS.iloadN X11.here hx rfl (hb hby d24_41) rfl  ?_
    refine XS.istoreN X11.here hx rfl (hb hby d24_42) rfl (l' := #[.val (.int (i1 / (100 : Int32))), .val (.int (8 : Int32)), .val (.ref p2), .val (.int (i1 / (100 : Int32))), .val (.int r1), .val (.int (6 : Int32)), .val (.int (0 : Int32))]) rfl ?_
    refine XS.aloadN X11.here hx rfl (hb hby d24_43) rfl rfl ?_
    refine XS.iinc X11.here hx rfl (hb hby d24_44) rfl (l' := #[.val (.int (i1 / (100 : Int32))), .val (.int (8 : Int32)), .val (.ref p2), .val (.int (i1 / (100 : Int32))), .val (.int r1), .val (.int (5 : Int32)), .val (.int (0 : Int32))]) rfl ?_
    refine XS.iload X11.here hx rfl (hb hby d24_47) rfl  ?_
    show Steps p.tables e below (T11.setTop (mkF m 49 #[.val (.int (i1 / (100 : Int32))), .val (.int (8 : Int32)), .val (.ref p2), .val (.int (i1 / (100 : Int32))), .val (.int r1), .val (.int (5 : Int32)), .val (.int (0 : Int32))] [(.int (5 : Int32)), (.ref p2)])) _
    refine st15 _ ?_
    show Steps p.tables e below (T15.setTop (mkF m 52 #[.val (.int (i1 / (100 : Int32))), .val (.int (8 : Int32)), .val (.ref p2), .val (.int (i1 / (100 : Int32))), .val (.int r1), .val (.int (5 : Int32)), .val (.int (0 : Int32))] [(.ref wO), (.int (5 : Int32)), (.ref p2)])) _
    refine XS.iload X15.here hx rfl (hb hby d24_52) rfl  ?_
    show Steps p.tables e below (T15.setTop (mkF m 54 #[.val (.int (i1 / (100 : Int32))), .val (.int (8 : Int32)), .val (.ref p2), .val (.int (i1 / (100 : Int32))), .val (.int r1), .val (.int (5 : Int32)), .val (.int (0 : Int32))] [(.int r1), (.ref wO), (.int (5 : Int32)), (.ref p2)])) _
    refine X15.baloadBytes hx (j := r1) (v := .int d3) (by rw [e15]; exact Aq16.1) (State.isArrayOf_alike hZ.alike Aq16.2.1) Aq16.2.2 ti16.2.2 hat16 (g := (mkF m 54 #[.val (.int (i1 / (100 : Int32))), .val (.int (8 : Int32)), .val (.ref p2), .val (.int (i1 / (100 : Int32))), .val (.int r1), .val (.int (5 : Int32)), .val (.int (0 : Int32))] [(.int r1), (.ref wO), (.int (5 : Int32)), (.ref p2)])) rfl rfl (hb hby d24_54) _ ?_
    show Steps p.tables e below (T15.setTop (mkF m 55 #[.val (.int (i1 / (100 : Int32))), .val (.int (8 : Int32)), .val (.ref p2), .val (.int (i1 / (100 : Int32))), .val (.int r1), .val (.int (5 : Int32)), .val (.int (0 : Int32))] [(.int d3), (.int (5 : Int32)), (.ref p2)])) _
    refine st18 _ ?_
    show Steps p.tables e below (T18.setTop (mkF m 56 #[.val (.int (i1 / (100 : Int32))), .val (.int (8 : Int32)), .val (.ref p2), .val (.int (i1 / (100 : Int32))), .val (.int r1), .val (.int (5 : Int32)), .val (.int (0 : Int32))] [])) _
    refine XS.aloadN X18.here hx rfl (hb hby d24_56) rfl rfl ?_
    refine XS.iinc X18.here hx rfl (hb hby d24_57) rfl (l' := #[.val (.int (i1 / (100 : Int32))), .val (.int (8 : Int32)), .val (.ref p2), .val (.int (i1 / (100 : Int32))), .val (.int r1), .val (.int (4 : Int32)), .val (.int (0 : Int32))]) rfl ?_
    refine XS.iload X18.here hx rfl (hb hby d24_60) rfl  ?_
    show Steps p.tables e below (T18.setTop (mkF m 62 #[.val (.int (i1 / (100 : Int32))), .val (.int (8 : Int32)), .val (.ref p2), .val (.int (i1 / (100 : Int32))), .val (.int r1), .val (.int (4 : Int32)), .val (.int (0 : Int32))] [(.int (4 : Int32)), (.ref p2)])) _
    refine st20 _ ?_
    show Steps p.tables e below (T20.setTop (mkF m 65 #[.val (.int (i1 / (100 : Int32))), .val (.int (8 : Int32)), .val (.ref p2), .val (.int (i1 / (100 : Int32))), .val (.int r1), .val (.int (4 : Int32)), .val (.int (0 : Int32))] [(.ref wT), (.int (4 : Int32)), (.ref p2)])) _
    refine XS.iload X20.here hx rfl (hb hby d24_65) rfl  ?_
    show Steps p.tables e below (T20.setTop (mkF m 67 #[.val (.int (i1 / (100 : Int32))), .val (.int (8 : Int32)), .val (.ref p2), .val (.int (i1 / (100 : Int32))), .val (.int r1), .val (.int (4 : Int32)), .val (.int (0 : Int32))] [(.int r1), (.ref wT), (.int (4 : Int32)), (.ref p2)])) _
    refine X20.baloadBytes hx (j := r1) (v := .int d2) (by rw [e20]; exact Aq21.1) (State.isArrayOf_alike hZ.alike Aq21.2.1) Aq21.2.2 ti21.2.2 hat21 (g := (mkF m 67 #[.val (.int (i1 / (100 : Int32))), .val (.int (8 : Int32)), .val (.ref p2), .val (.int (i1 / (100 : Int32))), .val (.int r1), .val (.int (4 : Int32)), .val (.int (0 : Int32))] [(.int r1), (.ref wT), (.int (4 : Int32)), (.ref p2)])) rfl rfl (hb hby d24_67) _ ?_
    show Steps p.tables e below (T20.setTop (mkF m 68 #[.val (.int (i1 / (100 : Int32))), .val (.int (8 : Int32)), .val (.ref p2), .val (.int (i1 / (100 : Int32))), .val (.int r1), .val (.int (4 : Int32)), .val (.int (0 : Int32))] [(.int d2), (.int (4 : Int32)), (.ref p2)])) _
    refine st23 _ ?_
    show Steps p.tables e below (T23.setTop (mkF m 69 #[.val (.int (i1 / (100 : Int32))), .val (.int (8 : Int32)), .val (.ref p2), .val (.int (i1 / (100 : Int32))), .val (.int r1), .val (.int (4 : Int32)), .val (.int (0 : Int32))] [])) _
    refine XS.goto X23.here hx rfl (pc0 := 69) (pc' := 22) rfl (hb hby d24_69) (by decide) (by decide) ?_
    exact kt)
  obtain ⟨i2, hi2⟩ : ∃ z, z = (i1 / (100 : Int32)) := ⟨_, rfl⟩
  rw [← hi2] at pre24
  have ei2 : i2.toInt = -(p0.toInt / 10000) := by rw [hi2]; exact own_dv2 ei1 (Int.lt_of_lt_of_le (by decide) xa1)
  have f25 := (f19.wr W23 gt_)
  obtain ⟨T26, X26, e26, st26⟩ := getS2 X23 hx hZ hown (host := "") (Or.inl (hw _ (own_m 142 rfl))) Via.refl e23 (hDT.1.ext f25.2) (g := (mkF m 78 #[.val (.int i2), .val (.int (8 : Int32)), .val (.ref p2), .val (.int i2), .val (.int r1), .val (.int (3 : Int32)), .val (.int (0 : Int32))] [(.int (3 : Int32)), (.ref p2)])) rfl (hb hby d24_78)
  have en : (-i2).toInt = p0.toInt / 10000 := own_nn ei2 xb2
  have ti27 := own_tin (r := (-i2)) (own_e0 en xa2 xb2).1 (own_e0 en xa2 xb2).2 hDT.2.2.2.2.1.1
  have hat27 : cO.slots[((-i2)).toNatClampNeg]? = some (.int d1) := (hDT.2.2.2.2.1.2 _ ti27.1 ti27.2.1).trans (by rw [own_ones (r := (-i2)) (d := d1) (own_e0 en xa2 xb2).1 (own_e0 en xa2 xb2).2 (own_o2 en hd1)])
  have Aq27 := hDT.2.2.1.ext f25.2
  obtain ⟨cl28, Ar28, q28, S28, N28, H28, G28⟩ := id V23
  have hin28 : ¬ ((3 : Int32) < 0 ∨ cl28.slots.size ≤ ((3 : Int32)).toNatClampNeg) := inb_of S28 ⟨by decide, by decide⟩
  obtain ⟨T29, h29, X29, e29, W29, st29⟩ := stB X26 hx hZ e26 Ar28 (j := (3 : Int32)) hin28 (g := (mkF m 84 #[.val (.int i2), .val (.int (8 : Int32)), .val (.ref p2), .val (.int i2), .val (.int r1), .val (.int (3 : Int32)), .val (.int (0 : Int32))] [(.int d1), (.int (3 : Int32)), (.ref p2)])) rfl rfl (hb hby d24_84)
  have N29 := Fr.snoc X29 N23 gt_
  have K29 := K23.wr W29 (Or.inl (own_m 0 rfl))
  have V29 : Arv Z h29 p2 kb .byte (16 : Int32) [v0, v1, v2, (.int d1.toInt8.toInt32), (.int d2.toInt8.toInt32), (.int d3.toInt8.toInt32), (.int d4.toInt8.toInt32), (.int d5.toInt8.toInt32), (.int (0 : Int32)), (.int (0 : Int32)), (.int (0 : Int32)), (.int (0 : Int32)), (.int (0 : Int32)), (.int (0 : Int32)), (.int (0 : Int32)), (.int (0 : Int32))] (.int (0 : Int32)) := Arv.set Ar28 q28 S28 N28 H28 G28 (fits_nar_byte _) W29 3 rfl (Nat.le_of_ble_eq_true rfl)
  obtain ⟨fs, hr, hrun, hended, hW, hsame⟩ := X29.leave (v := some (.int (3 : Int32))) (fun h => by rw [Bd.returns] at h; cases h)
  refine ⟨_, _, pre24 _ ?_, hrun, hended, _, _, rfl, ?_, ⟨_, rfl⟩, hW, hsame.mono (by decide) (by decide)⟩
  · show Steps p.tables e below (T23.setTop (mkF m 22 #[.val (.int i2), .val (.int (8 : Int32)), .val (.ref p2), .val (.int i2), .val (.int r1), .val (.int (4 : Int32)), .val (.int (0 : Int32))] [])) _
    refine XS.iloadN X23.here hx rfl (hb hby d24_22) rfl  ?_
    refine XS.bipush X23.here hx rfl (hb hby d24_23) ?_
    show Steps p.tables e below (T23.setTop (mkF m 25 #[.val (.int i2), .val (.int (8 : Int32)), .val (.ref p2), .val (.int i2), .val (.int r1), .val (.int (4 : Int32)), .val (.int (0 : Int32))] [(.int (-100 : Int32)), (.int i2)])) _
    refine XS.icmpYes X23.here hx rfl (pc0 := 25) (pc' := 72) rfl (hb hby d24_25) rfl (tlt ((own_b100 ei2).2 xb2)).2.2.1 (by decide) (by decide) ?_
    refine XS.aloadN X23.here hx rfl (hb hby d24_72) rfl rfl ?_
    refine XS.iinc X23.here hx rfl (hb hby d24_73) rfl (l' := #[.val (.int i2), .val (.int (8 : Int32)), .val (.ref p2), .val (.int i2), .val (.int r1), .val (.int (3 : Int32)), .val (.int (0 : Int32))]) rfl ?_
    refine XS.iload X23.here hx rfl (hb hby d24_76) rfl  ?_
    show Steps p.tables e below (T23.setTop (mkF m 78 #[.val (.int i2), .val (.int (8 : Int32)), .val (.ref p2), .val (.int i2), .val (.int r1), .val (.int (3 : Int32)), .val (.int (0 : Int32))] [(.int (3 : Int32)), (.ref p2)])) _
    refine st26 _ ?_
    show Steps p.tables e below (T26.setTop (mkF m 81 #[.val (.int i2), .val (.int (8 : Int32)), .val (.ref p2), .val (.int i2), .val (.int r1), .val (.int (3 : Int32)), .val (.int (0 : Int32))] [(.ref wO), (.int (3 : Int32)), (.ref p2)])) _
    refine XS.iloadN X26.here hx rfl (hb hby d24_81) rfl  ?_
    refine XS.ineg X26.here hx rfl (hb hby d24_82) rfl ?_
    show Steps p.tables e below (T26.setTop (mkF m 83 #[.val (.int i2), .val (.int (8 : Int32)), .val (.ref p2), .val (.int i2), .val (.int r1), .val (.int (3 : Int32)), .val (.int (0 : Int32))] [(.int (-i2)), (.ref wO), (.int (3 : Int32)), (.ref p2)])) _
    refine X26.baloadBytes hx (j := (-i2)) (v := .int d1) (by rw [e26]; exact Aq27.1) (State.isArrayOf_alike hZ.alike Aq27.2.1) Aq27.2.2 ti27.2.2 hat27 (g := (mkF m 83 #[.val (.int i2), .val (.int (8 : Int32)), .val (.ref p2), .val (.int i2), .val (.int r1), .val (.int (3 : Int32)), .val (.int (0 : Int32))] [(.int (-i2)), (.ref wO), (.int (3 : Int32)), (.ref p2)])) rfl rfl (hb hby d24_83) _ ?_
    show Steps p.tables e below (T26.setTop (mkF m 84 #[.val (.int i2), .val (.int (8 : Int32)), .val (.ref p2), .val (.int i2), .val (.int r1), .val (.int (3 : Int32)), .val (.int (0 : Int32))] [(.int d1), (.int (3 : Int32)), (.ref p2)])) _
    refine st29 _ ?_
    show Steps p.tables e below (T29.setTop (mkF m 85 #[.val (.int i2), .val (.int (8 : Int32)), .val (.ref p2), .val (.int i2), .val (.int r1), .val (.int (3 : Int32)), .val (.int (0 : Int32))] [])) _
    refine XS.iloadN X29.here hx rfl (hb hby d24_85) rfl  ?_
    refine XS.bipush X29.here hx rfl (hb hby d24_86) ?_
    show Steps p.tables e below (T29.setTop (mkF m 88 #[.val (.int i2), .val (.int (8 : Int32)), .val (.ref p2), .val (.int i2), .val (.int r1), .val (.int (3 : Int32)), .val (.int (0 : Int32))] [(.int (-9 : Int32)), (.int i2)])) _
    refine XS.icmpYes X29.here hx rfl (pc0 := 88) (pc' := 104) rfl (hb hby d24_88) rfl (flt ((own_b9 ei2).1 xc)).2.1 (by decide) (by decide) ?_
    refine XS.iload X29.here hx rfl (hb hby d24_104) rfl  ?_
    show Steps p.tables e below (T29.setTop (mkF m 106 #[.val (.int i2), .val (.int (8 : Int32)), .val (.ref p2), .val (.int i2), .val (.int r1), .val (.int (3 : Int32)), .val (.int (0 : Int32))] [(.int (0 : Int32))])) _
    refine XS.ifYes X29.here hx rfl (pc0 := 106) (pc' := 118) rfl (hb hby d24_106) rfl ((if0 _ _).trans (teq (by decide : (0 : Int32) = (0 : Int32))).1) (by decide) (by decide) ?_
    refine XS.iload X29.here hx rfl (hb hby d24_118) rfl  ?_
    show Steps p.tables e below (T29.setTop (mkF m 120 #[.val (.int i2), .val (.int (8 : Int32)), .val (.ref p2), .val (.int i2), .val (.int r1), .val (.int (3 : Int32)), .val (.int (0 : Int32))] [(.int (3 : Int32))])) _
    exact retI X29 hx Bd.returns (hb hby d24_120) hr
  · show Q_rmGC5 Z p0 p2 zc fm wO cO wT cT kb v0 v1 v2 d1 d2 d3 d4 d5 h0 n0 _ T29.heap _
    rw [e29]
    exact ⟨rfl, N29, K29, V29⟩
theorem ef_rmAppI5 (m : MethodId) (p0 : Addr) (p1 : Int32) : entryFrame m #[(.ref p0), (.int p1)] 4 = mkF m 0 #[.val (.ref p0), .val (.int p1), .unset, .unset] [] := by first | (simp [entryFrame, mkF, argsToLocals, Value.category]; done) | rfl
def Q_rmAppI5 (Z : State) (p0 : Addr) (p1 : Int32) (zc : Int32) (fm : Value) (wO : Addr) (cO : Cell) (wT : Addr) (cT : Cell) (t : Addr) (kb : ClassId) (b0 : Int32) (b1 : Int32) (b2 : Int32) (d1 : Int32) (d2 : Int32) (d3 : Int32) (d4 : Int32) (d5 : Int32) (h0 : Heap) (n0 : Nat) (v : Option Value) (h : Heap) (L : List Loc) : Prop := v = some (.ref p0) ∧ Fr n0 L ∧ Keep h0 h [p0, t] ∧ Fld Z h p0 "java/lang/AbstractStringBuilder" "value" "[B" (.ref t) ∧ Fld Z h p0 "java/lang/AbstractStringBuilder" "coder" "B" (.int (0 : Int32)) ∧ Fld Z h p0 "java/lang/AbstractStringBuilder" "count" "I" (.int (Int32.ofNat ([b0, b1, b2, d1, d2, d3, d4, d5]).length)) ∧ Arv Z h t kb .byte (16 : Int32) (own_nrw ([b0, b1, b2, d1, d2, d3, d4, d5])) (.int (0 : Int32))
set_option maxRecDepth 65536 in
set_option maxHeartbeats 40000000 in
theorem rmAppI5 (l : Launch) (Z : State) (a0 : Array Value) (hw : ∀ d ∈ tables_1, d.before a0 Z = true) (ws : List Jvm.Cond) (p0 : Addr) (p1 : Int32) (zc : Int32) (fm : Value) (wO : Addr) (cO : Cell) (wT : Addr) (cT : Cell) (t : Addr) (kb : ClassId) (b0 : Int32) (b1 : Int32) (b2 : Int32) (d1 : Int32) (d2 : Int32) (d3 : Int32) (d4 : Int32) (d5 : Int32) (h0 : Heap) (n0 : Nat) (Z0 : n0 ≤ h0.size) (hSt : own_St Z zc fm) (Ol : own_Old Z n0 h0) (hDT : own_DT Z wO cO wT cT) (Eb : Exa Z h0 p0 "java/lang/StringBuilder") (Fbv : Fld Z h0 p0 "java/lang/AbstractStringBuilder" "value" "[B" (.ref t)) (Fbc : Fld Z h0 p0 "java/lang/AbstractStringBuilder" "coder" "B" (.int (0 : Int32))) (Fbn : Fld Z h0 p0 "java/lang/AbstractStringBuilder" "count" "I" (.int (3 : Int32))) (Ab : Arv Z h0 t kb .byte (16 : Int32) (own_nrw [b0, b1, b2]) (.int (0 : Int32))) (gb_ : n0 ≤ p0) (gt_ : n0 ≤ t) (npt : p0 ≠ t) (hp0 : 0 ≤ p1.toInt) (hlo : 10000 ≤ p1.toInt) (hhi : p1.toInt < 100000) (hd1 : d1.toInt = 48 + p1.toInt / 10000 % 10) (hd2 : d2.toInt = 48 + p1.toInt / 1000 % 10) (hd3 : d3.toInt = 48 + p1.toInt / 100 % 10) (hd4 : d4.toInt = 48 + p1.toInt / 10 % 10) (hd5 : d5.toInt = 48 + p1.toInt % 10) :
    MetFree l (⟨"java/lang/AbstractStringBuilder", "append", "(I)Ljava/lang/AbstractStringBuilder;"⟩ : MethodName) (head1 (Jvm.Cond.code (⟨"java/lang/AbstractStringBuilder", "append", "(I)Ljava/lang/AbstractStringBuilder;"⟩ : MethodName) jdk_68_method_32_code 4 (some (.object "java/lang/AbstractStringBuilder")) :: ws) ({ frames := 1, cells := 0, slots := 0, locals := 18 } : Room)) (fun a U => a = #[(.ref p0), (.int p1)] ∧ Z.Warmed39 U.vm ∧ U.heap = h0) (fun _ _ _ _ _ => True) (fun _ U o U' => ∃ v L, o = .returned v ∧ Q_rmAppI5 Z p0 p1 zc fm wO cO wT cT t kb b0 b1 b2 d1 d2 d3 d4 d5 h0 n0 v U'.heap L ∧ FrameEnd U o U' L ({ frames := 1, cells := 0, slots := 0, locals := 18 } : Room).cells ({ frames := 1, cells := 0, slots := 0, locals := 18 } : Room).slots) := by
  refine MetFree.of_bodySF (plainFor_of_name pn_java_lang_AbstractStringBuilder) hisR ?_
  intro p e s m args below meth c s₁ Bd hml0 hP hK
  obtain ⟨rfl, hZ, hh⟩ := hP
  have hx := Bd.exec
  have hby := Bd.bytes
  have hml : c.maxLocals = 4 := hml0
  have hown : s.vm.findClass "java/lang/AbstractStringBuilder" = some m.cls := findClass_of_methodNamed Bd.named
  have hnm := (name_of_methodNamed Bd.named Bd.method).1
  have hZo := hZ
  have howno := hown
  have X0 : Stand p l e ({ frames := 1, cells := 0, slots := 0, locals := 18 } : Room) s m #[(.ref p0), (.int p1)] below meth c s₁ [] 0 0 := Stand.of_body Bd
  have e0 : s₁.heap = h0 := by rw [← hh, Bd.state]; rfl
  have N0 := Fr.nil n0
  have pre0 : ∀ t, Steps p.tables e below (s₁.setTop (mkF m 0 #[.val (.ref p0), .val (.int p1), .unset, .unset] [])) t → Steps p.tables e below (s₁.setTop (entryFrame m #[(.ref p0), (.int p1)] 4)) t := fun t k => castTop (ef_rmAppI5 m p0 p1 ) k
  obtain ⟨T1, X1, e1, st1⟩ := getF X0 hx hZ hown (host := "") (Or.inl (hw _ (own_m 91 rfl))) Via.refl e0 Fbn (g := (mkF m 1 #[.val (.ref p0), .val (.int p1), .unset, .unset] [(.ref p0)])) rfl rfl (hb hby d21_1)
  obtain ⟨_, _, ⟨T2, L2, k2, n2⟩, -, X2, ⟨Lc2, hQ2, l2, y2, z2⟩, st2⟩ := Jvm.LawKit.callS X1 hx (y := (⟨"java/lang/Integer", "stringSize", "(I)I"⟩ : MethodName)) hown (mvT hZ (hw _ (own_m 130 rfl))) (mvT hZ (hw _ (own_m 131 rfl))) (mvT hZ (hw _ (own_m 132 rfl))) (mvT hZ (hw _ (own_m 133 rfl))) (by decide) (backOf (W := 1) (rmSS5 l Z a0 hw [] p1 zc fm  h0 n0 Z0 hSt Ol hp0 hlo hhi) hZ (hw _ (own_m 133 rfl)) (hw _ (own_m 132 rfl)) (by decide) (by decide)) (g := (mkF m 7 #[.val (.ref p0), .val (.int p1), .val (.int (3 : Int32)), .unset] [(.int p1), (.int (3 : Int32))])) rfl (by rw [hml]; rfl) (argsL := [(.int p1)]) (rest := [(.int (3 : Int32))]) (lenOf pd__I_I rfl) rfl (by show 2 * 0 + _ ≤ _; exact Nat.le_of_eq rfl) (hb hby d21_7) (fun _ _ => ⟨rfl, e1, (by decide : 0 + 0 ≤ _), (by decide : 0 + 0 ≤ _)⟩)
  dsimp only [Pt.U, Pt.locs, Pt.cells, Pt.slots] at X2 l2 y2 z2 st2 hQ2
  subst l2 y2 z2
  obtain ⟨rfl, Nq2, e2⟩ := hQ2
  have N2 := Fr.app N0 Nq2
  obtain ⟨cq3, kq3, q3a, q3b, q3c⟩ := isOf hZ e2 Eb
  obtain ⟨_, _, ⟨T3, L3, k3, n3⟩, -, X3, ⟨Lc3, hQ3, l3, y3, z3⟩, st3⟩ := X2.virtualBack hx (y := (⟨"java/lang/AbstractStringBuilder", "ensureCapacityInternal", "(I)V"⟩ : MethodName)) (z := (⟨"java/lang/AbstractStringBuilder", "ensureCapacityInternal", "(I)V"⟩ : MethodName)) hown (mvT hZ (hw _ (own_m 93 rfl))) (mvT hZ (own_decl (hw _ (own_m 94 rfl)) (hw _ (own_m 97 rfl)))) (notFace_of_selects (args := #[]) (mvT hZ (hw _ (own_m 96 rfl)))) (mvT hZ (hw _ (own_m 96 rfl))) (mvT hZ (hw _ (own_m 94 rfl))) (by decide) (backOf (W := 0) (rmEns l Z a0 hw [] p0 (8 : Int32) zc fm t kb (own_nrw [b0, b1, b2]) h0 n0 Z0 hSt Ol Fbv Fbc Ab (by decide)) hZ (hw _ (own_m 97 rfl)) (hw _ (own_m 63 rfl)) (by decide) (by decide)) q3a q3c (g := (mkF m 14 #[.val (.ref p0), .val (.int p1), .val (.int (3 : Int32)), .val (.int (8 : Int32))] [(.int (8 : Int32)), (.ref p0)])) rfl (by rw [hml]; rfl) (Steps.refl _) (argsL := [(.int (8 : Int32))]) (rest := []) (lenOf pd__I_V rfl) rfl (by show 2 * 0 + _ ≤ _; exact Nat.le_of_eq rfl) (hb hby d21_14) (fun _ _ => ⟨rfl, e2, (by decide : 0 + 0 ≤ _), (by decide : 0 + 0 ≤ _)⟩)
  dsimp only [Pt.U, Pt.locs, Pt.cells, Pt.slots] at X3 l3 y3 z3 st3 hQ3
  subst l3 y3 z3
  obtain ⟨rfl, Nq3, e3⟩ := hQ3
  have N3 := Fr.app N2 Nq3
  obtain ⟨cq4, kq4, q4a, q4b, q4c⟩ := isOf hZ e3 Eb
  obtain ⟨_, _, ⟨T4, L4, k4, n4⟩, -, X4, ⟨Lc4, hQ4, l4, y4, z4⟩, st4⟩ := X3.virtualBack hx (y := (⟨"java/lang/AbstractStringBuilder", "isLatin1", "()Z"⟩ : MethodName)) (z := (⟨"java/lang/AbstractStringBuilder", "isLatin1", "()Z"⟩ : MethodName)) hown (mvT hZ (hw _ (own_m 134 rfl))) (mvT hZ (hw _ (own_m 135 rfl))) (notFace_of_selects (args := #[]) (mvT hZ (hw _ (own_m 137 rfl)))) (mvT hZ (hw _ (own_m 137 rfl))) (mvT hZ (hw _ (own_m 136 rfl))) (by decide) (backOf (W := 0) (rmBLat l Z a0 hw [] p0 zc fm  h0 n0 Z0 hSt Ol Fbc) hZ (hw _ (own_m 138 rfl)) (hw _ (own_m 63 rfl)) (by decide) (by decide)) q4a q4c (g := (mkF m 18 #[.val (.ref p0), .val (.int p1), .val (.int (3 : Int32)), .val (.int (8 : Int32))] [(.ref p0)])) rfl (by rw [hml]; rfl) (Steps.refl _) (argsL := []) (rest := []) (lenOf pd___Z rfl) rfl (by show 2 * 0 + _ ≤ _; exact Nat.le_of_eq rfl) (hb hby d21_18) (fun _ _ => ⟨rfl, e3, (by decide : 0 + 0 ≤ _), (by decide : 0 + 0 ≤ _)⟩)
  dsimp only [Pt.U, Pt.locs, Pt.cells, Pt.slots] at X4 l4 y4 z4 st4 hQ4
  subst l4 y4 z4
  obtain ⟨rfl, Nq4, e4⟩ := hQ4
  have N4 := Fr.app N3 Nq4
  obtain ⟨T5, X5, e5, st5⟩ := getF X4 hx hZ hown (host := "") (Or.inl (hw _ (own_m 67 rfl))) Via.refl e4 Fbv (g := (mkF m 27 #[.val (.ref p0), .val (.int p1), .val (.int (3 : Int32)), .val (.int (8 : Int32))] [(.ref p0), (.int (8 : Int32)), (.int p1)])) rfl rfl (hb hby d21_27)
  obtain ⟨_, _, ⟨T6, L6, k6, n6⟩, -, X6, ⟨Lc6, hQ6, l6, y6, z6⟩, st6⟩ := Jvm.LawKit.callS X5 hx (y := (⟨"java/lang/Integer", "getChars", "(II[B)I"⟩ : MethodName)) hown (mvT hZ (hw _ (own_m 139 rfl))) (mvT hZ (hw _ (own_m 140 rfl))) (mvT hZ (hw _ (own_m 132 rfl))) (mvT hZ (hw _ (own_m 141 rfl))) (by decide) (backOf (W := 0) (rmGC5 l Z a0 hw [] p1 t zc fm wO cO wT cT kb (.int (own_b b0)) (.int (own_b b1)) (.int (own_b b2)) d1 d2 d3 d4 d5 h0 n0 Z0 hSt Ol hDT (Ab.pad (pad_rep (own_nrw [b0, b1, b2]) (.int (0 : Int32)) 13)) gt_ hp0 hlo hhi hd1 hd2 hd3 hd4 hd5) hZ (hw _ (own_m 141 rfl)) (hw _ (own_m 132 rfl)) (by decide) (by decide)) (g := (mkF m 30 #[.val (.ref p0), .val (.int p1), .val (.int (3 : Int32)), .val (.int (8 : Int32))] [(.ref t), (.int (8 : Int32)), (.int p1)])) rfl (by rw [hml]; rfl) (argsL := [(.int p1), (.int (8 : Int32)), (.ref t)]) (rest := []) (lenOf pd__II_B_I rfl) rfl (by show 2 * 0 + _ ≤ _; exact Nat.le_of_eq rfl) (hb hby d21_30) (fun _ _ => ⟨rfl, e5, (by decide : 0 + 0 ≤ _), (by decide : 0 + 0 ≤ _)⟩)
  dsimp only [Pt.U, Pt.locs, Pt.cells, Pt.slots] at X6 l6 y6 z6 st6 hQ6
  subst l6 y6 z6
  obtain ⟨rfl, Nq6, K6, at_⟩ := hQ6
  have N6 := Fr.app N4 Nq6
  have KK6 := (Keep.refl h0 [p0, t]).trans K6 (allS (Or.inl (own_m 1 rfl)) all0)
  rw [own_bdd hd1, own_bdd hd2, own_bdd hd3, own_bdd hd4, own_bdd hd5] at at_
  have au_ : Arv Z T6.heap t kb .byte (16 : Int32) (own_nrw [b0, b1, b2, d1, d2, d3, d4, d5]) (.int (0 : Int32)) := at_.pad (fun i => (pad_rep (own_nrw [b0, b1, b2, d1, d2, d3, d4, d5]) _ 8 i).symm)
  have f7 := (Eb.keep K6)
  have f8 := (Fbn.keep K6 (ninS npt nin0))
  obtain ⟨T9, h9, X9, e9, W9, st9⟩ := putF X6 hx hZ hown (host := "") (Or.inl (hw _ (own_m 91 rfl))) Via.refl rfl f8 f7 (Or.inl (hw _ (own_m 92 rfl))) (hw _ (own_m 54 rfl)) (ty := .int) (by decide) rfl rfl (g := (mkF m 50 #[.val (.ref p0), .val (.int p1), .val (.int (3 : Int32)), .val (.int (8 : Int32))] [(.int (8 : Int32)), (.ref p0)])) rfl rfl (hb hby d21_50)
  have Fw9 := f8.same W9
  have N9 := Fr.snoc X9 N6 gb_
  have K9 := KK6.wr W9 (Or.inl (own_m 0 rfl))
  have f10 := ((Fbv.keep K6 (ninS npt nin0)).other W9 (Or.inr (slot_ne (Or.inl (hw _ (own_m 68 rfl))) (Or.inl (hw _ (own_m 92 rfl))) (by decide) (t := (.array .byte)) (t' := .int) (by decide) (by decide))))
  have f11 := ((Fbc.keep K6 (ninS npt nin0)).other W9 (Or.inr (slot_ne (Or.inl (hw _ (own_m 70 rfl))) (Or.inl (hw _ (own_m 92 rfl))) (by decide) (t := .byte) (t' := .int) (by decide) (by decide))))
  have f12 := (au_.other W9 (Ne.symm npt))
  obtain ⟨fs, hr, hrun, hended, hW, hsame⟩ := X9.leave (v := some (.ref p0)) (fun h => by rw [Bd.returns] at h; cases h)
  refine ⟨_, _, pre0 _ ?_, hrun, hended, _, _, rfl, ?_, ⟨_, rfl⟩, hW, hsame.mono (by decide) (by decide)⟩
  · show Steps p.tables e below (s₁.setTop (mkF m 0 #[.val (.ref p0), .val (.int p1), .unset, .unset] [])) _
    refine XS.aloadN X0.here hx rfl (hb hby d21_0) rfl rfl ?_
    show Steps p.tables e below (s₁.setTop (mkF m 1 #[.val (.ref p0), .val (.int p1), .unset, .unset] [(.ref p0)])) _
    refine st1 _ ?_
    show Steps p.tables e below (T1.setTop (mkF m 4 #[.val (.ref p0), .val (.int p1), .unset, .unset] [(.int (3 : Int32))])) _
    refine XS.istoreN X1.here hx rfl (hb hby d21_4) rfl (l' := #[.val (.ref p0), .val (.int p1), .val (.int (3 : Int32)), .unset]) rfl ?_
    refine XS.iloadN X1.here hx rfl (hb hby d21_5) rfl  ?_
    refine XS.iloadN X1.here hx rfl (hb hby d21_6) rfl  ?_
    show Steps p.tables e below (T1.setTop (mkF m 7 #[.val (.ref p0), .val (.int p1), .val (.int (3 : Int32)), .unset] [(.int p1), (.int (3 : Int32))])) _
    refine st2 _ ?_
    show Steps p.tables e below (T2.setTop (mkF m 10 #[.val (.ref p0), .val (.int p1), .val (.int (3 : Int32)), .unset] [(.int (5 : Int32)), (.int (3 : Int32))])) _
    refine XS.iadd X2.here hx rfl (hb hby d21_10) rfl ?_
    refine XS.istoreN X2.here hx rfl (hb hby d21_11) rfl (l' := #[.val (.ref p0), .val (.int p1), .val (.int (3 : Int32)), .val (.int (8 : Int32))]) rfl ?_
    refine XS.aloadN X2.here hx rfl (hb hby d21_12) rfl rfl ?_
    refine XS.iloadN X2.here hx rfl (hb hby d21_13) rfl  ?_
    show Steps p.tables e below (T2.setTop (mkF m 14 #[.val (.ref p0), .val (.int p1), .val (.int (3 : Int32)), .val (.int (8 : Int32))] [(.int (8 : Int32)), (.ref p0)])) _
    refine st3.trans ?_
    show Steps p.tables e below (T3.setTop (mkF m 17 #[.val (.ref p0), .val (.int p1), .val (.int (3 : Int32)), .val (.int (8 : Int32))] [])) _
    refine XS.aloadN X3.here hx rfl (hb hby d21_17) rfl rfl ?_
    show Steps p.tables e below (T3.setTop (mkF m 18 #[.val (.ref p0), .val (.int p1), .val (.int (3 : Int32)), .val (.int (8 : Int32))] [(.ref p0)])) _
    refine st4.trans ?_
    show Steps p.tables e below (T4.setTop (mkF m 21 #[.val (.ref p0), .val (.int p1), .val (.int (3 : Int32)), .val (.int (8 : Int32))] [(.int (1 : Int32))])) _
    refine XS.ifNo X4.here hx rfl (hb hby d21_21) rfl ((if0 _ _).trans (feq (by decide : ¬ ((1 : Int32) = (0 : Int32)))).1) ?_
    refine XS.iloadN X4.here hx rfl (hb hby d21_24) rfl  ?_
    refine XS.iloadN X4.here hx rfl (hb hby d21_25) rfl  ?_
    refine XS.aloadN X4.here hx rfl (hb hby d21_26) rfl rfl ?_
    show Steps p.tables e below (T4.setTop (mkF m 27 #[.val (.ref p0), .val (.int p1), .val (.int (3 : Int32)), .val (.int (8 : Int32))] [(.ref p0), (.int (8 : Int32)), (.int p1)])) _
    refine st5 _ ?_
    show Steps p.tables e below (T5.setTop (mkF m 30 #[.val (.ref p0), .val (.int p1), .val (.int (3 : Int32)), .val (.int (8 : Int32))] [(.ref t), (.int (8 : Int32)), (.int p1)])) _
    refine st6 _ ?_
    show Steps p.tables e below (T6.setTop (mkF m 33 #[.val (.ref p0), .val (.int p1), .val (.int (3 : Int32)), .val (.int (8 : Int32))] [(.int (3 : Int32))])) _
    refine XS.pop X6.here hx rfl (hb hby d21_33) rfl rfl ?_
    refine XS.goto X6.here hx rfl (pc0 := 34) (pc' := 48) rfl (hb hby d21_34) (by decide) (by decide) ?_
    refine XS.aloadN X6.here hx rfl (hb hby d21_48) rfl rfl ?_
    refine XS.iloadN X6.here hx rfl (hb hby d21_49) rfl  ?_
    show Steps p.tables e below (T6.setTop (mkF m 50 #[.val (.ref p0), .val (.int p1), .val (.int (3 : Int32)), .val (.int (8 : Int32))] [(.int (8 : Int32)), (.ref p0)])) _
    refine st9 _ ?_
    show Steps p.tables e below (T9.setTop (mkF m 53 #[.val (.ref p0), .val (.int p1), .val (.int (3 : Int32)), .val (.int (8 : Int32))] [])) _
    refine XS.aloadN X9.here hx rfl (hb hby d21_53) rfl rfl ?_
    show Steps p.tables e below (T9.setTop (mkF m 54 #[.val (.ref p0), .val (.int p1), .val (.int (3 : Int32)), .val (.int (8 : Int32))] [(.ref p0)])) _
    jvm_step X9.here [X9.here.top, hx, (hb hby d21_54), X9.method', Bd.returns, Value.isRef, FieldType.isReference]
    first | (intro acts; rw [hr _ acts rfl rfl rfl]) | rw [hr _ _ rfl rfl rfl]
    exact Steps.refl _
  · show Q_rmAppI5 Z p0 p1 zc fm wO cO wT cT t kb b0 b1 b2 d1 d2 d3 d4 d5 h0 n0 _ T9.heap _
    rw [e9]
    exact ⟨rfl, N9, K9, f10, f11, Fw9, f12⟩
theorem ef_rmSAppI5 (m : MethodId) (p0 : Addr) (p1 : Int32) : entryFrame m #[(.ref p0), (.int p1)] 2 = mkF m 0 #[.val (.ref p0), .val (.int p1)] [] := by first | (simp [entryFrame, mkF, argsToLocals, Value.category]; done) | rfl
def Q_rmSAppI5 (Z : State) (p0 : Addr) (p1 : Int32) (zc : Int32) (fm : Value) (wO : Addr) (cO : Cell) (wT : Addr) (cT : Cell) (t : Addr) (kb : ClassId) (b0 : Int32) (b1 : Int32) (b2 : Int32) (d1 : Int32) (d2 : Int32) (d3 : Int32) (d4 : Int32) (d5 : Int32) (h0 : Heap) (n0 : Nat) (v : Option Value) (h : Heap) (L : List Loc) : Prop := v = some (.ref p0) ∧ Fr n0 L ∧ Keep h0 h [p0, t] ∧ Fld Z h p0 "java/lang/AbstractStringBuilder" "value" "[B" (.ref t) ∧ Fld Z h p0 "java/lang/AbstractStringBuilder" "coder" "B" (.int (0 : Int32)) ∧ Fld Z h p0 "java/lang/AbstractStringBuilder" "count" "I" (.int (Int32.ofNat ([b0, b1, b2, d1, d2, d3, d4, d5]).length)) ∧ Arv Z h t kb .byte (16 : Int32) (own_nrw ([b0, b1, b2, d1, d2, d3, d4, d5])) (.int (0 : Int32))
set_option maxRecDepth 65536 in
set_option maxHeartbeats 40000000 in
theorem rmSAppI5 (l : Launch) (Z : State) (a0 : Array Value) (hw : ∀ d ∈ tables_1, d.before a0 Z = true) (ws : List Jvm.Cond) (p0 : Addr) (p1 : Int32) (zc : Int32) (fm : Value) (wO : Addr) (cO : Cell) (wT : Addr) (cT : Cell) (t : Addr) (kb : ClassId) (b0 : Int32) (b1 : Int32) (b2 : Int32) (d1 : Int32) (d2 : Int32) (d3 : Int32) (d4 : Int32) (d5 : Int32) (h0 : Heap) (n0 : Nat) (Z0 : n0 ≤ h0.size) (hSt : own_St Z zc fm) (Ol : own_Old Z n0 h0) (hDT : own_DT Z wO cO wT cT) (Eb : Exa Z h0 p0 "java/lang/StringBuilder") (Fbv : Fld Z h0 p0 "java/lang/AbstractStringBuilder" "value" "[B" (.ref t)) (Fbc : Fld Z h0 p0 "java/lang/AbstractStringBuilder" "coder" "B" (.int (0 : Int32))) (Fbn : Fld Z h0 p0 "java/lang/AbstractStringBuilder" "count" "I" (.int (3 : Int32))) (Ab : Arv Z h0 t kb .byte (16 : Int32) (own_nrw [b0, b1, b2]) (.int (0 : Int32))) (gb_ : n0 ≤ p0) (gt_ : n0 ≤ t) (npt : p0 ≠ t) (hp0 : 0 ≤ p1.toInt) (hlo : 10000 ≤ p1.toInt) (hhi : p1.toInt < 100000) (hd1 : d1.toInt = 48 + p1.toInt / 10000 % 10) (hd2 : d2.toInt = 48 + p1.toInt / 1000 % 10) (hd3 : d3.toInt = 48 + p1.toInt / 100 % 10) (hd4 : d4.toInt = 48 + p1.toInt / 10 % 10) (hd5 : d5.toInt = 48 + p1.toInt % 10) :
    MetFree l (⟨"java/lang/StringBuilder", "append", "(I)Ljava/lang/StringBuilder;"⟩ : MethodName) (head1 (Jvm.Cond.code (⟨"java/lang/StringBuilder", "append", "(I)Ljava/lang/StringBuilder;"⟩ : MethodName) jdk_67_method_15_code 2 (some (.object "java/lang/StringBuilder")) :: ws) ({ frames := 2, cells := 0, slots := 0, locals := 33 } : Room)) (fun a U => a = #[(.ref p0), (.int p1)] ∧ Z.Warmed39 U.vm ∧ U.heap = h0) (fun _ _ _ _ _ => True) (fun _ U o U' => ∃ v L, o = .returned v ∧ Q_rmSAppI5 Z p0 p1 zc fm wO cO wT cT t kb b0 b1 b2 d1 d2 d3 d4 d5 h0 n0 v U'.heap L ∧ FrameEnd U o U' L ({ frames := 2, cells := 0, slots := 0, locals := 33 } : Room).cells ({ frames := 2, cells := 0, slots := 0, locals := 33 } : Room).slots) := by
  refine MetFree.of_bodySF (plainFor_of_name pn_java_lang_StringBuilder) hisR ?_
  intro p e s m args below meth c s₁ Bd hml0 hP hK
  obtain ⟨rfl, hZ, hh⟩ := hP
  have hx := Bd.exec
  have hby := Bd.bytes
  have hml : c.maxLocals = 2 := hml0
  have hown : s.vm.findClass "java/lang/StringBuilder" = some m.cls := findClass_of_methodNamed Bd.named
  have hnm := (name_of_methodNamed Bd.named Bd.method).1
  have hZo := hZ
  have howno := hown
  have X0 : Stand p l e ({ frames := 2, cells := 0, slots := 0, locals := 33 } : Room) s m #[(.ref p0), (.int p1)] below meth c s₁ [] 0 0 := Stand.of_body Bd
  have e0 : s₁.heap = h0 := by rw [← hh, Bd.state]; rfl
  have N0 := Fr.nil n0
  have pre0 : ∀ t, Steps p.tables e below (s₁.setTop (mkF m 0 #[.val (.ref p0), .val (.int p1)] [])) t → Steps p.tables e below (s₁.setTop (entryFrame m #[(.ref p0), (.int p1)] 2)) t := fun t k => castTop (ef_rmSAppI5 m p0 p1 ) k
  obtain ⟨_, _, ⟨T1, L1, k1, n1⟩, -, X1, ⟨Lc1, hQ1, l1, y1, z1⟩, st1⟩ := superBack X0 hx hZ (y := (⟨"java/lang/AbstractStringBuilder", "append", "(I)Ljava/lang/AbstractStringBuilder;"⟩ : MethodName)) hown (hw _ (own_m 126 rfl)) (own_same (y := (⟨"java/lang/AbstractStringBuilder", "append", "(I)Ljava/lang/AbstractStringBuilder;"⟩ : MethodName)) (hw _ (own_m 128 rfl)) (by decide) (hw _ (own_m 96 rfl)) rfl) (hw _ (own_m 127 rfl)) (hw _ (own_m 78 rfl)) (by decide) (backOf (W := 0) (rmAppI5 l Z a0 hw [] p0 p1 zc fm wO cO wT cT t kb b0 b1 b2 d1 d2 d3 d4 d5 h0 n0 Z0 hSt Ol hDT Eb Fbv Fbc Fbn Ab gb_ gt_ npt hp0 hlo hhi hd1 hd2 hd3 hd4 hd5) hZ (hw _ (own_m 129 rfl)) (hw _ (own_m 63 rfl)) (by decide) (by decide)) e0 (Ins.self Eb) (g := (mkF m 2 #[.val (.ref p0), .val (.int p1)] [(.int p1), (.ref p0)])) rfl (by rw [hml]; rfl) (hw _ (own_m 129 rfl)) (argsL := [(.int p1)]) (rest := []) (lenOf pd__I_Ljava_lang_AbstractStringBuilder_ rfl) rfl (by show 2 * 0 + _ ≤ _; exact Nat.le_of_eq rfl) (hb hby d20_2) (fun _ _ => ⟨rfl, e0, (by decide : 0 + 0 ≤ _), (by decide : 0 + 0 ≤ _)⟩)
  dsimp only [Pt.U, Pt.locs, Pt.cells, Pt.slots] at X1 l1 y1 z1 st1 hQ1
  subst l1 y1 z1
  obtain ⟨rfl, Nq1, K1, fv_, fc_, fn_, at_⟩ := hQ1
  have N1 := Fr.app N0 Nq1
  have KK1 := (Keep.refl h0 [p0, t]).trans K1 (allS (Or.inl (own_m 0 rfl)) (allS (Or.inl (own_m 1 rfl)) all0))
  obtain ⟨fs, hr, hrun, hended, hW, hsame⟩ := X1.leave (v := some (.ref p0)) (fun h => by rw [Bd.returns] at h; cases h)
  refine ⟨_, _, pre0 _ ?_, hrun, hended, _, _, rfl, ?_, ⟨_, rfl⟩, hW, hsame.mono (by decide) (by decide)⟩
  · show Steps p.tables e below (s₁.setTop (mkF m 0 #[.val (.ref p0), .val (.int p1)] [])) _
    refine XS.aloadN X0.here hx rfl (hb hby d20_0) rfl rfl ?_
    refine XS.iloadN X0.here hx rfl (hb hby d20_1) rfl  ?_
    show Steps p.tables e below (s₁.setTop (mkF m 2 #[.val (.ref p0), .val (.int p1)] [(.int p1), (.ref p0)])) _
    refine st1.trans ?_
    show Steps p.tables e below (T1.setTop (mkF m 5 #[.val (.ref p0), .val (.int p1)] [(.ref p0)])) _
    refine XS.pop X1.here hx rfl (hb hby d20_5) rfl rfl ?_
    refine XS.aloadN X1.here hx rfl (hb hby d20_6) rfl rfl ?_
    show Steps p.tables e below (T1.setTop (mkF m 7 #[.val (.ref p0), .val (.int p1)] [(.ref p0)])) _
    jvm_step X1.here [X1.here.top, hx, (hb hby d20_7), X1.method', Bd.returns, Value.isRef, FieldType.isReference]
    first | (intro acts; rw [hr _ acts rfl rfl rfl]) | rw [hr _ _ rfl rfl rfl]
    exact Steps.refl _
  · show Q_rmSAppI5 Z p0 p1 zc fm wO cO wT cT t kb b0 b1 b2 d1 d2 d3 d4 d5 h0 n0 _ T1.heap _
    exact ⟨rfl, N1, KK1, fv_, fc_, fn_, at_⟩
theorem ef_rmTS5 (m : MethodId) (p0 : Addr) : entryFrame m #[(.ref p0)] 1 = mkF m 0 #[.val (.ref p0)] [] := by first | (simp [entryFrame, mkF, argsToLocals, Value.category]; done) | rfl
def Q_rmTS5 (Z : State) (p0 : Addr) (zc : Int32) (fm : Value) (wO : Addr) (cO : Cell) (wT : Addr) (cT : Cell) (x : Addr) (ts : Addr) (ks : ClassId) (c0 : Int32) (c1 : Int32) (pt : Int32) (d1 : Int32) (d2 : Int32) (d3 : Int32) (d4 : Int32) (d5 : Int32) (h0 : Heap) (n0 : Nat) (v : Option Value) (h : Heap) (L : List Loc) : Prop := (∃ (r ts : Addr) (ks : ClassId), v = some (.ref r) ∧ Exa Z h r "java/lang/String" ∧ Fld Z h r "java/lang/String" "value" "[B" (.ref ts) ∧ Fld Z h r "java/lang/String" "coder" "B" (.int (0 : Int32)) ∧ Arv Z h ts ks .byte (Int32.ofNat [c0, c1, 58, d1, d2, d3, d4, d5].length) (own_nrw [c0, c1, 58, d1, d2, d3, d4, d5]) (.int (0 : Int32))) ∧ Fr n0 L ∧ Keep h0 h []
set_option maxRecDepth 65536 in
set_option maxHeartbeats 40000000 in
theorem rmTS5 (l : Launch) (Z : State) (a0 : Array Value) (hw : ∀ d ∈ tables_1, d.before a0 Z = true) (ws : List Jvm.Cond) (p0 : Addr) (zc : Int32) (fm : Value) (wO : Addr) (cO : Cell) (wT : Addr) (cT : Cell) (x : Addr) (ts : Addr) (ks : ClassId) (c0 : Int32) (c1 : Int32) (pt : Int32) (d1 : Int32) (d2 : Int32) (d3 : Int32) (d4 : Int32) (d5 : Int32) (h0 : Heap) (n0 : Nat) (Z0 : n0 ≤ h0.size) (hSt : own_St Z zc fm) (Ol : own_Old Z n0 h0) (hDT : own_DT Z wO cO wT cT) (Fh : Fld Z h0 p0 "com/example/kikao/kikao/Domain" "host" "Ljava/lang/String;" (.ref x)) (Fp : Fld Z h0 p0 "com/example/kikao/kikao/Domain" "port" "I" (.int pt)) (Es : Exa Z h0 x "java/lang/String") (Fsv : Fld Z h0 x "java/lang/String" "value" "[B" (.ref ts)) (Fsc : Fld Z h0 x "java/lang/String" "coder" "B" (.int (0 : Int32))) (As : Arv Z h0 ts ks .byte (Int32.ofNat [c0, c1].length) (own_nrw [c0, c1]) (.int (0 : Int32))) (hle : ∀ c ∈ [c0, c1], ¬ (255 : Int32) < c) (hch : own_Chs [c0, c1]) (hp0 : 0 ≤ pt.toInt) (hlo : 10000 ≤ pt.toInt) (hhi : pt.toInt < 100000) (hd1 : d1.toInt = 48 + pt.toInt / 10000 % 10) (hd2 : d2.toInt = 48 + pt.toInt / 1000 % 10) (hd3 : d3.toInt = 48 + pt.toInt / 100 % 10) (hd4 : d4.toInt = 48 + pt.toInt / 10 % 10) (hd5 : d5.toInt = 48 + pt.toInt % 10) (hn0 : n0 = h0.size) (hheld : Jvm.Lit.constHeld Z "com/example/kikao/kikao/Domain" 140) (hcw : Jvm.Lit.compactW.before a0 Z = true) :
    MetFree l (⟨"com/example/kikao/kikao/Domain", "toString", "()Ljava/lang/String;"⟩ : MethodName) (head1 (Jvm.Cond.code (⟨"com/example/kikao/kikao/Domain", "toString", "()Ljava/lang/String;"⟩ : MethodName) prog_6_method_6_code 1 (some (.object "java/lang/String")) :: ws) ({ frames := 6, cells := 6, slots := 48, locals := 91 } : Room)) (fun a U => a = #[(.ref p0)] ∧ Z.Warmed39 U.vm ∧ U.heap = h0 ∧ U.vm.interned = Z.vm.interned) (fun _ _ _ _ _ => True) (fun _ U o U' => ∃ v L, o = .returned v ∧ Q_rmTS5 Z p0 zc fm wO cO wT cT x ts ks c0 c1 pt d1 d2 d3 d4 d5 h0 n0 v U'.heap L ∧ ReturnedEndW U o U' L ({ frames := 6, cells := 6, slots := 48, locals := 91 } : Room).cells ({ frames := 6, cells := 6, slots := 48, locals := 91 } : Room).slots) := by
  refine MetFree.of_bodySF (plainFor_of_name pn_com_example_kikao_kikao_Domain) hisR ?_
  intro p e s m args below meth c s₁ Bd hml0 hP hK
  obtain ⟨rfl, hZ, hh, hI⟩ := hP
  have hx := Bd.exec
  have hby := Bd.bytes
  have hml : c.maxLocals = 1 := hml0
  have hown : s.vm.findClass "com/example/kikao/kikao/Domain" = some m.cls := findClass_of_methodNamed Bd.named
  have hnm := (name_of_methodNamed Bd.named Bd.method).1
  have hZo := hZ
  have howno := hown
  have X0 : Stand p l e ({ frames := 6, cells := 6, slots := 48, locals := 91 } : Room) s m #[(.ref p0)] below meth c s₁ [] 0 0 := Stand.of_body Bd
  have e0 : s₁.heap = h0 := by rw [← hh, Bd.state]; rfl
  have N0 := Fr.nil n0
  have pre0 : ∀ t, Steps p.tables e below (s₁.setTop (mkF m 0 #[.val (.ref p0)] [])) t → Steps p.tables e below (s₁.setTop (entryFrame m #[(.ref p0)] 1)) t := fun t k => castTop (ef_rmTS5 m p0 ) k
  obtain ⟨T1, X1, e1, st1⟩ := getF X0 hx hZ hown (host := "") (Or.inl (hw _ (own_m 46 rfl))) Via.refl e0 Fp (g := (mkF m 1 #[.val (.ref p0)] [(.ref p0)])) rfl rfl (hb hby d9_1)
  obtain ⟨T2, h2, X2, e2, E2, A2, D2, -, st2⟩ := newO X1 hx hZ hown (hw _ (own_m 53 rfl)) (hw _ (own_m 54 rfl)) (hw _ (own_m 55 rfl)) e1 (g := (mkF m 15 #[.val (.ref p0)] [])) rfl (hb hby d9_15) (by decide) (by decide)
  obtain ⟨b2, g2⟩ : ∃ z, z = h0.size := ⟨_, rfl⟩
  rw [← g2] at A2 D2 st2
  have ne2_p0 : p0 ≠ b2 := Nat.ne_of_lt (Nat.lt_of_lt_of_le Fh.lt (Nat.le_of_eq g2.symm))
  have ne2_x : x ≠ b2 := Nat.ne_of_lt (Nat.lt_of_lt_of_le Es.lt (Nat.le_of_eq g2.symm))
  have ne2_ts : ts ≠ b2 := Nat.ne_of_lt (Nat.lt_of_lt_of_le As.lt (Nat.le_of_eq g2.symm))
  have ge2 : n0 ≤ b2 := Nat.le_trans Z0 (Nat.le_of_eq g2.symm)
  have sz2 : h0.size ≤ b2 := Nat.le_trans (Keep.refl h0 []).1 (Nat.le_of_eq g2.symm)
  have K2 := (Keep.refl h0 []).ext E2
  have F2_value : Fld Z h2 b2 "java/lang/AbstractStringBuilder" "value" "[B" .null := D2 (Or.inl (hw _ (own_m 68 rfl))) (ty := (.array .byte)) (by decide)
  have F2_coder : Fld Z h2 b2 "java/lang/AbstractStringBuilder" "coder" "B" (.int (0 : Int32)) := D2 (Or.inl (hw _ (own_m 70 rfl))) (ty := .byte) (by decide)
  have F2_count : Fld Z h2 b2 "java/lang/AbstractStringBuilder" "count" "I" (.int (0 : Int32)) := D2 (Or.inl (hw _ (own_m 92 rfl))) (ty := .int) (by decide)
  have f3 := (Fp.ext E2)
  have f4 := (Nat.le_trans Z0 E2.1)
  have f5 := (Ol.ext E2)
  obtain ⟨_, _, ⟨T6, L6, k6, n6⟩, -, X6, ⟨Lc6, hQ6, l6, y6, z6⟩, st6⟩ := X2.specialBack hx (y := (⟨"java/lang/StringBuilder", "<init>", "()V"⟩ : MethodName)) rfl hown (mvT hZ (hw _ (own_m 56 rfl))) (mvT hZ (hw _ (own_m 57 rfl))) (mvT hZ (hw _ (own_m 58 rfl))) (by decide) (backOf (W := 1) (rmSB0 l Z a0 hw [] b2 zc fm  h2 n0 f4 hSt f5 A2 F2_value F2_coder F2_count ge2) hZ (hw _ (own_m 58 rfl)) (hw _ (own_m 55 rfl)) (by decide) (by decide)) (g := (mkF m 19 #[.val (.ref p0)] [(.ref b2), (.ref b2)])) rfl (by rw [hml]; rfl) (Steps.refl _) (a := b2) (argsL := []) (rest := [(.ref b2)]) (lenOf pd___V rfl) rfl (by show 2 * 0 + _ ≤ _; exact Nat.le_of_eq rfl) (hb hby d9_19) (fun _ _ => ⟨rfl, e2, (by decide : 1 + 1 ≤ _), (by decide : 4 + 16 ≤ _)⟩)
  dsimp only [Pt.U, Pt.locs, Pt.cells, Pt.slots] at X6 l6 y6 z6 st6 hQ6
  subst l6 y6 z6
  obtain ⟨rfl, Nq6, K6, t_, k_, gt_, zt_, fv_, fc_, fn_, at_⟩ := hQ6
  have N6 := Fr.app N0 Nq6
  have KK6 := K2.trans K6 (allS (Or.inr sz2) all0)
  have nd_ : p0 ≠ t_ := Nat.ne_of_lt (Nat.lt_of_lt_of_le f3.lt zt_)
  have nb_ : b2 ≠ t_ := Nat.ne_of_lt (Nat.lt_of_lt_of_le A2.lt zt_)
  have zz_ : h0.size ≤ t_ := Nat.le_trans K2.1 zt_
  have f7 := ((Fh.ext E2).keep K6 (ninS ne2_p0 nin0))
  obtain ⟨T8, X8, e8, st8⟩ := getF X6 hx hZ hown (host := "") (Or.inl (hw _ (own_m 44 rfl))) Via.refl rfl f7 (g := (mkF m 23 #[.val (.ref p0)] [(.ref p0), (.ref b2)])) rfl rfl (hb hby d9_23)
  have f9 := ((Es.ext E2).keep K6)
  have f10 := ((Fsv.ext E2).keep K6 (ninS ne2_x nin0))
  have f11 := ((Fsc.ext E2).keep K6 (ninS ne2_x nin0))
  have f12 := ((As.ext E2).keep K6 (ninS ne2_ts nin0))
  have f13 := (A2.keep K6)
  have f14 := (Nat.le_trans f4 K6.1)
  have f15 := (f5.keep K6 (allS ge2 all0))
  obtain ⟨cq16, kq16, q16a, q16b, q16c⟩ := isOf hZ e8 f13
  obtain ⟨_, _, ⟨T16, L16, k16, n16⟩, -, X16, ⟨Lc16, hQ16, l16, y16, z16⟩, st16⟩ := X8.virtualBack hx (y := (⟨"java/lang/StringBuilder", "append", "(Ljava/lang/String;)Ljava/lang/StringBuilder;"⟩ : MethodName)) (z := (⟨"java/lang/StringBuilder", "append", "(Ljava/lang/String;)Ljava/lang/StringBuilder;"⟩ : MethodName)) hown (mvT hZ (hw _ (own_m 71 rfl))) (mvT hZ (hw _ (own_m 72 rfl))) (notFace_of_selects (args := #[]) (mvT hZ (hw _ (own_m 74 rfl)))) (mvT hZ (hw _ (own_m 74 rfl))) (mvT hZ (hw _ (own_m 73 rfl))) (by decide) (backOf (W := 0) (rmSAppS l Z a0 hw [] b2 x zc fm ts ks [c0, c1] t_ k_ ([] : List Int32) T6.heap n0 f14 hSt f15 f9 f10 f11 f12 hle hch f13 fv_ fc_ fn_ at_ ge2 gt_ nb_ (Nat.le_of_ble_eq_true rfl)) hZ (hw _ (own_m 75 rfl)) (hw _ (own_m 55 rfl)) (by decide) (by decide)) q16a q16c (g := (mkF m 26 #[.val (.ref p0)] [(.ref x), (.ref b2)])) rfl (by rw [hml]; rfl) (Steps.refl _) (argsL := [(.ref x)]) (rest := []) (lenOf pd__Ljava_lang_String__Ljava_lang_StringBuilder_ rfl) rfl (by show 2 * 0 + _ ≤ _; exact Nat.le_of_eq rfl) (hb hby d9_26) (fun _ _ => ⟨rfl, e8, (by decide : 2 + 0 ≤ _), (by decide : 20 + 0 ≤ _)⟩)
  dsimp only [Pt.U, Pt.locs, Pt.cells, Pt.slots] at X16 l16 y16 z16 st16 hQ16
  subst l16 y16 z16
  obtain ⟨rfl, Nq16, K16, fv_1, fc_1, fn_1, at_1⟩ := hQ16
  have N16 := Fr.app N6 Nq16
  have KK16 := KK6.trans K16 (allS (Or.inr sz2) (allS (Or.inr zz_) all0))
  have pre17 : ∀ t, Steps p.tables e below (T16.setTop (mkF m 29 #[.val (.ref p0)] [(.ref b2)])) t → Steps p.tables e below (s₁.setTop (entryFrame m #[(.ref p0)] 1)) t := fun t kt => pre0 t (by
    show Steps p.tables e below (s₁.setTop (mkF m 0 #[.val (.ref p0)] [])) _
    refine XS.aloadN X0.here hx rfl (hb hby d9_0) rfl rfl ?_
    show Steps p.tables e below (s₁.setTop (mkF m 1 #[.val (.ref p0)] [(.ref p0)])) _
    refine st1 _ ?_
    show Steps p.tables e below (T1.setTop (mkF m 4 #[.val (.ref p0)] [(.int pt)])) _
    refine XS.iconst X1.here hx rfl (hb hby d9_4) ?_
    show Steps p.tables e below (T1.setTop (mkF m 5 #[.val (.ref p0)] [(.int (-1 : Int32)), (.int pt)])) _
    refine XS.icmpYes X1.here hx rfl (pc0 := 5) (pc' := 15) rfl (hb hby d9_5) rfl (feq (fun q => by rw [q] at hp0; exact absurd hp0 (by decide))).2 (by decide) (by decide) ?_
    show Steps p.tables e below (T1.setTop (mkF m 15 #[.val (.ref p0)] [])) _
    refine st2 _ ?_
    show Steps p.tables e below (T2.setTop (mkF m 18 #[.val (.ref p0)] [(.ref b2)])) _
    refine XS.dup X2.here hx rfl (hb hby d9_18) rfl rfl ?_
    show Steps p.tables e below (T2.setTop (mkF m 19 #[.val (.ref p0)] [(.ref b2), (.ref b2)])) _
    refine st6.trans ?_
    show Steps p.tables e below (T6.setTop (mkF m 22 #[.val (.ref p0)] [(.ref b2)])) _
    refine XS.aloadN X6.here hx rfl (hb hby d9_22) rfl rfl ?_
    show Steps p.tables e below (T6.setTop (mkF m 23 #[.val (.ref p0)] [(.ref p0), (.ref b2)])) _
    refine st8 _ ?_
    show Steps p.tables e below (T8.setTop (mkF m 26 #[.val (.ref p0)] [(.ref x), (.ref b2)])) _
    refine st16.trans ?_
    show Steps p.tables e below (T16.setTop (mkF m 29 #[.val (.ref p0)] [(.ref b2)])) _
    exact kt)
  have hWr := X16.warmed
  have hS18 : s.Since T16.vm T16.heap.size := X16.warmed.since _
  have hZ18 : Z.Warmed39 (s.setVm T16.vm).vm := State.Warmed39.trans hZ X16.warmed.wide
  have hown18 : (s.setVm T16.vm).vm.findClass "com/example/kikao/kikao/Domain" = some m.cls := (X16.warmed.wide.alike.findClass _ _).trans hown
  have X18 := X16.retabled X16.warmed.wide
  have hk18 : T16.heap.size ≤ T16.heap.size := Nat.le_refl _
  obtain ⟨a19, T19, h19, k19, b19, kk19, X19, e19, E19, hS19, hk19, hZ19, hown19, Ex19, Fc19, Fv19, Av19, -, -, -, -, st19⟩ := ldcSVL X18 hx hZ18 hown18 (hw _ (own_m 118 rfl)) (own_wS hw) rfl hS18 hk18 (by rw [hh, ← hn0]; exact N16) (fun b cl q => by rw [hh]; exact Ol.2.2 b cl q) (own_IB hI hWr) (fun q => nomatch q) hheld hcw (vs := own_nrw [(58 : Int32)]) (z := (1 : Int32)) ⟨by decide +kernel, by decide +kernel⟩ (by decide) (by decide) (g := (mkF m 29 #[.val (.ref p0)] [(.ref b2)])) rfl (hb hby d9_29) (n := 4) (by decide) (by decide) (by decide) (by decide)
  have f20 := (Nat.le_trans f14 K16.1)
  have K19 := KK16.ext E19
  have f21 := ((f13.keep K16).ext E19)
  have f22 := (fv_1.ext E19)
  have f23 := (fc_1.ext E19)
  have f24 := (fn_1.ext E19)
  have f25 := (at_1.ext E19)
  have f26 := (Nat.le_trans f20 E19.1)
  have f27 := ((f15.keep K16 (allS ge2 (allS gt_ all0))).ext E19)
  obtain ⟨cq28, kq28, q28a, q28b, q28c⟩ := isOf hZ19 e19 f21
  obtain ⟨_, _, ⟨T28, L28, k28, n28⟩, -, X28, ⟨Lc28, hQ28, l28, y28, z28⟩, st28⟩ := X19.virtualBack hx (y := (⟨"java/lang/StringBuilder", "append", "(Ljava/lang/String;)Ljava/lang/StringBuilder;"⟩ : MethodName)) (z := (⟨"java/lang/StringBuilder", "append", "(Ljava/lang/String;)Ljava/lang/StringBuilder;"⟩ : MethodName)) hown19 (mvT hZ19 (hw _ (own_m 71 rfl))) (mvT hZ19 (hw _ (own_m 72 rfl))) (notFace_of_selects (args := #[]) (mvT hZ19 (hw _ (own_m 74 rfl)))) (mvT hZ19 (hw _ (own_m 74 rfl))) (mvT hZ19 (hw _ (own_m 73 rfl))) (by decide) (backOf (W := 0) (rmSAppS l Z a0 hw [] b2 a19 zc fm b19 kk19 [(58 : Int32)] t_ k_ (([] : List Int32) ++ [c0, c1]) h19 n0 f26 hSt f27 Ex19 Fv19 Fc19 Av19 (own_allc (by decide) (fun _ q => nomatch q)) ⟨own_allc ⟨by decide, by decide⟩ (fun _ q => nomatch q), by decide⟩ f21 f22 f23 f24 f25 ge2 gt_ nb_ (Nat.le_of_ble_eq_true rfl)) hZ19 (hw _ (own_m 75 rfl)) (hw _ (own_m 55 rfl)) (by decide) (by decide)) q28a q28c (g := (mkF m 31 #[.val (.ref p0)] [(.ref a19), (.ref b2)])) rfl (by rw [hml]; rfl) (Steps.refl _) (argsL := [(.ref a19)]) (rest := []) (lenOf pd__Ljava_lang_String__Ljava_lang_StringBuilder_ rfl) rfl (by show 2 * 0 + _ ≤ _; exact Nat.le_of_eq rfl) (hb hby d9_31) (fun _ _ => ⟨rfl, e19, (by decide : 4 + 0 ≤ _), (by decide : 28 + 0 ≤ _)⟩)
  dsimp only [Pt.U, Pt.locs, Pt.cells, Pt.slots] at X28 l28 y28 z28 st28 hQ28
  subst l28 y28 z28
  obtain ⟨rfl, Nq28, K28, fv_2, fc_2, fn_2, at_2⟩ := hQ28
  have N28 := Fr.app N16 Nq28
  have KK28 := K19.trans K28 (allS (Or.inr sz2) (allS (Or.inr zz_) all0))
  have f29 := ((((f3.keep K6 (ninS ne2_p0 nin0)).keep K16 (ninS ne2_p0 (ninS nd_ nin0))).ext E19).keep K28 (ninS ne2_p0 (ninS nd_ nin0)))
  obtain ⟨T30, X30, e30, st30⟩ := getF X28 hx hZ19 hown19 (host := "") (Or.inl (hw _ (own_m 46 rfl))) Via.refl rfl f29 (g := (mkF m 35 #[.val (.ref p0)] [(.ref p0), (.ref b2)])) rfl rfl (hb hby d9_35)
  have f31 := (f21.keep K28)
  have f32 := (Nat.le_trans f26 K28.1)
  have f33 := (f27.keep K28 (allS ge2 (allS gt_ all0)))
  obtain ⟨cq34, kq34, q34a, q34b, q34c⟩ := isOf hZ19 e30 f31
  obtain ⟨_, _, ⟨T34, L34, k34, n34⟩, -, X34, ⟨Lc34, hQ34, l34, y34, z34⟩, st34⟩ := X30.virtualBack hx (y := (⟨"java/lang/StringBuilder", "append", "(I)Ljava/lang/StringBuilder;"⟩ : MethodName)) (z := (⟨"java/lang/StringBuilder", "append", "(I)Ljava/lang/StringBuilder;"⟩ : MethodName)) hown19 (mvT hZ19 (hw _ (own_m 121 rfl))) (mvT hZ19 (hw _ (own_m 122 rfl))) (notFace_of_selects (args := #[]) (mvT hZ19 (hw _ (own_m 124 rfl)))) (mvT hZ19 (hw _ (own_m 124 rfl))) (mvT hZ19 (hw _ (own_m 123 rfl))) (by decide) (backOf (W := 0) (rmSAppI5 l Z a0 hw [] b2 pt zc fm wO cO wT cT t_ k_ c0 c1 58 d1 d2 d3 d4 d5 T28.heap n0 f32 hSt f33 hDT f31 fv_2 fc_2 fn_2 at_2 ge2 gt_ nb_ hp0 hlo hhi hd1 hd2 hd3 hd4 hd5) hZ19 (hw _ (own_m 125 rfl)) (hw _ (own_m 55 rfl)) (by decide) (by decide)) q34a q34c (g := (mkF m 38 #[.val (.ref p0)] [(.int pt), (.ref b2)])) rfl (by rw [hml]; rfl) (Steps.refl _) (argsL := [(.int pt)]) (rest := []) (lenOf pd__I_Ljava_lang_StringBuilder_ rfl) rfl (by show 2 * 0 + _ ≤ _; exact Nat.le_of_eq rfl) (hb hby d9_38) (fun _ _ => ⟨rfl, e30, (by decide : 4 + 0 ≤ _), (by decide : 28 + 0 ≤ _)⟩)
  dsimp only [Pt.U, Pt.locs, Pt.cells, Pt.slots] at X34 l34 y34 z34 st34 hQ34
  subst l34 y34 z34
  obtain ⟨rfl, Nq34, K34, fv_3, fc_3, fn_3, at_3⟩ := hQ34
  have N34 := Fr.app N28 Nq34
  have KK34 := KK28.trans K34 (allS (Or.inr sz2) (allS (Or.inr zz_) all0))
  have f35 := (f31.keep K34)
  have f36 := (Nat.le_trans f32 K34.1)
  have f37 := (f33.keep K34 (allS ge2 (allS gt_ all0)))
  obtain ⟨cq38, kq38, q38a, q38b, q38c⟩ := isOf hZ19 rfl f35
  obtain ⟨_, _, ⟨T38, L38, k38, n38⟩, -, X38, ⟨Lc38, hQ38, l38, y38, z38⟩, st38⟩ := X34.virtualBack hx (y := (⟨"java/lang/StringBuilder", "toString", "()Ljava/lang/String;"⟩ : MethodName)) (z := (⟨"java/lang/StringBuilder", "toString", "()Ljava/lang/String;"⟩ : MethodName)) hown19 (mvT hZ19 (hw _ (own_m 143 rfl))) (mvT hZ19 (hw _ (own_m 144 rfl))) (notFace_of_selects (args := #[]) (mvT hZ19 (hw _ (own_m 146 rfl)))) (mvT hZ19 (hw _ (own_m 146 rfl))) (mvT hZ19 (hw _ (own_m 145 rfl))) (by decide) (backOf (W := 0) (rmToS l Z a0 hw [] b2 zc fm t_ k_ [c0, c1, 58, d1, d2, d3, d4, d5] T34.heap n0 f36 hSt f37 f35 fv_3 fc_3 fn_3 at_3 ge2 gt_ nb_ (Nat.le_of_ble_eq_true rfl)) hZ19 (hw _ (own_m 147 rfl)) (hw _ (own_m 55 rfl)) (by decide) (by decide)) q38a q38c (g := (mkF m 41 #[.val (.ref p0)] [(.ref b2)])) rfl (by rw [hml]; rfl) (Steps.refl _) (argsL := []) (rest := []) (lenOf pd___Ljava_lang_String_ rfl) rfl (by show 2 * 0 + _ ≤ _; exact Nat.le_of_eq rfl) (hb hby d9_41) (fun _ _ => ⟨rfl, rfl, (by decide : 4 + 2 ≤ _), (by decide : 28 + 20 ≤ _)⟩)
  dsimp only [Pt.U, Pt.locs, Pt.cells, Pt.slots] at X38 l38 y38 z38 st38 hQ38
  subst l38 y38 z38
  obtain ⟨⟨r_, ts_, ks_, rfl, zr_, zs_, E_, fv_4, fc_4, at_4⟩, Nq38, K38⟩ := hQ38
  have N38 := Fr.app N34 Nq38
  have KK38 := KK34.trans K38 all0
  have f39 := (Nat.le_trans (Nat.le_trans (Nat.le_trans hk19 K28.1) K34.1) K38.1)
  obtain ⟨fs, hr, hrun, hended, hEnd⟩ := X38.leaveW hS19 f39 (v := some (.ref r_)) (fun h => by rw [Bd.returns] at h; cases h)
  refine ⟨_, _, pre17 _ ?_, hrun, hended, _, _, rfl, ?_, hEnd.1, hEnd.2.1, hEnd.2.2.1, hEnd.2.2.2.mono (by decide) (by decide)⟩
  · show Steps p.tables e below (T16.setTop (mkF m 29 #[.val (.ref p0)] [(.ref b2)])) _
    refine st19 _ ?_
    show Steps p.tables e below (T19.setTop (mkF m 31 #[.val (.ref p0)] [(.ref a19), (.ref b2)])) _
    refine st28.trans ?_
    show Steps p.tables e below (T28.setTop (mkF m 34 #[.val (.ref p0)] [(.ref b2)])) _
    refine XS.aloadN X28.here hx rfl (hb hby d9_34) rfl rfl ?_
    show Steps p.tables e below (T28.setTop (mkF m 35 #[.val (.ref p0)] [(.ref p0), (.ref b2)])) _
    refine st30 _ ?_
    show Steps p.tables e below (T30.setTop (mkF m 38 #[.val (.ref p0)] [(.int pt), (.ref b2)])) _
    refine st34.trans ?_
    show Steps p.tables e below (T34.setTop (mkF m 41 #[.val (.ref p0)] [(.ref b2)])) _
    refine st38.trans ?_
    show Steps p.tables e below (T38.setTop (mkF m 44 #[.val (.ref p0)] [(.ref r_)])) _
    jvm_step X38.here [X38.here.top, hx, (hb hby d9_44), X38.method', Bd.returns, Value.isRef, FieldType.isReference]
    first | (intro acts; rw [hr _ acts rfl rfl rfl]) | rw [hr _ _ rfl rfl rfl]
    exact Steps.refl _
  · show Q_rmTS5 Z p0 zc fm wO cO wT cT x ts ks c0 c1 pt d1 d2 d3 d4 d5 h0 n0 _ T38.heap _
    exact ⟨⟨_, _, _, rfl, E_, fv_4, fc_4, at_4⟩, N38, KK38⟩
theorem ef_rmEqS (m : MethodId) (p0 : Addr) : entryFrame m #[(.ref p0), (.ref p0)] 3 = mkF m 0 #[.val (.ref p0), .val (.ref p0), .unset] [] := by first | (simp [entryFrame, mkF, argsToLocals, Value.category]; done) | rfl
theorem d42_0 : decode jdk_42_method_66_code 0 = .ok (.aload_n 0, 1) := by decide +kernel
theorem d42_1 : decode jdk_42_method_66_code 1 = .ok (.aload_n 1, 1) := by decide +kernel
theorem d42_2 : decode jdk_42_method_66_code 2 = .ok (.if_acmp .ne 5, 3) := by decide +kernel
theorem d42_5 : decode jdk_42_method_66_code 5 = .ok (.iconst 1, 1) := by decide +kernel
theorem d42_6 : decode jdk_42_method_66_code 6 = .ok (.ireturn, 1) := by decide +kernel
def Q_rmEqS (Z : State) (p0 : Addr) (zc : Int32) (fm : Value) (h0 : Heap) (n0 : Nat) (v : Option Value) (h : Heap) (L : List Loc) : Prop := v = some (.int (1 : Int32)) ∧ Fr n0 L ∧ h = h0
set_option maxRecDepth 65536 in
set_option maxHeartbeats 40000000 in
theorem rmEqS (l : Launch) (Z : State) (a0 : Array Value) (hw : ∀ d ∈ tables_1, d.before a0 Z = true) (ws : List Jvm.Cond) (p0 : Addr) (zc : Int32) (fm : Value) (h0 : Heap) (n0 : Nat) (Z0 : n0 ≤ h0.size) (hSt : own_St Z zc fm) (Ol : own_Old Z n0 h0) :
    MetFree l (⟨"java/lang/String", "equals", "(Ljava/lang/Object;)Z"⟩ : MethodName) (head1 (Jvm.Cond.code (⟨"java/lang/String", "equals", "(Ljava/lang/Object;)Z"⟩ : MethodName) jdk_42_method_66_code 3 (some .boolean) :: ws) ({ frames := 0, cells := 0, slots := 0, locals := 0 } : Room)) (fun a U => a = #[(.ref p0), (.ref p0)] ∧ Z.Warmed39 U.vm ∧ U.heap = h0) (fun _ _ _ _ _ => True) (fun _ U o U' => ∃ v L, o = .returned v ∧ Q_rmEqS Z p0 zc fm h0 n0 v U'.heap L ∧ FrameEnd U o U' L ({ frames := 0, cells := 0, slots := 0, locals := 0 } : Room).cells ({ frames := 0, cells := 0, slots := 0, locals := 0 } : Room).slots) := by
  refine MetFree.of_bodySF (plainFor_of_name pn_java_lang_String) hisR ?_
  intro p e s m args below meth c s₁ Bd hml0 hP hK
  obtain ⟨rfl, hZ, hh⟩ := hP
  have hx := Bd.exec
  have hby := Bd.bytes
  have hml : c.maxLocals = 3 := hml0
  have hown : s.vm.findClass "java/lang/String" = some m.cls := findClass_of_methodNamed Bd.named
  have hnm := (name_of_methodNamed Bd.named Bd.method).1
  have hZo := hZ
  have howno := hown
  have X0 : Stand p l e ({ frames := 0, cells := 0, slots := 0, locals := 0 } : Room) s m #[(.ref p0), (.ref p0)] below meth c s₁ [] 0 0 := Stand.of_body Bd
  have e0 : s₁.heap = h0 := by rw [← hh, Bd.state]; rfl
  have N0 := Fr.nil n0
  have pre0 : ∀ t, Steps p.tables e below (s₁.setTop (mkF m 0 #[.val (.ref p0), .val (.ref p0), .unset] [])) t → Steps p.tables e below (s₁.setTop (entryFrame m #[(.ref p0), (.ref p0)] 3)) t := fun t k => castTop (ef_rmEqS m p0 ) k
  obtain ⟨fs, hr, hrun, hended, hW, hsame⟩ := X0.leave (v := some (.int (1 : Int32))) (fun h => by rw [Bd.returns] at h; cases h)
  refine ⟨_, _, pre0 _ ?_, hrun, hended, _, _, rfl, ?_, ⟨_, rfl⟩, hW, hsame.mono (by decide) (by decide)⟩
  · show Steps p.tables e below (s₁.setTop (mkF m 0 #[.val (.ref p0), .val (.ref p0), .unset] [])) _
    refine XS.aloadN X0.here hx rfl (hb hby d42_0) rfl rfl ?_
    refine XS.aloadN X0.here hx rfl (hb hby d42_1) rfl rfl ?_
    show Steps p.tables e below (s₁.setTop (mkF m 2 #[.val (.ref p0), .val (.ref p0), .unset] [(.ref p0), (.ref p0)])) _
    refine Jvm.RoadKit.acmp (g := (mkF m 2 #[.val (.ref p0), .val (.ref p0), .unset] [(.ref p0), (.ref p0)])) X0 hx rfl rfl rfl (pc0 := 2) (pc' := 5) (same := true) rfl (hb hby d42_2) rfl (decide_eq_true rfl) (by decide) (by decide) ?_
    show Steps p.tables e below (s₁.setTop (mkF m 5 #[.val (.ref p0), .val (.ref p0), .unset] [])) _
    refine XS.iconst X0.here hx rfl (hb hby d42_5) ?_
    show Steps p.tables e below (s₁.setTop (mkF m 6 #[.val (.ref p0), .val (.ref p0), .unset] [(.int (1 : Int32))])) _
    exact retN X0 hx (t := .boolean) Bd.returns (by simp) (hb hby d42_6) hr
  · show Q_rmEqS Z p0 zc fm h0 n0 _ s₁.heap _
    rw [e0]
    exact ⟨rfl, N0, rfl⟩
theorem ef_rm0 (m : MethodId) (p0 : Int32) (p1 : Int32) (p2 : Int32) (p3 : Int32) : entryFrame m #[(.int p0), (.int p1), (.int p2), (.int p3)] maxLocals = mkF m 0 #[.val (.int p0), .val (.int p1), .val (.int p2), .val (.int p3), .unset, .unset, .unset, .unset, .unset, .unset] [] := by first | (simp [entryFrame, mkF, argsToLocals, Value.category, maxLocals]; done) | rfl
theorem pd___C_V : parseMethodDescriptor "([C)V" = some ⟨[(.array .char)], none⟩ := by decide +kernel
theorem pd__Ljava_lang_String_I_V : parseMethodDescriptor "(Ljava/lang/String;I)V" = some ⟨[(.object "java/lang/String"), .int], none⟩ := by decide +kernel
theorem pd__Ljava_lang_Object__Z : parseMethodDescriptor "(Ljava/lang/Object;)Z" = some ⟨[(.object "java/lang/Object")], some .boolean⟩ := by decide +kernel
theorem pd__Ljava_lang_String_III_Z : parseMethodDescriptor "(Ljava/lang/String;III)Z" = some ⟨[(.object "java/lang/String"), .int, .int, .int], some .boolean⟩ := by decide +kernel
def Q_rm0 (Z : State) (p0 : Int32) (p1 : Int32) (p2 : Int32) (p3 : Int32) (zc : Int32) (fm : Value) (wO : Addr) (cO : Cell) (wT : Addr) (cT : Cell) (h0 : Heap) (n0 : Nat) (v : Option Value) (h : Heap) (L : List Loc) : Prop := v = some (.int (1 : Int32)) ∧ Fr n0 L
set_option maxRecDepth 65536 in
set_option maxHeartbeats 40000000 in
theorem rm0 (l : Launch) (Z : State) (a0 : Array Value) (hw : ∀ d ∈ tables_1, d.before a0 Z = true) (ws : List Jvm.Cond) (p0 : Int32) (p1 : Int32) (p2 : Int32) (p3 : Int32) (zc : Int32) (fm : Value) (wO : Addr) (cO : Cell) (wT : Addr) (cT : Cell) (h0 : Heap) (n0 : Nat) (Z0 : n0 ≤ h0.size) (hSt : own_St Z zc fm) (Ol : own_Old Z n0 h0) (hDT : own_DT Z wO cO wT cT) (hheld : Jvm.Lit.constHeld Z "com/example/kikao/kikao/Domain" 140) (hcw : Jvm.Lit.compactW.before a0 Z = true) :
    MetFree l x (head1 (Jvm.Cond.code x code maxLocals ret :: ws) room_1) (fun a U => a = #[(.int p0), (.int p1), (.int p2), (.int p3)] ∧ Z.Warmed39 U.vm ∧ U.heap = h0 ∧ U.vm.interned = Z.vm.interned) (fun _ _ _ _ _ => True) (fun _ U o U' => ∃ v L, o = .returned v ∧ Q_rm0 Z p0 p1 p2 p3 zc fm wO cO wT cT h0 n0 v U'.heap L ∧ ReturnedEndW U o U' L room_1.cells room_1.slots) := by
  refine MetFree.of_bodySF (plainFor_of_name pn_com_example_kikao_kikao_DomainToStringPinLaw) hisR ?_
  intro p e s m args below meth c s₁ Bd hml0 hP hK
  obtain ⟨rfl, hZ, hh, hI⟩ := hP
  have hx := Bd.exec
  have hby := Bd.bytes
  have hml : c.maxLocals = 10 := hml0
  have hown : s.vm.findClass "com/example/kikao/kikao/DomainToStringPinLaw" = some m.cls := findClass_of_methodNamed Bd.named
  have hnm := (name_of_methodNamed Bd.named Bd.method).1
  have hZo := hZ
  have howno := hown
  have X0 : Stand p l e room_1 s m #[(.int p0), (.int p1), (.int p2), (.int p3)] below meth c s₁ [] 0 0 := Stand.of_body Bd
  have e0 : s₁.heap = h0 := by rw [← hh, Bd.state]; rfl
  have N0 := Fr.nil n0
  have pre0 : ∀ t, Steps p.tables e below (s₁.setTop (mkF m 0 #[.val (.int p0), .val (.int p1), .val (.int p2), .val (.int p3), .unset, .unset, .unset, .unset, .unset, .unset] [])) t → Steps p.tables e below (s₁.setTop (entryFrame m #[(.int p0), (.int p1), (.int p2), (.int p3)] maxLocals)) t := fun t k => castTop (ef_rm0 m p0 p1 p2 p3 ) k
  have pre1 : ∀ t, Steps p.tables e below (s₁.setTop (mkF m 8 #[.val (.int p0), .val (.int p1), .val (.int p2), .val (.int p3), .val (.int ((p0 &&& (255 : Int32)).toUInt32.toUInt16.toUInt32.toInt32)), .unset, .unset, .unset, .unset, .unset] [])) t → Steps p.tables e below (s₁.setTop (entryFrame m #[(.int p0), (.int p1), (.int p2), (.int p3)] maxLocals)) t := fun t kt => pre0 t (by
    show Steps p.tables e below (s₁.setTop (mkF m 0 #[.val (.int p0), .val (.int p1), .val (.int p2), .val (.int p3), .unset, .unset, .unset, .unset, .unset, .unset] [])) _
    refine XS.iloadN X0.here hx rfl (hb hby at_0) rfl  ?_
    refine XS.sipush X0.here hx rfl (hb hby at_1) ?_
    refine XS.iand X0.here hx rfl (hb hby at_4) rfl ?_
    refine XS.i2c X0.here hx rfl (hb hby at_5) rfl ?_
    refine XS.istore X0.here hx rfl (hb hby at_6) rfl (l' := #[.val (.int p0), .val (.int p1), .val (.int p2), .val (.int p3), .val (.int ((p0 &&& (255 : Int32)).toUInt32.toUInt16.toUInt32.toInt32)), .unset, .unset, .unset, .unset, .unset]) rfl ?_
    exact kt)
  obtain ⟨c0, hc0⟩ : ∃ z, z = ((p0 &&& (255 : Int32)).toUInt32.toUInt16.toUInt32.toInt32) := ⟨_, rfl⟩
  rw [← hc0] at pre1
  have gc0 : 0 ≤ c0.toInt ∧ c0.toInt < 256 := by rw [hc0]; exact own_msk p0
  have pre2 : ∀ t, Steps p.tables e below (s₁.setTop (mkF m 16 #[.val (.int p0), .val (.int p1), .val (.int p2), .val (.int p3), .val (.int c0), .val (.int ((p1 &&& (255 : Int32)).toUInt32.toUInt16.toUInt32.toInt32)), .unset, .unset, .unset, .unset] [])) t → Steps p.tables e below (s₁.setTop (entryFrame m #[(.int p0), (.int p1), (.int p2), (.int p3)] maxLocals)) t := fun t kt => pre1 t (by
    show Steps p.tables e below (s₁.setTop (mkF m 8 #[.val (.int p0), .val (.int p1), .val (.int p2), .val (.int p3), .val (.int c0), .unset, .unset, .unset, .unset, .unset] [])) _
    refine XS.iloadN X0.here hx rfl (hb hby at_8) rfl  ?_
    refine XS.sipush X0.here hx rfl (hb hby at_9) ?_
    refine XS.iand X0.here hx rfl (hb hby at_12) rfl ?_
    refine XS.i2c X0.here hx rfl (hb hby at_13) rfl ?_
    refine XS.istore X0.here hx rfl (hb hby at_14) rfl (l' := #[.val (.int p0), .val (.int p1), .val (.int p2), .val (.int p3), .val (.int c0), .val (.int ((p1 &&& (255 : Int32)).toUInt32.toUInt16.toUInt32.toInt32)), .unset, .unset, .unset, .unset]) rfl ?_
    exact kt)
  obtain ⟨c1, hc1⟩ : ∃ z, z = ((p1 &&& (255 : Int32)).toUInt32.toUInt16.toUInt32.toInt32) := ⟨_, rfl⟩
  rw [← hc1] at pre2
  have gc1 : 0 ≤ c1.toInt ∧ c1.toInt < 256 := by rw [hc1]; exact own_msk p1
  obtain ⟨T3, h3, X3, e3, E3, A3, D3, -, st3⟩ := newO X0 hx hZ hown (hw _ (own_m 0 rfl)) (hw _ (own_m 1 rfl)) (hw _ (own_m 2 rfl)) e0 (g := (mkF m 16 #[.val (.int p0), .val (.int p1), .val (.int p2), .val (.int p3), .val (.int c0), .val (.int c1), .unset, .unset, .unset, .unset] [])) rfl (hb hby at_16) (by decide) (by decide)
  obtain ⟨b3, g3⟩ : ∃ z, z = h0.size := ⟨_, rfl⟩
  rw [← g3] at A3 D3 st3
  have ge3 : n0 ≤ b3 := Nat.le_trans Z0 (Nat.le_of_eq g3.symm)
  have F3_coder : Fld Z h3 b3 "java/lang/String" "coder" "B" (.int (0 : Int32)) := D3 (Or.inr (hw _ (own_m 27 rfl))) (ty := .byte) (by decide)
  have F3_value : Fld Z h3 b3 "java/lang/String" "value" "[B" .null := D3 (Or.inr (hw _ (own_m 29 rfl))) (ty := (.array .byte)) (by decide)
  obtain ⟨T4, h4, k4, X4, e4, E4, A4, st4⟩ := newP X3 hx hZ (hw _ (own_m 3 rfl)) e3 (g := (mkF m 21 #[.val (.int p0), .val (.int p1), .val (.int p2), .val (.int p3), .val (.int c0), .val (.int c1), .unset, .unset, .unset, .unset] [(.int (2 : Int32)), (.ref b3), (.ref b3)])) rfl (hb hby at_21) rfl (by decide) (cap := 2) (by decide) (by decide) (by decide) (by decide)
  obtain ⟨b4, g4⟩ : ∃ z, z = h3.size := ⟨_, rfl⟩
  rw [← g4] at A4 st4
  have ne4_b3 : b3 ≠ b4 := Nat.ne_of_lt (Nat.lt_of_lt_of_le A3.lt (Nat.le_of_eq g4.symm))
  have f5 := (Nat.le_trans Z0 E3.1)
  have ge4 : n0 ≤ b4 := Nat.le_trans f5 (Nat.le_of_eq g4.symm)
  have V4 : Arv Z h4 b4 k4 .char (2 : Int32) [(.int (0 : Int32)), (.int (0 : Int32))] (.int (0 : Int32)) := (Arv.new A4 (by decide)).pad (pad_rep [] (.int (0 : Int32)) 2)
  obtain ⟨cl6, Ar6, q6, S6, N6, H6, G6⟩ := id V4
  have hin6 : ¬ ((0 : Int32) < 0 ∨ cl6.slots.size ≤ ((0 : Int32)).toNatClampNeg) := inb_of S6 ⟨by decide, by decide⟩
  obtain ⟨T7, h7, X7, e7, W7, st7⟩ := stC X4 hx hZ e4 Ar6 (j := (0 : Int32)) hin6 (g := (mkF m 27 #[.val (.int p0), .val (.int p1), .val (.int p2), .val (.int p3), .val (.int c0), .val (.int c1), .unset, .unset, .unset, .unset] [(.int c0), (.int (0 : Int32)), (.ref b4), (.ref b4), (.ref b3), (.ref b3)])) rfl rfl (hb hby at_27)
  have N7 := Fr.snoc X7 N0 ge4
  have V7 : Arv Z h7 b4 k4 .char (2 : Int32) [(.int c0.toUInt32.toUInt16.toUInt32.toInt32), (.int (0 : Int32))] (.int (0 : Int32)) := Arv.set Ar6 q6 S6 N6 H6 G6 (fits_nar_char _) W7 0 rfl (Nat.le_of_ble_eq_true rfl)
  rw [own_cc gc0] at V7
  obtain ⟨cl8, Ar8, q8, S8, N8, H8, G8⟩ := id V7
  have hin8 : ¬ ((1 : Int32) < 0 ∨ cl8.slots.size ≤ ((1 : Int32)).toNatClampNeg) := inb_of S8 ⟨by decide, by decide⟩
  obtain ⟨T9, h9, X9, e9, W9, st9⟩ := stC X7 hx hZ e7 Ar8 (j := (1 : Int32)) hin8 (g := (mkF m 32 #[.val (.int p0), .val (.int p1), .val (.int p2), .val (.int p3), .val (.int c0), .val (.int c1), .unset, .unset, .unset, .unset] [(.int c1), (.int (1 : Int32)), (.ref b4), (.ref b4), (.ref b3), (.ref b3)])) rfl rfl (hb hby at_32)
  have N9 := Fr.snoc X9 N7 ge4
  have V9 : Arv Z h9 b4 k4 .char (2 : Int32) [(.int c0), (.int c1.toUInt32.toUInt16.toUInt32.toInt32)] (.int (0 : Int32)) := Arv.set Ar8 q8 S8 N8 H8 G8 (fits_nar_char _) W9 1 rfl (Nat.le_of_ble_eq_true rfl)
  rw [own_cc gc1] at V9
  have f10 := (((A3.ext E4).wr W7).wr W9)
  have f11 := (((F3_value.ext E4).other W7 (Or.inl ne4_b3)).other W9 (Or.inl ne4_b3))
  have f12 := (((F3_coder.ext E4).other W7 (Or.inl ne4_b3)).other W9 (Or.inl ne4_b3))
  have f13 := (Nat.le_trans (Nat.le_trans (Nat.le_trans f5 E4.1) (Keep.of_wr W7).1) (Keep.of_wr W9).1)
  have f14 := ((((Ol.ext E3).ext E4).wr W7 ge4).wr W9 ge4)
  obtain ⟨_, _, ⟨T15, L15, k15, n15⟩, -, X15, ⟨Lc15, hQ15, l15, y15, z15⟩, st15⟩ := X9.specialBack hx (y := (⟨"java/lang/String", "<init>", "([C)V"⟩ : MethodName)) rfl hown (mvT hZ (hw _ (own_m 4 rfl))) (mvT hZ (hw _ (own_m 5 rfl))) (mvT hZ (hw _ (own_m 6 rfl))) (by decide) (backOf (W := 1) (rmNew2 l Z a0 hw [] b3 b4 zc fm k4 c0 c1 h9 n0 f13 hSt f14 f10 f11 f12 ge3 V9 (own_allc (own_r8 gc0).1 (own_allc (own_r8 gc1).1 (fun _ q => nomatch q))) (own_r8 gc0).2 (own_r8 gc1).2) hZ (hw _ (own_m 6 rfl)) (hw _ (own_m 2 rfl)) (by decide) (by decide)) (g := (mkF m 33 #[.val (.int p0), .val (.int p1), .val (.int p2), .val (.int p3), .val (.int c0), .val (.int c1), .unset, .unset, .unset, .unset] [(.ref b4), (.ref b3), (.ref b3)])) rfl (by rw [hml]; rfl) (Steps.refl _) (a := b3) (argsL := [(.ref b4)]) (rest := [(.ref b3)]) (lenOf pd___C_V rfl) rfl (by show 2 * 0 + _ ≤ _; exact Nat.le_of_eq rfl) (hb hby at_33) (fun _ _ => ⟨rfl, e9, (by decide : 2 + 1 ≤ _), (by decide : 6 + 2 ≤ _)⟩)
  dsimp only [Pt.U, Pt.locs, Pt.cells, Pt.slots] at X15 l15 y15 z15 st15 hQ15
  subst l15 y15 z15
  obtain ⟨rfl, Nq15, K15, hSh, hNw⟩ := hQ15
  have N15 := Fr.app N9 Nq15
  obtain ⟨th, kh, cd_, z_, vs_, Eh, Fhv, Fhc, Ah, hcod, hchh⟩ := hSh
  obtain ⟨rfl, rfl, rfl, hleh⟩ := hcod.resolve_right (fun q => hNw th cd_ Fhc q.1)
  have pre17 : ∀ t, Steps p.tables e below (T15.setTop (mkF m 41 #[.val (.int p0), .val (.int p1), .val (.int p2), .val (.int p3), .val (.int c0), .val (.int c1), .val (.ref b3), .unset, .unset, .unset] [(.int (p3 &&& (3 : Int32)))])) t → Steps p.tables e below (s₁.setTop (entryFrame m #[(.int p0), (.int p1), (.int p2), (.int p3)] maxLocals)) t := fun t kt => pre2 t (by
    show Steps p.tables e below (s₁.setTop (mkF m 16 #[.val (.int p0), .val (.int p1), .val (.int p2), .val (.int p3), .val (.int c0), .val (.int c1), .unset, .unset, .unset, .unset] [])) _
    refine st3 _ ?_
    show Steps p.tables e below (T3.setTop (mkF m 19 #[.val (.int p0), .val (.int p1), .val (.int p2), .val (.int p3), .val (.int c0), .val (.int c1), .unset, .unset, .unset, .unset] [(.ref b3)])) _
    refine XS.dup X3.here hx rfl (hb hby at_19) rfl rfl ?_
    refine XS.iconst X3.here hx rfl (hb hby at_20) ?_
    show Steps p.tables e below (T3.setTop (mkF m 21 #[.val (.int p0), .val (.int p1), .val (.int p2), .val (.int p3), .val (.int c0), .val (.int c1), .unset, .unset, .unset, .unset] [(.int (2 : Int32)), (.ref b3), (.ref b3)])) _
    refine st4 _ ?_
    show Steps p.tables e below (T4.setTop (mkF m 23 #[.val (.int p0), .val (.int p1), .val (.int p2), .val (.int p3), .val (.int c0), .val (.int c1), .unset, .unset, .unset, .unset] [(.ref b4), (.ref b3), (.ref b3)])) _
    refine XS.dup X4.here hx rfl (hb hby at_23) rfl rfl ?_
    refine XS.iconst X4.here hx rfl (hb hby at_24) ?_
    refine XS.iload X4.here hx rfl (hb hby at_25) rfl  ?_
    show Steps p.tables e below (T4.setTop (mkF m 27 #[.val (.int p0), .val (.int p1), .val (.int p2), .val (.int p3), .val (.int c0), .val (.int c1), .unset, .unset, .unset, .unset] [(.int c0), (.int (0 : Int32)), (.ref b4), (.ref b4), (.ref b3), (.ref b3)])) _
    refine st7 _ ?_
    show Steps p.tables e below (T7.setTop (mkF m 28 #[.val (.int p0), .val (.int p1), .val (.int p2), .val (.int p3), .val (.int c0), .val (.int c1), .unset, .unset, .unset, .unset] [(.ref b4), (.ref b3), (.ref b3)])) _
    refine XS.dup X7.here hx rfl (hb hby at_28) rfl rfl ?_
    refine XS.iconst X7.here hx rfl (hb hby at_29) ?_
    refine XS.iload X7.here hx rfl (hb hby at_30) rfl  ?_
    show Steps p.tables e below (T7.setTop (mkF m 32 #[.val (.int p0), .val (.int p1), .val (.int p2), .val (.int p3), .val (.int c0), .val (.int c1), .unset, .unset, .unset, .unset] [(.int c1), (.int (1 : Int32)), (.ref b4), (.ref b4), (.ref b3), (.ref b3)])) _
    refine st9 _ ?_
    show Steps p.tables e below (T9.setTop (mkF m 33 #[.val (.int p0), .val (.int p1), .val (.int p2), .val (.int p3), .val (.int c0), .val (.int c1), .unset, .unset, .unset, .unset] [(.ref b4), (.ref b3), (.ref b3)])) _
    refine st15.trans ?_
    show Steps p.tables e below (T15.setTop (mkF m 36 #[.val (.int p0), .val (.int p1), .val (.int p2), .val (.int p3), .val (.int c0), .val (.int c1), .unset, .unset, .unset, .unset] [(.ref b3)])) _
    refine XS.astore X15.here hx rfl (hb hby at_36) rfl rfl (l' := #[.val (.int p0), .val (.int p1), .val (.int p2), .val (.int p3), .val (.int c0), .val (.int c1), .val (.ref b3), .unset, .unset, .unset]) rfl ?_
    refine XS.iloadN X15.here hx rfl (hb hby at_38) rfl  ?_
    refine XS.iconst X15.here hx rfl (hb hby at_39) ?_
    refine XS.iand X15.here hx rfl (hb hby at_40) rfl ?_
    exact kt)
  by_cases hc41_16 : (p3 &&& (3 : Int32)) = (0 : Int32)
  · have f18 := (V9.keep K15 (ninS (Ne.symm ne4_b3) nin0))
    obtain ⟨T19, h19, X19, e19, E19, A19, D19, -, st19⟩ := newO X15 hx hZ hown (hw _ (own_m 32 rfl)) (hw _ (own_m 33 rfl)) (hw _ (own_m 34 rfl)) rfl (g := (mkF m 57 #[.val (.int p0), .val (.int p1), .val (.int p2), .val (.int p3), .val (.int c0), .val (.int c1), .val (.ref b3), .val (.int (-1 : Int32)), .unset, .unset] [])) rfl (hb hby at_57) (by decide) (by decide)
    obtain ⟨b19, g19⟩ : ∃ z, z = T15.heap.size := ⟨_, rfl⟩
    rw [← g19] at A19 D19 st19
    have ne19_b3 : b3 ≠ b19 := Nat.ne_of_lt (Nat.lt_of_lt_of_le Eh.lt (Nat.le_of_eq g19.symm))
    have ne19_b4 : b4 ≠ b19 := Nat.ne_of_lt (Nat.lt_of_lt_of_le f18.lt (Nat.le_of_eq g19.symm))
    have ne19_th : th ≠ b19 := Nat.ne_of_lt (Nat.lt_of_lt_of_le Ah.lt (Nat.le_of_eq g19.symm))
    have f20 := (Nat.le_trans f13 K15.1)
    have ge19 : n0 ≤ b19 := Nat.le_trans f20 (Nat.le_of_eq g19.symm)
    have F19_host : Fld Z h19 b19 "com/example/kikao/kikao/Domain" "host" "Ljava/lang/String;" .null := D19 (Or.inr (hw _ (own_m 45 rfl))) (ty := (.object "java/lang/String")) (by decide)
    have F19_port : Fld Z h19 b19 "com/example/kikao/kikao/Domain" "port" "I" (.int (0 : Int32)) := D19 (Or.inr (hw _ (own_m 47 rfl))) (ty := .int) (by decide)
    have f21 := (Nat.le_trans f20 E19.1)
    obtain ⟨_, _, ⟨T22, L22, k22, n22⟩, -, X22, ⟨Lc22, hQ22, l22, y22, z22⟩, st22⟩ := X19.specialBack hx (y := (⟨"com/example/kikao/kikao/Domain", "<init>", "(Ljava/lang/String;I)V"⟩ : MethodName)) rfl hown (mvT hZ (hw _ (own_m 35 rfl))) (mvT hZ (hw _ (own_m 36 rfl))) (mvT hZ (hw _ (own_m 37 rfl))) (by decide) (backOf (W := 1) (rmDom l Z a0 hw [] b19 b3 (-1 : Int32) h19 n0 f21 A19 F19_host F19_port ge19) hZ (hw _ (own_m 37 rfl)) (hw _ (own_m 34 rfl)) (by decide) (by decide)) (g := (mkF m 65 #[.val (.int p0), .val (.int p1), .val (.int p2), .val (.int p3), .val (.int c0), .val (.int c1), .val (.ref b3), .val (.int (-1 : Int32)), .unset, .unset] [(.int (-1 : Int32)), (.ref b3), (.ref b19), (.ref b19)])) rfl (by rw [hml]; rfl) (Steps.refl _) (a := b19) (argsL := [(.ref b3), (.int (-1 : Int32))]) (rest := [(.ref b19)]) (lenOf pd__Ljava_lang_String_I_V rfl) rfl (by show 2 * 0 + _ ≤ _; exact Nat.le_of_eq rfl) (hb hby at_65) (fun _ _ => ⟨rfl, e19, (by decide : 4 + 0 ≤ _), (by decide : 10 + 0 ≤ _)⟩)
    dsimp only [Pt.U, Pt.locs, Pt.cells, Pt.slots] at X22 l22 y22 z22 st22 hQ22
    subst l22 y22 z22
    obtain ⟨rfl, Nq22, K22, Fdh, Fdp⟩ := hQ22
    have N22 := Fr.app N15 Nq22
    have f23 := (Nat.le_trans f21 K22.1)
    have f25 := (A19.keep K22)
    obtain ⟨cq24, kq24, q24a, q24b, q24c⟩ := isOf hZ rfl f25
    obtain ⟨_, _, ⟨T24, L24, k24, n24⟩, -, X24, ⟨Lc24, hQ24, l24, y24, z24⟩, st24⟩ := X22.virtualBack hx (y := (⟨"com/example/kikao/kikao/Domain", "toString", "()Ljava/lang/String;"⟩ : MethodName)) (z := (⟨"com/example/kikao/kikao/Domain", "toString", "()Ljava/lang/String;"⟩ : MethodName)) hown (mvT hZ (hw _ (own_m 48 rfl))) (mvT hZ (hw _ (own_m 49 rfl))) (notFace_of_selects (args := #[]) (mvT hZ (hw _ (own_m 51 rfl)))) (mvT hZ (hw _ (own_m 51 rfl))) (mvT hZ (hw _ (own_m 50 rfl))) (by decide) (backOf (W := 0) (rmTS0 l Z a0 hw [] b19 b3 T22.heap n0 f23 Fdh Fdp) hZ (hw _ (own_m 52 rfl)) (hw _ (own_m 34 rfl)) (by decide) (by decide)) q24a q24c (g := (mkF m 68 #[.val (.int p0), .val (.int p1), .val (.int p2), .val (.int p3), .val (.int c0), .val (.int c1), .val (.ref b3), .val (.int (-1 : Int32)), .unset, .unset] [(.ref b19)])) rfl (by rw [hml]; rfl) (Steps.refl _) (argsL := []) (rest := []) (lenOf pd___Ljava_lang_String_ rfl) rfl (by show 2 * 0 + _ ≤ _; exact Nat.le_of_eq rfl) (hb hby at_68) (fun _ _ => ⟨rfl, rfl, (by decide : 4 + 0 ≤ _), (by decide : 10 + 0 ≤ _)⟩)
    dsimp only [Pt.U, Pt.locs, Pt.cells, Pt.slots] at X24 l24 y24 z24 st24 hQ24
    subst l24 y24 z24
    obtain ⟨rfl, Nq24, e24⟩ := hQ24
    have N24 := Fr.app N22 Nq24
    have f26 := (((f14.keep K15 (allS ge3 all0)).ext E19).keep K22 (allS ge19 all0))
    have f28 := ((Eh.ext E19).keep K22)
    obtain ⟨cq27, kq27, q27a, q27b, q27c⟩ := isOf hZ e24 f28
    obtain ⟨_, _, ⟨T27, L27, k27, n27⟩, -, X27, ⟨Lc27, hQ27, l27, y27, z27⟩, st27⟩ := X24.virtualBack hx (y := (⟨"java/lang/String", "equals", "(Ljava/lang/Object;)Z"⟩ : MethodName)) (z := (⟨"java/lang/String", "equals", "(Ljava/lang/Object;)Z"⟩ : MethodName)) hown (mvT hZ (hw _ (own_m 215 rfl))) (mvT hZ (hw _ (own_m 216 rfl))) (notFace_of_selects (args := #[]) (mvT hZ (hw _ (own_m 218 rfl)))) (mvT hZ (hw _ (own_m 218 rfl))) (mvT hZ (hw _ (own_m 217 rfl))) (by decide) (backOf (W := 0) (rmEqS l Z a0 hw [] b3 zc fm  T22.heap n0 f23 hSt f26 ) hZ (hw _ (own_m 219 rfl)) (hw _ (own_m 2 rfl)) (by decide) (by decide)) q27a q27c (g := (mkF m 83 #[.val (.int p0), .val (.int p1), .val (.int p2), .val (.int p3), .val (.int c0), .val (.int c1), .val (.ref b3), .val (.int (-1 : Int32)), .val (.ref b3), .unset] [(.ref b3), (.ref b3)])) rfl (by rw [hml]; rfl) (Steps.refl _) (argsL := [(.ref b3)]) (rest := []) (lenOf pd__Ljava_lang_Object__Z rfl) rfl (by show 2 * 0 + _ ≤ _; exact Nat.le_of_eq rfl) (hb hby at_83) (fun _ _ => ⟨rfl, e24, (by decide : 4 + 0 ≤ _), (by decide : 10 + 0 ≤ _)⟩)
    dsimp only [Pt.U, Pt.locs, Pt.cells, Pt.slots] at X27 l27 y27 z27 st27 hQ27
    subst l27 y27 z27
    obtain ⟨rfl, Nq27, e27⟩ := hQ27
    have N27 := Fr.app N24 Nq27
    obtain ⟨fs, hr, hrun, hended, hW, hsame⟩ := X27.leave (v := some (.int (1 : Int32))) (fun h => by rw [Bd.returns] at h; cases h)
    refine ⟨_, _, pre17 _ ?_, hrun, hended, _, _, rfl, ?_, ReturnedEndW.of_narrow ⟨_, rfl⟩ hW (hsame.mono (by decide) (by decide))⟩
    · show Steps p.tables e below (T15.setTop (mkF m 41 #[.val (.int p0), .val (.int p1), .val (.int p2), .val (.int p3), .val (.int c0), .val (.int c1), .val (.ref b3), .unset, .unset, .unset] [(.int (p3 &&& (3 : Int32)))])) _
      refine XS.ifNo X15.here hx rfl (hb hby at_41) rfl ((if0 _ _).trans (teq hc41_16).2) ?_
      refine XS.iconst X15.here hx rfl (hb hby at_44) ?_
      refine XS.goto X15.here hx rfl (pc0 := 45) (pc' := 55) rfl (hb hby at_45) (by decide) (by decide) ?_
      refine XS.istore X15.here hx rfl (hb hby at_55) rfl (l' := #[.val (.int p0), .val (.int p1), .val (.int p2), .val (.int p3), .val (.int c0), .val (.int c1), .val (.ref b3), .val (.int (-1 : Int32)), .unset, .unset]) rfl ?_
      show Steps p.tables e below (T15.setTop (mkF m 57 #[.val (.int p0), .val (.int p1), .val (.int p2), .val (.int p3), .val (.int c0), .val (.int c1), .val (.ref b3), .val (.int (-1 : Int32)), .unset, .unset] [])) _
      refine st19 _ ?_
      show Steps p.tables e below (T19.setTop (mkF m 60 #[.val (.int p0), .val (.int p1), .val (.int p2), .val (.int p3), .val (.int c0), .val (.int c1), .val (.ref b3), .val (.int (-1 : Int32)), .unset, .unset] [(.ref b19)])) _
      refine XS.dup X19.here hx rfl (hb hby at_60) rfl rfl ?_
      refine XS.aload X19.here hx rfl (hb hby at_61) rfl rfl ?_
      refine XS.iload X19.here hx rfl (hb hby at_63) rfl  ?_
      show Steps p.tables e below (T19.setTop (mkF m 65 #[.val (.int p0), .val (.int p1), .val (.int p2), .val (.int p3), .val (.int c0), .val (.int c1), .val (.ref b3), .val (.int (-1 : Int32)), .unset, .unset] [(.int (-1 : Int32)), (.ref b3), (.ref b19), (.ref b19)])) _
      refine st22.trans ?_
      show Steps p.tables e below (T22.setTop (mkF m 68 #[.val (.int p0), .val (.int p1), .val (.int p2), .val (.int p3), .val (.int c0), .val (.int c1), .val (.ref b3), .val (.int (-1 : Int32)), .unset, .unset] [(.ref b19)])) _
      refine st24.trans ?_
      show Steps p.tables e below (T24.setTop (mkF m 71 #[.val (.int p0), .val (.int p1), .val (.int p2), .val (.int p3), .val (.int c0), .val (.int c1), .val (.ref b3), .val (.int (-1 : Int32)), .unset, .unset] [(.ref b3)])) _
      refine XS.astore X24.here hx rfl (hb hby at_71) rfl rfl (l' := #[.val (.int p0), .val (.int p1), .val (.int p2), .val (.int p3), .val (.int c0), .val (.int c1), .val (.ref b3), .val (.int (-1 : Int32)), .val (.ref b3), .unset]) rfl ?_
      refine XS.iload X24.here hx rfl (hb hby at_73) rfl  ?_
      refine XS.iconst X24.here hx rfl (hb hby at_75) ?_
      show Steps p.tables e below (T24.setTop (mkF m 76 #[.val (.int p0), .val (.int p1), .val (.int p2), .val (.int p3), .val (.int c0), .val (.int c1), .val (.ref b3), .val (.int (-1 : Int32)), .val (.ref b3), .unset] [(.int (-1 : Int32)), (.int (-1 : Int32))])) _
      refine XS.icmpNo X24.here hx rfl (hb hby at_76) rfl (teq (by decide : (-1 : Int32) = (-1 : Int32))).2 ?_
      refine XS.aload X24.here hx rfl (hb hby at_79) rfl rfl ?_
      refine XS.aload X24.here hx rfl (hb hby at_81) rfl rfl ?_
      show Steps p.tables e below (T24.setTop (mkF m 83 #[.val (.int p0), .val (.int p1), .val (.int p2), .val (.int p3), .val (.int c0), .val (.int c1), .val (.ref b3), .val (.int (-1 : Int32)), .val (.ref b3), .unset] [(.ref b3), (.ref b3)])) _
      refine st27.trans ?_
      show Steps p.tables e below (T27.setTop (mkF m 86 #[.val (.int p0), .val (.int p1), .val (.int p2), .val (.int p3), .val (.int c0), .val (.int c1), .val (.ref b3), .val (.int (-1 : Int32)), .val (.ref b3), .unset] [(.int (1 : Int32))])) _
      exact retN X27 hx (t := .boolean) Bd.returns (by simp) (hb hby at_86) hr
    · show Q_rm0 Z p0 p1 p2 p3 zc fm wO cO wT cT h0 n0 _ T27.heap _
      rw [e27]
      exact ⟨rfl, N27⟩
  · have pre29 : ∀ t, Steps p.tables e below (T15.setTop (mkF m 57 #[.val (.int p0), .val (.int p1), .val (.int p2), .val (.int p3), .val (.int c0), .val (.int c1), .val (.ref b3), .val (.int ((p2 &&& (2147483647 : Int32)) % (65536 : Int32))), .unset, .unset] [])) t → Steps p.tables e below (s₁.setTop (entryFrame m #[(.int p0), (.int p1), (.int p2), (.int p3)] maxLocals)) t := fun t kt => pre17 t (by
      show Steps p.tables e below (T15.setTop (mkF m 41 #[.val (.int p0), .val (.int p1), .val (.int p2), .val (.int p3), .val (.int c0), .val (.int c1), .val (.ref b3), .unset, .unset, .unset] [(.int (p3 &&& (3 : Int32)))])) _
      refine XS.ifYes X15.here hx rfl (pc0 := 41) (pc' := 48) rfl (hb hby at_41) rfl ((if0 _ _).trans (feq hc41_16).2) (by decide) (by decide) ?_
      refine XS.iloadN X15.here hx rfl (hb hby at_48) rfl  ?_
      show Steps p.tables e below (T15.setTop (mkF m 49 #[.val (.int p0), .val (.int p1), .val (.int p2), .val (.int p3), .val (.int c0), .val (.int c1), .val (.ref b3), .unset, .unset, .unset] [(.int p2)])) _
      refine X15.ldcInt hx hown (mvT hZ (hw _ (own_m 30 rfl))) (g := (mkF m 49 #[.val (.int p0), .val (.int p1), .val (.int p2), .val (.int p3), .val (.int c0), .val (.int c1), .val (.ref b3), .unset, .unset, .unset] [(.int p2)])) rfl (hb hby at_49) _ ?_
      show Steps p.tables e below (T15.setTop (mkF m 51 #[.val (.int p0), .val (.int p1), .val (.int p2), .val (.int p3), .val (.int c0), .val (.int c1), .val (.ref b3), .unset, .unset, .unset] [(.int (2147483647 : Int32)), (.int p2)])) _
      refine XS.iand X15.here hx rfl (hb hby at_51) rfl ?_
      show Steps p.tables e below (T15.setTop (mkF m 52 #[.val (.int p0), .val (.int p1), .val (.int p2), .val (.int p3), .val (.int c0), .val (.int c1), .val (.ref b3), .unset, .unset, .unset] [(.int (p2 &&& (2147483647 : Int32)))])) _
      refine X15.ldcInt hx hown (mvT hZ (hw _ (own_m 31 rfl))) (g := (mkF m 52 #[.val (.int p0), .val (.int p1), .val (.int p2), .val (.int p3), .val (.int c0), .val (.int c1), .val (.ref b3), .unset, .unset, .unset] [(.int (p2 &&& (2147483647 : Int32)))])) rfl (hb hby at_52) _ ?_
      show Steps p.tables e below (T15.setTop (mkF m 54 #[.val (.int p0), .val (.int p1), .val (.int p2), .val (.int p3), .val (.int c0), .val (.int c1), .val (.ref b3), .unset, .unset, .unset] [(.int (65536 : Int32)), (.int (p2 &&& (2147483647 : Int32)))])) _
      refine Jvm.RoadKit.iremM X15 hx rfl (hb hby at_54) rfl (by decide) ?_
      show Steps p.tables e below (T15.setTop (mkF m 55 #[.val (.int p0), .val (.int p1), .val (.int p2), .val (.int p3), .val (.int c0), .val (.int c1), .val (.ref b3), .unset, .unset, .unset] [(.int ((p2 &&& (2147483647 : Int32)) % (65536 : Int32)))])) _
      refine XS.istore X15.here hx rfl (hb hby at_55) rfl (l' := #[.val (.int p0), .val (.int p1), .val (.int p2), .val (.int p3), .val (.int c0), .val (.int c1), .val (.ref b3), .val (.int ((p2 &&& (2147483647 : Int32)) % (65536 : Int32))), .unset, .unset]) rfl ?_
      exact kt)
    obtain ⟨pt, hpt⟩ : ∃ z, z = ((p2 &&& (2147483647 : Int32)) % (65536 : Int32)) := ⟨_, rfl⟩
    rw [← hpt] at pre29
    have gpt : 0 ≤ pt.toInt ∧ pt.toInt < 65536 := by rw [hpt]; exact own_pt p2
    by_cases hn5 : pt < (10000 : Int32)
    · by_cases hn4 : pt < (1000 : Int32)
      · by_cases hn3 : pt < (100 : Int32)
        · by_cases hn2 : pt < (10 : Int32)
          · have hlo_ : 0 ≤ pt.toInt := gpt.1
            have hhi_ : pt.toInt < 10 := (own_lt (by decide)).1 hn2
            obtain ⟨d1, hx1⟩ : ∃ z, z = ((48 : Int32) + ((pt / (1 : Int32)) % (10 : Int32))) := ⟨_, rfl⟩
            have hd1 : d1.toInt = 48 + pt.toInt % 10 := by rw [hx1, own_dg (b := 1) (by decide) (by decide) gpt.1 (by decide), own_d1]
            have hy1 : d1 = ((48 : Int32) + ((pt / (1 : Int32)) % (10 : Int32))).toUInt32.toUInt16.toUInt32.toInt32 := by rw [← hx1]; exact (own_cc (own_dr hd1)).symm
            have f30 := (V9.keep K15 (ninS (Ne.symm ne4_b3) nin0))
            obtain ⟨T31, h31, X31, e31, E31, A31, D31, -, st31⟩ := newO X15 hx hZ hown (hw _ (own_m 32 rfl)) (hw _ (own_m 33 rfl)) (hw _ (own_m 34 rfl)) rfl (g := (mkF m 57 #[.val (.int p0), .val (.int p1), .val (.int p2), .val (.int p3), .val (.int c0), .val (.int c1), .val (.ref b3), .val (.int pt), .unset, .unset] [])) rfl (hb hby at_57) (by decide) (by decide)
            obtain ⟨b31, g31⟩ : ∃ z, z = T15.heap.size := ⟨_, rfl⟩
            rw [← g31] at A31 D31 st31
            have ne31_b3 : b3 ≠ b31 := Nat.ne_of_lt (Nat.lt_of_lt_of_le Eh.lt (Nat.le_of_eq g31.symm))
            have ne31_b4 : b4 ≠ b31 := Nat.ne_of_lt (Nat.lt_of_lt_of_le f30.lt (Nat.le_of_eq g31.symm))
            have ne31_th : th ≠ b31 := Nat.ne_of_lt (Nat.lt_of_lt_of_le Ah.lt (Nat.le_of_eq g31.symm))
            have f32 := (Nat.le_trans f13 K15.1)
            have ge31 : n0 ≤ b31 := Nat.le_trans f32 (Nat.le_of_eq g31.symm)
            have F31_host : Fld Z h31 b31 "com/example/kikao/kikao/Domain" "host" "Ljava/lang/String;" .null := D31 (Or.inr (hw _ (own_m 45 rfl))) (ty := (.object "java/lang/String")) (by decide)
            have F31_port : Fld Z h31 b31 "com/example/kikao/kikao/Domain" "port" "I" (.int (0 : Int32)) := D31 (Or.inr (hw _ (own_m 47 rfl))) (ty := .int) (by decide)
            have f33 := (Nat.le_trans f32 E31.1)
            obtain ⟨_, _, ⟨T34, L34, k34, n34⟩, -, X34, ⟨Lc34, hQ34, l34, y34, z34⟩, st34⟩ := X31.specialBack hx (y := (⟨"com/example/kikao/kikao/Domain", "<init>", "(Ljava/lang/String;I)V"⟩ : MethodName)) rfl hown (mvT hZ (hw _ (own_m 35 rfl))) (mvT hZ (hw _ (own_m 36 rfl))) (mvT hZ (hw _ (own_m 37 rfl))) (by decide) (backOf (W := 1) (rmDom l Z a0 hw [] b31 b3 pt h31 n0 f33 A31 F31_host F31_port ge31) hZ (hw _ (own_m 37 rfl)) (hw _ (own_m 34 rfl)) (by decide) (by decide)) (g := (mkF m 65 #[.val (.int p0), .val (.int p1), .val (.int p2), .val (.int p3), .val (.int c0), .val (.int c1), .val (.ref b3), .val (.int pt), .unset, .unset] [(.int pt), (.ref b3), (.ref b31), (.ref b31)])) rfl (by rw [hml]; rfl) (Steps.refl _) (a := b31) (argsL := [(.ref b3), (.int pt)]) (rest := [(.ref b31)]) (lenOf pd__Ljava_lang_String_I_V rfl) rfl (by show 2 * 0 + _ ≤ _; exact Nat.le_of_eq rfl) (hb hby at_65) (fun _ _ => ⟨rfl, e31, (by decide : 4 + 0 ≤ _), (by decide : 10 + 0 ≤ _)⟩)
            dsimp only [Pt.U, Pt.locs, Pt.cells, Pt.slots] at X34 l34 y34 z34 st34 hQ34
            subst l34 y34 z34
            obtain ⟨rfl, Nq34, K34, Fdh, Fdp⟩ := hQ34
            have N34 := Fr.app N15 Nq34
            have f35 := ((Eh.ext E31).keep K34)
            have f36 := ((Fhv.ext E31).keep K34 (ninS ne31_b3 nin0))
            have f37 := ((Fhc.ext E31).keep K34 (ninS ne31_b3 nin0))
            have f38 := ((Ah.ext E31).keep K34 (ninS ne31_th nin0))
            have f39 := (((f14.keep K15 (allS ge3 all0)).ext E31).keep K34 (allS ge31 all0))
            have f40 := (Nat.le_trans f33 K34.1)
            have f42 := (A31.keep K34)
            obtain ⟨cq41, kq41, q41a, q41b, q41c⟩ := isOf hZ rfl f42
            obtain ⟨_, _, ⟨T41, L41, k41, n41⟩, -, X41, hS41, hgr41, ⟨Lc41, hQ41, l41, y41, z41⟩, st41⟩ := X34.virtualBackS hx (y := (⟨"com/example/kikao/kikao/Domain", "toString", "()Ljava/lang/String;"⟩ : MethodName)) (z := (⟨"com/example/kikao/kikao/Domain", "toString", "()Ljava/lang/String;"⟩ : MethodName)) hown (mvT hZ (hw _ (own_m 48 rfl))) (mvT hZ (hw _ (own_m 49 rfl))) (notFace_of_selects (args := #[]) (mvT hZ (hw _ (own_m 51 rfl)))) (mvT hZ (hw _ (own_m 51 rfl))) (mvT hZ (hw _ (own_m 50 rfl))) (by decide) (own_backI (W := 0) (rmTS1 l Z a0 hw [] b31 zc fm wO cO wT cT b3 th kh c0 c1 pt d1 T34.heap T34.heap.size (Nat.le_refl _) hSt ⟨Nat.le_trans f39.1 f40, f39.2⟩ hDT Fdh Fdp f35 f36 f37 f38 hleh hchh gpt.1 hlo_ hhi_ hd1 rfl hheld hcw) hI hZ (hw _ (own_m 52 rfl)) (hw _ (own_m 34 rfl)) (by decide) (by decide)) q41a q41c (g := (mkF m 68 #[.val (.int p0), .val (.int p1), .val (.int p2), .val (.int p3), .val (.int c0), .val (.int c1), .val (.ref b3), .val (.int pt), .unset, .unset] [(.ref b31)])) rfl (by rw [hml]; rfl) (Steps.refl _) (argsL := []) (rest := []) (lenOf pd___Ljava_lang_String_ rfl) rfl (by show 2 * 0 + _ ≤ _; exact Nat.le_of_eq rfl) (hb hby at_68) (fun _ _ => ⟨rfl, rfl, (by decide : 4 + 6 ≤ _), (by decide : 10 + 48 ≤ _)⟩)
            dsimp only [Pt.U, Pt.locs, Pt.cells, Pt.slots] at X41 l41 y41 z41 st41 hQ41 hS41 hgr41
            subst l41 y41 z41
            have hZ41 : Z.Warmed39 (s.setVm T41.vm).vm := State.Warmed39.trans hZ hS41.1
            have hown41 : (s.setVm T41.vm).vm.findClass "com/example/kikao/kikao/DomainToStringPinLaw" = some m.cls := (hS41.1.alike.findClass _ _).trans hown
            obtain ⟨⟨r_, ts_, ks_, rfl, Er_, Fr_v, Fr_c, Ar_⟩, Nq41, K41⟩ := hQ41
            have N41 := Fr.app N34 (own_frw f40 Nq41)
            have hk41 : T41.heap.size ≤ T41.heap.size := Nat.le_refl _
            have hleR : ∀ c ∈ [c0, c1, 58, d1], ¬ (255 : Int32) < c := own_allc (own_r8 gc0).2 (own_allc (own_r8 gc1).2 (own_allc (by decide) (own_allc (own_r8 (own_dr hd1)).2 (fun _ q => nomatch q))))
            have hchR : own_Chs [c0, c1, 58, d1] := ⟨own_allc (own_r8 gc0).1 (own_allc (own_r8 gc1).1 (own_allc ⟨by decide, by decide⟩ (own_allc (own_r8 (own_dr hd1)).1 (fun _ q => nomatch q)))), Nat.le_of_ble_eq_true rfl⟩
            have f43 := (Nat.le_trans f40 K41.1)
            have f44 := (f39.keep K41 all0)
            obtain ⟨cq45, kq45, q45a, q45b, q45c⟩ := isOf hZ41 rfl Er_
            obtain ⟨_, _, ⟨T45, L45, k45, n45⟩, -, X45, ⟨Lc45, hQ45, l45, y45, z45⟩, st45⟩ := X41.virtualBack hx (y := (⟨"java/lang/String", "length", "()I"⟩ : MethodName)) (z := (⟨"java/lang/String", "length", "()I"⟩ : MethodName)) hown41 (mvT hZ41 (hw _ (own_m 184 rfl))) (mvT hZ41 (hw _ (own_m 82 rfl))) (notFace_of_selects (args := #[]) (mvT hZ41 (hw _ (own_m 84 rfl)))) (mvT hZ41 (hw _ (own_m 84 rfl))) (mvT hZ41 (hw _ (own_m 83 rfl))) (by decide) (backOf (W := 0) (rmLen l Z a0 hw [] r_ zc fm [c0, c1, 58, d1] (4 : Int32) T41.heap n0 f43 hSt f44 ⟨ts_, ks_, (0 : Int32), _, _, Er_, Fr_v, Fr_c, Ar_, Or.inl ⟨rfl, rfl, rfl, hleR⟩, hchR⟩ (own_nrwOf Fr_c) rfl) hZ41 (hw _ (own_m 85 rfl)) (hw _ (own_m 2 rfl)) (by decide) (by decide)) q45a q45c (g := (mkF m 138 #[.val (.int p0), .val (.int p1), .val (.int p2), .val (.int p3), .val (.int c0), .val (.int c1), .val (.ref b3), .val (.int pt), .val (.ref r_), .val (.int (1 : Int32))] [(.ref r_)])) rfl (by rw [hml]; rfl) (Steps.refl _) (argsL := []) (rest := []) (lenOf pd___I rfl) rfl (by show 2 * 0 + _ ≤ _; exact Nat.le_of_eq rfl) (hb hby at_138) (fun _ _ => ⟨rfl, rfl, (by decide : 10 + 0 ≤ _), (by decide : 58 + 0 ≤ _)⟩)
            dsimp only [Pt.U, Pt.locs, Pt.cells, Pt.slots] at X45 l45 y45 z45 st45 hQ45
            subst l45 y45 z45
            obtain ⟨rfl, Nq45, e45⟩ := hQ45
            have N45 := Fr.app N41 Nq45
            obtain ⟨cq46, kq46, q46a, q46b, q46c⟩ := isOf hZ41 e45 Er_
            obtain ⟨_, _, ⟨T46, L46, k46, n46⟩, -, X46, ⟨Lc46, hQ46, l46, y46, z46⟩, st46⟩ := X45.virtualBack hx (y := (⟨"java/lang/String", "charAt", "(I)C"⟩ : MethodName)) (z := (⟨"java/lang/String", "charAt", "(I)C"⟩ : MethodName)) hown41 (mvT hZ41 (hw _ (own_m 185 rfl))) (mvT hZ41 (hw _ (own_m 186 rfl))) (notFace_of_selects (args := #[]) (mvT hZ41 (hw _ (own_m 188 rfl)))) (mvT hZ41 (hw _ (own_m 188 rfl))) (mvT hZ41 (hw _ (own_m 187 rfl))) (by decide) (backOf (W := 0) (rmCharAt l Z a0 hw [] r_ (0 : Int32) zc fm [c0, c1, 58, d1] c0 T41.heap n0 f43 hSt f44 ⟨ts_, ks_, (0 : Int32), _, _, Er_, Fr_v, Fr_c, Ar_, Or.inl ⟨rfl, rfl, rfl, hleR⟩, hchR⟩ (own_nrwOf Fr_c) ⟨by decide, Nat.le_of_ble_eq_true rfl⟩ rfl) hZ41 (hw _ (own_m 189 rfl)) (hw _ (own_m 2 rfl)) (by decide) (by decide)) q46a q46c (g := (mkF m 153 #[.val (.int p0), .val (.int p1), .val (.int p2), .val (.int p3), .val (.int c0), .val (.int c1), .val (.ref b3), .val (.int pt), .val (.ref r_), .val (.int (1 : Int32))] [(.int (0 : Int32)), (.ref r_)])) rfl (by rw [hml]; rfl) (Steps.refl _) (argsL := [(.int (0 : Int32))]) (rest := []) (lenOf pd__I_C rfl) rfl (by show 2 * 0 + _ ≤ _; exact Nat.le_of_eq rfl) (hb hby at_153) (fun _ _ => ⟨rfl, e45, (by decide : 10 + 0 ≤ _), (by decide : 58 + 0 ≤ _)⟩)
            dsimp only [Pt.U, Pt.locs, Pt.cells, Pt.slots] at X46 l46 y46 z46 st46 hQ46
            subst l46 y46 z46
            obtain ⟨rfl, Nq46, e46⟩ := hQ46
            have N46 := Fr.app N45 Nq46
            obtain ⟨cq47, kq47, q47a, q47b, q47c⟩ := isOf hZ41 e46 Er_
            obtain ⟨_, _, ⟨T47, L47, k47, n47⟩, -, X47, ⟨Lc47, hQ47, l47, y47, z47⟩, st47⟩ := X46.virtualBack hx (y := (⟨"java/lang/String", "charAt", "(I)C"⟩ : MethodName)) (z := (⟨"java/lang/String", "charAt", "(I)C"⟩ : MethodName)) hown41 (mvT hZ41 (hw _ (own_m 185 rfl))) (mvT hZ41 (hw _ (own_m 186 rfl))) (notFace_of_selects (args := #[]) (mvT hZ41 (hw _ (own_m 188 rfl)))) (mvT hZ41 (hw _ (own_m 188 rfl))) (mvT hZ41 (hw _ (own_m 187 rfl))) (by decide) (backOf (W := 0) (rmCharAt l Z a0 hw [] r_ (1 : Int32) zc fm [c0, c1, 58, d1] c1 T41.heap n0 f43 hSt f44 ⟨ts_, ks_, (0 : Int32), _, _, Er_, Fr_v, Fr_c, Ar_, Or.inl ⟨rfl, rfl, rfl, hleR⟩, hchR⟩ (own_nrwOf Fr_c) ⟨by decide, Nat.le_of_ble_eq_true rfl⟩ rfl) hZ41 (hw _ (own_m 189 rfl)) (hw _ (own_m 2 rfl)) (by decide) (by decide)) q47a q47c (g := (mkF m 164 #[.val (.int p0), .val (.int p1), .val (.int p2), .val (.int p3), .val (.int c0), .val (.int c1), .val (.ref b3), .val (.int pt), .val (.ref r_), .val (.int (1 : Int32))] [(.int (1 : Int32)), (.ref r_)])) rfl (by rw [hml]; rfl) (Steps.refl _) (argsL := [(.int (1 : Int32))]) (rest := []) (lenOf pd__I_C rfl) rfl (by show 2 * 0 + _ ≤ _; exact Nat.le_of_eq rfl) (hb hby at_164) (fun _ _ => ⟨rfl, e46, (by decide : 10 + 0 ≤ _), (by decide : 58 + 0 ≤ _)⟩)
            dsimp only [Pt.U, Pt.locs, Pt.cells, Pt.slots] at X47 l47 y47 z47 st47 hQ47
            subst l47 y47 z47
            obtain ⟨rfl, Nq47, e47⟩ := hQ47
            have N47 := Fr.app N46 Nq47
            obtain ⟨cq48, kq48, q48a, q48b, q48c⟩ := isOf hZ41 e47 Er_
            obtain ⟨_, _, ⟨T48, L48, k48, n48⟩, -, X48, ⟨Lc48, hQ48, l48, y48, z48⟩, st48⟩ := X47.virtualBack hx (y := (⟨"java/lang/String", "charAt", "(I)C"⟩ : MethodName)) (z := (⟨"java/lang/String", "charAt", "(I)C"⟩ : MethodName)) hown41 (mvT hZ41 (hw _ (own_m 185 rfl))) (mvT hZ41 (hw _ (own_m 186 rfl))) (notFace_of_selects (args := #[]) (mvT hZ41 (hw _ (own_m 188 rfl)))) (mvT hZ41 (hw _ (own_m 188 rfl))) (mvT hZ41 (hw _ (own_m 187 rfl))) (by decide) (backOf (W := 0) (rmCharAt l Z a0 hw [] r_ (2 : Int32) zc fm [c0, c1, 58, d1] (58 : Int32) T41.heap n0 f43 hSt f44 ⟨ts_, ks_, (0 : Int32), _, _, Er_, Fr_v, Fr_c, Ar_, Or.inl ⟨rfl, rfl, rfl, hleR⟩, hchR⟩ (own_nrwOf Fr_c) ⟨by decide, Nat.le_of_ble_eq_true rfl⟩ rfl) hZ41 (hw _ (own_m 189 rfl)) (hw _ (own_m 2 rfl)) (by decide) (by decide)) q48a q48c (g := (mkF m 175 #[.val (.int p0), .val (.int p1), .val (.int p2), .val (.int p3), .val (.int c0), .val (.int c1), .val (.ref b3), .val (.int pt), .val (.ref r_), .val (.int (1 : Int32))] [(.int (2 : Int32)), (.ref r_)])) rfl (by rw [hml]; rfl) (Steps.refl _) (argsL := [(.int (2 : Int32))]) (rest := []) (lenOf pd__I_C rfl) rfl (by show 2 * 0 + _ ≤ _; exact Nat.le_of_eq rfl) (hb hby at_175) (fun _ _ => ⟨rfl, e47, (by decide : 10 + 0 ≤ _), (by decide : 58 + 0 ≤ _)⟩)
            dsimp only [Pt.U, Pt.locs, Pt.cells, Pt.slots] at X48 l48 y48 z48 st48 hQ48
            subst l48 y48 z48
            obtain ⟨rfl, Nq48, e48⟩ := hQ48
            have N48 := Fr.app N47 Nq48
            obtain ⟨_, _, ⟨T49, L49, k49, n49⟩, -, X49, ⟨Lc49, hQ49, l49, y49, z49⟩, st49⟩ := Jvm.LawKit.callS X48 hx (y := (⟨"com/example/kikao/kikao/DomainToStringPinLaw", "digitOk", "(Ljava/lang/String;III)Z"⟩ : MethodName)) hown41 (mvT hZ41 (hw _ (own_m 207 rfl))) (mvT hZ41 (hw _ (own_m 208 rfl))) (mvT hZ41 (hw _ (own_m 209 rfl))) (mvT hZ41 (hw _ (own_m 210 rfl))) (by decide) (backOf (W := 0) (rmDk l Z a0 hw [] r_ pt (1 : Int32) (0 : Int32) zc fm [c0, c1, 58, d1] d1 (1 : Int32) T41.heap n0 f43 hSt f44 ⟨ts_, ks_, (0 : Int32), _, _, Er_, Fr_v, Fr_c, Ar_, Or.inl ⟨rfl, rfl, rfl, hleR⟩, hchR⟩ (own_nrwOf Fr_c) (by decide) (by decide) (by decide) ⟨by decide, Nat.le_of_ble_eq_true rfl⟩ rfl hy1) hZ41 (hw _ (own_m 210 rfl)) (hw _ (own_m 209 rfl)) (by decide) (by decide)) (g := (mkF m 192 #[.val (.int p0), .val (.int p1), .val (.int p2), .val (.int p3), .val (.int c0), .val (.int c1), .val (.ref b3), .val (.int pt), .val (.ref r_), .val (.int (1 : Int32))] [(.int (0 : Int32)), (.int (1 : Int32)), (.int pt), (.ref r_)])) rfl (by rw [hml]; rfl) (argsL := [(.ref r_), (.int pt), (.int (1 : Int32)), (.int (0 : Int32))]) (rest := []) (lenOf pd__Ljava_lang_String_III_Z rfl) rfl (by show 2 * 0 + _ ≤ _; exact Nat.le_of_eq rfl) (hb hby at_192) (fun _ _ => ⟨rfl, e48, (by decide : 10 + 0 ≤ _), (by decide : 58 + 0 ≤ _)⟩)
            dsimp only [Pt.U, Pt.locs, Pt.cells, Pt.slots] at X49 l49 y49 z49 st49 hQ49
            subst l49 y49 z49
            obtain ⟨rfl, Nq49, e49⟩ := hQ49
            have N49 := Fr.app N48 Nq49
            obtain ⟨_, _, ⟨T50, L50, k50, n50⟩, -, X50, ⟨Lc50, hQ50, l50, y50, z50⟩, st50⟩ := Jvm.LawKit.callS X49 hx (y := (⟨"com/example/kikao/kikao/DomainToStringPinLaw", "digitOk", "(Ljava/lang/String;III)Z"⟩ : MethodName)) hown41 (mvT hZ41 (hw _ (own_m 207 rfl))) (mvT hZ41 (hw _ (own_m 208 rfl))) (mvT hZ41 (hw _ (own_m 209 rfl))) (mvT hZ41 (hw _ (own_m 210 rfl))) (by decide) (backOf (W := 0) (rmDk0 l Z a0 hw [] r_ pt (1 : Int32) (1 : Int32) zc fm  T41.heap n0 f43 hSt f44 (by decide)) hZ41 (hw _ (own_m 210 rfl)) (hw _ (own_m 209 rfl)) (by decide) (by decide)) (g := (mkF m 205 #[.val (.int p0), .val (.int p1), .val (.int p2), .val (.int p3), .val (.int c0), .val (.int c1), .val (.ref b3), .val (.int pt), .val (.ref r_), .val (.int (1 : Int32))] [(.int (1 : Int32)), (.int (1 : Int32)), (.int pt), (.ref r_)])) rfl (by rw [hml]; rfl) (argsL := [(.ref r_), (.int pt), (.int (1 : Int32)), (.int (1 : Int32))]) (rest := []) (lenOf pd__Ljava_lang_String_III_Z rfl) rfl (by show 2 * 0 + _ ≤ _; exact Nat.le_of_eq rfl) (hb hby at_205) (fun _ _ => ⟨rfl, e49, (by decide : 10 + 0 ≤ _), (by decide : 58 + 0 ≤ _)⟩)
            dsimp only [Pt.U, Pt.locs, Pt.cells, Pt.slots] at X50 l50 y50 z50 st50 hQ50
            subst l50 y50 z50
            obtain ⟨rfl, Nq50, e50⟩ := hQ50
            have N50 := Fr.app N49 Nq50
            obtain ⟨_, _, ⟨T51, L51, k51, n51⟩, -, X51, ⟨Lc51, hQ51, l51, y51, z51⟩, st51⟩ := Jvm.LawKit.callS X50 hx (y := (⟨"com/example/kikao/kikao/DomainToStringPinLaw", "digitOk", "(Ljava/lang/String;III)Z"⟩ : MethodName)) hown41 (mvT hZ41 (hw _ (own_m 207 rfl))) (mvT hZ41 (hw _ (own_m 208 rfl))) (mvT hZ41 (hw _ (own_m 209 rfl))) (mvT hZ41 (hw _ (own_m 210 rfl))) (by decide) (backOf (W := 0) (rmDk0 l Z a0 hw [] r_ pt (1 : Int32) (2 : Int32) zc fm  T41.heap n0 f43 hSt f44 (by decide)) hZ41 (hw _ (own_m 210 rfl)) (hw _ (own_m 209 rfl)) (by decide) (by decide)) (g := (mkF m 218 #[.val (.int p0), .val (.int p1), .val (.int p2), .val (.int p3), .val (.int c0), .val (.int c1), .val (.ref b3), .val (.int pt), .val (.ref r_), .val (.int (1 : Int32))] [(.int (2 : Int32)), (.int (1 : Int32)), (.int pt), (.ref r_)])) rfl (by rw [hml]; rfl) (argsL := [(.ref r_), (.int pt), (.int (1 : Int32)), (.int (2 : Int32))]) (rest := []) (lenOf pd__Ljava_lang_String_III_Z rfl) rfl (by show 2 * 0 + _ ≤ _; exact Nat.le_of_eq rfl) (hb hby at_218) (fun _ _ => ⟨rfl, e50, (by decide : 10 + 0 ≤ _), (by decide : 58 + 0 ≤ _)⟩)
            dsimp only [Pt.U, Pt.locs, Pt.cells, Pt.slots] at X51 l51 y51 z51 st51 hQ51
            subst l51 y51 z51
            obtain ⟨rfl, Nq51, e51⟩ := hQ51
            have N51 := Fr.app N50 Nq51
            obtain ⟨_, _, ⟨T52, L52, k52, n52⟩, -, X52, ⟨Lc52, hQ52, l52, y52, z52⟩, st52⟩ := Jvm.LawKit.callS X51 hx (y := (⟨"com/example/kikao/kikao/DomainToStringPinLaw", "digitOk", "(Ljava/lang/String;III)Z"⟩ : MethodName)) hown41 (mvT hZ41 (hw _ (own_m 207 rfl))) (mvT hZ41 (hw _ (own_m 208 rfl))) (mvT hZ41 (hw _ (own_m 209 rfl))) (mvT hZ41 (hw _ (own_m 210 rfl))) (by decide) (backOf (W := 0) (rmDk0 l Z a0 hw [] r_ pt (1 : Int32) (3 : Int32) zc fm  T41.heap n0 f43 hSt f44 (by decide)) hZ41 (hw _ (own_m 210 rfl)) (hw _ (own_m 209 rfl)) (by decide) (by decide)) (g := (mkF m 231 #[.val (.int p0), .val (.int p1), .val (.int p2), .val (.int p3), .val (.int c0), .val (.int c1), .val (.ref b3), .val (.int pt), .val (.ref r_), .val (.int (1 : Int32))] [(.int (3 : Int32)), (.int (1 : Int32)), (.int pt), (.ref r_)])) rfl (by rw [hml]; rfl) (argsL := [(.ref r_), (.int pt), (.int (1 : Int32)), (.int (3 : Int32))]) (rest := []) (lenOf pd__Ljava_lang_String_III_Z rfl) rfl (by show 2 * 0 + _ ≤ _; exact Nat.le_of_eq rfl) (hb hby at_231) (fun _ _ => ⟨rfl, e51, (by decide : 10 + 0 ≤ _), (by decide : 58 + 0 ≤ _)⟩)
            dsimp only [Pt.U, Pt.locs, Pt.cells, Pt.slots] at X52 l52 y52 z52 st52 hQ52
            subst l52 y52 z52
            obtain ⟨rfl, Nq52, e52⟩ := hQ52
            have N52 := Fr.app N51 Nq52
            obtain ⟨_, _, ⟨T53, L53, k53, n53⟩, -, X53, ⟨Lc53, hQ53, l53, y53, z53⟩, st53⟩ := Jvm.LawKit.callS X52 hx (y := (⟨"com/example/kikao/kikao/DomainToStringPinLaw", "digitOk", "(Ljava/lang/String;III)Z"⟩ : MethodName)) hown41 (mvT hZ41 (hw _ (own_m 207 rfl))) (mvT hZ41 (hw _ (own_m 208 rfl))) (mvT hZ41 (hw _ (own_m 209 rfl))) (mvT hZ41 (hw _ (own_m 210 rfl))) (by decide) (backOf (W := 0) (rmDk0 l Z a0 hw [] r_ pt (1 : Int32) (4 : Int32) zc fm  T41.heap n0 f43 hSt f44 (by decide)) hZ41 (hw _ (own_m 210 rfl)) (hw _ (own_m 209 rfl)) (by decide) (by decide)) (g := (mkF m 244 #[.val (.int p0), .val (.int p1), .val (.int p2), .val (.int p3), .val (.int c0), .val (.int c1), .val (.ref b3), .val (.int pt), .val (.ref r_), .val (.int (1 : Int32))] [(.int (4 : Int32)), (.int (1 : Int32)), (.int pt), (.ref r_)])) rfl (by rw [hml]; rfl) (argsL := [(.ref r_), (.int pt), (.int (1 : Int32)), (.int (4 : Int32))]) (rest := []) (lenOf pd__Ljava_lang_String_III_Z rfl) rfl (by show 2 * 0 + _ ≤ _; exact Nat.le_of_eq rfl) (hb hby at_244) (fun _ _ => ⟨rfl, e52, (by decide : 10 + 0 ≤ _), (by decide : 58 + 0 ≤ _)⟩)
            dsimp only [Pt.U, Pt.locs, Pt.cells, Pt.slots] at X53 l53 y53 z53 st53 hQ53
            subst l53 y53 z53
            obtain ⟨rfl, Nq53, e53⟩ := hQ53
            have N53 := Fr.app N52 Nq53
            obtain ⟨fs, hr, hrun, hended, hEnd⟩ := X53.leaveW hS41 (by rw [e53]; exact hk41) (v := some (.int (1 : Int32))) (fun h => by rw [Bd.returns] at h; cases h)
            refine ⟨_, _, pre29 _ ?_, hrun, hended, _, _, rfl, ?_, hEnd.1, hEnd.2.1, hEnd.2.2.1, hEnd.2.2.2.mono (by decide) (by decide)⟩
            · show Steps p.tables e below (T15.setTop (mkF m 57 #[.val (.int p0), .val (.int p1), .val (.int p2), .val (.int p3), .val (.int c0), .val (.int c1), .val (.ref b3), .val (.int pt), .unset, .unset] [])) _
              refine st31 _ ?_
              show Steps p.tables e below (T31.setTop (mkF m 60 #[.val (.int p0), .val (.int p1), .val (.int p2), .val (.int p3), .val (.int c0), .val (.int c1), .val (.ref b3), .val (.int pt), .unset, .unset] [(.ref b31)])) _
              refine XS.dup X31.here hx rfl (hb hby at_60) rfl rfl ?_
              refine XS.aload X31.here hx rfl (hb hby at_61) rfl rfl ?_
              refine XS.iload X31.here hx rfl (hb hby at_63) rfl  ?_
              show Steps p.tables e below (T31.setTop (mkF m 65 #[.val (.int p0), .val (.int p1), .val (.int p2), .val (.int p3), .val (.int c0), .val (.int c1), .val (.ref b3), .val (.int pt), .unset, .unset] [(.int pt), (.ref b3), (.ref b31), (.ref b31)])) _
              refine st34.trans ?_
              show Steps p.tables e below (T34.setTop (mkF m 68 #[.val (.int p0), .val (.int p1), .val (.int p2), .val (.int p3), .val (.int c0), .val (.int c1), .val (.ref b3), .val (.int pt), .unset, .unset] [(.ref b31)])) _
              refine st41.trans ?_
              show Steps p.tables e below (T41.setTop (mkF m 71 #[.val (.int p0), .val (.int p1), .val (.int p2), .val (.int p3), .val (.int c0), .val (.int c1), .val (.ref b3), .val (.int pt), .unset, .unset] [(.ref r_)])) _
              refine XS.astore X41.here hx rfl (hb hby at_71) rfl rfl (l' := #[.val (.int p0), .val (.int p1), .val (.int p2), .val (.int p3), .val (.int c0), .val (.int c1), .val (.ref b3), .val (.int pt), .val (.ref r_), .unset]) rfl ?_
              refine XS.iload X41.here hx rfl (hb hby at_73) rfl  ?_
              refine XS.iconst X41.here hx rfl (hb hby at_75) ?_
              show Steps p.tables e below (T41.setTop (mkF m 76 #[.val (.int p0), .val (.int p1), .val (.int p2), .val (.int p3), .val (.int c0), .val (.int c1), .val (.ref b3), .val (.int pt), .val (.ref r_), .unset] [(.int (-1 : Int32)), (.int pt)])) _
              refine XS.icmpYes X41.here hx rfl (pc0 := 76) (pc' := 87) rfl (hb hby at_76) rfl (feq (fun q => by rw [q] at gpt; exact absurd gpt.1 (by decide))).2 (by decide) (by decide) ?_
              refine XS.iload X41.here hx rfl (hb hby at_87) rfl  ?_
              refine XS.sipush X41.here hx rfl (hb hby at_89) ?_
              show Steps p.tables e below (T41.setTop (mkF m 92 #[.val (.int p0), .val (.int p1), .val (.int p2), .val (.int p3), .val (.int c0), .val (.int c1), .val (.ref b3), .val (.int pt), .val (.ref r_), .unset] [(.int (10000 : Int32)), (.int pt)])) _
              refine XS.icmpYes X41.here hx rfl (pc0 := 92) (pc' := 99) rfl (hb hby at_92) rfl (tlt hn5).1 (by decide) (by decide) ?_
              refine XS.iload X41.here hx rfl (hb hby at_99) rfl  ?_
              refine XS.sipush X41.here hx rfl (hb hby at_101) ?_
              show Steps p.tables e below (T41.setTop (mkF m 104 #[.val (.int p0), .val (.int p1), .val (.int p2), .val (.int p3), .val (.int c0), .val (.int c1), .val (.ref b3), .val (.int pt), .val (.ref r_), .unset] [(.int (1000 : Int32)), (.int pt)])) _
              refine XS.icmpYes X41.here hx rfl (pc0 := 104) (pc' := 111) rfl (hb hby at_104) rfl (tlt hn4).1 (by decide) (by decide) ?_
              refine XS.iload X41.here hx rfl (hb hby at_111) rfl  ?_
              refine XS.bipush X41.here hx rfl (hb hby at_113) ?_
              show Steps p.tables e below (T41.setTop (mkF m 115 #[.val (.int p0), .val (.int p1), .val (.int p2), .val (.int p3), .val (.int c0), .val (.int c1), .val (.ref b3), .val (.int pt), .val (.ref r_), .unset] [(.int (100 : Int32)), (.int pt)])) _
              refine XS.icmpYes X41.here hx rfl (pc0 := 115) (pc' := 122) rfl (hb hby at_115) rfl (tlt hn3).1 (by decide) (by decide) ?_
              refine XS.iload X41.here hx rfl (hb hby at_122) rfl  ?_
              refine XS.bipush X41.here hx rfl (hb hby at_124) ?_
              show Steps p.tables e below (T41.setTop (mkF m 126 #[.val (.int p0), .val (.int p1), .val (.int p2), .val (.int p3), .val (.int c0), .val (.int c1), .val (.ref b3), .val (.int pt), .val (.ref r_), .unset] [(.int (10 : Int32)), (.int pt)])) _
              refine XS.icmpYes X41.here hx rfl (pc0 := 126) (pc' := 133) rfl (hb hby at_126) rfl (tlt hn2).1 (by decide) (by decide) ?_
              refine XS.iconst X41.here hx rfl (hb hby at_133) ?_
              refine XS.istore X41.here hx rfl (hb hby at_134) rfl (l' := #[.val (.int p0), .val (.int p1), .val (.int p2), .val (.int p3), .val (.int c0), .val (.int c1), .val (.ref b3), .val (.int pt), .val (.ref r_), .val (.int (1 : Int32))]) rfl ?_
              refine XS.aload X41.here hx rfl (hb hby at_136) rfl rfl ?_
              show Steps p.tables e below (T41.setTop (mkF m 138 #[.val (.int p0), .val (.int p1), .val (.int p2), .val (.int p3), .val (.int c0), .val (.int c1), .val (.ref b3), .val (.int pt), .val (.ref r_), .val (.int (1 : Int32))] [(.ref r_)])) _
              refine st45.trans ?_
              show Steps p.tables e below (T45.setTop (mkF m 141 #[.val (.int p0), .val (.int p1), .val (.int p2), .val (.int p3), .val (.int c0), .val (.int c1), .val (.ref b3), .val (.int pt), .val (.ref r_), .val (.int (1 : Int32))] [(.int (4 : Int32))])) _
              refine XS.iconst X45.here hx rfl (hb hby at_141) ?_
              refine XS.iload X45.here hx rfl (hb hby at_142) rfl  ?_
              refine XS.iadd X45.here hx rfl (hb hby at_144) rfl ?_
              show Steps p.tables e below (T45.setTop (mkF m 145 #[.val (.int p0), .val (.int p1), .val (.int p2), .val (.int p3), .val (.int c0), .val (.int c1), .val (.ref b3), .val (.int pt), .val (.ref r_), .val (.int (1 : Int32))] [(.int (4 : Int32)), (.int (4 : Int32))])) _
              refine XS.icmpYes X45.here hx rfl (pc0 := 145) (pc' := 150) rfl (hb hby at_145) rfl (teq (by decide : (4 : Int32) = (4 : Int32))).1 (by decide) (by decide) ?_
              refine XS.aload X45.here hx rfl (hb hby at_150) rfl rfl ?_
              refine XS.iconst X45.here hx rfl (hb hby at_152) ?_
              show Steps p.tables e below (T45.setTop (mkF m 153 #[.val (.int p0), .val (.int p1), .val (.int p2), .val (.int p3), .val (.int c0), .val (.int c1), .val (.ref b3), .val (.int pt), .val (.ref r_), .val (.int (1 : Int32))] [(.int (0 : Int32)), (.ref r_)])) _
              refine st46.trans ?_
              show Steps p.tables e below (T46.setTop (mkF m 156 #[.val (.int p0), .val (.int p1), .val (.int p2), .val (.int p3), .val (.int c0), .val (.int c1), .val (.ref b3), .val (.int pt), .val (.ref r_), .val (.int (1 : Int32))] [(.int c0)])) _
              refine XS.iload X46.here hx rfl (hb hby at_156) rfl  ?_
              show Steps p.tables e below (T46.setTop (mkF m 158 #[.val (.int p0), .val (.int p1), .val (.int p2), .val (.int p3), .val (.int c0), .val (.int c1), .val (.ref b3), .val (.int pt), .val (.ref r_), .val (.int (1 : Int32))] [(.int c0), (.int c0)])) _
              refine XS.icmpNo X46.here hx rfl (hb hby at_158) rfl (teq (rfl : c0 = c0)).2 ?_
              refine XS.aload X46.here hx rfl (hb hby at_161) rfl rfl ?_
              refine XS.iconst X46.here hx rfl (hb hby at_163) ?_
              show Steps p.tables e below (T46.setTop (mkF m 164 #[.val (.int p0), .val (.int p1), .val (.int p2), .val (.int p3), .val (.int c0), .val (.int c1), .val (.ref b3), .val (.int pt), .val (.ref r_), .val (.int (1 : Int32))] [(.int (1 : Int32)), (.ref r_)])) _
              refine st47.trans ?_
              show Steps p.tables e below (T47.setTop (mkF m 167 #[.val (.int p0), .val (.int p1), .val (.int p2), .val (.int p3), .val (.int c0), .val (.int c1), .val (.ref b3), .val (.int pt), .val (.ref r_), .val (.int (1 : Int32))] [(.int c1)])) _
              refine XS.iload X47.here hx rfl (hb hby at_167) rfl  ?_
              show Steps p.tables e below (T47.setTop (mkF m 169 #[.val (.int p0), .val (.int p1), .val (.int p2), .val (.int p3), .val (.int c0), .val (.int c1), .val (.ref b3), .val (.int pt), .val (.ref r_), .val (.int (1 : Int32))] [(.int c1), (.int c1)])) _
              refine XS.icmpNo X47.here hx rfl (hb hby at_169) rfl (teq (rfl : c1 = c1)).2 ?_
              refine XS.aload X47.here hx rfl (hb hby at_172) rfl rfl ?_
              refine XS.iconst X47.here hx rfl (hb hby at_174) ?_
              show Steps p.tables e below (T47.setTop (mkF m 175 #[.val (.int p0), .val (.int p1), .val (.int p2), .val (.int p3), .val (.int c0), .val (.int c1), .val (.ref b3), .val (.int pt), .val (.ref r_), .val (.int (1 : Int32))] [(.int (2 : Int32)), (.ref r_)])) _
              refine st48.trans ?_
              show Steps p.tables e below (T48.setTop (mkF m 178 #[.val (.int p0), .val (.int p1), .val (.int p2), .val (.int p3), .val (.int c0), .val (.int c1), .val (.ref b3), .val (.int pt), .val (.ref r_), .val (.int (1 : Int32))] [(.int (58 : Int32))])) _
              refine XS.bipush X48.here hx rfl (hb hby at_178) ?_
              show Steps p.tables e below (T48.setTop (mkF m 180 #[.val (.int p0), .val (.int p1), .val (.int p2), .val (.int p3), .val (.int c0), .val (.int c1), .val (.ref b3), .val (.int pt), .val (.ref r_), .val (.int (1 : Int32))] [(.int (58 : Int32)), (.int (58 : Int32))])) _
              refine XS.icmpYes X48.here hx rfl (pc0 := 180) (pc' := 185) rfl (hb hby at_180) rfl (teq (by decide : (58 : Int32) = (58 : Int32))).1 (by decide) (by decide) ?_
              refine XS.aload X48.here hx rfl (hb hby at_185) rfl rfl ?_
              refine XS.iload X48.here hx rfl (hb hby at_187) rfl  ?_
              refine XS.iload X48.here hx rfl (hb hby at_189) rfl  ?_
              refine XS.iconst X48.here hx rfl (hb hby at_191) ?_
              show Steps p.tables e below (T48.setTop (mkF m 192 #[.val (.int p0), .val (.int p1), .val (.int p2), .val (.int p3), .val (.int c0), .val (.int c1), .val (.ref b3), .val (.int pt), .val (.ref r_), .val (.int (1 : Int32))] [(.int (0 : Int32)), (.int (1 : Int32)), (.int pt), (.ref r_)])) _
              refine st49 _ ?_
              show Steps p.tables e below (T49.setTop (mkF m 195 #[.val (.int p0), .val (.int p1), .val (.int p2), .val (.int p3), .val (.int c0), .val (.int c1), .val (.ref b3), .val (.int pt), .val (.ref r_), .val (.int (1 : Int32))] [(.int (1 : Int32))])) _
              refine XS.ifNo X49.here hx rfl (hb hby at_195) rfl ((if0 _ _).trans (feq (by decide : ¬ ((1 : Int32) = (0 : Int32)))).1) ?_
              refine XS.aload X49.here hx rfl (hb hby at_198) rfl rfl ?_
              refine XS.iload X49.here hx rfl (hb hby at_200) rfl  ?_
              refine XS.iload X49.here hx rfl (hb hby at_202) rfl  ?_
              refine XS.iconst X49.here hx rfl (hb hby at_204) ?_
              show Steps p.tables e below (T49.setTop (mkF m 205 #[.val (.int p0), .val (.int p1), .val (.int p2), .val (.int p3), .val (.int c0), .val (.int c1), .val (.ref b3), .val (.int pt), .val (.ref r_), .val (.int (1 : Int32))] [(.int (1 : Int32)), (.int (1 : Int32)), (.int pt), (.ref r_)])) _
              refine st50 _ ?_
              show Steps p.tables e below (T50.setTop (mkF m 208 #[.val (.int p0), .val (.int p1), .val (.int p2), .val (.int p3), .val (.int c0), .val (.int c1), .val (.ref b3), .val (.int pt), .val (.ref r_), .val (.int (1 : Int32))] [(.int (1 : Int32))])) _
              refine XS.ifNo X50.here hx rfl (hb hby at_208) rfl ((if0 _ _).trans (feq (by decide : ¬ ((1 : Int32) = (0 : Int32)))).1) ?_
              refine XS.aload X50.here hx rfl (hb hby at_211) rfl rfl ?_
              refine XS.iload X50.here hx rfl (hb hby at_213) rfl  ?_
              refine XS.iload X50.here hx rfl (hb hby at_215) rfl  ?_
              refine XS.iconst X50.here hx rfl (hb hby at_217) ?_
              show Steps p.tables e below (T50.setTop (mkF m 218 #[.val (.int p0), .val (.int p1), .val (.int p2), .val (.int p3), .val (.int c0), .val (.int c1), .val (.ref b3), .val (.int pt), .val (.ref r_), .val (.int (1 : Int32))] [(.int (2 : Int32)), (.int (1 : Int32)), (.int pt), (.ref r_)])) _
              refine st51 _ ?_
              show Steps p.tables e below (T51.setTop (mkF m 221 #[.val (.int p0), .val (.int p1), .val (.int p2), .val (.int p3), .val (.int c0), .val (.int c1), .val (.ref b3), .val (.int pt), .val (.ref r_), .val (.int (1 : Int32))] [(.int (1 : Int32))])) _
              refine XS.ifNo X51.here hx rfl (hb hby at_221) rfl ((if0 _ _).trans (feq (by decide : ¬ ((1 : Int32) = (0 : Int32)))).1) ?_
              refine XS.aload X51.here hx rfl (hb hby at_224) rfl rfl ?_
              refine XS.iload X51.here hx rfl (hb hby at_226) rfl  ?_
              refine XS.iload X51.here hx rfl (hb hby at_228) rfl  ?_
              refine XS.iconst X51.here hx rfl (hb hby at_230) ?_
              show Steps p.tables e below (T51.setTop (mkF m 231 #[.val (.int p0), .val (.int p1), .val (.int p2), .val (.int p3), .val (.int c0), .val (.int c1), .val (.ref b3), .val (.int pt), .val (.ref r_), .val (.int (1 : Int32))] [(.int (3 : Int32)), (.int (1 : Int32)), (.int pt), (.ref r_)])) _
              refine st52 _ ?_
              show Steps p.tables e below (T52.setTop (mkF m 234 #[.val (.int p0), .val (.int p1), .val (.int p2), .val (.int p3), .val (.int c0), .val (.int c1), .val (.ref b3), .val (.int pt), .val (.ref r_), .val (.int (1 : Int32))] [(.int (1 : Int32))])) _
              refine XS.ifNo X52.here hx rfl (hb hby at_234) rfl ((if0 _ _).trans (feq (by decide : ¬ ((1 : Int32) = (0 : Int32)))).1) ?_
              refine XS.aload X52.here hx rfl (hb hby at_237) rfl rfl ?_
              refine XS.iload X52.here hx rfl (hb hby at_239) rfl  ?_
              refine XS.iload X52.here hx rfl (hb hby at_241) rfl  ?_
              refine XS.iconst X52.here hx rfl (hb hby at_243) ?_
              show Steps p.tables e below (T52.setTop (mkF m 244 #[.val (.int p0), .val (.int p1), .val (.int p2), .val (.int p3), .val (.int c0), .val (.int c1), .val (.ref b3), .val (.int pt), .val (.ref r_), .val (.int (1 : Int32))] [(.int (4 : Int32)), (.int (1 : Int32)), (.int pt), (.ref r_)])) _
              refine st53 _ ?_
              show Steps p.tables e below (T53.setTop (mkF m 247 #[.val (.int p0), .val (.int p1), .val (.int p2), .val (.int p3), .val (.int c0), .val (.int c1), .val (.ref b3), .val (.int pt), .val (.ref r_), .val (.int (1 : Int32))] [(.int (1 : Int32))])) _
              refine XS.ifNo X53.here hx rfl (hb hby at_247) rfl ((if0 _ _).trans (feq (by decide : ¬ ((1 : Int32) = (0 : Int32)))).1) ?_
              refine XS.iconst X53.here hx rfl (hb hby at_250) ?_
              refine XS.goto X53.here hx rfl (pc0 := 251) (pc' := 255) rfl (hb hby at_251) (by decide) (by decide) ?_
              show Steps p.tables e below (T53.setTop (mkF m 255 #[.val (.int p0), .val (.int p1), .val (.int p2), .val (.int p3), .val (.int c0), .val (.int c1), .val (.ref b3), .val (.int pt), .val (.ref r_), .val (.int (1 : Int32))] [(.int (1 : Int32))])) _
              exact retN X53 hx (t := .boolean) Bd.returns (by simp) (hb hby at_255) hr
            · show Q_rm0 Z p0 p1 p2 p3 zc fm wO cO wT cT h0 n0 _ T53.heap _
              rw [e53]
              exact ⟨rfl, N53⟩
          · have hlo_ : 10 ≤ pt.toInt := (own_lt (by decide)).2 hn2
            have hhi_ : pt.toInt < 100 := (own_lt (by decide)).1 hn3
            obtain ⟨d1, hx1⟩ : ∃ z, z = ((48 : Int32) + ((pt / (10 : Int32)) % (10 : Int32))) := ⟨_, rfl⟩
            have hd1 : d1.toInt = 48 + pt.toInt / 10 % 10 := by rw [hx1, own_dg (b := 10) (by decide) (by decide) gpt.1 (by decide)]
            have hy1 : d1 = ((48 : Int32) + ((pt / (10 : Int32)) % (10 : Int32))).toUInt32.toUInt16.toUInt32.toInt32 := by rw [← hx1]; exact (own_cc (own_dr hd1)).symm
            obtain ⟨d2, hx2⟩ : ∃ z, z = ((48 : Int32) + ((pt / (1 : Int32)) % (10 : Int32))) := ⟨_, rfl⟩
            have hd2 : d2.toInt = 48 + pt.toInt % 10 := by rw [hx2, own_dg (b := 1) (by decide) (by decide) gpt.1 (by decide), own_d1]
            have hy2 : d2 = ((48 : Int32) + ((pt / (1 : Int32)) % (10 : Int32))).toUInt32.toUInt16.toUInt32.toInt32 := by rw [← hx2]; exact (own_cc (own_dr hd2)).symm
            have f54 := (V9.keep K15 (ninS (Ne.symm ne4_b3) nin0))
            obtain ⟨T55, h55, X55, e55, E55, A55, D55, -, st55⟩ := newO X15 hx hZ hown (hw _ (own_m 32 rfl)) (hw _ (own_m 33 rfl)) (hw _ (own_m 34 rfl)) rfl (g := (mkF m 57 #[.val (.int p0), .val (.int p1), .val (.int p2), .val (.int p3), .val (.int c0), .val (.int c1), .val (.ref b3), .val (.int pt), .unset, .unset] [])) rfl (hb hby at_57) (by decide) (by decide)
            obtain ⟨b55, g55⟩ : ∃ z, z = T15.heap.size := ⟨_, rfl⟩
            rw [← g55] at A55 D55 st55
            have ne55_b3 : b3 ≠ b55 := Nat.ne_of_lt (Nat.lt_of_lt_of_le Eh.lt (Nat.le_of_eq g55.symm))
            have ne55_b4 : b4 ≠ b55 := Nat.ne_of_lt (Nat.lt_of_lt_of_le f54.lt (Nat.le_of_eq g55.symm))
            have ne55_th : th ≠ b55 := Nat.ne_of_lt (Nat.lt_of_lt_of_le Ah.lt (Nat.le_of_eq g55.symm))
            have f56 := (Nat.le_trans f13 K15.1)
            have ge55 : n0 ≤ b55 := Nat.le_trans f56 (Nat.le_of_eq g55.symm)
            have F55_host : Fld Z h55 b55 "com/example/kikao/kikao/Domain" "host" "Ljava/lang/String;" .null := D55 (Or.inr (hw _ (own_m 45 rfl))) (ty := (.object "java/lang/String")) (by decide)
            have F55_port : Fld Z h55 b55 "com/example/kikao/kikao/Domain" "port" "I" (.int (0 : Int32)) := D55 (Or.inr (hw _ (own_m 47 rfl))) (ty := .int) (by decide)
            have f57 := (Nat.le_trans f56 E55.1)
            obtain ⟨_, _, ⟨T58, L58, k58, n58⟩, -, X58, ⟨Lc58, hQ58, l58, y58, z58⟩, st58⟩ := X55.specialBack hx (y := (⟨"com/example/kikao/kikao/Domain", "<init>", "(Ljava/lang/String;I)V"⟩ : MethodName)) rfl hown (mvT hZ (hw _ (own_m 35 rfl))) (mvT hZ (hw _ (own_m 36 rfl))) (mvT hZ (hw _ (own_m 37 rfl))) (by decide) (backOf (W := 1) (rmDom l Z a0 hw [] b55 b3 pt h55 n0 f57 A55 F55_host F55_port ge55) hZ (hw _ (own_m 37 rfl)) (hw _ (own_m 34 rfl)) (by decide) (by decide)) (g := (mkF m 65 #[.val (.int p0), .val (.int p1), .val (.int p2), .val (.int p3), .val (.int c0), .val (.int c1), .val (.ref b3), .val (.int pt), .unset, .unset] [(.int pt), (.ref b3), (.ref b55), (.ref b55)])) rfl (by rw [hml]; rfl) (Steps.refl _) (a := b55) (argsL := [(.ref b3), (.int pt)]) (rest := [(.ref b55)]) (lenOf pd__Ljava_lang_String_I_V rfl) rfl (by show 2 * 0 + _ ≤ _; exact Nat.le_of_eq rfl) (hb hby at_65) (fun _ _ => ⟨rfl, e55, (by decide : 4 + 0 ≤ _), (by decide : 10 + 0 ≤ _)⟩)
            dsimp only [Pt.U, Pt.locs, Pt.cells, Pt.slots] at X58 l58 y58 z58 st58 hQ58
            subst l58 y58 z58
            obtain ⟨rfl, Nq58, K58, Fdh, Fdp⟩ := hQ58
            have N58 := Fr.app N15 Nq58
            have f59 := ((Eh.ext E55).keep K58)
            have f60 := ((Fhv.ext E55).keep K58 (ninS ne55_b3 nin0))
            have f61 := ((Fhc.ext E55).keep K58 (ninS ne55_b3 nin0))
            have f62 := ((Ah.ext E55).keep K58 (ninS ne55_th nin0))
            have f63 := (((f14.keep K15 (allS ge3 all0)).ext E55).keep K58 (allS ge55 all0))
            have f64 := (Nat.le_trans f57 K58.1)
            have f66 := (A55.keep K58)
            obtain ⟨cq65, kq65, q65a, q65b, q65c⟩ := isOf hZ rfl f66
            obtain ⟨_, _, ⟨T65, L65, k65, n65⟩, -, X65, hS65, hgr65, ⟨Lc65, hQ65, l65, y65, z65⟩, st65⟩ := X58.virtualBackS hx (y := (⟨"com/example/kikao/kikao/Domain", "toString", "()Ljava/lang/String;"⟩ : MethodName)) (z := (⟨"com/example/kikao/kikao/Domain", "toString", "()Ljava/lang/String;"⟩ : MethodName)) hown (mvT hZ (hw _ (own_m 48 rfl))) (mvT hZ (hw _ (own_m 49 rfl))) (notFace_of_selects (args := #[]) (mvT hZ (hw _ (own_m 51 rfl)))) (mvT hZ (hw _ (own_m 51 rfl))) (mvT hZ (hw _ (own_m 50 rfl))) (by decide) (own_backI (W := 0) (rmTS2 l Z a0 hw [] b55 zc fm wO cO wT cT b3 th kh c0 c1 pt d1 d2 T58.heap T58.heap.size (Nat.le_refl _) hSt ⟨Nat.le_trans f63.1 f64, f63.2⟩ hDT Fdh Fdp f59 f60 f61 f62 hleh hchh gpt.1 hlo_ hhi_ hd1 hd2 rfl hheld hcw) hI hZ (hw _ (own_m 52 rfl)) (hw _ (own_m 34 rfl)) (by decide) (by decide)) q65a q65c (g := (mkF m 68 #[.val (.int p0), .val (.int p1), .val (.int p2), .val (.int p3), .val (.int c0), .val (.int c1), .val (.ref b3), .val (.int pt), .unset, .unset] [(.ref b55)])) rfl (by rw [hml]; rfl) (Steps.refl _) (argsL := []) (rest := []) (lenOf pd___Ljava_lang_String_ rfl) rfl (by show 2 * 0 + _ ≤ _; exact Nat.le_of_eq rfl) (hb hby at_68) (fun _ _ => ⟨rfl, rfl, (by decide : 4 + 6 ≤ _), (by decide : 10 + 48 ≤ _)⟩)
            dsimp only [Pt.U, Pt.locs, Pt.cells, Pt.slots] at X65 l65 y65 z65 st65 hQ65 hS65 hgr65
            subst l65 y65 z65
            have hZ65 : Z.Warmed39 (s.setVm T65.vm).vm := State.Warmed39.trans hZ hS65.1
            have hown65 : (s.setVm T65.vm).vm.findClass "com/example/kikao/kikao/DomainToStringPinLaw" = some m.cls := (hS65.1.alike.findClass _ _).trans hown
            obtain ⟨⟨r_, ts_, ks_, rfl, Er_, Fr_v, Fr_c, Ar_⟩, Nq65, K65⟩ := hQ65
            have N65 := Fr.app N58 (own_frw f64 Nq65)
            have hk65 : T65.heap.size ≤ T65.heap.size := Nat.le_refl _
            have hleR : ∀ c ∈ [c0, c1, 58, d1, d2], ¬ (255 : Int32) < c := own_allc (own_r8 gc0).2 (own_allc (own_r8 gc1).2 (own_allc (by decide) (own_allc (own_r8 (own_dr hd1)).2 (own_allc (own_r8 (own_dr hd2)).2 (fun _ q => nomatch q)))))
            have hchR : own_Chs [c0, c1, 58, d1, d2] := ⟨own_allc (own_r8 gc0).1 (own_allc (own_r8 gc1).1 (own_allc ⟨by decide, by decide⟩ (own_allc (own_r8 (own_dr hd1)).1 (own_allc (own_r8 (own_dr hd2)).1 (fun _ q => nomatch q))))), Nat.le_of_ble_eq_true rfl⟩
            have f67 := (Nat.le_trans f64 K65.1)
            have f68 := (f63.keep K65 all0)
            obtain ⟨cq69, kq69, q69a, q69b, q69c⟩ := isOf hZ65 rfl Er_
            obtain ⟨_, _, ⟨T69, L69, k69, n69⟩, -, X69, ⟨Lc69, hQ69, l69, y69, z69⟩, st69⟩ := X65.virtualBack hx (y := (⟨"java/lang/String", "length", "()I"⟩ : MethodName)) (z := (⟨"java/lang/String", "length", "()I"⟩ : MethodName)) hown65 (mvT hZ65 (hw _ (own_m 184 rfl))) (mvT hZ65 (hw _ (own_m 82 rfl))) (notFace_of_selects (args := #[]) (mvT hZ65 (hw _ (own_m 84 rfl)))) (mvT hZ65 (hw _ (own_m 84 rfl))) (mvT hZ65 (hw _ (own_m 83 rfl))) (by decide) (backOf (W := 0) (rmLen l Z a0 hw [] r_ zc fm [c0, c1, 58, d1, d2] (5 : Int32) T65.heap n0 f67 hSt f68 ⟨ts_, ks_, (0 : Int32), _, _, Er_, Fr_v, Fr_c, Ar_, Or.inl ⟨rfl, rfl, rfl, hleR⟩, hchR⟩ (own_nrwOf Fr_c) rfl) hZ65 (hw _ (own_m 85 rfl)) (hw _ (own_m 2 rfl)) (by decide) (by decide)) q69a q69c (g := (mkF m 138 #[.val (.int p0), .val (.int p1), .val (.int p2), .val (.int p3), .val (.int c0), .val (.int c1), .val (.ref b3), .val (.int pt), .val (.ref r_), .val (.int (2 : Int32))] [(.ref r_)])) rfl (by rw [hml]; rfl) (Steps.refl _) (argsL := []) (rest := []) (lenOf pd___I rfl) rfl (by show 2 * 0 + _ ≤ _; exact Nat.le_of_eq rfl) (hb hby at_138) (fun _ _ => ⟨rfl, rfl, (by decide : 10 + 0 ≤ _), (by decide : 58 + 0 ≤ _)⟩)
            dsimp only [Pt.U, Pt.locs, Pt.cells, Pt.slots] at X69 l69 y69 z69 st69 hQ69
            subst l69 y69 z69
            obtain ⟨rfl, Nq69, e69⟩ := hQ69
            have N69 := Fr.app N65 Nq69
            obtain ⟨cq70, kq70, q70a, q70b, q70c⟩ := isOf hZ65 e69 Er_
            obtain ⟨_, _, ⟨T70, L70, k70, n70⟩, -, X70, ⟨Lc70, hQ70, l70, y70, z70⟩, st70⟩ := X69.virtualBack hx (y := (⟨"java/lang/String", "charAt", "(I)C"⟩ : MethodName)) (z := (⟨"java/lang/String", "charAt", "(I)C"⟩ : MethodName)) hown65 (mvT hZ65 (hw _ (own_m 185 rfl))) (mvT hZ65 (hw _ (own_m 186 rfl))) (notFace_of_selects (args := #[]) (mvT hZ65 (hw _ (own_m 188 rfl)))) (mvT hZ65 (hw _ (own_m 188 rfl))) (mvT hZ65 (hw _ (own_m 187 rfl))) (by decide) (backOf (W := 0) (rmCharAt l Z a0 hw [] r_ (0 : Int32) zc fm [c0, c1, 58, d1, d2] c0 T65.heap n0 f67 hSt f68 ⟨ts_, ks_, (0 : Int32), _, _, Er_, Fr_v, Fr_c, Ar_, Or.inl ⟨rfl, rfl, rfl, hleR⟩, hchR⟩ (own_nrwOf Fr_c) ⟨by decide, Nat.le_of_ble_eq_true rfl⟩ rfl) hZ65 (hw _ (own_m 189 rfl)) (hw _ (own_m 2 rfl)) (by decide) (by decide)) q70a q70c (g := (mkF m 153 #[.val (.int p0), .val (.int p1), .val (.int p2), .val (.int p3), .val (.int c0), .val (.int c1), .val (.ref b3), .val (.int pt), .val (.ref r_), .val (.int (2 : Int32))] [(.int (0 : Int32)), (.ref r_)])) rfl (by rw [hml]; rfl) (Steps.refl _) (argsL := [(.int (0 : Int32))]) (rest := []) (lenOf pd__I_C rfl) rfl (by show 2 * 0 + _ ≤ _; exact Nat.le_of_eq rfl) (hb hby at_153) (fun _ _ => ⟨rfl, e69, (by decide : 10 + 0 ≤ _), (by decide : 58 + 0 ≤ _)⟩)
            dsimp only [Pt.U, Pt.locs, Pt.cells, Pt.slots] at X70 l70 y70 z70 st70 hQ70
            subst l70 y70 z70
            obtain ⟨rfl, Nq70, e70⟩ := hQ70
            have N70 := Fr.app N69 Nq70
            obtain ⟨cq71, kq71, q71a, q71b, q71c⟩ := isOf hZ65 e70 Er_
            obtain ⟨_, _, ⟨T71, L71, k71, n71⟩, -, X71, ⟨Lc71, hQ71, l71, y71, z71⟩, st71⟩ := X70.virtualBack hx (y := (⟨"java/lang/String", "charAt", "(I)C"⟩ : MethodName)) (z := (⟨"java/lang/String", "charAt", "(I)C"⟩ : MethodName)) hown65 (mvT hZ65 (hw _ (own_m 185 rfl))) (mvT hZ65 (hw _ (own_m 186 rfl))) (notFace_of_selects (args := #[]) (mvT hZ65 (hw _ (own_m 188 rfl)))) (mvT hZ65 (hw _ (own_m 188 rfl))) (mvT hZ65 (hw _ (own_m 187 rfl))) (by decide) (backOf (W := 0) (rmCharAt l Z a0 hw [] r_ (1 : Int32) zc fm [c0, c1, 58, d1, d2] c1 T65.heap n0 f67 hSt f68 ⟨ts_, ks_, (0 : Int32), _, _, Er_, Fr_v, Fr_c, Ar_, Or.inl ⟨rfl, rfl, rfl, hleR⟩, hchR⟩ (own_nrwOf Fr_c) ⟨by decide, Nat.le_of_ble_eq_true rfl⟩ rfl) hZ65 (hw _ (own_m 189 rfl)) (hw _ (own_m 2 rfl)) (by decide) (by decide)) q71a q71c (g := (mkF m 164 #[.val (.int p0), .val (.int p1), .val (.int p2), .val (.int p3), .val (.int c0), .val (.int c1), .val (.ref b3), .val (.int pt), .val (.ref r_), .val (.int (2 : Int32))] [(.int (1 : Int32)), (.ref r_)])) rfl (by rw [hml]; rfl) (Steps.refl _) (argsL := [(.int (1 : Int32))]) (rest := []) (lenOf pd__I_C rfl) rfl (by show 2 * 0 + _ ≤ _; exact Nat.le_of_eq rfl) (hb hby at_164) (fun _ _ => ⟨rfl, e70, (by decide : 10 + 0 ≤ _), (by decide : 58 + 0 ≤ _)⟩)
            dsimp only [Pt.U, Pt.locs, Pt.cells, Pt.slots] at X71 l71 y71 z71 st71 hQ71
            subst l71 y71 z71
            obtain ⟨rfl, Nq71, e71⟩ := hQ71
            have N71 := Fr.app N70 Nq71
            obtain ⟨cq72, kq72, q72a, q72b, q72c⟩ := isOf hZ65 e71 Er_
            obtain ⟨_, _, ⟨T72, L72, k72, n72⟩, -, X72, ⟨Lc72, hQ72, l72, y72, z72⟩, st72⟩ := X71.virtualBack hx (y := (⟨"java/lang/String", "charAt", "(I)C"⟩ : MethodName)) (z := (⟨"java/lang/String", "charAt", "(I)C"⟩ : MethodName)) hown65 (mvT hZ65 (hw _ (own_m 185 rfl))) (mvT hZ65 (hw _ (own_m 186 rfl))) (notFace_of_selects (args := #[]) (mvT hZ65 (hw _ (own_m 188 rfl)))) (mvT hZ65 (hw _ (own_m 188 rfl))) (mvT hZ65 (hw _ (own_m 187 rfl))) (by decide) (backOf (W := 0) (rmCharAt l Z a0 hw [] r_ (2 : Int32) zc fm [c0, c1, 58, d1, d2] (58 : Int32) T65.heap n0 f67 hSt f68 ⟨ts_, ks_, (0 : Int32), _, _, Er_, Fr_v, Fr_c, Ar_, Or.inl ⟨rfl, rfl, rfl, hleR⟩, hchR⟩ (own_nrwOf Fr_c) ⟨by decide, Nat.le_of_ble_eq_true rfl⟩ rfl) hZ65 (hw _ (own_m 189 rfl)) (hw _ (own_m 2 rfl)) (by decide) (by decide)) q72a q72c (g := (mkF m 175 #[.val (.int p0), .val (.int p1), .val (.int p2), .val (.int p3), .val (.int c0), .val (.int c1), .val (.ref b3), .val (.int pt), .val (.ref r_), .val (.int (2 : Int32))] [(.int (2 : Int32)), (.ref r_)])) rfl (by rw [hml]; rfl) (Steps.refl _) (argsL := [(.int (2 : Int32))]) (rest := []) (lenOf pd__I_C rfl) rfl (by show 2 * 0 + _ ≤ _; exact Nat.le_of_eq rfl) (hb hby at_175) (fun _ _ => ⟨rfl, e71, (by decide : 10 + 0 ≤ _), (by decide : 58 + 0 ≤ _)⟩)
            dsimp only [Pt.U, Pt.locs, Pt.cells, Pt.slots] at X72 l72 y72 z72 st72 hQ72
            subst l72 y72 z72
            obtain ⟨rfl, Nq72, e72⟩ := hQ72
            have N72 := Fr.app N71 Nq72
            obtain ⟨_, _, ⟨T73, L73, k73, n73⟩, -, X73, ⟨Lc73, hQ73, l73, y73, z73⟩, st73⟩ := Jvm.LawKit.callS X72 hx (y := (⟨"com/example/kikao/kikao/DomainToStringPinLaw", "digitOk", "(Ljava/lang/String;III)Z"⟩ : MethodName)) hown65 (mvT hZ65 (hw _ (own_m 207 rfl))) (mvT hZ65 (hw _ (own_m 208 rfl))) (mvT hZ65 (hw _ (own_m 209 rfl))) (mvT hZ65 (hw _ (own_m 210 rfl))) (by decide) (backOf (W := 0) (rmDk l Z a0 hw [] r_ pt (2 : Int32) (0 : Int32) zc fm [c0, c1, 58, d1, d2] d1 (10 : Int32) T65.heap n0 f67 hSt f68 ⟨ts_, ks_, (0 : Int32), _, _, Er_, Fr_v, Fr_c, Ar_, Or.inl ⟨rfl, rfl, rfl, hleR⟩, hchR⟩ (own_nrwOf Fr_c) (by decide) (by decide) (by decide) ⟨by decide, Nat.le_of_ble_eq_true rfl⟩ rfl hy1) hZ65 (hw _ (own_m 210 rfl)) (hw _ (own_m 209 rfl)) (by decide) (by decide)) (g := (mkF m 192 #[.val (.int p0), .val (.int p1), .val (.int p2), .val (.int p3), .val (.int c0), .val (.int c1), .val (.ref b3), .val (.int pt), .val (.ref r_), .val (.int (2 : Int32))] [(.int (0 : Int32)), (.int (2 : Int32)), (.int pt), (.ref r_)])) rfl (by rw [hml]; rfl) (argsL := [(.ref r_), (.int pt), (.int (2 : Int32)), (.int (0 : Int32))]) (rest := []) (lenOf pd__Ljava_lang_String_III_Z rfl) rfl (by show 2 * 0 + _ ≤ _; exact Nat.le_of_eq rfl) (hb hby at_192) (fun _ _ => ⟨rfl, e72, (by decide : 10 + 0 ≤ _), (by decide : 58 + 0 ≤ _)⟩)
            dsimp only [Pt.U, Pt.locs, Pt.cells, Pt.slots] at X73 l73 y73 z73 st73 hQ73
            subst l73 y73 z73
            obtain ⟨rfl, Nq73, e73⟩ := hQ73
            have N73 := Fr.app N72 Nq73
            obtain ⟨_, _, ⟨T74, L74, k74, n74⟩, -, X74, ⟨Lc74, hQ74, l74, y74, z74⟩, st74⟩ := Jvm.LawKit.callS X73 hx (y := (⟨"com/example/kikao/kikao/DomainToStringPinLaw", "digitOk", "(Ljava/lang/String;III)Z"⟩ : MethodName)) hown65 (mvT hZ65 (hw _ (own_m 207 rfl))) (mvT hZ65 (hw _ (own_m 208 rfl))) (mvT hZ65 (hw _ (own_m 209 rfl))) (mvT hZ65 (hw _ (own_m 210 rfl))) (by decide) (backOf (W := 0) (rmDk l Z a0 hw [] r_ pt (2 : Int32) (1 : Int32) zc fm [c0, c1, 58, d1, d2] d2 (1 : Int32) T65.heap n0 f67 hSt f68 ⟨ts_, ks_, (0 : Int32), _, _, Er_, Fr_v, Fr_c, Ar_, Or.inl ⟨rfl, rfl, rfl, hleR⟩, hchR⟩ (own_nrwOf Fr_c) (by decide) (by decide) (by decide) ⟨by decide, Nat.le_of_ble_eq_true rfl⟩ rfl hy2) hZ65 (hw _ (own_m 210 rfl)) (hw _ (own_m 209 rfl)) (by decide) (by decide)) (g := (mkF m 205 #[.val (.int p0), .val (.int p1), .val (.int p2), .val (.int p3), .val (.int c0), .val (.int c1), .val (.ref b3), .val (.int pt), .val (.ref r_), .val (.int (2 : Int32))] [(.int (1 : Int32)), (.int (2 : Int32)), (.int pt), (.ref r_)])) rfl (by rw [hml]; rfl) (argsL := [(.ref r_), (.int pt), (.int (2 : Int32)), (.int (1 : Int32))]) (rest := []) (lenOf pd__Ljava_lang_String_III_Z rfl) rfl (by show 2 * 0 + _ ≤ _; exact Nat.le_of_eq rfl) (hb hby at_205) (fun _ _ => ⟨rfl, e73, (by decide : 10 + 0 ≤ _), (by decide : 58 + 0 ≤ _)⟩)
            dsimp only [Pt.U, Pt.locs, Pt.cells, Pt.slots] at X74 l74 y74 z74 st74 hQ74
            subst l74 y74 z74
            obtain ⟨rfl, Nq74, e74⟩ := hQ74
            have N74 := Fr.app N73 Nq74
            obtain ⟨_, _, ⟨T75, L75, k75, n75⟩, -, X75, ⟨Lc75, hQ75, l75, y75, z75⟩, st75⟩ := Jvm.LawKit.callS X74 hx (y := (⟨"com/example/kikao/kikao/DomainToStringPinLaw", "digitOk", "(Ljava/lang/String;III)Z"⟩ : MethodName)) hown65 (mvT hZ65 (hw _ (own_m 207 rfl))) (mvT hZ65 (hw _ (own_m 208 rfl))) (mvT hZ65 (hw _ (own_m 209 rfl))) (mvT hZ65 (hw _ (own_m 210 rfl))) (by decide) (backOf (W := 0) (rmDk0 l Z a0 hw [] r_ pt (2 : Int32) (2 : Int32) zc fm  T65.heap n0 f67 hSt f68 (by decide)) hZ65 (hw _ (own_m 210 rfl)) (hw _ (own_m 209 rfl)) (by decide) (by decide)) (g := (mkF m 218 #[.val (.int p0), .val (.int p1), .val (.int p2), .val (.int p3), .val (.int c0), .val (.int c1), .val (.ref b3), .val (.int pt), .val (.ref r_), .val (.int (2 : Int32))] [(.int (2 : Int32)), (.int (2 : Int32)), (.int pt), (.ref r_)])) rfl (by rw [hml]; rfl) (argsL := [(.ref r_), (.int pt), (.int (2 : Int32)), (.int (2 : Int32))]) (rest := []) (lenOf pd__Ljava_lang_String_III_Z rfl) rfl (by show 2 * 0 + _ ≤ _; exact Nat.le_of_eq rfl) (hb hby at_218) (fun _ _ => ⟨rfl, e74, (by decide : 10 + 0 ≤ _), (by decide : 58 + 0 ≤ _)⟩)
            dsimp only [Pt.U, Pt.locs, Pt.cells, Pt.slots] at X75 l75 y75 z75 st75 hQ75
            subst l75 y75 z75
            obtain ⟨rfl, Nq75, e75⟩ := hQ75
            have N75 := Fr.app N74 Nq75
            obtain ⟨_, _, ⟨T76, L76, k76, n76⟩, -, X76, ⟨Lc76, hQ76, l76, y76, z76⟩, st76⟩ := Jvm.LawKit.callS X75 hx (y := (⟨"com/example/kikao/kikao/DomainToStringPinLaw", "digitOk", "(Ljava/lang/String;III)Z"⟩ : MethodName)) hown65 (mvT hZ65 (hw _ (own_m 207 rfl))) (mvT hZ65 (hw _ (own_m 208 rfl))) (mvT hZ65 (hw _ (own_m 209 rfl))) (mvT hZ65 (hw _ (own_m 210 rfl))) (by decide) (backOf (W := 0) (rmDk0 l Z a0 hw [] r_ pt (2 : Int32) (3 : Int32) zc fm  T65.heap n0 f67 hSt f68 (by decide)) hZ65 (hw _ (own_m 210 rfl)) (hw _ (own_m 209 rfl)) (by decide) (by decide)) (g := (mkF m 231 #[.val (.int p0), .val (.int p1), .val (.int p2), .val (.int p3), .val (.int c0), .val (.int c1), .val (.ref b3), .val (.int pt), .val (.ref r_), .val (.int (2 : Int32))] [(.int (3 : Int32)), (.int (2 : Int32)), (.int pt), (.ref r_)])) rfl (by rw [hml]; rfl) (argsL := [(.ref r_), (.int pt), (.int (2 : Int32)), (.int (3 : Int32))]) (rest := []) (lenOf pd__Ljava_lang_String_III_Z rfl) rfl (by show 2 * 0 + _ ≤ _; exact Nat.le_of_eq rfl) (hb hby at_231) (fun _ _ => ⟨rfl, e75, (by decide : 10 + 0 ≤ _), (by decide : 58 + 0 ≤ _)⟩)
            dsimp only [Pt.U, Pt.locs, Pt.cells, Pt.slots] at X76 l76 y76 z76 st76 hQ76
            subst l76 y76 z76
            obtain ⟨rfl, Nq76, e76⟩ := hQ76
            have N76 := Fr.app N75 Nq76
            obtain ⟨_, _, ⟨T77, L77, k77, n77⟩, -, X77, ⟨Lc77, hQ77, l77, y77, z77⟩, st77⟩ := Jvm.LawKit.callS X76 hx (y := (⟨"com/example/kikao/kikao/DomainToStringPinLaw", "digitOk", "(Ljava/lang/String;III)Z"⟩ : MethodName)) hown65 (mvT hZ65 (hw _ (own_m 207 rfl))) (mvT hZ65 (hw _ (own_m 208 rfl))) (mvT hZ65 (hw _ (own_m 209 rfl))) (mvT hZ65 (hw _ (own_m 210 rfl))) (by decide) (backOf (W := 0) (rmDk0 l Z a0 hw [] r_ pt (2 : Int32) (4 : Int32) zc fm  T65.heap n0 f67 hSt f68 (by decide)) hZ65 (hw _ (own_m 210 rfl)) (hw _ (own_m 209 rfl)) (by decide) (by decide)) (g := (mkF m 244 #[.val (.int p0), .val (.int p1), .val (.int p2), .val (.int p3), .val (.int c0), .val (.int c1), .val (.ref b3), .val (.int pt), .val (.ref r_), .val (.int (2 : Int32))] [(.int (4 : Int32)), (.int (2 : Int32)), (.int pt), (.ref r_)])) rfl (by rw [hml]; rfl) (argsL := [(.ref r_), (.int pt), (.int (2 : Int32)), (.int (4 : Int32))]) (rest := []) (lenOf pd__Ljava_lang_String_III_Z rfl) rfl (by show 2 * 0 + _ ≤ _; exact Nat.le_of_eq rfl) (hb hby at_244) (fun _ _ => ⟨rfl, e76, (by decide : 10 + 0 ≤ _), (by decide : 58 + 0 ≤ _)⟩)
            dsimp only [Pt.U, Pt.locs, Pt.cells, Pt.slots] at X77 l77 y77 z77 st77 hQ77
            subst l77 y77 z77
            obtain ⟨rfl, Nq77, e77⟩ := hQ77
            have N77 := Fr.app N76 Nq77
            obtain ⟨fs, hr, hrun, hended, hEnd⟩ := X77.leaveW hS65 (by rw [e77]; exact hk65) (v := some (.int (1 : Int32))) (fun h => by rw [Bd.returns] at h; cases h)
            refine ⟨_, _, pre29 _ ?_, hrun, hended, _, _, rfl, ?_, hEnd.1, hEnd.2.1, hEnd.2.2.1, hEnd.2.2.2.mono (by decide) (by decide)⟩
            · show Steps p.tables e below (T15.setTop (mkF m 57 #[.val (.int p0), .val (.int p1), .val (.int p2), .val (.int p3), .val (.int c0), .val (.int c1), .val (.ref b3), .val (.int pt), .unset, .unset] [])) _
              refine st55 _ ?_
              show Steps p.tables e below (T55.setTop (mkF m 60 #[.val (.int p0), .val (.int p1), .val (.int p2), .val (.int p3), .val (.int c0), .val (.int c1), .val (.ref b3), .val (.int pt), .unset, .unset] [(.ref b55)])) _
              refine XS.dup X55.here hx rfl (hb hby at_60) rfl rfl ?_
              refine XS.aload X55.here hx rfl (hb hby at_61) rfl rfl ?_
              refine XS.iload X55.here hx rfl (hb hby at_63) rfl  ?_
              show Steps p.tables e below (T55.setTop (mkF m 65 #[.val (.int p0), .val (.int p1), .val (.int p2), .val (.int p3), .val (.int c0), .val (.int c1), .val (.ref b3), .val (.int pt), .unset, .unset] [(.int pt), (.ref b3), (.ref b55), (.ref b55)])) _
              refine st58.trans ?_
              show Steps p.tables e below (T58.setTop (mkF m 68 #[.val (.int p0), .val (.int p1), .val (.int p2), .val (.int p3), .val (.int c0), .val (.int c1), .val (.ref b3), .val (.int pt), .unset, .unset] [(.ref b55)])) _
              refine st65.trans ?_
              show Steps p.tables e below (T65.setTop (mkF m 71 #[.val (.int p0), .val (.int p1), .val (.int p2), .val (.int p3), .val (.int c0), .val (.int c1), .val (.ref b3), .val (.int pt), .unset, .unset] [(.ref r_)])) _
              refine XS.astore X65.here hx rfl (hb hby at_71) rfl rfl (l' := #[.val (.int p0), .val (.int p1), .val (.int p2), .val (.int p3), .val (.int c0), .val (.int c1), .val (.ref b3), .val (.int pt), .val (.ref r_), .unset]) rfl ?_
              refine XS.iload X65.here hx rfl (hb hby at_73) rfl  ?_
              refine XS.iconst X65.here hx rfl (hb hby at_75) ?_
              show Steps p.tables e below (T65.setTop (mkF m 76 #[.val (.int p0), .val (.int p1), .val (.int p2), .val (.int p3), .val (.int c0), .val (.int c1), .val (.ref b3), .val (.int pt), .val (.ref r_), .unset] [(.int (-1 : Int32)), (.int pt)])) _
              refine XS.icmpYes X65.here hx rfl (pc0 := 76) (pc' := 87) rfl (hb hby at_76) rfl (feq (fun q => by rw [q] at gpt; exact absurd gpt.1 (by decide))).2 (by decide) (by decide) ?_
              refine XS.iload X65.here hx rfl (hb hby at_87) rfl  ?_
              refine XS.sipush X65.here hx rfl (hb hby at_89) ?_
              show Steps p.tables e below (T65.setTop (mkF m 92 #[.val (.int p0), .val (.int p1), .val (.int p2), .val (.int p3), .val (.int c0), .val (.int c1), .val (.ref b3), .val (.int pt), .val (.ref r_), .unset] [(.int (10000 : Int32)), (.int pt)])) _
              refine XS.icmpYes X65.here hx rfl (pc0 := 92) (pc' := 99) rfl (hb hby at_92) rfl (tlt hn5).1 (by decide) (by decide) ?_
              refine XS.iload X65.here hx rfl (hb hby at_99) rfl  ?_
              refine XS.sipush X65.here hx rfl (hb hby at_101) ?_
              show Steps p.tables e below (T65.setTop (mkF m 104 #[.val (.int p0), .val (.int p1), .val (.int p2), .val (.int p3), .val (.int c0), .val (.int c1), .val (.ref b3), .val (.int pt), .val (.ref r_), .unset] [(.int (1000 : Int32)), (.int pt)])) _
              refine XS.icmpYes X65.here hx rfl (pc0 := 104) (pc' := 111) rfl (hb hby at_104) rfl (tlt hn4).1 (by decide) (by decide) ?_
              refine XS.iload X65.here hx rfl (hb hby at_111) rfl  ?_
              refine XS.bipush X65.here hx rfl (hb hby at_113) ?_
              show Steps p.tables e below (T65.setTop (mkF m 115 #[.val (.int p0), .val (.int p1), .val (.int p2), .val (.int p3), .val (.int c0), .val (.int c1), .val (.ref b3), .val (.int pt), .val (.ref r_), .unset] [(.int (100 : Int32)), (.int pt)])) _
              refine XS.icmpYes X65.here hx rfl (pc0 := 115) (pc' := 122) rfl (hb hby at_115) rfl (tlt hn3).1 (by decide) (by decide) ?_
              refine XS.iload X65.here hx rfl (hb hby at_122) rfl  ?_
              refine XS.bipush X65.here hx rfl (hb hby at_124) ?_
              show Steps p.tables e below (T65.setTop (mkF m 126 #[.val (.int p0), .val (.int p1), .val (.int p2), .val (.int p3), .val (.int c0), .val (.int c1), .val (.ref b3), .val (.int pt), .val (.ref r_), .unset] [(.int (10 : Int32)), (.int pt)])) _
              refine XS.icmpNo X65.here hx rfl (hb hby at_126) rfl (flt hn2).1 ?_
              refine XS.iconst X65.here hx rfl (hb hby at_129) ?_
              refine XS.goto X65.here hx rfl (pc0 := 130) (pc' := 134) rfl (hb hby at_130) (by decide) (by decide) ?_
              refine XS.istore X65.here hx rfl (hb hby at_134) rfl (l' := #[.val (.int p0), .val (.int p1), .val (.int p2), .val (.int p3), .val (.int c0), .val (.int c1), .val (.ref b3), .val (.int pt), .val (.ref r_), .val (.int (2 : Int32))]) rfl ?_
              refine XS.aload X65.here hx rfl (hb hby at_136) rfl rfl ?_
              show Steps p.tables e below (T65.setTop (mkF m 138 #[.val (.int p0), .val (.int p1), .val (.int p2), .val (.int p3), .val (.int c0), .val (.int c1), .val (.ref b3), .val (.int pt), .val (.ref r_), .val (.int (2 : Int32))] [(.ref r_)])) _
              refine st69.trans ?_
              show Steps p.tables e below (T69.setTop (mkF m 141 #[.val (.int p0), .val (.int p1), .val (.int p2), .val (.int p3), .val (.int c0), .val (.int c1), .val (.ref b3), .val (.int pt), .val (.ref r_), .val (.int (2 : Int32))] [(.int (5 : Int32))])) _
              refine XS.iconst X69.here hx rfl (hb hby at_141) ?_
              refine XS.iload X69.here hx rfl (hb hby at_142) rfl  ?_
              refine XS.iadd X69.here hx rfl (hb hby at_144) rfl ?_
              show Steps p.tables e below (T69.setTop (mkF m 145 #[.val (.int p0), .val (.int p1), .val (.int p2), .val (.int p3), .val (.int c0), .val (.int c1), .val (.ref b3), .val (.int pt), .val (.ref r_), .val (.int (2 : Int32))] [(.int (5 : Int32)), (.int (5 : Int32))])) _
              refine XS.icmpYes X69.here hx rfl (pc0 := 145) (pc' := 150) rfl (hb hby at_145) rfl (teq (by decide : (5 : Int32) = (5 : Int32))).1 (by decide) (by decide) ?_
              refine XS.aload X69.here hx rfl (hb hby at_150) rfl rfl ?_
              refine XS.iconst X69.here hx rfl (hb hby at_152) ?_
              show Steps p.tables e below (T69.setTop (mkF m 153 #[.val (.int p0), .val (.int p1), .val (.int p2), .val (.int p3), .val (.int c0), .val (.int c1), .val (.ref b3), .val (.int pt), .val (.ref r_), .val (.int (2 : Int32))] [(.int (0 : Int32)), (.ref r_)])) _
              refine st70.trans ?_
              show Steps p.tables e below (T70.setTop (mkF m 156 #[.val (.int p0), .val (.int p1), .val (.int p2), .val (.int p3), .val (.int c0), .val (.int c1), .val (.ref b3), .val (.int pt), .val (.ref r_), .val (.int (2 : Int32))] [(.int c0)])) _
              refine XS.iload X70.here hx rfl (hb hby at_156) rfl  ?_
              show Steps p.tables e below (T70.setTop (mkF m 158 #[.val (.int p0), .val (.int p1), .val (.int p2), .val (.int p3), .val (.int c0), .val (.int c1), .val (.ref b3), .val (.int pt), .val (.ref r_), .val (.int (2 : Int32))] [(.int c0), (.int c0)])) _
              refine XS.icmpNo X70.here hx rfl (hb hby at_158) rfl (teq (rfl : c0 = c0)).2 ?_
              refine XS.aload X70.here hx rfl (hb hby at_161) rfl rfl ?_
              refine XS.iconst X70.here hx rfl (hb hby at_163) ?_
              show Steps p.tables e below (T70.setTop (mkF m 164 #[.val (.int p0), .val (.int p1), .val (.int p2), .val (.int p3), .val (.int c0), .val (.int c1), .val (.ref b3), .val (.int pt), .val (.ref r_), .val (.int (2 : Int32))] [(.int (1 : Int32)), (.ref r_)])) _
              refine st71.trans ?_
              show Steps p.tables e below (T71.setTop (mkF m 167 #[.val (.int p0), .val (.int p1), .val (.int p2), .val (.int p3), .val (.int c0), .val (.int c1), .val (.ref b3), .val (.int pt), .val (.ref r_), .val (.int (2 : Int32))] [(.int c1)])) _
              refine XS.iload X71.here hx rfl (hb hby at_167) rfl  ?_
              show Steps p.tables e below (T71.setTop (mkF m 169 #[.val (.int p0), .val (.int p1), .val (.int p2), .val (.int p3), .val (.int c0), .val (.int c1), .val (.ref b3), .val (.int pt), .val (.ref r_), .val (.int (2 : Int32))] [(.int c1), (.int c1)])) _
              refine XS.icmpNo X71.here hx rfl (hb hby at_169) rfl (teq (rfl : c1 = c1)).2 ?_
              refine XS.aload X71.here hx rfl (hb hby at_172) rfl rfl ?_
              refine XS.iconst X71.here hx rfl (hb hby at_174) ?_
              show Steps p.tables e below (T71.setTop (mkF m 175 #[.val (.int p0), .val (.int p1), .val (.int p2), .val (.int p3), .val (.int c0), .val (.int c1), .val (.ref b3), .val (.int pt), .val (.ref r_), .val (.int (2 : Int32))] [(.int (2 : Int32)), (.ref r_)])) _
              refine st72.trans ?_
              show Steps p.tables e below (T72.setTop (mkF m 178 #[.val (.int p0), .val (.int p1), .val (.int p2), .val (.int p3), .val (.int c0), .val (.int c1), .val (.ref b3), .val (.int pt), .val (.ref r_), .val (.int (2 : Int32))] [(.int (58 : Int32))])) _
              refine XS.bipush X72.here hx rfl (hb hby at_178) ?_
              show Steps p.tables e below (T72.setTop (mkF m 180 #[.val (.int p0), .val (.int p1), .val (.int p2), .val (.int p3), .val (.int c0), .val (.int c1), .val (.ref b3), .val (.int pt), .val (.ref r_), .val (.int (2 : Int32))] [(.int (58 : Int32)), (.int (58 : Int32))])) _
              refine XS.icmpYes X72.here hx rfl (pc0 := 180) (pc' := 185) rfl (hb hby at_180) rfl (teq (by decide : (58 : Int32) = (58 : Int32))).1 (by decide) (by decide) ?_
              refine XS.aload X72.here hx rfl (hb hby at_185) rfl rfl ?_
              refine XS.iload X72.here hx rfl (hb hby at_187) rfl  ?_
              refine XS.iload X72.here hx rfl (hb hby at_189) rfl  ?_
              refine XS.iconst X72.here hx rfl (hb hby at_191) ?_
              show Steps p.tables e below (T72.setTop (mkF m 192 #[.val (.int p0), .val (.int p1), .val (.int p2), .val (.int p3), .val (.int c0), .val (.int c1), .val (.ref b3), .val (.int pt), .val (.ref r_), .val (.int (2 : Int32))] [(.int (0 : Int32)), (.int (2 : Int32)), (.int pt), (.ref r_)])) _
              refine st73 _ ?_
              show Steps p.tables e below (T73.setTop (mkF m 195 #[.val (.int p0), .val (.int p1), .val (.int p2), .val (.int p3), .val (.int c0), .val (.int c1), .val (.ref b3), .val (.int pt), .val (.ref r_), .val (.int (2 : Int32))] [(.int (1 : Int32))])) _
              refine XS.ifNo X73.here hx rfl (hb hby at_195) rfl ((if0 _ _).trans (feq (by decide : ¬ ((1 : Int32) = (0 : Int32)))).1) ?_
              refine XS.aload X73.here hx rfl (hb hby at_198) rfl rfl ?_
              refine XS.iload X73.here hx rfl (hb hby at_200) rfl  ?_
              refine XS.iload X73.here hx rfl (hb hby at_202) rfl  ?_
              refine XS.iconst X73.here hx rfl (hb hby at_204) ?_
              show Steps p.tables e below (T73.setTop (mkF m 205 #[.val (.int p0), .val (.int p1), .val (.int p2), .val (.int p3), .val (.int c0), .val (.int c1), .val (.ref b3), .val (.int pt), .val (.ref r_), .val (.int (2 : Int32))] [(.int (1 : Int32)), (.int (2 : Int32)), (.int pt), (.ref r_)])) _
              refine st74 _ ?_
              show Steps p.tables e below (T74.setTop (mkF m 208 #[.val (.int p0), .val (.int p1), .val (.int p2), .val (.int p3), .val (.int c0), .val (.int c1), .val (.ref b3), .val (.int pt), .val (.ref r_), .val (.int (2 : Int32))] [(.int (1 : Int32))])) _
              refine XS.ifNo X74.here hx rfl (hb hby at_208) rfl ((if0 _ _).trans (feq (by decide : ¬ ((1 : Int32) = (0 : Int32)))).1) ?_
              refine XS.aload X74.here hx rfl (hb hby at_211) rfl rfl ?_
              refine XS.iload X74.here hx rfl (hb hby at_213) rfl  ?_
              refine XS.iload X74.here hx rfl (hb hby at_215) rfl  ?_
              refine XS.iconst X74.here hx rfl (hb hby at_217) ?_
              show Steps p.tables e below (T74.setTop (mkF m 218 #[.val (.int p0), .val (.int p1), .val (.int p2), .val (.int p3), .val (.int c0), .val (.int c1), .val (.ref b3), .val (.int pt), .val (.ref r_), .val (.int (2 : Int32))] [(.int (2 : Int32)), (.int (2 : Int32)), (.int pt), (.ref r_)])) _
              refine st75 _ ?_
              show Steps p.tables e below (T75.setTop (mkF m 221 #[.val (.int p0), .val (.int p1), .val (.int p2), .val (.int p3), .val (.int c0), .val (.int c1), .val (.ref b3), .val (.int pt), .val (.ref r_), .val (.int (2 : Int32))] [(.int (1 : Int32))])) _
              refine XS.ifNo X75.here hx rfl (hb hby at_221) rfl ((if0 _ _).trans (feq (by decide : ¬ ((1 : Int32) = (0 : Int32)))).1) ?_
              refine XS.aload X75.here hx rfl (hb hby at_224) rfl rfl ?_
              refine XS.iload X75.here hx rfl (hb hby at_226) rfl  ?_
              refine XS.iload X75.here hx rfl (hb hby at_228) rfl  ?_
              refine XS.iconst X75.here hx rfl (hb hby at_230) ?_
              show Steps p.tables e below (T75.setTop (mkF m 231 #[.val (.int p0), .val (.int p1), .val (.int p2), .val (.int p3), .val (.int c0), .val (.int c1), .val (.ref b3), .val (.int pt), .val (.ref r_), .val (.int (2 : Int32))] [(.int (3 : Int32)), (.int (2 : Int32)), (.int pt), (.ref r_)])) _
              refine st76 _ ?_
              show Steps p.tables e below (T76.setTop (mkF m 234 #[.val (.int p0), .val (.int p1), .val (.int p2), .val (.int p3), .val (.int c0), .val (.int c1), .val (.ref b3), .val (.int pt), .val (.ref r_), .val (.int (2 : Int32))] [(.int (1 : Int32))])) _
              refine XS.ifNo X76.here hx rfl (hb hby at_234) rfl ((if0 _ _).trans (feq (by decide : ¬ ((1 : Int32) = (0 : Int32)))).1) ?_
              refine XS.aload X76.here hx rfl (hb hby at_237) rfl rfl ?_
              refine XS.iload X76.here hx rfl (hb hby at_239) rfl  ?_
              refine XS.iload X76.here hx rfl (hb hby at_241) rfl  ?_
              refine XS.iconst X76.here hx rfl (hb hby at_243) ?_
              show Steps p.tables e below (T76.setTop (mkF m 244 #[.val (.int p0), .val (.int p1), .val (.int p2), .val (.int p3), .val (.int c0), .val (.int c1), .val (.ref b3), .val (.int pt), .val (.ref r_), .val (.int (2 : Int32))] [(.int (4 : Int32)), (.int (2 : Int32)), (.int pt), (.ref r_)])) _
              refine st77 _ ?_
              show Steps p.tables e below (T77.setTop (mkF m 247 #[.val (.int p0), .val (.int p1), .val (.int p2), .val (.int p3), .val (.int c0), .val (.int c1), .val (.ref b3), .val (.int pt), .val (.ref r_), .val (.int (2 : Int32))] [(.int (1 : Int32))])) _
              refine XS.ifNo X77.here hx rfl (hb hby at_247) rfl ((if0 _ _).trans (feq (by decide : ¬ ((1 : Int32) = (0 : Int32)))).1) ?_
              refine XS.iconst X77.here hx rfl (hb hby at_250) ?_
              refine XS.goto X77.here hx rfl (pc0 := 251) (pc' := 255) rfl (hb hby at_251) (by decide) (by decide) ?_
              show Steps p.tables e below (T77.setTop (mkF m 255 #[.val (.int p0), .val (.int p1), .val (.int p2), .val (.int p3), .val (.int c0), .val (.int c1), .val (.ref b3), .val (.int pt), .val (.ref r_), .val (.int (2 : Int32))] [(.int (1 : Int32))])) _
              exact retN X77 hx (t := .boolean) Bd.returns (by simp) (hb hby at_255) hr
            · show Q_rm0 Z p0 p1 p2 p3 zc fm wO cO wT cT h0 n0 _ T77.heap _
              rw [e77]
              exact ⟨rfl, N77⟩
        · have hlo_ : 100 ≤ pt.toInt := (own_lt (by decide)).2 hn3
          have hhi_ : pt.toInt < 1000 := (own_lt (by decide)).1 hn4
          obtain ⟨d1, hx1⟩ : ∃ z, z = ((48 : Int32) + ((pt / (100 : Int32)) % (10 : Int32))) := ⟨_, rfl⟩
          have hd1 : d1.toInt = 48 + pt.toInt / 100 % 10 := by rw [hx1, own_dg (b := 100) (by decide) (by decide) gpt.1 (by decide)]
          have hy1 : d1 = ((48 : Int32) + ((pt / (100 : Int32)) % (10 : Int32))).toUInt32.toUInt16.toUInt32.toInt32 := by rw [← hx1]; exact (own_cc (own_dr hd1)).symm
          obtain ⟨d2, hx2⟩ : ∃ z, z = ((48 : Int32) + ((pt / (10 : Int32)) % (10 : Int32))) := ⟨_, rfl⟩
          have hd2 : d2.toInt = 48 + pt.toInt / 10 % 10 := by rw [hx2, own_dg (b := 10) (by decide) (by decide) gpt.1 (by decide)]
          have hy2 : d2 = ((48 : Int32) + ((pt / (10 : Int32)) % (10 : Int32))).toUInt32.toUInt16.toUInt32.toInt32 := by rw [← hx2]; exact (own_cc (own_dr hd2)).symm
          obtain ⟨d3, hx3⟩ : ∃ z, z = ((48 : Int32) + ((pt / (1 : Int32)) % (10 : Int32))) := ⟨_, rfl⟩
          have hd3 : d3.toInt = 48 + pt.toInt % 10 := by rw [hx3, own_dg (b := 1) (by decide) (by decide) gpt.1 (by decide), own_d1]
          have hy3 : d3 = ((48 : Int32) + ((pt / (1 : Int32)) % (10 : Int32))).toUInt32.toUInt16.toUInt32.toInt32 := by rw [← hx3]; exact (own_cc (own_dr hd3)).symm
          have f78 := (V9.keep K15 (ninS (Ne.symm ne4_b3) nin0))
          obtain ⟨T79, h79, X79, e79, E79, A79, D79, -, st79⟩ := newO X15 hx hZ hown (hw _ (own_m 32 rfl)) (hw _ (own_m 33 rfl)) (hw _ (own_m 34 rfl)) rfl (g := (mkF m 57 #[.val (.int p0), .val (.int p1), .val (.int p2), .val (.int p3), .val (.int c0), .val (.int c1), .val (.ref b3), .val (.int pt), .unset, .unset] [])) rfl (hb hby at_57) (by decide) (by decide)
          obtain ⟨b79, g79⟩ : ∃ z, z = T15.heap.size := ⟨_, rfl⟩
          rw [← g79] at A79 D79 st79
          have ne79_b3 : b3 ≠ b79 := Nat.ne_of_lt (Nat.lt_of_lt_of_le Eh.lt (Nat.le_of_eq g79.symm))
          have ne79_b4 : b4 ≠ b79 := Nat.ne_of_lt (Nat.lt_of_lt_of_le f78.lt (Nat.le_of_eq g79.symm))
          have ne79_th : th ≠ b79 := Nat.ne_of_lt (Nat.lt_of_lt_of_le Ah.lt (Nat.le_of_eq g79.symm))
          have f80 := (Nat.le_trans f13 K15.1)
          have ge79 : n0 ≤ b79 := Nat.le_trans f80 (Nat.le_of_eq g79.symm)
          have F79_host : Fld Z h79 b79 "com/example/kikao/kikao/Domain" "host" "Ljava/lang/String;" .null := D79 (Or.inr (hw _ (own_m 45 rfl))) (ty := (.object "java/lang/String")) (by decide)
          have F79_port : Fld Z h79 b79 "com/example/kikao/kikao/Domain" "port" "I" (.int (0 : Int32)) := D79 (Or.inr (hw _ (own_m 47 rfl))) (ty := .int) (by decide)
          have f81 := (Nat.le_trans f80 E79.1)
          obtain ⟨_, _, ⟨T82, L82, k82, n82⟩, -, X82, ⟨Lc82, hQ82, l82, y82, z82⟩, st82⟩ := X79.specialBack hx (y := (⟨"com/example/kikao/kikao/Domain", "<init>", "(Ljava/lang/String;I)V"⟩ : MethodName)) rfl hown (mvT hZ (hw _ (own_m 35 rfl))) (mvT hZ (hw _ (own_m 36 rfl))) (mvT hZ (hw _ (own_m 37 rfl))) (by decide) (backOf (W := 1) (rmDom l Z a0 hw [] b79 b3 pt h79 n0 f81 A79 F79_host F79_port ge79) hZ (hw _ (own_m 37 rfl)) (hw _ (own_m 34 rfl)) (by decide) (by decide)) (g := (mkF m 65 #[.val (.int p0), .val (.int p1), .val (.int p2), .val (.int p3), .val (.int c0), .val (.int c1), .val (.ref b3), .val (.int pt), .unset, .unset] [(.int pt), (.ref b3), (.ref b79), (.ref b79)])) rfl (by rw [hml]; rfl) (Steps.refl _) (a := b79) (argsL := [(.ref b3), (.int pt)]) (rest := [(.ref b79)]) (lenOf pd__Ljava_lang_String_I_V rfl) rfl (by show 2 * 0 + _ ≤ _; exact Nat.le_of_eq rfl) (hb hby at_65) (fun _ _ => ⟨rfl, e79, (by decide : 4 + 0 ≤ _), (by decide : 10 + 0 ≤ _)⟩)
          dsimp only [Pt.U, Pt.locs, Pt.cells, Pt.slots] at X82 l82 y82 z82 st82 hQ82
          subst l82 y82 z82
          obtain ⟨rfl, Nq82, K82, Fdh, Fdp⟩ := hQ82
          have N82 := Fr.app N15 Nq82
          have f83 := ((Eh.ext E79).keep K82)
          have f84 := ((Fhv.ext E79).keep K82 (ninS ne79_b3 nin0))
          have f85 := ((Fhc.ext E79).keep K82 (ninS ne79_b3 nin0))
          have f86 := ((Ah.ext E79).keep K82 (ninS ne79_th nin0))
          have f87 := (((f14.keep K15 (allS ge3 all0)).ext E79).keep K82 (allS ge79 all0))
          have f88 := (Nat.le_trans f81 K82.1)
          have f90 := (A79.keep K82)
          obtain ⟨cq89, kq89, q89a, q89b, q89c⟩ := isOf hZ rfl f90
          obtain ⟨_, _, ⟨T89, L89, k89, n89⟩, -, X89, hS89, hgr89, ⟨Lc89, hQ89, l89, y89, z89⟩, st89⟩ := X82.virtualBackS hx (y := (⟨"com/example/kikao/kikao/Domain", "toString", "()Ljava/lang/String;"⟩ : MethodName)) (z := (⟨"com/example/kikao/kikao/Domain", "toString", "()Ljava/lang/String;"⟩ : MethodName)) hown (mvT hZ (hw _ (own_m 48 rfl))) (mvT hZ (hw _ (own_m 49 rfl))) (notFace_of_selects (args := #[]) (mvT hZ (hw _ (own_m 51 rfl)))) (mvT hZ (hw _ (own_m 51 rfl))) (mvT hZ (hw _ (own_m 50 rfl))) (by decide) (own_backI (W := 0) (rmTS3 l Z a0 hw [] b79 zc fm wO cO wT cT b3 th kh c0 c1 pt d1 d2 d3 T82.heap T82.heap.size (Nat.le_refl _) hSt ⟨Nat.le_trans f87.1 f88, f87.2⟩ hDT Fdh Fdp f83 f84 f85 f86 hleh hchh gpt.1 hlo_ hhi_ hd1 hd2 hd3 rfl hheld hcw) hI hZ (hw _ (own_m 52 rfl)) (hw _ (own_m 34 rfl)) (by decide) (by decide)) q89a q89c (g := (mkF m 68 #[.val (.int p0), .val (.int p1), .val (.int p2), .val (.int p3), .val (.int c0), .val (.int c1), .val (.ref b3), .val (.int pt), .unset, .unset] [(.ref b79)])) rfl (by rw [hml]; rfl) (Steps.refl _) (argsL := []) (rest := []) (lenOf pd___Ljava_lang_String_ rfl) rfl (by show 2 * 0 + _ ≤ _; exact Nat.le_of_eq rfl) (hb hby at_68) (fun _ _ => ⟨rfl, rfl, (by decide : 4 + 6 ≤ _), (by decide : 10 + 48 ≤ _)⟩)
          dsimp only [Pt.U, Pt.locs, Pt.cells, Pt.slots] at X89 l89 y89 z89 st89 hQ89 hS89 hgr89
          subst l89 y89 z89
          have hZ89 : Z.Warmed39 (s.setVm T89.vm).vm := State.Warmed39.trans hZ hS89.1
          have hown89 : (s.setVm T89.vm).vm.findClass "com/example/kikao/kikao/DomainToStringPinLaw" = some m.cls := (hS89.1.alike.findClass _ _).trans hown
          obtain ⟨⟨r_, ts_, ks_, rfl, Er_, Fr_v, Fr_c, Ar_⟩, Nq89, K89⟩ := hQ89
          have N89 := Fr.app N82 (own_frw f88 Nq89)
          have hk89 : T89.heap.size ≤ T89.heap.size := Nat.le_refl _
          have hleR : ∀ c ∈ [c0, c1, 58, d1, d2, d3], ¬ (255 : Int32) < c := own_allc (own_r8 gc0).2 (own_allc (own_r8 gc1).2 (own_allc (by decide) (own_allc (own_r8 (own_dr hd1)).2 (own_allc (own_r8 (own_dr hd2)).2 (own_allc (own_r8 (own_dr hd3)).2 (fun _ q => nomatch q))))))
          have hchR : own_Chs [c0, c1, 58, d1, d2, d3] := ⟨own_allc (own_r8 gc0).1 (own_allc (own_r8 gc1).1 (own_allc ⟨by decide, by decide⟩ (own_allc (own_r8 (own_dr hd1)).1 (own_allc (own_r8 (own_dr hd2)).1 (own_allc (own_r8 (own_dr hd3)).1 (fun _ q => nomatch q)))))), Nat.le_of_ble_eq_true rfl⟩
          have f91 := (Nat.le_trans f88 K89.1)
          have f92 := (f87.keep K89 all0)
          obtain ⟨cq93, kq93, q93a, q93b, q93c⟩ := isOf hZ89 rfl Er_
          obtain ⟨_, _, ⟨T93, L93, k93, n93⟩, -, X93, ⟨Lc93, hQ93, l93, y93, z93⟩, st93⟩ := X89.virtualBack hx (y := (⟨"java/lang/String", "length", "()I"⟩ : MethodName)) (z := (⟨"java/lang/String", "length", "()I"⟩ : MethodName)) hown89 (mvT hZ89 (hw _ (own_m 184 rfl))) (mvT hZ89 (hw _ (own_m 82 rfl))) (notFace_of_selects (args := #[]) (mvT hZ89 (hw _ (own_m 84 rfl)))) (mvT hZ89 (hw _ (own_m 84 rfl))) (mvT hZ89 (hw _ (own_m 83 rfl))) (by decide) (backOf (W := 0) (rmLen l Z a0 hw [] r_ zc fm [c0, c1, 58, d1, d2, d3] (6 : Int32) T89.heap n0 f91 hSt f92 ⟨ts_, ks_, (0 : Int32), _, _, Er_, Fr_v, Fr_c, Ar_, Or.inl ⟨rfl, rfl, rfl, hleR⟩, hchR⟩ (own_nrwOf Fr_c) rfl) hZ89 (hw _ (own_m 85 rfl)) (hw _ (own_m 2 rfl)) (by decide) (by decide)) q93a q93c (g := (mkF m 138 #[.val (.int p0), .val (.int p1), .val (.int p2), .val (.int p3), .val (.int c0), .val (.int c1), .val (.ref b3), .val (.int pt), .val (.ref r_), .val (.int (3 : Int32))] [(.ref r_)])) rfl (by rw [hml]; rfl) (Steps.refl _) (argsL := []) (rest := []) (lenOf pd___I rfl) rfl (by show 2 * 0 + _ ≤ _; exact Nat.le_of_eq rfl) (hb hby at_138) (fun _ _ => ⟨rfl, rfl, (by decide : 10 + 0 ≤ _), (by decide : 58 + 0 ≤ _)⟩)
          dsimp only [Pt.U, Pt.locs, Pt.cells, Pt.slots] at X93 l93 y93 z93 st93 hQ93
          subst l93 y93 z93
          obtain ⟨rfl, Nq93, e93⟩ := hQ93
          have N93 := Fr.app N89 Nq93
          obtain ⟨cq94, kq94, q94a, q94b, q94c⟩ := isOf hZ89 e93 Er_
          obtain ⟨_, _, ⟨T94, L94, k94, n94⟩, -, X94, ⟨Lc94, hQ94, l94, y94, z94⟩, st94⟩ := X93.virtualBack hx (y := (⟨"java/lang/String", "charAt", "(I)C"⟩ : MethodName)) (z := (⟨"java/lang/String", "charAt", "(I)C"⟩ : MethodName)) hown89 (mvT hZ89 (hw _ (own_m 185 rfl))) (mvT hZ89 (hw _ (own_m 186 rfl))) (notFace_of_selects (args := #[]) (mvT hZ89 (hw _ (own_m 188 rfl)))) (mvT hZ89 (hw _ (own_m 188 rfl))) (mvT hZ89 (hw _ (own_m 187 rfl))) (by decide) (backOf (W := 0) (rmCharAt l Z a0 hw [] r_ (0 : Int32) zc fm [c0, c1, 58, d1, d2, d3] c0 T89.heap n0 f91 hSt f92 ⟨ts_, ks_, (0 : Int32), _, _, Er_, Fr_v, Fr_c, Ar_, Or.inl ⟨rfl, rfl, rfl, hleR⟩, hchR⟩ (own_nrwOf Fr_c) ⟨by decide, Nat.le_of_ble_eq_true rfl⟩ rfl) hZ89 (hw _ (own_m 189 rfl)) (hw _ (own_m 2 rfl)) (by decide) (by decide)) q94a q94c (g := (mkF m 153 #[.val (.int p0), .val (.int p1), .val (.int p2), .val (.int p3), .val (.int c0), .val (.int c1), .val (.ref b3), .val (.int pt), .val (.ref r_), .val (.int (3 : Int32))] [(.int (0 : Int32)), (.ref r_)])) rfl (by rw [hml]; rfl) (Steps.refl _) (argsL := [(.int (0 : Int32))]) (rest := []) (lenOf pd__I_C rfl) rfl (by show 2 * 0 + _ ≤ _; exact Nat.le_of_eq rfl) (hb hby at_153) (fun _ _ => ⟨rfl, e93, (by decide : 10 + 0 ≤ _), (by decide : 58 + 0 ≤ _)⟩)
          dsimp only [Pt.U, Pt.locs, Pt.cells, Pt.slots] at X94 l94 y94 z94 st94 hQ94
          subst l94 y94 z94
          obtain ⟨rfl, Nq94, e94⟩ := hQ94
          have N94 := Fr.app N93 Nq94
          obtain ⟨cq95, kq95, q95a, q95b, q95c⟩ := isOf hZ89 e94 Er_
          obtain ⟨_, _, ⟨T95, L95, k95, n95⟩, -, X95, ⟨Lc95, hQ95, l95, y95, z95⟩, st95⟩ := X94.virtualBack hx (y := (⟨"java/lang/String", "charAt", "(I)C"⟩ : MethodName)) (z := (⟨"java/lang/String", "charAt", "(I)C"⟩ : MethodName)) hown89 (mvT hZ89 (hw _ (own_m 185 rfl))) (mvT hZ89 (hw _ (own_m 186 rfl))) (notFace_of_selects (args := #[]) (mvT hZ89 (hw _ (own_m 188 rfl)))) (mvT hZ89 (hw _ (own_m 188 rfl))) (mvT hZ89 (hw _ (own_m 187 rfl))) (by decide) (backOf (W := 0) (rmCharAt l Z a0 hw [] r_ (1 : Int32) zc fm [c0, c1, 58, d1, d2, d3] c1 T89.heap n0 f91 hSt f92 ⟨ts_, ks_, (0 : Int32), _, _, Er_, Fr_v, Fr_c, Ar_, Or.inl ⟨rfl, rfl, rfl, hleR⟩, hchR⟩ (own_nrwOf Fr_c) ⟨by decide, Nat.le_of_ble_eq_true rfl⟩ rfl) hZ89 (hw _ (own_m 189 rfl)) (hw _ (own_m 2 rfl)) (by decide) (by decide)) q95a q95c (g := (mkF m 164 #[.val (.int p0), .val (.int p1), .val (.int p2), .val (.int p3), .val (.int c0), .val (.int c1), .val (.ref b3), .val (.int pt), .val (.ref r_), .val (.int (3 : Int32))] [(.int (1 : Int32)), (.ref r_)])) rfl (by rw [hml]; rfl) (Steps.refl _) (argsL := [(.int (1 : Int32))]) (rest := []) (lenOf pd__I_C rfl) rfl (by show 2 * 0 + _ ≤ _; exact Nat.le_of_eq rfl) (hb hby at_164) (fun _ _ => ⟨rfl, e94, (by decide : 10 + 0 ≤ _), (by decide : 58 + 0 ≤ _)⟩)
          dsimp only [Pt.U, Pt.locs, Pt.cells, Pt.slots] at X95 l95 y95 z95 st95 hQ95
          subst l95 y95 z95
          obtain ⟨rfl, Nq95, e95⟩ := hQ95
          have N95 := Fr.app N94 Nq95
          obtain ⟨cq96, kq96, q96a, q96b, q96c⟩ := isOf hZ89 e95 Er_
          obtain ⟨_, _, ⟨T96, L96, k96, n96⟩, -, X96, ⟨Lc96, hQ96, l96, y96, z96⟩, st96⟩ := X95.virtualBack hx (y := (⟨"java/lang/String", "charAt", "(I)C"⟩ : MethodName)) (z := (⟨"java/lang/String", "charAt", "(I)C"⟩ : MethodName)) hown89 (mvT hZ89 (hw _ (own_m 185 rfl))) (mvT hZ89 (hw _ (own_m 186 rfl))) (notFace_of_selects (args := #[]) (mvT hZ89 (hw _ (own_m 188 rfl)))) (mvT hZ89 (hw _ (own_m 188 rfl))) (mvT hZ89 (hw _ (own_m 187 rfl))) (by decide) (backOf (W := 0) (rmCharAt l Z a0 hw [] r_ (2 : Int32) zc fm [c0, c1, 58, d1, d2, d3] (58 : Int32) T89.heap n0 f91 hSt f92 ⟨ts_, ks_, (0 : Int32), _, _, Er_, Fr_v, Fr_c, Ar_, Or.inl ⟨rfl, rfl, rfl, hleR⟩, hchR⟩ (own_nrwOf Fr_c) ⟨by decide, Nat.le_of_ble_eq_true rfl⟩ rfl) hZ89 (hw _ (own_m 189 rfl)) (hw _ (own_m 2 rfl)) (by decide) (by decide)) q96a q96c (g := (mkF m 175 #[.val (.int p0), .val (.int p1), .val (.int p2), .val (.int p3), .val (.int c0), .val (.int c1), .val (.ref b3), .val (.int pt), .val (.ref r_), .val (.int (3 : Int32))] [(.int (2 : Int32)), (.ref r_)])) rfl (by rw [hml]; rfl) (Steps.refl _) (argsL := [(.int (2 : Int32))]) (rest := []) (lenOf pd__I_C rfl) rfl (by show 2 * 0 + _ ≤ _; exact Nat.le_of_eq rfl) (hb hby at_175) (fun _ _ => ⟨rfl, e95, (by decide : 10 + 0 ≤ _), (by decide : 58 + 0 ≤ _)⟩)
          dsimp only [Pt.U, Pt.locs, Pt.cells, Pt.slots] at X96 l96 y96 z96 st96 hQ96
          subst l96 y96 z96
          obtain ⟨rfl, Nq96, e96⟩ := hQ96
          have N96 := Fr.app N95 Nq96
          obtain ⟨_, _, ⟨T97, L97, k97, n97⟩, -, X97, ⟨Lc97, hQ97, l97, y97, z97⟩, st97⟩ := Jvm.LawKit.callS X96 hx (y := (⟨"com/example/kikao/kikao/DomainToStringPinLaw", "digitOk", "(Ljava/lang/String;III)Z"⟩ : MethodName)) hown89 (mvT hZ89 (hw _ (own_m 207 rfl))) (mvT hZ89 (hw _ (own_m 208 rfl))) (mvT hZ89 (hw _ (own_m 209 rfl))) (mvT hZ89 (hw _ (own_m 210 rfl))) (by decide) (backOf (W := 0) (rmDk l Z a0 hw [] r_ pt (3 : Int32) (0 : Int32) zc fm [c0, c1, 58, d1, d2, d3] d1 (100 : Int32) T89.heap n0 f91 hSt f92 ⟨ts_, ks_, (0 : Int32), _, _, Er_, Fr_v, Fr_c, Ar_, Or.inl ⟨rfl, rfl, rfl, hleR⟩, hchR⟩ (own_nrwOf Fr_c) (by decide) (by decide) (by decide) ⟨by decide, Nat.le_of_ble_eq_true rfl⟩ rfl hy1) hZ89 (hw _ (own_m 210 rfl)) (hw _ (own_m 209 rfl)) (by decide) (by decide)) (g := (mkF m 192 #[.val (.int p0), .val (.int p1), .val (.int p2), .val (.int p3), .val (.int c0), .val (.int c1), .val (.ref b3), .val (.int pt), .val (.ref r_), .val (.int (3 : Int32))] [(.int (0 : Int32)), (.int (3 : Int32)), (.int pt), (.ref r_)])) rfl (by rw [hml]; rfl) (argsL := [(.ref r_), (.int pt), (.int (3 : Int32)), (.int (0 : Int32))]) (rest := []) (lenOf pd__Ljava_lang_String_III_Z rfl) rfl (by show 2 * 0 + _ ≤ _; exact Nat.le_of_eq rfl) (hb hby at_192) (fun _ _ => ⟨rfl, e96, (by decide : 10 + 0 ≤ _), (by decide : 58 + 0 ≤ _)⟩)
          dsimp only [Pt.U, Pt.locs, Pt.cells, Pt.slots] at X97 l97 y97 z97 st97 hQ97
          subst l97 y97 z97
          obtain ⟨rfl, Nq97, e97⟩ := hQ97
          have N97 := Fr.app N96 Nq97
          obtain ⟨_, _, ⟨T98, L98, k98, n98⟩, -, X98, ⟨Lc98, hQ98, l98, y98, z98⟩, st98⟩ := Jvm.LawKit.callS X97 hx (y := (⟨"com/example/kikao/kikao/DomainToStringPinLaw", "digitOk", "(Ljava/lang/String;III)Z"⟩ : MethodName)) hown89 (mvT hZ89 (hw _ (own_m 207 rfl))) (mvT hZ89 (hw _ (own_m 208 rfl))) (mvT hZ89 (hw _ (own_m 209 rfl))) (mvT hZ89 (hw _ (own_m 210 rfl))) (by decide) (backOf (W := 0) (rmDk l Z a0 hw [] r_ pt (3 : Int32) (1 : Int32) zc fm [c0, c1, 58, d1, d2, d3] d2 (10 : Int32) T89.heap n0 f91 hSt f92 ⟨ts_, ks_, (0 : Int32), _, _, Er_, Fr_v, Fr_c, Ar_, Or.inl ⟨rfl, rfl, rfl, hleR⟩, hchR⟩ (own_nrwOf Fr_c) (by decide) (by decide) (by decide) ⟨by decide, Nat.le_of_ble_eq_true rfl⟩ rfl hy2) hZ89 (hw _ (own_m 210 rfl)) (hw _ (own_m 209 rfl)) (by decide) (by decide)) (g := (mkF m 205 #[.val (.int p0), .val (.int p1), .val (.int p2), .val (.int p3), .val (.int c0), .val (.int c1), .val (.ref b3), .val (.int pt), .val (.ref r_), .val (.int (3 : Int32))] [(.int (1 : Int32)), (.int (3 : Int32)), (.int pt), (.ref r_)])) rfl (by rw [hml]; rfl) (argsL := [(.ref r_), (.int pt), (.int (3 : Int32)), (.int (1 : Int32))]) (rest := []) (lenOf pd__Ljava_lang_String_III_Z rfl) rfl (by show 2 * 0 + _ ≤ _; exact Nat.le_of_eq rfl) (hb hby at_205) (fun _ _ => ⟨rfl, e97, (by decide : 10 + 0 ≤ _), (by decide : 58 + 0 ≤ _)⟩)
          dsimp only [Pt.U, Pt.locs, Pt.cells, Pt.slots] at X98 l98 y98 z98 st98 hQ98
          subst l98 y98 z98
          obtain ⟨rfl, Nq98, e98⟩ := hQ98
          have N98 := Fr.app N97 Nq98
          obtain ⟨_, _, ⟨T99, L99, k99, n99⟩, -, X99, ⟨Lc99, hQ99, l99, y99, z99⟩, st99⟩ := Jvm.LawKit.callS X98 hx (y := (⟨"com/example/kikao/kikao/DomainToStringPinLaw", "digitOk", "(Ljava/lang/String;III)Z"⟩ : MethodName)) hown89 (mvT hZ89 (hw _ (own_m 207 rfl))) (mvT hZ89 (hw _ (own_m 208 rfl))) (mvT hZ89 (hw _ (own_m 209 rfl))) (mvT hZ89 (hw _ (own_m 210 rfl))) (by decide) (backOf (W := 0) (rmDk l Z a0 hw [] r_ pt (3 : Int32) (2 : Int32) zc fm [c0, c1, 58, d1, d2, d3] d3 (1 : Int32) T89.heap n0 f91 hSt f92 ⟨ts_, ks_, (0 : Int32), _, _, Er_, Fr_v, Fr_c, Ar_, Or.inl ⟨rfl, rfl, rfl, hleR⟩, hchR⟩ (own_nrwOf Fr_c) (by decide) (by decide) (by decide) ⟨by decide, Nat.le_of_ble_eq_true rfl⟩ rfl hy3) hZ89 (hw _ (own_m 210 rfl)) (hw _ (own_m 209 rfl)) (by decide) (by decide)) (g := (mkF m 218 #[.val (.int p0), .val (.int p1), .val (.int p2), .val (.int p3), .val (.int c0), .val (.int c1), .val (.ref b3), .val (.int pt), .val (.ref r_), .val (.int (3 : Int32))] [(.int (2 : Int32)), (.int (3 : Int32)), (.int pt), (.ref r_)])) rfl (by rw [hml]; rfl) (argsL := [(.ref r_), (.int pt), (.int (3 : Int32)), (.int (2 : Int32))]) (rest := []) (lenOf pd__Ljava_lang_String_III_Z rfl) rfl (by show 2 * 0 + _ ≤ _; exact Nat.le_of_eq rfl) (hb hby at_218) (fun _ _ => ⟨rfl, e98, (by decide : 10 + 0 ≤ _), (by decide : 58 + 0 ≤ _)⟩)
          dsimp only [Pt.U, Pt.locs, Pt.cells, Pt.slots] at X99 l99 y99 z99 st99 hQ99
          subst l99 y99 z99
          obtain ⟨rfl, Nq99, e99⟩ := hQ99
          have N99 := Fr.app N98 Nq99
          obtain ⟨_, _, ⟨T100, L100, k100, n100⟩, -, X100, ⟨Lc100, hQ100, l100, y100, z100⟩, st100⟩ := Jvm.LawKit.callS X99 hx (y := (⟨"com/example/kikao/kikao/DomainToStringPinLaw", "digitOk", "(Ljava/lang/String;III)Z"⟩ : MethodName)) hown89 (mvT hZ89 (hw _ (own_m 207 rfl))) (mvT hZ89 (hw _ (own_m 208 rfl))) (mvT hZ89 (hw _ (own_m 209 rfl))) (mvT hZ89 (hw _ (own_m 210 rfl))) (by decide) (backOf (W := 0) (rmDk0 l Z a0 hw [] r_ pt (3 : Int32) (3 : Int32) zc fm  T89.heap n0 f91 hSt f92 (by decide)) hZ89 (hw _ (own_m 210 rfl)) (hw _ (own_m 209 rfl)) (by decide) (by decide)) (g := (mkF m 231 #[.val (.int p0), .val (.int p1), .val (.int p2), .val (.int p3), .val (.int c0), .val (.int c1), .val (.ref b3), .val (.int pt), .val (.ref r_), .val (.int (3 : Int32))] [(.int (3 : Int32)), (.int (3 : Int32)), (.int pt), (.ref r_)])) rfl (by rw [hml]; rfl) (argsL := [(.ref r_), (.int pt), (.int (3 : Int32)), (.int (3 : Int32))]) (rest := []) (lenOf pd__Ljava_lang_String_III_Z rfl) rfl (by show 2 * 0 + _ ≤ _; exact Nat.le_of_eq rfl) (hb hby at_231) (fun _ _ => ⟨rfl, e99, (by decide : 10 + 0 ≤ _), (by decide : 58 + 0 ≤ _)⟩)
          dsimp only [Pt.U, Pt.locs, Pt.cells, Pt.slots] at X100 l100 y100 z100 st100 hQ100
          subst l100 y100 z100
          obtain ⟨rfl, Nq100, e100⟩ := hQ100
          have N100 := Fr.app N99 Nq100
          obtain ⟨_, _, ⟨T101, L101, k101, n101⟩, -, X101, ⟨Lc101, hQ101, l101, y101, z101⟩, st101⟩ := Jvm.LawKit.callS X100 hx (y := (⟨"com/example/kikao/kikao/DomainToStringPinLaw", "digitOk", "(Ljava/lang/String;III)Z"⟩ : MethodName)) hown89 (mvT hZ89 (hw _ (own_m 207 rfl))) (mvT hZ89 (hw _ (own_m 208 rfl))) (mvT hZ89 (hw _ (own_m 209 rfl))) (mvT hZ89 (hw _ (own_m 210 rfl))) (by decide) (backOf (W := 0) (rmDk0 l Z a0 hw [] r_ pt (3 : Int32) (4 : Int32) zc fm  T89.heap n0 f91 hSt f92 (by decide)) hZ89 (hw _ (own_m 210 rfl)) (hw _ (own_m 209 rfl)) (by decide) (by decide)) (g := (mkF m 244 #[.val (.int p0), .val (.int p1), .val (.int p2), .val (.int p3), .val (.int c0), .val (.int c1), .val (.ref b3), .val (.int pt), .val (.ref r_), .val (.int (3 : Int32))] [(.int (4 : Int32)), (.int (3 : Int32)), (.int pt), (.ref r_)])) rfl (by rw [hml]; rfl) (argsL := [(.ref r_), (.int pt), (.int (3 : Int32)), (.int (4 : Int32))]) (rest := []) (lenOf pd__Ljava_lang_String_III_Z rfl) rfl (by show 2 * 0 + _ ≤ _; exact Nat.le_of_eq rfl) (hb hby at_244) (fun _ _ => ⟨rfl, e100, (by decide : 10 + 0 ≤ _), (by decide : 58 + 0 ≤ _)⟩)
          dsimp only [Pt.U, Pt.locs, Pt.cells, Pt.slots] at X101 l101 y101 z101 st101 hQ101
          subst l101 y101 z101
          obtain ⟨rfl, Nq101, e101⟩ := hQ101
          have N101 := Fr.app N100 Nq101
          obtain ⟨fs, hr, hrun, hended, hEnd⟩ := X101.leaveW hS89 (by rw [e101]; exact hk89) (v := some (.int (1 : Int32))) (fun h => by rw [Bd.returns] at h; cases h)
          refine ⟨_, _, pre29 _ ?_, hrun, hended, _, _, rfl, ?_, hEnd.1, hEnd.2.1, hEnd.2.2.1, hEnd.2.2.2.mono (by decide) (by decide)⟩
          · show Steps p.tables e below (T15.setTop (mkF m 57 #[.val (.int p0), .val (.int p1), .val (.int p2), .val (.int p3), .val (.int c0), .val (.int c1), .val (.ref b3), .val (.int pt), .unset, .unset] [])) _
            refine st79 _ ?_
            show Steps p.tables e below (T79.setTop (mkF m 60 #[.val (.int p0), .val (.int p1), .val (.int p2), .val (.int p3), .val (.int c0), .val (.int c1), .val (.ref b3), .val (.int pt), .unset, .unset] [(.ref b79)])) _
            refine XS.dup X79.here hx rfl (hb hby at_60) rfl rfl ?_
            refine XS.aload X79.here hx rfl (hb hby at_61) rfl rfl ?_
            refine XS.iload X79.here hx rfl (hb hby at_63) rfl  ?_
            show Steps p.tables e below (T79.setTop (mkF m 65 #[.val (.int p0), .val (.int p1), .val (.int p2), .val (.int p3), .val (.int c0), .val (.int c1), .val (.ref b3), .val (.int pt), .unset, .unset] [(.int pt), (.ref b3), (.ref b79), (.ref b79)])) _
            refine st82.trans ?_
            show Steps p.tables e below (T82.setTop (mkF m 68 #[.val (.int p0), .val (.int p1), .val (.int p2), .val (.int p3), .val (.int c0), .val (.int c1), .val (.ref b3), .val (.int pt), .unset, .unset] [(.ref b79)])) _
            refine st89.trans ?_
            show Steps p.tables e below (T89.setTop (mkF m 71 #[.val (.int p0), .val (.int p1), .val (.int p2), .val (.int p3), .val (.int c0), .val (.int c1), .val (.ref b3), .val (.int pt), .unset, .unset] [(.ref r_)])) _
            refine XS.astore X89.here hx rfl (hb hby at_71) rfl rfl (l' := #[.val (.int p0), .val (.int p1), .val (.int p2), .val (.int p3), .val (.int c0), .val (.int c1), .val (.ref b3), .val (.int pt), .val (.ref r_), .unset]) rfl ?_
            refine XS.iload X89.here hx rfl (hb hby at_73) rfl  ?_
            refine XS.iconst X89.here hx rfl (hb hby at_75) ?_
            show Steps p.tables e below (T89.setTop (mkF m 76 #[.val (.int p0), .val (.int p1), .val (.int p2), .val (.int p3), .val (.int c0), .val (.int c1), .val (.ref b3), .val (.int pt), .val (.ref r_), .unset] [(.int (-1 : Int32)), (.int pt)])) _
            refine XS.icmpYes X89.here hx rfl (pc0 := 76) (pc' := 87) rfl (hb hby at_76) rfl (feq (fun q => by rw [q] at gpt; exact absurd gpt.1 (by decide))).2 (by decide) (by decide) ?_
            refine XS.iload X89.here hx rfl (hb hby at_87) rfl  ?_
            refine XS.sipush X89.here hx rfl (hb hby at_89) ?_
            show Steps p.tables e below (T89.setTop (mkF m 92 #[.val (.int p0), .val (.int p1), .val (.int p2), .val (.int p3), .val (.int c0), .val (.int c1), .val (.ref b3), .val (.int pt), .val (.ref r_), .unset] [(.int (10000 : Int32)), (.int pt)])) _
            refine XS.icmpYes X89.here hx rfl (pc0 := 92) (pc' := 99) rfl (hb hby at_92) rfl (tlt hn5).1 (by decide) (by decide) ?_
            refine XS.iload X89.here hx rfl (hb hby at_99) rfl  ?_
            refine XS.sipush X89.here hx rfl (hb hby at_101) ?_
            show Steps p.tables e below (T89.setTop (mkF m 104 #[.val (.int p0), .val (.int p1), .val (.int p2), .val (.int p3), .val (.int c0), .val (.int c1), .val (.ref b3), .val (.int pt), .val (.ref r_), .unset] [(.int (1000 : Int32)), (.int pt)])) _
            refine XS.icmpYes X89.here hx rfl (pc0 := 104) (pc' := 111) rfl (hb hby at_104) rfl (tlt hn4).1 (by decide) (by decide) ?_
            refine XS.iload X89.here hx rfl (hb hby at_111) rfl  ?_
            refine XS.bipush X89.here hx rfl (hb hby at_113) ?_
            show Steps p.tables e below (T89.setTop (mkF m 115 #[.val (.int p0), .val (.int p1), .val (.int p2), .val (.int p3), .val (.int c0), .val (.int c1), .val (.ref b3), .val (.int pt), .val (.ref r_), .unset] [(.int (100 : Int32)), (.int pt)])) _
            refine XS.icmpNo X89.here hx rfl (hb hby at_115) rfl (flt hn3).1 ?_
            refine XS.iconst X89.here hx rfl (hb hby at_118) ?_
            refine XS.goto X89.here hx rfl (pc0 := 119) (pc' := 134) rfl (hb hby at_119) (by decide) (by decide) ?_
            refine XS.istore X89.here hx rfl (hb hby at_134) rfl (l' := #[.val (.int p0), .val (.int p1), .val (.int p2), .val (.int p3), .val (.int c0), .val (.int c1), .val (.ref b3), .val (.int pt), .val (.ref r_), .val (.int (3 : Int32))]) rfl ?_
            refine XS.aload X89.here hx rfl (hb hby at_136) rfl rfl ?_
            show Steps p.tables e below (T89.setTop (mkF m 138 #[.val (.int p0), .val (.int p1), .val (.int p2), .val (.int p3), .val (.int c0), .val (.int c1), .val (.ref b3), .val (.int pt), .val (.ref r_), .val (.int (3 : Int32))] [(.ref r_)])) _
            refine st93.trans ?_
            show Steps p.tables e below (T93.setTop (mkF m 141 #[.val (.int p0), .val (.int p1), .val (.int p2), .val (.int p3), .val (.int c0), .val (.int c1), .val (.ref b3), .val (.int pt), .val (.ref r_), .val (.int (3 : Int32))] [(.int (6 : Int32))])) _
            refine XS.iconst X93.here hx rfl (hb hby at_141) ?_
            refine XS.iload X93.here hx rfl (hb hby at_142) rfl  ?_
            refine XS.iadd X93.here hx rfl (hb hby at_144) rfl ?_
            show Steps p.tables e below (T93.setTop (mkF m 145 #[.val (.int p0), .val (.int p1), .val (.int p2), .val (.int p3), .val (.int c0), .val (.int c1), .val (.ref b3), .val (.int pt), .val (.ref r_), .val (.int (3 : Int32))] [(.int (6 : Int32)), (.int (6 : Int32))])) _
            refine XS.icmpYes X93.here hx rfl (pc0 := 145) (pc' := 150) rfl (hb hby at_145) rfl (teq (by decide : (6 : Int32) = (6 : Int32))).1 (by decide) (by decide) ?_
            refine XS.aload X93.here hx rfl (hb hby at_150) rfl rfl ?_
            refine XS.iconst X93.here hx rfl (hb hby at_152) ?_
            show Steps p.tables e below (T93.setTop (mkF m 153 #[.val (.int p0), .val (.int p1), .val (.int p2), .val (.int p3), .val (.int c0), .val (.int c1), .val (.ref b3), .val (.int pt), .val (.ref r_), .val (.int (3 : Int32))] [(.int (0 : Int32)), (.ref r_)])) _
            refine st94.trans ?_
            show Steps p.tables e below (T94.setTop (mkF m 156 #[.val (.int p0), .val (.int p1), .val (.int p2), .val (.int p3), .val (.int c0), .val (.int c1), .val (.ref b3), .val (.int pt), .val (.ref r_), .val (.int (3 : Int32))] [(.int c0)])) _
            refine XS.iload X94.here hx rfl (hb hby at_156) rfl  ?_
            show Steps p.tables e below (T94.setTop (mkF m 158 #[.val (.int p0), .val (.int p1), .val (.int p2), .val (.int p3), .val (.int c0), .val (.int c1), .val (.ref b3), .val (.int pt), .val (.ref r_), .val (.int (3 : Int32))] [(.int c0), (.int c0)])) _
            refine XS.icmpNo X94.here hx rfl (hb hby at_158) rfl (teq (rfl : c0 = c0)).2 ?_
            refine XS.aload X94.here hx rfl (hb hby at_161) rfl rfl ?_
            refine XS.iconst X94.here hx rfl (hb hby at_163) ?_
            show Steps p.tables e below (T94.setTop (mkF m 164 #[.val (.int p0), .val (.int p1), .val (.int p2), .val (.int p3), .val (.int c0), .val (.int c1), .val (.ref b3), .val (.int pt), .val (.ref r_), .val (.int (3 : Int32))] [(.int (1 : Int32)), (.ref r_)])) _
            refine st95.trans ?_
            show Steps p.tables e below (T95.setTop (mkF m 167 #[.val (.int p0), .val (.int p1), .val (.int p2), .val (.int p3), .val (.int c0), .val (.int c1), .val (.ref b3), .val (.int pt), .val (.ref r_), .val (.int (3 : Int32))] [(.int c1)])) _
            refine XS.iload X95.here hx rfl (hb hby at_167) rfl  ?_
            show Steps p.tables e below (T95.setTop (mkF m 169 #[.val (.int p0), .val (.int p1), .val (.int p2), .val (.int p3), .val (.int c0), .val (.int c1), .val (.ref b3), .val (.int pt), .val (.ref r_), .val (.int (3 : Int32))] [(.int c1), (.int c1)])) _
            refine XS.icmpNo X95.here hx rfl (hb hby at_169) rfl (teq (rfl : c1 = c1)).2 ?_
            refine XS.aload X95.here hx rfl (hb hby at_172) rfl rfl ?_
            refine XS.iconst X95.here hx rfl (hb hby at_174) ?_
            show Steps p.tables e below (T95.setTop (mkF m 175 #[.val (.int p0), .val (.int p1), .val (.int p2), .val (.int p3), .val (.int c0), .val (.int c1), .val (.ref b3), .val (.int pt), .val (.ref r_), .val (.int (3 : Int32))] [(.int (2 : Int32)), (.ref r_)])) _
            refine st96.trans ?_
            show Steps p.tables e below (T96.setTop (mkF m 178 #[.val (.int p0), .val (.int p1), .val (.int p2), .val (.int p3), .val (.int c0), .val (.int c1), .val (.ref b3), .val (.int pt), .val (.ref r_), .val (.int (3 : Int32))] [(.int (58 : Int32))])) _
            refine XS.bipush X96.here hx rfl (hb hby at_178) ?_
            show Steps p.tables e below (T96.setTop (mkF m 180 #[.val (.int p0), .val (.int p1), .val (.int p2), .val (.int p3), .val (.int c0), .val (.int c1), .val (.ref b3), .val (.int pt), .val (.ref r_), .val (.int (3 : Int32))] [(.int (58 : Int32)), (.int (58 : Int32))])) _
            refine XS.icmpYes X96.here hx rfl (pc0 := 180) (pc' := 185) rfl (hb hby at_180) rfl (teq (by decide : (58 : Int32) = (58 : Int32))).1 (by decide) (by decide) ?_
            refine XS.aload X96.here hx rfl (hb hby at_185) rfl rfl ?_
            refine XS.iload X96.here hx rfl (hb hby at_187) rfl  ?_
            refine XS.iload X96.here hx rfl (hb hby at_189) rfl  ?_
            refine XS.iconst X96.here hx rfl (hb hby at_191) ?_
            show Steps p.tables e below (T96.setTop (mkF m 192 #[.val (.int p0), .val (.int p1), .val (.int p2), .val (.int p3), .val (.int c0), .val (.int c1), .val (.ref b3), .val (.int pt), .val (.ref r_), .val (.int (3 : Int32))] [(.int (0 : Int32)), (.int (3 : Int32)), (.int pt), (.ref r_)])) _
            refine st97 _ ?_
            show Steps p.tables e below (T97.setTop (mkF m 195 #[.val (.int p0), .val (.int p1), .val (.int p2), .val (.int p3), .val (.int c0), .val (.int c1), .val (.ref b3), .val (.int pt), .val (.ref r_), .val (.int (3 : Int32))] [(.int (1 : Int32))])) _
            refine XS.ifNo X97.here hx rfl (hb hby at_195) rfl ((if0 _ _).trans (feq (by decide : ¬ ((1 : Int32) = (0 : Int32)))).1) ?_
            refine XS.aload X97.here hx rfl (hb hby at_198) rfl rfl ?_
            refine XS.iload X97.here hx rfl (hb hby at_200) rfl  ?_
            refine XS.iload X97.here hx rfl (hb hby at_202) rfl  ?_
            refine XS.iconst X97.here hx rfl (hb hby at_204) ?_
            show Steps p.tables e below (T97.setTop (mkF m 205 #[.val (.int p0), .val (.int p1), .val (.int p2), .val (.int p3), .val (.int c0), .val (.int c1), .val (.ref b3), .val (.int pt), .val (.ref r_), .val (.int (3 : Int32))] [(.int (1 : Int32)), (.int (3 : Int32)), (.int pt), (.ref r_)])) _
            refine st98 _ ?_
            show Steps p.tables e below (T98.setTop (mkF m 208 #[.val (.int p0), .val (.int p1), .val (.int p2), .val (.int p3), .val (.int c0), .val (.int c1), .val (.ref b3), .val (.int pt), .val (.ref r_), .val (.int (3 : Int32))] [(.int (1 : Int32))])) _
            refine XS.ifNo X98.here hx rfl (hb hby at_208) rfl ((if0 _ _).trans (feq (by decide : ¬ ((1 : Int32) = (0 : Int32)))).1) ?_
            refine XS.aload X98.here hx rfl (hb hby at_211) rfl rfl ?_
            refine XS.iload X98.here hx rfl (hb hby at_213) rfl  ?_
            refine XS.iload X98.here hx rfl (hb hby at_215) rfl  ?_
            refine XS.iconst X98.here hx rfl (hb hby at_217) ?_
            show Steps p.tables e below (T98.setTop (mkF m 218 #[.val (.int p0), .val (.int p1), .val (.int p2), .val (.int p3), .val (.int c0), .val (.int c1), .val (.ref b3), .val (.int pt), .val (.ref r_), .val (.int (3 : Int32))] [(.int (2 : Int32)), (.int (3 : Int32)), (.int pt), (.ref r_)])) _
            refine st99 _ ?_
            show Steps p.tables e below (T99.setTop (mkF m 221 #[.val (.int p0), .val (.int p1), .val (.int p2), .val (.int p3), .val (.int c0), .val (.int c1), .val (.ref b3), .val (.int pt), .val (.ref r_), .val (.int (3 : Int32))] [(.int (1 : Int32))])) _
            refine XS.ifNo X99.here hx rfl (hb hby at_221) rfl ((if0 _ _).trans (feq (by decide : ¬ ((1 : Int32) = (0 : Int32)))).1) ?_
            refine XS.aload X99.here hx rfl (hb hby at_224) rfl rfl ?_
            refine XS.iload X99.here hx rfl (hb hby at_226) rfl  ?_
            refine XS.iload X99.here hx rfl (hb hby at_228) rfl  ?_
            refine XS.iconst X99.here hx rfl (hb hby at_230) ?_
            show Steps p.tables e below (T99.setTop (mkF m 231 #[.val (.int p0), .val (.int p1), .val (.int p2), .val (.int p3), .val (.int c0), .val (.int c1), .val (.ref b3), .val (.int pt), .val (.ref r_), .val (.int (3 : Int32))] [(.int (3 : Int32)), (.int (3 : Int32)), (.int pt), (.ref r_)])) _
            refine st100 _ ?_
            show Steps p.tables e below (T100.setTop (mkF m 234 #[.val (.int p0), .val (.int p1), .val (.int p2), .val (.int p3), .val (.int c0), .val (.int c1), .val (.ref b3), .val (.int pt), .val (.ref r_), .val (.int (3 : Int32))] [(.int (1 : Int32))])) _
            refine XS.ifNo X100.here hx rfl (hb hby at_234) rfl ((if0 _ _).trans (feq (by decide : ¬ ((1 : Int32) = (0 : Int32)))).1) ?_
            refine XS.aload X100.here hx rfl (hb hby at_237) rfl rfl ?_
            refine XS.iload X100.here hx rfl (hb hby at_239) rfl  ?_
            refine XS.iload X100.here hx rfl (hb hby at_241) rfl  ?_
            refine XS.iconst X100.here hx rfl (hb hby at_243) ?_
            show Steps p.tables e below (T100.setTop (mkF m 244 #[.val (.int p0), .val (.int p1), .val (.int p2), .val (.int p3), .val (.int c0), .val (.int c1), .val (.ref b3), .val (.int pt), .val (.ref r_), .val (.int (3 : Int32))] [(.int (4 : Int32)), (.int (3 : Int32)), (.int pt), (.ref r_)])) _
            refine st101 _ ?_
            show Steps p.tables e below (T101.setTop (mkF m 247 #[.val (.int p0), .val (.int p1), .val (.int p2), .val (.int p3), .val (.int c0), .val (.int c1), .val (.ref b3), .val (.int pt), .val (.ref r_), .val (.int (3 : Int32))] [(.int (1 : Int32))])) _
            refine XS.ifNo X101.here hx rfl (hb hby at_247) rfl ((if0 _ _).trans (feq (by decide : ¬ ((1 : Int32) = (0 : Int32)))).1) ?_
            refine XS.iconst X101.here hx rfl (hb hby at_250) ?_
            refine XS.goto X101.here hx rfl (pc0 := 251) (pc' := 255) rfl (hb hby at_251) (by decide) (by decide) ?_
            show Steps p.tables e below (T101.setTop (mkF m 255 #[.val (.int p0), .val (.int p1), .val (.int p2), .val (.int p3), .val (.int c0), .val (.int c1), .val (.ref b3), .val (.int pt), .val (.ref r_), .val (.int (3 : Int32))] [(.int (1 : Int32))])) _
            exact retN X101 hx (t := .boolean) Bd.returns (by simp) (hb hby at_255) hr
          · show Q_rm0 Z p0 p1 p2 p3 zc fm wO cO wT cT h0 n0 _ T101.heap _
            rw [e101]
            exact ⟨rfl, N101⟩
      · have hlo_ : 1000 ≤ pt.toInt := (own_lt (by decide)).2 hn4
        have hhi_ : pt.toInt < 10000 := (own_lt (by decide)).1 hn5
        obtain ⟨d1, hx1⟩ : ∃ z, z = ((48 : Int32) + ((pt / (1000 : Int32)) % (10 : Int32))) := ⟨_, rfl⟩
        have hd1 : d1.toInt = 48 + pt.toInt / 1000 % 10 := by rw [hx1, own_dg (b := 1000) (by decide) (by decide) gpt.1 (by decide)]
        have hy1 : d1 = ((48 : Int32) + ((pt / (1000 : Int32)) % (10 : Int32))).toUInt32.toUInt16.toUInt32.toInt32 := by rw [← hx1]; exact (own_cc (own_dr hd1)).symm
        obtain ⟨d2, hx2⟩ : ∃ z, z = ((48 : Int32) + ((pt / (100 : Int32)) % (10 : Int32))) := ⟨_, rfl⟩
        have hd2 : d2.toInt = 48 + pt.toInt / 100 % 10 := by rw [hx2, own_dg (b := 100) (by decide) (by decide) gpt.1 (by decide)]
        have hy2 : d2 = ((48 : Int32) + ((pt / (100 : Int32)) % (10 : Int32))).toUInt32.toUInt16.toUInt32.toInt32 := by rw [← hx2]; exact (own_cc (own_dr hd2)).symm
        obtain ⟨d3, hx3⟩ : ∃ z, z = ((48 : Int32) + ((pt / (10 : Int32)) % (10 : Int32))) := ⟨_, rfl⟩
        have hd3 : d3.toInt = 48 + pt.toInt / 10 % 10 := by rw [hx3, own_dg (b := 10) (by decide) (by decide) gpt.1 (by decide)]
        have hy3 : d3 = ((48 : Int32) + ((pt / (10 : Int32)) % (10 : Int32))).toUInt32.toUInt16.toUInt32.toInt32 := by rw [← hx3]; exact (own_cc (own_dr hd3)).symm
        obtain ⟨d4, hx4⟩ : ∃ z, z = ((48 : Int32) + ((pt / (1 : Int32)) % (10 : Int32))) := ⟨_, rfl⟩
        have hd4 : d4.toInt = 48 + pt.toInt % 10 := by rw [hx4, own_dg (b := 1) (by decide) (by decide) gpt.1 (by decide), own_d1]
        have hy4 : d4 = ((48 : Int32) + ((pt / (1 : Int32)) % (10 : Int32))).toUInt32.toUInt16.toUInt32.toInt32 := by rw [← hx4]; exact (own_cc (own_dr hd4)).symm
        have f102 := (V9.keep K15 (ninS (Ne.symm ne4_b3) nin0))
        obtain ⟨T103, h103, X103, e103, E103, A103, D103, -, st103⟩ := newO X15 hx hZ hown (hw _ (own_m 32 rfl)) (hw _ (own_m 33 rfl)) (hw _ (own_m 34 rfl)) rfl (g := (mkF m 57 #[.val (.int p0), .val (.int p1), .val (.int p2), .val (.int p3), .val (.int c0), .val (.int c1), .val (.ref b3), .val (.int pt), .unset, .unset] [])) rfl (hb hby at_57) (by decide) (by decide)
        obtain ⟨b103, g103⟩ : ∃ z, z = T15.heap.size := ⟨_, rfl⟩
        rw [← g103] at A103 D103 st103
        have ne103_b3 : b3 ≠ b103 := Nat.ne_of_lt (Nat.lt_of_lt_of_le Eh.lt (Nat.le_of_eq g103.symm))
        have ne103_b4 : b4 ≠ b103 := Nat.ne_of_lt (Nat.lt_of_lt_of_le f102.lt (Nat.le_of_eq g103.symm))
        have ne103_th : th ≠ b103 := Nat.ne_of_lt (Nat.lt_of_lt_of_le Ah.lt (Nat.le_of_eq g103.symm))
        have f104 := (Nat.le_trans f13 K15.1)
        have ge103 : n0 ≤ b103 := Nat.le_trans f104 (Nat.le_of_eq g103.symm)
        have F103_host : Fld Z h103 b103 "com/example/kikao/kikao/Domain" "host" "Ljava/lang/String;" .null := D103 (Or.inr (hw _ (own_m 45 rfl))) (ty := (.object "java/lang/String")) (by decide)
        have F103_port : Fld Z h103 b103 "com/example/kikao/kikao/Domain" "port" "I" (.int (0 : Int32)) := D103 (Or.inr (hw _ (own_m 47 rfl))) (ty := .int) (by decide)
        have f105 := (Nat.le_trans f104 E103.1)
        obtain ⟨_, _, ⟨T106, L106, k106, n106⟩, -, X106, ⟨Lc106, hQ106, l106, y106, z106⟩, st106⟩ := X103.specialBack hx (y := (⟨"com/example/kikao/kikao/Domain", "<init>", "(Ljava/lang/String;I)V"⟩ : MethodName)) rfl hown (mvT hZ (hw _ (own_m 35 rfl))) (mvT hZ (hw _ (own_m 36 rfl))) (mvT hZ (hw _ (own_m 37 rfl))) (by decide) (backOf (W := 1) (rmDom l Z a0 hw [] b103 b3 pt h103 n0 f105 A103 F103_host F103_port ge103) hZ (hw _ (own_m 37 rfl)) (hw _ (own_m 34 rfl)) (by decide) (by decide)) (g := (mkF m 65 #[.val (.int p0), .val (.int p1), .val (.int p2), .val (.int p3), .val (.int c0), .val (.int c1), .val (.ref b3), .val (.int pt), .unset, .unset] [(.int pt), (.ref b3), (.ref b103), (.ref b103)])) rfl (by rw [hml]; rfl) (Steps.refl _) (a := b103) (argsL := [(.ref b3), (.int pt)]) (rest := [(.ref b103)]) (lenOf pd__Ljava_lang_String_I_V rfl) rfl (by show 2 * 0 + _ ≤ _; exact Nat.le_of_eq rfl) (hb hby at_65) (fun _ _ => ⟨rfl, e103, (by decide : 4 + 0 ≤ _), (by decide : 10 + 0 ≤ _)⟩)
        dsimp only [Pt.U, Pt.locs, Pt.cells, Pt.slots] at X106 l106 y106 z106 st106 hQ106
        subst l106 y106 z106
        obtain ⟨rfl, Nq106, K106, Fdh, Fdp⟩ := hQ106
        have N106 := Fr.app N15 Nq106
        have f107 := ((Eh.ext E103).keep K106)
        have f108 := ((Fhv.ext E103).keep K106 (ninS ne103_b3 nin0))
        have f109 := ((Fhc.ext E103).keep K106 (ninS ne103_b3 nin0))
        have f110 := ((Ah.ext E103).keep K106 (ninS ne103_th nin0))
        have f111 := (((f14.keep K15 (allS ge3 all0)).ext E103).keep K106 (allS ge103 all0))
        have f112 := (Nat.le_trans f105 K106.1)
        have f114 := (A103.keep K106)
        obtain ⟨cq113, kq113, q113a, q113b, q113c⟩ := isOf hZ rfl f114
        obtain ⟨_, _, ⟨T113, L113, k113, n113⟩, -, X113, hS113, hgr113, ⟨Lc113, hQ113, l113, y113, z113⟩, st113⟩ := X106.virtualBackS hx (y := (⟨"com/example/kikao/kikao/Domain", "toString", "()Ljava/lang/String;"⟩ : MethodName)) (z := (⟨"com/example/kikao/kikao/Domain", "toString", "()Ljava/lang/String;"⟩ : MethodName)) hown (mvT hZ (hw _ (own_m 48 rfl))) (mvT hZ (hw _ (own_m 49 rfl))) (notFace_of_selects (args := #[]) (mvT hZ (hw _ (own_m 51 rfl)))) (mvT hZ (hw _ (own_m 51 rfl))) (mvT hZ (hw _ (own_m 50 rfl))) (by decide) (own_backI (W := 0) (rmTS4 l Z a0 hw [] b103 zc fm wO cO wT cT b3 th kh c0 c1 pt d1 d2 d3 d4 T106.heap T106.heap.size (Nat.le_refl _) hSt ⟨Nat.le_trans f111.1 f112, f111.2⟩ hDT Fdh Fdp f107 f108 f109 f110 hleh hchh gpt.1 hlo_ hhi_ hd1 hd2 hd3 hd4 rfl hheld hcw) hI hZ (hw _ (own_m 52 rfl)) (hw _ (own_m 34 rfl)) (by decide) (by decide)) q113a q113c (g := (mkF m 68 #[.val (.int p0), .val (.int p1), .val (.int p2), .val (.int p3), .val (.int c0), .val (.int c1), .val (.ref b3), .val (.int pt), .unset, .unset] [(.ref b103)])) rfl (by rw [hml]; rfl) (Steps.refl _) (argsL := []) (rest := []) (lenOf pd___Ljava_lang_String_ rfl) rfl (by show 2 * 0 + _ ≤ _; exact Nat.le_of_eq rfl) (hb hby at_68) (fun _ _ => ⟨rfl, rfl, (by decide : 4 + 6 ≤ _), (by decide : 10 + 48 ≤ _)⟩)
        dsimp only [Pt.U, Pt.locs, Pt.cells, Pt.slots] at X113 l113 y113 z113 st113 hQ113 hS113 hgr113
        subst l113 y113 z113
        have hZ113 : Z.Warmed39 (s.setVm T113.vm).vm := State.Warmed39.trans hZ hS113.1
        have hown113 : (s.setVm T113.vm).vm.findClass "com/example/kikao/kikao/DomainToStringPinLaw" = some m.cls := (hS113.1.alike.findClass _ _).trans hown
        obtain ⟨⟨r_, ts_, ks_, rfl, Er_, Fr_v, Fr_c, Ar_⟩, Nq113, K113⟩ := hQ113
        have N113 := Fr.app N106 (own_frw f112 Nq113)
        have hk113 : T113.heap.size ≤ T113.heap.size := Nat.le_refl _
        have hleR : ∀ c ∈ [c0, c1, 58, d1, d2, d3, d4], ¬ (255 : Int32) < c := own_allc (own_r8 gc0).2 (own_allc (own_r8 gc1).2 (own_allc (by decide) (own_allc (own_r8 (own_dr hd1)).2 (own_allc (own_r8 (own_dr hd2)).2 (own_allc (own_r8 (own_dr hd3)).2 (own_allc (own_r8 (own_dr hd4)).2 (fun _ q => nomatch q)))))))
        have hchR : own_Chs [c0, c1, 58, d1, d2, d3, d4] := ⟨own_allc (own_r8 gc0).1 (own_allc (own_r8 gc1).1 (own_allc ⟨by decide, by decide⟩ (own_allc (own_r8 (own_dr hd1)).1 (own_allc (own_r8 (own_dr hd2)).1 (own_allc (own_r8 (own_dr hd3)).1 (own_allc (own_r8 (own_dr hd4)).1 (fun _ q => nomatch q))))))), Nat.le_of_ble_eq_true rfl⟩
        have f115 := (Nat.le_trans f112 K113.1)
        have f116 := (f111.keep K113 all0)
        obtain ⟨cq117, kq117, q117a, q117b, q117c⟩ := isOf hZ113 rfl Er_
        obtain ⟨_, _, ⟨T117, L117, k117, n117⟩, -, X117, ⟨Lc117, hQ117, l117, y117, z117⟩, st117⟩ := X113.virtualBack hx (y := (⟨"java/lang/String", "length", "()I"⟩ : MethodName)) (z := (⟨"java/lang/String", "length", "()I"⟩ : MethodName)) hown113 (mvT hZ113 (hw _ (own_m 184 rfl))) (mvT hZ113 (hw _ (own_m 82 rfl))) (notFace_of_selects (args := #[]) (mvT hZ113 (hw _ (own_m 84 rfl)))) (mvT hZ113 (hw _ (own_m 84 rfl))) (mvT hZ113 (hw _ (own_m 83 rfl))) (by decide) (backOf (W := 0) (rmLen l Z a0 hw [] r_ zc fm [c0, c1, 58, d1, d2, d3, d4] (7 : Int32) T113.heap n0 f115 hSt f116 ⟨ts_, ks_, (0 : Int32), _, _, Er_, Fr_v, Fr_c, Ar_, Or.inl ⟨rfl, rfl, rfl, hleR⟩, hchR⟩ (own_nrwOf Fr_c) rfl) hZ113 (hw _ (own_m 85 rfl)) (hw _ (own_m 2 rfl)) (by decide) (by decide)) q117a q117c (g := (mkF m 138 #[.val (.int p0), .val (.int p1), .val (.int p2), .val (.int p3), .val (.int c0), .val (.int c1), .val (.ref b3), .val (.int pt), .val (.ref r_), .val (.int (4 : Int32))] [(.ref r_)])) rfl (by rw [hml]; rfl) (Steps.refl _) (argsL := []) (rest := []) (lenOf pd___I rfl) rfl (by show 2 * 0 + _ ≤ _; exact Nat.le_of_eq rfl) (hb hby at_138) (fun _ _ => ⟨rfl, rfl, (by decide : 10 + 0 ≤ _), (by decide : 58 + 0 ≤ _)⟩)
        dsimp only [Pt.U, Pt.locs, Pt.cells, Pt.slots] at X117 l117 y117 z117 st117 hQ117
        subst l117 y117 z117
        obtain ⟨rfl, Nq117, e117⟩ := hQ117
        have N117 := Fr.app N113 Nq117
        obtain ⟨cq118, kq118, q118a, q118b, q118c⟩ := isOf hZ113 e117 Er_
        obtain ⟨_, _, ⟨T118, L118, k118, n118⟩, -, X118, ⟨Lc118, hQ118, l118, y118, z118⟩, st118⟩ := X117.virtualBack hx (y := (⟨"java/lang/String", "charAt", "(I)C"⟩ : MethodName)) (z := (⟨"java/lang/String", "charAt", "(I)C"⟩ : MethodName)) hown113 (mvT hZ113 (hw _ (own_m 185 rfl))) (mvT hZ113 (hw _ (own_m 186 rfl))) (notFace_of_selects (args := #[]) (mvT hZ113 (hw _ (own_m 188 rfl)))) (mvT hZ113 (hw _ (own_m 188 rfl))) (mvT hZ113 (hw _ (own_m 187 rfl))) (by decide) (backOf (W := 0) (rmCharAt l Z a0 hw [] r_ (0 : Int32) zc fm [c0, c1, 58, d1, d2, d3, d4] c0 T113.heap n0 f115 hSt f116 ⟨ts_, ks_, (0 : Int32), _, _, Er_, Fr_v, Fr_c, Ar_, Or.inl ⟨rfl, rfl, rfl, hleR⟩, hchR⟩ (own_nrwOf Fr_c) ⟨by decide, Nat.le_of_ble_eq_true rfl⟩ rfl) hZ113 (hw _ (own_m 189 rfl)) (hw _ (own_m 2 rfl)) (by decide) (by decide)) q118a q118c (g := (mkF m 153 #[.val (.int p0), .val (.int p1), .val (.int p2), .val (.int p3), .val (.int c0), .val (.int c1), .val (.ref b3), .val (.int pt), .val (.ref r_), .val (.int (4 : Int32))] [(.int (0 : Int32)), (.ref r_)])) rfl (by rw [hml]; rfl) (Steps.refl _) (argsL := [(.int (0 : Int32))]) (rest := []) (lenOf pd__I_C rfl) rfl (by show 2 * 0 + _ ≤ _; exact Nat.le_of_eq rfl) (hb hby at_153) (fun _ _ => ⟨rfl, e117, (by decide : 10 + 0 ≤ _), (by decide : 58 + 0 ≤ _)⟩)
        dsimp only [Pt.U, Pt.locs, Pt.cells, Pt.slots] at X118 l118 y118 z118 st118 hQ118
        subst l118 y118 z118
        obtain ⟨rfl, Nq118, e118⟩ := hQ118
        have N118 := Fr.app N117 Nq118
        obtain ⟨cq119, kq119, q119a, q119b, q119c⟩ := isOf hZ113 e118 Er_
        obtain ⟨_, _, ⟨T119, L119, k119, n119⟩, -, X119, ⟨Lc119, hQ119, l119, y119, z119⟩, st119⟩ := X118.virtualBack hx (y := (⟨"java/lang/String", "charAt", "(I)C"⟩ : MethodName)) (z := (⟨"java/lang/String", "charAt", "(I)C"⟩ : MethodName)) hown113 (mvT hZ113 (hw _ (own_m 185 rfl))) (mvT hZ113 (hw _ (own_m 186 rfl))) (notFace_of_selects (args := #[]) (mvT hZ113 (hw _ (own_m 188 rfl)))) (mvT hZ113 (hw _ (own_m 188 rfl))) (mvT hZ113 (hw _ (own_m 187 rfl))) (by decide) (backOf (W := 0) (rmCharAt l Z a0 hw [] r_ (1 : Int32) zc fm [c0, c1, 58, d1, d2, d3, d4] c1 T113.heap n0 f115 hSt f116 ⟨ts_, ks_, (0 : Int32), _, _, Er_, Fr_v, Fr_c, Ar_, Or.inl ⟨rfl, rfl, rfl, hleR⟩, hchR⟩ (own_nrwOf Fr_c) ⟨by decide, Nat.le_of_ble_eq_true rfl⟩ rfl) hZ113 (hw _ (own_m 189 rfl)) (hw _ (own_m 2 rfl)) (by decide) (by decide)) q119a q119c (g := (mkF m 164 #[.val (.int p0), .val (.int p1), .val (.int p2), .val (.int p3), .val (.int c0), .val (.int c1), .val (.ref b3), .val (.int pt), .val (.ref r_), .val (.int (4 : Int32))] [(.int (1 : Int32)), (.ref r_)])) rfl (by rw [hml]; rfl) (Steps.refl _) (argsL := [(.int (1 : Int32))]) (rest := []) (lenOf pd__I_C rfl) rfl (by show 2 * 0 + _ ≤ _; exact Nat.le_of_eq rfl) (hb hby at_164) (fun _ _ => ⟨rfl, e118, (by decide : 10 + 0 ≤ _), (by decide : 58 + 0 ≤ _)⟩)
        dsimp only [Pt.U, Pt.locs, Pt.cells, Pt.slots] at X119 l119 y119 z119 st119 hQ119
        subst l119 y119 z119
        obtain ⟨rfl, Nq119, e119⟩ := hQ119
        have N119 := Fr.app N118 Nq119
        obtain ⟨cq120, kq120, q120a, q120b, q120c⟩ := isOf hZ113 e119 Er_
        obtain ⟨_, _, ⟨T120, L120, k120, n120⟩, -, X120, ⟨Lc120, hQ120, l120, y120, z120⟩, st120⟩ := X119.virtualBack hx (y := (⟨"java/lang/String", "charAt", "(I)C"⟩ : MethodName)) (z := (⟨"java/lang/String", "charAt", "(I)C"⟩ : MethodName)) hown113 (mvT hZ113 (hw _ (own_m 185 rfl))) (mvT hZ113 (hw _ (own_m 186 rfl))) (notFace_of_selects (args := #[]) (mvT hZ113 (hw _ (own_m 188 rfl)))) (mvT hZ113 (hw _ (own_m 188 rfl))) (mvT hZ113 (hw _ (own_m 187 rfl))) (by decide) (backOf (W := 0) (rmCharAt l Z a0 hw [] r_ (2 : Int32) zc fm [c0, c1, 58, d1, d2, d3, d4] (58 : Int32) T113.heap n0 f115 hSt f116 ⟨ts_, ks_, (0 : Int32), _, _, Er_, Fr_v, Fr_c, Ar_, Or.inl ⟨rfl, rfl, rfl, hleR⟩, hchR⟩ (own_nrwOf Fr_c) ⟨by decide, Nat.le_of_ble_eq_true rfl⟩ rfl) hZ113 (hw _ (own_m 189 rfl)) (hw _ (own_m 2 rfl)) (by decide) (by decide)) q120a q120c (g := (mkF m 175 #[.val (.int p0), .val (.int p1), .val (.int p2), .val (.int p3), .val (.int c0), .val (.int c1), .val (.ref b3), .val (.int pt), .val (.ref r_), .val (.int (4 : Int32))] [(.int (2 : Int32)), (.ref r_)])) rfl (by rw [hml]; rfl) (Steps.refl _) (argsL := [(.int (2 : Int32))]) (rest := []) (lenOf pd__I_C rfl) rfl (by show 2 * 0 + _ ≤ _; exact Nat.le_of_eq rfl) (hb hby at_175) (fun _ _ => ⟨rfl, e119, (by decide : 10 + 0 ≤ _), (by decide : 58 + 0 ≤ _)⟩)
        dsimp only [Pt.U, Pt.locs, Pt.cells, Pt.slots] at X120 l120 y120 z120 st120 hQ120
        subst l120 y120 z120
        obtain ⟨rfl, Nq120, e120⟩ := hQ120
        have N120 := Fr.app N119 Nq120
        obtain ⟨_, _, ⟨T121, L121, k121, n121⟩, -, X121, ⟨Lc121, hQ121, l121, y121, z121⟩, st121⟩ := Jvm.LawKit.callS X120 hx (y := (⟨"com/example/kikao/kikao/DomainToStringPinLaw", "digitOk", "(Ljava/lang/String;III)Z"⟩ : MethodName)) hown113 (mvT hZ113 (hw _ (own_m 207 rfl))) (mvT hZ113 (hw _ (own_m 208 rfl))) (mvT hZ113 (hw _ (own_m 209 rfl))) (mvT hZ113 (hw _ (own_m 210 rfl))) (by decide) (backOf (W := 0) (rmDk l Z a0 hw [] r_ pt (4 : Int32) (0 : Int32) zc fm [c0, c1, 58, d1, d2, d3, d4] d1 (1000 : Int32) T113.heap n0 f115 hSt f116 ⟨ts_, ks_, (0 : Int32), _, _, Er_, Fr_v, Fr_c, Ar_, Or.inl ⟨rfl, rfl, rfl, hleR⟩, hchR⟩ (own_nrwOf Fr_c) (by decide) (by decide) (by decide) ⟨by decide, Nat.le_of_ble_eq_true rfl⟩ rfl hy1) hZ113 (hw _ (own_m 210 rfl)) (hw _ (own_m 209 rfl)) (by decide) (by decide)) (g := (mkF m 192 #[.val (.int p0), .val (.int p1), .val (.int p2), .val (.int p3), .val (.int c0), .val (.int c1), .val (.ref b3), .val (.int pt), .val (.ref r_), .val (.int (4 : Int32))] [(.int (0 : Int32)), (.int (4 : Int32)), (.int pt), (.ref r_)])) rfl (by rw [hml]; rfl) (argsL := [(.ref r_), (.int pt), (.int (4 : Int32)), (.int (0 : Int32))]) (rest := []) (lenOf pd__Ljava_lang_String_III_Z rfl) rfl (by show 2 * 0 + _ ≤ _; exact Nat.le_of_eq rfl) (hb hby at_192) (fun _ _ => ⟨rfl, e120, (by decide : 10 + 0 ≤ _), (by decide : 58 + 0 ≤ _)⟩)
        dsimp only [Pt.U, Pt.locs, Pt.cells, Pt.slots] at X121 l121 y121 z121 st121 hQ121
        subst l121 y121 z121
        obtain ⟨rfl, Nq121, e121⟩ := hQ121
        have N121 := Fr.app N120 Nq121
        obtain ⟨_, _, ⟨T122, L122, k122, n122⟩, -, X122, ⟨Lc122, hQ122, l122, y122, z122⟩, st122⟩ := Jvm.LawKit.callS X121 hx (y := (⟨"com/example/kikao/kikao/DomainToStringPinLaw", "digitOk", "(Ljava/lang/String;III)Z"⟩ : MethodName)) hown113 (mvT hZ113 (hw _ (own_m 207 rfl))) (mvT hZ113 (hw _ (own_m 208 rfl))) (mvT hZ113 (hw _ (own_m 209 rfl))) (mvT hZ113 (hw _ (own_m 210 rfl))) (by decide) (backOf (W := 0) (rmDk l Z a0 hw [] r_ pt (4 : Int32) (1 : Int32) zc fm [c0, c1, 58, d1, d2, d3, d4] d2 (100 : Int32) T113.heap n0 f115 hSt f116 ⟨ts_, ks_, (0 : Int32), _, _, Er_, Fr_v, Fr_c, Ar_, Or.inl ⟨rfl, rfl, rfl, hleR⟩, hchR⟩ (own_nrwOf Fr_c) (by decide) (by decide) (by decide) ⟨by decide, Nat.le_of_ble_eq_true rfl⟩ rfl hy2) hZ113 (hw _ (own_m 210 rfl)) (hw _ (own_m 209 rfl)) (by decide) (by decide)) (g := (mkF m 205 #[.val (.int p0), .val (.int p1), .val (.int p2), .val (.int p3), .val (.int c0), .val (.int c1), .val (.ref b3), .val (.int pt), .val (.ref r_), .val (.int (4 : Int32))] [(.int (1 : Int32)), (.int (4 : Int32)), (.int pt), (.ref r_)])) rfl (by rw [hml]; rfl) (argsL := [(.ref r_), (.int pt), (.int (4 : Int32)), (.int (1 : Int32))]) (rest := []) (lenOf pd__Ljava_lang_String_III_Z rfl) rfl (by show 2 * 0 + _ ≤ _; exact Nat.le_of_eq rfl) (hb hby at_205) (fun _ _ => ⟨rfl, e121, (by decide : 10 + 0 ≤ _), (by decide : 58 + 0 ≤ _)⟩)
        dsimp only [Pt.U, Pt.locs, Pt.cells, Pt.slots] at X122 l122 y122 z122 st122 hQ122
        subst l122 y122 z122
        obtain ⟨rfl, Nq122, e122⟩ := hQ122
        have N122 := Fr.app N121 Nq122
        obtain ⟨_, _, ⟨T123, L123, k123, n123⟩, -, X123, ⟨Lc123, hQ123, l123, y123, z123⟩, st123⟩ := Jvm.LawKit.callS X122 hx (y := (⟨"com/example/kikao/kikao/DomainToStringPinLaw", "digitOk", "(Ljava/lang/String;III)Z"⟩ : MethodName)) hown113 (mvT hZ113 (hw _ (own_m 207 rfl))) (mvT hZ113 (hw _ (own_m 208 rfl))) (mvT hZ113 (hw _ (own_m 209 rfl))) (mvT hZ113 (hw _ (own_m 210 rfl))) (by decide) (backOf (W := 0) (rmDk l Z a0 hw [] r_ pt (4 : Int32) (2 : Int32) zc fm [c0, c1, 58, d1, d2, d3, d4] d3 (10 : Int32) T113.heap n0 f115 hSt f116 ⟨ts_, ks_, (0 : Int32), _, _, Er_, Fr_v, Fr_c, Ar_, Or.inl ⟨rfl, rfl, rfl, hleR⟩, hchR⟩ (own_nrwOf Fr_c) (by decide) (by decide) (by decide) ⟨by decide, Nat.le_of_ble_eq_true rfl⟩ rfl hy3) hZ113 (hw _ (own_m 210 rfl)) (hw _ (own_m 209 rfl)) (by decide) (by decide)) (g := (mkF m 218 #[.val (.int p0), .val (.int p1), .val (.int p2), .val (.int p3), .val (.int c0), .val (.int c1), .val (.ref b3), .val (.int pt), .val (.ref r_), .val (.int (4 : Int32))] [(.int (2 : Int32)), (.int (4 : Int32)), (.int pt), (.ref r_)])) rfl (by rw [hml]; rfl) (argsL := [(.ref r_), (.int pt), (.int (4 : Int32)), (.int (2 : Int32))]) (rest := []) (lenOf pd__Ljava_lang_String_III_Z rfl) rfl (by show 2 * 0 + _ ≤ _; exact Nat.le_of_eq rfl) (hb hby at_218) (fun _ _ => ⟨rfl, e122, (by decide : 10 + 0 ≤ _), (by decide : 58 + 0 ≤ _)⟩)
        dsimp only [Pt.U, Pt.locs, Pt.cells, Pt.slots] at X123 l123 y123 z123 st123 hQ123
        subst l123 y123 z123
        obtain ⟨rfl, Nq123, e123⟩ := hQ123
        have N123 := Fr.app N122 Nq123
        obtain ⟨_, _, ⟨T124, L124, k124, n124⟩, -, X124, ⟨Lc124, hQ124, l124, y124, z124⟩, st124⟩ := Jvm.LawKit.callS X123 hx (y := (⟨"com/example/kikao/kikao/DomainToStringPinLaw", "digitOk", "(Ljava/lang/String;III)Z"⟩ : MethodName)) hown113 (mvT hZ113 (hw _ (own_m 207 rfl))) (mvT hZ113 (hw _ (own_m 208 rfl))) (mvT hZ113 (hw _ (own_m 209 rfl))) (mvT hZ113 (hw _ (own_m 210 rfl))) (by decide) (backOf (W := 0) (rmDk l Z a0 hw [] r_ pt (4 : Int32) (3 : Int32) zc fm [c0, c1, 58, d1, d2, d3, d4] d4 (1 : Int32) T113.heap n0 f115 hSt f116 ⟨ts_, ks_, (0 : Int32), _, _, Er_, Fr_v, Fr_c, Ar_, Or.inl ⟨rfl, rfl, rfl, hleR⟩, hchR⟩ (own_nrwOf Fr_c) (by decide) (by decide) (by decide) ⟨by decide, Nat.le_of_ble_eq_true rfl⟩ rfl hy4) hZ113 (hw _ (own_m 210 rfl)) (hw _ (own_m 209 rfl)) (by decide) (by decide)) (g := (mkF m 231 #[.val (.int p0), .val (.int p1), .val (.int p2), .val (.int p3), .val (.int c0), .val (.int c1), .val (.ref b3), .val (.int pt), .val (.ref r_), .val (.int (4 : Int32))] [(.int (3 : Int32)), (.int (4 : Int32)), (.int pt), (.ref r_)])) rfl (by rw [hml]; rfl) (argsL := [(.ref r_), (.int pt), (.int (4 : Int32)), (.int (3 : Int32))]) (rest := []) (lenOf pd__Ljava_lang_String_III_Z rfl) rfl (by show 2 * 0 + _ ≤ _; exact Nat.le_of_eq rfl) (hb hby at_231) (fun _ _ => ⟨rfl, e123, (by decide : 10 + 0 ≤ _), (by decide : 58 + 0 ≤ _)⟩)
        dsimp only [Pt.U, Pt.locs, Pt.cells, Pt.slots] at X124 l124 y124 z124 st124 hQ124
        subst l124 y124 z124
        obtain ⟨rfl, Nq124, e124⟩ := hQ124
        have N124 := Fr.app N123 Nq124
        obtain ⟨_, _, ⟨T125, L125, k125, n125⟩, -, X125, ⟨Lc125, hQ125, l125, y125, z125⟩, st125⟩ := Jvm.LawKit.callS X124 hx (y := (⟨"com/example/kikao/kikao/DomainToStringPinLaw", "digitOk", "(Ljava/lang/String;III)Z"⟩ : MethodName)) hown113 (mvT hZ113 (hw _ (own_m 207 rfl))) (mvT hZ113 (hw _ (own_m 208 rfl))) (mvT hZ113 (hw _ (own_m 209 rfl))) (mvT hZ113 (hw _ (own_m 210 rfl))) (by decide) (backOf (W := 0) (rmDk0 l Z a0 hw [] r_ pt (4 : Int32) (4 : Int32) zc fm  T113.heap n0 f115 hSt f116 (by decide)) hZ113 (hw _ (own_m 210 rfl)) (hw _ (own_m 209 rfl)) (by decide) (by decide)) (g := (mkF m 244 #[.val (.int p0), .val (.int p1), .val (.int p2), .val (.int p3), .val (.int c0), .val (.int c1), .val (.ref b3), .val (.int pt), .val (.ref r_), .val (.int (4 : Int32))] [(.int (4 : Int32)), (.int (4 : Int32)), (.int pt), (.ref r_)])) rfl (by rw [hml]; rfl) (argsL := [(.ref r_), (.int pt), (.int (4 : Int32)), (.int (4 : Int32))]) (rest := []) (lenOf pd__Ljava_lang_String_III_Z rfl) rfl (by show 2 * 0 + _ ≤ _; exact Nat.le_of_eq rfl) (hb hby at_244) (fun _ _ => ⟨rfl, e124, (by decide : 10 + 0 ≤ _), (by decide : 58 + 0 ≤ _)⟩)
        dsimp only [Pt.U, Pt.locs, Pt.cells, Pt.slots] at X125 l125 y125 z125 st125 hQ125
        subst l125 y125 z125
        obtain ⟨rfl, Nq125, e125⟩ := hQ125
        have N125 := Fr.app N124 Nq125
        obtain ⟨fs, hr, hrun, hended, hEnd⟩ := X125.leaveW hS113 (by rw [e125]; exact hk113) (v := some (.int (1 : Int32))) (fun h => by rw [Bd.returns] at h; cases h)
        refine ⟨_, _, pre29 _ ?_, hrun, hended, _, _, rfl, ?_, hEnd.1, hEnd.2.1, hEnd.2.2.1, hEnd.2.2.2.mono (by decide) (by decide)⟩
        · show Steps p.tables e below (T15.setTop (mkF m 57 #[.val (.int p0), .val (.int p1), .val (.int p2), .val (.int p3), .val (.int c0), .val (.int c1), .val (.ref b3), .val (.int pt), .unset, .unset] [])) _
          refine st103 _ ?_
          show Steps p.tables e below (T103.setTop (mkF m 60 #[.val (.int p0), .val (.int p1), .val (.int p2), .val (.int p3), .val (.int c0), .val (.int c1), .val (.ref b3), .val (.int pt), .unset, .unset] [(.ref b103)])) _
          refine XS.dup X103.here hx rfl (hb hby at_60) rfl rfl ?_
          refine XS.aload X103.here hx rfl (hb hby at_61) rfl rfl ?_
          refine XS.iload X103.here hx rfl (hb hby at_63) rfl  ?_
          show Steps p.tables e below (T103.setTop (mkF m 65 #[.val (.int p0), .val (.int p1), .val (.int p2), .val (.int p3), .val (.int c0), .val (.int c1), .val (.ref b3), .val (.int pt), .unset, .unset] [(.int pt), (.ref b3), (.ref b103), (.ref b103)])) _
          refine st106.trans ?_
          show Steps p.tables e below (T106.setTop (mkF m 68 #[.val (.int p0), .val (.int p1), .val (.int p2), .val (.int p3), .val (.int c0), .val (.int c1), .val (.ref b3), .val (.int pt), .unset, .unset] [(.ref b103)])) _
          refine st113.trans ?_
          show Steps p.tables e below (T113.setTop (mkF m 71 #[.val (.int p0), .val (.int p1), .val (.int p2), .val (.int p3), .val (.int c0), .val (.int c1), .val (.ref b3), .val (.int pt), .unset, .unset] [(.ref r_)])) _
          refine XS.astore X113.here hx rfl (hb hby at_71) rfl rfl (l' := #[.val (.int p0), .val (.int p1), .val (.int p2), .val (.int p3), .val (.int c0), .val (.int c1), .val (.ref b3), .val (.int pt), .val (.ref r_), .unset]) rfl ?_
          refine XS.iload X113.here hx rfl (hb hby at_73) rfl  ?_
          refine XS.iconst X113.here hx rfl (hb hby at_75) ?_
          show Steps p.tables e below (T113.setTop (mkF m 76 #[.val (.int p0), .val (.int p1), .val (.int p2), .val (.int p3), .val (.int c0), .val (.int c1), .val (.ref b3), .val (.int pt), .val (.ref r_), .unset] [(.int (-1 : Int32)), (.int pt)])) _
          refine XS.icmpYes X113.here hx rfl (pc0 := 76) (pc' := 87) rfl (hb hby at_76) rfl (feq (fun q => by rw [q] at gpt; exact absurd gpt.1 (by decide))).2 (by decide) (by decide) ?_
          refine XS.iload X113.here hx rfl (hb hby at_87) rfl  ?_
          refine XS.sipush X113.here hx rfl (hb hby at_89) ?_
          show Steps p.tables e below (T113.setTop (mkF m 92 #[.val (.int p0), .val (.int p1), .val (.int p2), .val (.int p3), .val (.int c0), .val (.int c1), .val (.ref b3), .val (.int pt), .val (.ref r_), .unset] [(.int (10000 : Int32)), (.int pt)])) _
          refine XS.icmpYes X113.here hx rfl (pc0 := 92) (pc' := 99) rfl (hb hby at_92) rfl (tlt hn5).1 (by decide) (by decide) ?_
          refine XS.iload X113.here hx rfl (hb hby at_99) rfl  ?_
          refine XS.sipush X113.here hx rfl (hb hby at_101) ?_
          show Steps p.tables e below (T113.setTop (mkF m 104 #[.val (.int p0), .val (.int p1), .val (.int p2), .val (.int p3), .val (.int c0), .val (.int c1), .val (.ref b3), .val (.int pt), .val (.ref r_), .unset] [(.int (1000 : Int32)), (.int pt)])) _
          refine XS.icmpNo X113.here hx rfl (hb hby at_104) rfl (flt hn4).1 ?_
          refine XS.iconst X113.here hx rfl (hb hby at_107) ?_
          refine XS.goto X113.here hx rfl (pc0 := 108) (pc' := 134) rfl (hb hby at_108) (by decide) (by decide) ?_
          refine XS.istore X113.here hx rfl (hb hby at_134) rfl (l' := #[.val (.int p0), .val (.int p1), .val (.int p2), .val (.int p3), .val (.int c0), .val (.int c1), .val (.ref b3), .val (.int pt), .val (.ref r_), .val (.int (4 : Int32))]) rfl ?_
          refine XS.aload X113.here hx rfl (hb hby at_136) rfl rfl ?_
          show Steps p.tables e below (T113.setTop (mkF m 138 #[.val (.int p0), .val (.int p1), .val (.int p2), .val (.int p3), .val (.int c0), .val (.int c1), .val (.ref b3), .val (.int pt), .val (.ref r_), .val (.int (4 : Int32))] [(.ref r_)])) _
          refine st117.trans ?_
          show Steps p.tables e below (T117.setTop (mkF m 141 #[.val (.int p0), .val (.int p1), .val (.int p2), .val (.int p3), .val (.int c0), .val (.int c1), .val (.ref b3), .val (.int pt), .val (.ref r_), .val (.int (4 : Int32))] [(.int (7 : Int32))])) _
          refine XS.iconst X117.here hx rfl (hb hby at_141) ?_
          refine XS.iload X117.here hx rfl (hb hby at_142) rfl  ?_
          refine XS.iadd X117.here hx rfl (hb hby at_144) rfl ?_
          show Steps p.tables e below (T117.setTop (mkF m 145 #[.val (.int p0), .val (.int p1), .val (.int p2), .val (.int p3), .val (.int c0), .val (.int c1), .val (.ref b3), .val (.int pt), .val (.ref r_), .val (.int (4 : Int32))] [(.int (7 : Int32)), (.int (7 : Int32))])) _
          refine XS.icmpYes X117.here hx rfl (pc0 := 145) (pc' := 150) rfl (hb hby at_145) rfl (teq (by decide : (7 : Int32) = (7 : Int32))).1 (by decide) (by decide) ?_
          refine XS.aload X117.here hx rfl (hb hby at_150) rfl rfl ?_
          refine XS.iconst X117.here hx rfl (hb hby at_152) ?_
          show Steps p.tables e below (T117.setTop (mkF m 153 #[.val (.int p0), .val (.int p1), .val (.int p2), .val (.int p3), .val (.int c0), .val (.int c1), .val (.ref b3), .val (.int pt), .val (.ref r_), .val (.int (4 : Int32))] [(.int (0 : Int32)), (.ref r_)])) _
          refine st118.trans ?_
          show Steps p.tables e below (T118.setTop (mkF m 156 #[.val (.int p0), .val (.int p1), .val (.int p2), .val (.int p3), .val (.int c0), .val (.int c1), .val (.ref b3), .val (.int pt), .val (.ref r_), .val (.int (4 : Int32))] [(.int c0)])) _
          refine XS.iload X118.here hx rfl (hb hby at_156) rfl  ?_
          show Steps p.tables e below (T118.setTop (mkF m 158 #[.val (.int p0), .val (.int p1), .val (.int p2), .val (.int p3), .val (.int c0), .val (.int c1), .val (.ref b3), .val (.int pt), .val (.ref r_), .val (.int (4 : Int32))] [(.int c0), (.int c0)])) _
          refine XS.icmpNo X118.here hx rfl (hb hby at_158) rfl (teq (rfl : c0 = c0)).2 ?_
          refine XS.aload X118.here hx rfl (hb hby at_161) rfl rfl ?_
          refine XS.iconst X118.here hx rfl (hb hby at_163) ?_
          show Steps p.tables e below (T118.setTop (mkF m 164 #[.val (.int p0), .val (.int p1), .val (.int p2), .val (.int p3), .val (.int c0), .val (.int c1), .val (.ref b3), .val (.int pt), .val (.ref r_), .val (.int (4 : Int32))] [(.int (1 : Int32)), (.ref r_)])) _
          refine st119.trans ?_
          show Steps p.tables e below (T119.setTop (mkF m 167 #[.val (.int p0), .val (.int p1), .val (.int p2), .val (.int p3), .val (.int c0), .val (.int c1), .val (.ref b3), .val (.int pt), .val (.ref r_), .val (.int (4 : Int32))] [(.int c1)])) _
          refine XS.iload X119.here hx rfl (hb hby at_167) rfl  ?_
          show Steps p.tables e below (T119.setTop (mkF m 169 #[.val (.int p0), .val (.int p1), .val (.int p2), .val (.int p3), .val (.int c0), .val (.int c1), .val (.ref b3), .val (.int pt), .val (.ref r_), .val (.int (4 : Int32))] [(.int c1), (.int c1)])) _
          refine XS.icmpNo X119.here hx rfl (hb hby at_169) rfl (teq (rfl : c1 = c1)).2 ?_
          refine XS.aload X119.here hx rfl (hb hby at_172) rfl rfl ?_
          refine XS.iconst X119.here hx rfl (hb hby at_174) ?_
          show Steps p.tables e below (T119.setTop (mkF m 175 #[.val (.int p0), .val (.int p1), .val (.int p2), .val (.int p3), .val (.int c0), .val (.int c1), .val (.ref b3), .val (.int pt), .val (.ref r_), .val (.int (4 : Int32))] [(.int (2 : Int32)), (.ref r_)])) _
          refine st120.trans ?_
          show Steps p.tables e below (T120.setTop (mkF m 178 #[.val (.int p0), .val (.int p1), .val (.int p2), .val (.int p3), .val (.int c0), .val (.int c1), .val (.ref b3), .val (.int pt), .val (.ref r_), .val (.int (4 : Int32))] [(.int (58 : Int32))])) _
          refine XS.bipush X120.here hx rfl (hb hby at_178) ?_
          show Steps p.tables e below (T120.setTop (mkF m 180 #[.val (.int p0), .val (.int p1), .val (.int p2), .val (.int p3), .val (.int c0), .val (.int c1), .val (.ref b3), .val (.int pt), .val (.ref r_), .val (.int (4 : Int32))] [(.int (58 : Int32)), (.int (58 : Int32))])) _
          refine XS.icmpYes X120.here hx rfl (pc0 := 180) (pc' := 185) rfl (hb hby at_180) rfl (teq (by decide : (58 : Int32) = (58 : Int32))).1 (by decide) (by decide) ?_
          refine XS.aload X120.here hx rfl (hb hby at_185) rfl rfl ?_
          refine XS.iload X120.here hx rfl (hb hby at_187) rfl  ?_
          refine XS.iload X120.here hx rfl (hb hby at_189) rfl  ?_
          refine XS.iconst X120.here hx rfl (hb hby at_191) ?_
          show Steps p.tables e below (T120.setTop (mkF m 192 #[.val (.int p0), .val (.int p1), .val (.int p2), .val (.int p3), .val (.int c0), .val (.int c1), .val (.ref b3), .val (.int pt), .val (.ref r_), .val (.int (4 : Int32))] [(.int (0 : Int32)), (.int (4 : Int32)), (.int pt), (.ref r_)])) _
          refine st121 _ ?_
          show Steps p.tables e below (T121.setTop (mkF m 195 #[.val (.int p0), .val (.int p1), .val (.int p2), .val (.int p3), .val (.int c0), .val (.int c1), .val (.ref b3), .val (.int pt), .val (.ref r_), .val (.int (4 : Int32))] [(.int (1 : Int32))])) _
          refine XS.ifNo X121.here hx rfl (hb hby at_195) rfl ((if0 _ _).trans (feq (by decide : ¬ ((1 : Int32) = (0 : Int32)))).1) ?_
          refine XS.aload X121.here hx rfl (hb hby at_198) rfl rfl ?_
          refine XS.iload X121.here hx rfl (hb hby at_200) rfl  ?_
          refine XS.iload X121.here hx rfl (hb hby at_202) rfl  ?_
          refine XS.iconst X121.here hx rfl (hb hby at_204) ?_
          show Steps p.tables e below (T121.setTop (mkF m 205 #[.val (.int p0), .val (.int p1), .val (.int p2), .val (.int p3), .val (.int c0), .val (.int c1), .val (.ref b3), .val (.int pt), .val (.ref r_), .val (.int (4 : Int32))] [(.int (1 : Int32)), (.int (4 : Int32)), (.int pt), (.ref r_)])) _
          refine st122 _ ?_
          show Steps p.tables e below (T122.setTop (mkF m 208 #[.val (.int p0), .val (.int p1), .val (.int p2), .val (.int p3), .val (.int c0), .val (.int c1), .val (.ref b3), .val (.int pt), .val (.ref r_), .val (.int (4 : Int32))] [(.int (1 : Int32))])) _
          refine XS.ifNo X122.here hx rfl (hb hby at_208) rfl ((if0 _ _).trans (feq (by decide : ¬ ((1 : Int32) = (0 : Int32)))).1) ?_
          refine XS.aload X122.here hx rfl (hb hby at_211) rfl rfl ?_
          refine XS.iload X122.here hx rfl (hb hby at_213) rfl  ?_
          refine XS.iload X122.here hx rfl (hb hby at_215) rfl  ?_
          refine XS.iconst X122.here hx rfl (hb hby at_217) ?_
          show Steps p.tables e below (T122.setTop (mkF m 218 #[.val (.int p0), .val (.int p1), .val (.int p2), .val (.int p3), .val (.int c0), .val (.int c1), .val (.ref b3), .val (.int pt), .val (.ref r_), .val (.int (4 : Int32))] [(.int (2 : Int32)), (.int (4 : Int32)), (.int pt), (.ref r_)])) _
          refine st123 _ ?_
          show Steps p.tables e below (T123.setTop (mkF m 221 #[.val (.int p0), .val (.int p1), .val (.int p2), .val (.int p3), .val (.int c0), .val (.int c1), .val (.ref b3), .val (.int pt), .val (.ref r_), .val (.int (4 : Int32))] [(.int (1 : Int32))])) _
          refine XS.ifNo X123.here hx rfl (hb hby at_221) rfl ((if0 _ _).trans (feq (by decide : ¬ ((1 : Int32) = (0 : Int32)))).1) ?_
          refine XS.aload X123.here hx rfl (hb hby at_224) rfl rfl ?_
          refine XS.iload X123.here hx rfl (hb hby at_226) rfl  ?_
          refine XS.iload X123.here hx rfl (hb hby at_228) rfl  ?_
          refine XS.iconst X123.here hx rfl (hb hby at_230) ?_
          show Steps p.tables e below (T123.setTop (mkF m 231 #[.val (.int p0), .val (.int p1), .val (.int p2), .val (.int p3), .val (.int c0), .val (.int c1), .val (.ref b3), .val (.int pt), .val (.ref r_), .val (.int (4 : Int32))] [(.int (3 : Int32)), (.int (4 : Int32)), (.int pt), (.ref r_)])) _
          refine st124 _ ?_
          show Steps p.tables e below (T124.setTop (mkF m 234 #[.val (.int p0), .val (.int p1), .val (.int p2), .val (.int p3), .val (.int c0), .val (.int c1), .val (.ref b3), .val (.int pt), .val (.ref r_), .val (.int (4 : Int32))] [(.int (1 : Int32))])) _
          refine XS.ifNo X124.here hx rfl (hb hby at_234) rfl ((if0 _ _).trans (feq (by decide : ¬ ((1 : Int32) = (0 : Int32)))).1) ?_
          refine XS.aload X124.here hx rfl (hb hby at_237) rfl rfl ?_
          refine XS.iload X124.here hx rfl (hb hby at_239) rfl  ?_
          refine XS.iload X124.here hx rfl (hb hby at_241) rfl  ?_
          refine XS.iconst X124.here hx rfl (hb hby at_243) ?_
          show Steps p.tables e below (T124.setTop (mkF m 244 #[.val (.int p0), .val (.int p1), .val (.int p2), .val (.int p3), .val (.int c0), .val (.int c1), .val (.ref b3), .val (.int pt), .val (.ref r_), .val (.int (4 : Int32))] [(.int (4 : Int32)), (.int (4 : Int32)), (.int pt), (.ref r_)])) _
          refine st125 _ ?_
          show Steps p.tables e below (T125.setTop (mkF m 247 #[.val (.int p0), .val (.int p1), .val (.int p2), .val (.int p3), .val (.int c0), .val (.int c1), .val (.ref b3), .val (.int pt), .val (.ref r_), .val (.int (4 : Int32))] [(.int (1 : Int32))])) _
          refine XS.ifNo X125.here hx rfl (hb hby at_247) rfl ((if0 _ _).trans (feq (by decide : ¬ ((1 : Int32) = (0 : Int32)))).1) ?_
          refine XS.iconst X125.here hx rfl (hb hby at_250) ?_
          refine XS.goto X125.here hx rfl (pc0 := 251) (pc' := 255) rfl (hb hby at_251) (by decide) (by decide) ?_
          show Steps p.tables e below (T125.setTop (mkF m 255 #[.val (.int p0), .val (.int p1), .val (.int p2), .val (.int p3), .val (.int c0), .val (.int c1), .val (.ref b3), .val (.int pt), .val (.ref r_), .val (.int (4 : Int32))] [(.int (1 : Int32))])) _
          exact retN X125 hx (t := .boolean) Bd.returns (by simp) (hb hby at_255) hr
        · show Q_rm0 Z p0 p1 p2 p3 zc fm wO cO wT cT h0 n0 _ T125.heap _
          rw [e125]
          exact ⟨rfl, N125⟩
    · have hlo_ : 10000 ≤ pt.toInt := (own_lt (by decide)).2 hn5
      have hhi_ : pt.toInt < 100000 := Int.lt_trans gpt.2 (by decide)
      obtain ⟨d1, hx1⟩ : ∃ z, z = ((48 : Int32) + ((pt / (10000 : Int32)) % (10 : Int32))) := ⟨_, rfl⟩
      have hd1 : d1.toInt = 48 + pt.toInt / 10000 % 10 := by rw [hx1, own_dg (b := 10000) (by decide) (by decide) gpt.1 (by decide)]
      have hy1 : d1 = ((48 : Int32) + ((pt / (10000 : Int32)) % (10 : Int32))).toUInt32.toUInt16.toUInt32.toInt32 := by rw [← hx1]; exact (own_cc (own_dr hd1)).symm
      obtain ⟨d2, hx2⟩ : ∃ z, z = ((48 : Int32) + ((pt / (1000 : Int32)) % (10 : Int32))) := ⟨_, rfl⟩
      have hd2 : d2.toInt = 48 + pt.toInt / 1000 % 10 := by rw [hx2, own_dg (b := 1000) (by decide) (by decide) gpt.1 (by decide)]
      have hy2 : d2 = ((48 : Int32) + ((pt / (1000 : Int32)) % (10 : Int32))).toUInt32.toUInt16.toUInt32.toInt32 := by rw [← hx2]; exact (own_cc (own_dr hd2)).symm
      obtain ⟨d3, hx3⟩ : ∃ z, z = ((48 : Int32) + ((pt / (100 : Int32)) % (10 : Int32))) := ⟨_, rfl⟩
      have hd3 : d3.toInt = 48 + pt.toInt / 100 % 10 := by rw [hx3, own_dg (b := 100) (by decide) (by decide) gpt.1 (by decide)]
      have hy3 : d3 = ((48 : Int32) + ((pt / (100 : Int32)) % (10 : Int32))).toUInt32.toUInt16.toUInt32.toInt32 := by rw [← hx3]; exact (own_cc (own_dr hd3)).symm
      obtain ⟨d4, hx4⟩ : ∃ z, z = ((48 : Int32) + ((pt / (10 : Int32)) % (10 : Int32))) := ⟨_, rfl⟩
      have hd4 : d4.toInt = 48 + pt.toInt / 10 % 10 := by rw [hx4, own_dg (b := 10) (by decide) (by decide) gpt.1 (by decide)]
      have hy4 : d4 = ((48 : Int32) + ((pt / (10 : Int32)) % (10 : Int32))).toUInt32.toUInt16.toUInt32.toInt32 := by rw [← hx4]; exact (own_cc (own_dr hd4)).symm
      obtain ⟨d5, hx5⟩ : ∃ z, z = ((48 : Int32) + ((pt / (1 : Int32)) % (10 : Int32))) := ⟨_, rfl⟩
      have hd5 : d5.toInt = 48 + pt.toInt % 10 := by rw [hx5, own_dg (b := 1) (by decide) (by decide) gpt.1 (by decide), own_d1]
      have hy5 : d5 = ((48 : Int32) + ((pt / (1 : Int32)) % (10 : Int32))).toUInt32.toUInt16.toUInt32.toInt32 := by rw [← hx5]; exact (own_cc (own_dr hd5)).symm
      have f126 := (V9.keep K15 (ninS (Ne.symm ne4_b3) nin0))
      obtain ⟨T127, h127, X127, e127, E127, A127, D127, -, st127⟩ := newO X15 hx hZ hown (hw _ (own_m 32 rfl)) (hw _ (own_m 33 rfl)) (hw _ (own_m 34 rfl)) rfl (g := (mkF m 57 #[.val (.int p0), .val (.int p1), .val (.int p2), .val (.int p3), .val (.int c0), .val (.int c1), .val (.ref b3), .val (.int pt), .unset, .unset] [])) rfl (hb hby at_57) (by decide) (by decide)
      obtain ⟨b127, g127⟩ : ∃ z, z = T15.heap.size := ⟨_, rfl⟩
      rw [← g127] at A127 D127 st127
      have ne127_b3 : b3 ≠ b127 := Nat.ne_of_lt (Nat.lt_of_lt_of_le Eh.lt (Nat.le_of_eq g127.symm))
      have ne127_b4 : b4 ≠ b127 := Nat.ne_of_lt (Nat.lt_of_lt_of_le f126.lt (Nat.le_of_eq g127.symm))
      have ne127_th : th ≠ b127 := Nat.ne_of_lt (Nat.lt_of_lt_of_le Ah.lt (Nat.le_of_eq g127.symm))
      have f128 := (Nat.le_trans f13 K15.1)
      have ge127 : n0 ≤ b127 := Nat.le_trans f128 (Nat.le_of_eq g127.symm)
      have F127_host : Fld Z h127 b127 "com/example/kikao/kikao/Domain" "host" "Ljava/lang/String;" .null := D127 (Or.inr (hw _ (own_m 45 rfl))) (ty := (.object "java/lang/String")) (by decide)
      have F127_port : Fld Z h127 b127 "com/example/kikao/kikao/Domain" "port" "I" (.int (0 : Int32)) := D127 (Or.inr (hw _ (own_m 47 rfl))) (ty := .int) (by decide)
      have f129 := (Nat.le_trans f128 E127.1)
      obtain ⟨_, _, ⟨T130, L130, k130, n130⟩, -, X130, ⟨Lc130, hQ130, l130, y130, z130⟩, st130⟩ := X127.specialBack hx (y := (⟨"com/example/kikao/kikao/Domain", "<init>", "(Ljava/lang/String;I)V"⟩ : MethodName)) rfl hown (mvT hZ (hw _ (own_m 35 rfl))) (mvT hZ (hw _ (own_m 36 rfl))) (mvT hZ (hw _ (own_m 37 rfl))) (by decide) (backOf (W := 1) (rmDom l Z a0 hw [] b127 b3 pt h127 n0 f129 A127 F127_host F127_port ge127) hZ (hw _ (own_m 37 rfl)) (hw _ (own_m 34 rfl)) (by decide) (by decide)) (g := (mkF m 65 #[.val (.int p0), .val (.int p1), .val (.int p2), .val (.int p3), .val (.int c0), .val (.int c1), .val (.ref b3), .val (.int pt), .unset, .unset] [(.int pt), (.ref b3), (.ref b127), (.ref b127)])) rfl (by rw [hml]; rfl) (Steps.refl _) (a := b127) (argsL := [(.ref b3), (.int pt)]) (rest := [(.ref b127)]) (lenOf pd__Ljava_lang_String_I_V rfl) rfl (by show 2 * 0 + _ ≤ _; exact Nat.le_of_eq rfl) (hb hby at_65) (fun _ _ => ⟨rfl, e127, (by decide : 4 + 0 ≤ _), (by decide : 10 + 0 ≤ _)⟩)
      dsimp only [Pt.U, Pt.locs, Pt.cells, Pt.slots] at X130 l130 y130 z130 st130 hQ130
      subst l130 y130 z130
      obtain ⟨rfl, Nq130, K130, Fdh, Fdp⟩ := hQ130
      have N130 := Fr.app N15 Nq130
      have f131 := ((Eh.ext E127).keep K130)
      have f132 := ((Fhv.ext E127).keep K130 (ninS ne127_b3 nin0))
      have f133 := ((Fhc.ext E127).keep K130 (ninS ne127_b3 nin0))
      have f134 := ((Ah.ext E127).keep K130 (ninS ne127_th nin0))
      have f135 := (((f14.keep K15 (allS ge3 all0)).ext E127).keep K130 (allS ge127 all0))
      have f136 := (Nat.le_trans f129 K130.1)
      have f138 := (A127.keep K130)
      obtain ⟨cq137, kq137, q137a, q137b, q137c⟩ := isOf hZ rfl f138
      obtain ⟨_, _, ⟨T137, L137, k137, n137⟩, -, X137, hS137, hgr137, ⟨Lc137, hQ137, l137, y137, z137⟩, st137⟩ := X130.virtualBackS hx (y := (⟨"com/example/kikao/kikao/Domain", "toString", "()Ljava/lang/String;"⟩ : MethodName)) (z := (⟨"com/example/kikao/kikao/Domain", "toString", "()Ljava/lang/String;"⟩ : MethodName)) hown (mvT hZ (hw _ (own_m 48 rfl))) (mvT hZ (hw _ (own_m 49 rfl))) (notFace_of_selects (args := #[]) (mvT hZ (hw _ (own_m 51 rfl)))) (mvT hZ (hw _ (own_m 51 rfl))) (mvT hZ (hw _ (own_m 50 rfl))) (by decide) (own_backI (W := 0) (rmTS5 l Z a0 hw [] b127 zc fm wO cO wT cT b3 th kh c0 c1 pt d1 d2 d3 d4 d5 T130.heap T130.heap.size (Nat.le_refl _) hSt ⟨Nat.le_trans f135.1 f136, f135.2⟩ hDT Fdh Fdp f131 f132 f133 f134 hleh hchh gpt.1 hlo_ hhi_ hd1 hd2 hd3 hd4 hd5 rfl hheld hcw) hI hZ (hw _ (own_m 52 rfl)) (hw _ (own_m 34 rfl)) (by decide) (by decide)) q137a q137c (g := (mkF m 68 #[.val (.int p0), .val (.int p1), .val (.int p2), .val (.int p3), .val (.int c0), .val (.int c1), .val (.ref b3), .val (.int pt), .unset, .unset] [(.ref b127)])) rfl (by rw [hml]; rfl) (Steps.refl _) (argsL := []) (rest := []) (lenOf pd___Ljava_lang_String_ rfl) rfl (by show 2 * 0 + _ ≤ _; exact Nat.le_of_eq rfl) (hb hby at_68) (fun _ _ => ⟨rfl, rfl, (by decide : 4 + 6 ≤ _), (by decide : 10 + 48 ≤ _)⟩)
      dsimp only [Pt.U, Pt.locs, Pt.cells, Pt.slots] at X137 l137 y137 z137 st137 hQ137 hS137 hgr137
      subst l137 y137 z137
      have hZ137 : Z.Warmed39 (s.setVm T137.vm).vm := State.Warmed39.trans hZ hS137.1
      have hown137 : (s.setVm T137.vm).vm.findClass "com/example/kikao/kikao/DomainToStringPinLaw" = some m.cls := (hS137.1.alike.findClass _ _).trans hown
      obtain ⟨⟨r_, ts_, ks_, rfl, Er_, Fr_v, Fr_c, Ar_⟩, Nq137, K137⟩ := hQ137
      have N137 := Fr.app N130 (own_frw f136 Nq137)
      have hk137 : T137.heap.size ≤ T137.heap.size := Nat.le_refl _
      have hleR : ∀ c ∈ [c0, c1, 58, d1, d2, d3, d4, d5], ¬ (255 : Int32) < c := own_allc (own_r8 gc0).2 (own_allc (own_r8 gc1).2 (own_allc (by decide) (own_allc (own_r8 (own_dr hd1)).2 (own_allc (own_r8 (own_dr hd2)).2 (own_allc (own_r8 (own_dr hd3)).2 (own_allc (own_r8 (own_dr hd4)).2 (own_allc (own_r8 (own_dr hd5)).2 (fun _ q => nomatch q))))))))
      have hchR : own_Chs [c0, c1, 58, d1, d2, d3, d4, d5] := ⟨own_allc (own_r8 gc0).1 (own_allc (own_r8 gc1).1 (own_allc ⟨by decide, by decide⟩ (own_allc (own_r8 (own_dr hd1)).1 (own_allc (own_r8 (own_dr hd2)).1 (own_allc (own_r8 (own_dr hd3)).1 (own_allc (own_r8 (own_dr hd4)).1 (own_allc (own_r8 (own_dr hd5)).1 (fun _ q => nomatch q)))))))), Nat.le_of_ble_eq_true rfl⟩
      have f139 := (Nat.le_trans f136 K137.1)
      have f140 := (f135.keep K137 all0)
      obtain ⟨cq141, kq141, q141a, q141b, q141c⟩ := isOf hZ137 rfl Er_
      obtain ⟨_, _, ⟨T141, L141, k141, n141⟩, -, X141, ⟨Lc141, hQ141, l141, y141, z141⟩, st141⟩ := X137.virtualBack hx (y := (⟨"java/lang/String", "length", "()I"⟩ : MethodName)) (z := (⟨"java/lang/String", "length", "()I"⟩ : MethodName)) hown137 (mvT hZ137 (hw _ (own_m 184 rfl))) (mvT hZ137 (hw _ (own_m 82 rfl))) (notFace_of_selects (args := #[]) (mvT hZ137 (hw _ (own_m 84 rfl)))) (mvT hZ137 (hw _ (own_m 84 rfl))) (mvT hZ137 (hw _ (own_m 83 rfl))) (by decide) (backOf (W := 0) (rmLen l Z a0 hw [] r_ zc fm [c0, c1, 58, d1, d2, d3, d4, d5] (8 : Int32) T137.heap n0 f139 hSt f140 ⟨ts_, ks_, (0 : Int32), _, _, Er_, Fr_v, Fr_c, Ar_, Or.inl ⟨rfl, rfl, rfl, hleR⟩, hchR⟩ (own_nrwOf Fr_c) rfl) hZ137 (hw _ (own_m 85 rfl)) (hw _ (own_m 2 rfl)) (by decide) (by decide)) q141a q141c (g := (mkF m 138 #[.val (.int p0), .val (.int p1), .val (.int p2), .val (.int p3), .val (.int c0), .val (.int c1), .val (.ref b3), .val (.int pt), .val (.ref r_), .val (.int (5 : Int32))] [(.ref r_)])) rfl (by rw [hml]; rfl) (Steps.refl _) (argsL := []) (rest := []) (lenOf pd___I rfl) rfl (by show 2 * 0 + _ ≤ _; exact Nat.le_of_eq rfl) (hb hby at_138) (fun _ _ => ⟨rfl, rfl, (by decide : 10 + 0 ≤ _), (by decide : 58 + 0 ≤ _)⟩)
      dsimp only [Pt.U, Pt.locs, Pt.cells, Pt.slots] at X141 l141 y141 z141 st141 hQ141
      subst l141 y141 z141
      obtain ⟨rfl, Nq141, e141⟩ := hQ141
      have N141 := Fr.app N137 Nq141
      obtain ⟨cq142, kq142, q142a, q142b, q142c⟩ := isOf hZ137 e141 Er_
      obtain ⟨_, _, ⟨T142, L142, k142, n142⟩, -, X142, ⟨Lc142, hQ142, l142, y142, z142⟩, st142⟩ := X141.virtualBack hx (y := (⟨"java/lang/String", "charAt", "(I)C"⟩ : MethodName)) (z := (⟨"java/lang/String", "charAt", "(I)C"⟩ : MethodName)) hown137 (mvT hZ137 (hw _ (own_m 185 rfl))) (mvT hZ137 (hw _ (own_m 186 rfl))) (notFace_of_selects (args := #[]) (mvT hZ137 (hw _ (own_m 188 rfl)))) (mvT hZ137 (hw _ (own_m 188 rfl))) (mvT hZ137 (hw _ (own_m 187 rfl))) (by decide) (backOf (W := 0) (rmCharAt l Z a0 hw [] r_ (0 : Int32) zc fm [c0, c1, 58, d1, d2, d3, d4, d5] c0 T137.heap n0 f139 hSt f140 ⟨ts_, ks_, (0 : Int32), _, _, Er_, Fr_v, Fr_c, Ar_, Or.inl ⟨rfl, rfl, rfl, hleR⟩, hchR⟩ (own_nrwOf Fr_c) ⟨by decide, Nat.le_of_ble_eq_true rfl⟩ rfl) hZ137 (hw _ (own_m 189 rfl)) (hw _ (own_m 2 rfl)) (by decide) (by decide)) q142a q142c (g := (mkF m 153 #[.val (.int p0), .val (.int p1), .val (.int p2), .val (.int p3), .val (.int c0), .val (.int c1), .val (.ref b3), .val (.int pt), .val (.ref r_), .val (.int (5 : Int32))] [(.int (0 : Int32)), (.ref r_)])) rfl (by rw [hml]; rfl) (Steps.refl _) (argsL := [(.int (0 : Int32))]) (rest := []) (lenOf pd__I_C rfl) rfl (by show 2 * 0 + _ ≤ _; exact Nat.le_of_eq rfl) (hb hby at_153) (fun _ _ => ⟨rfl, e141, (by decide : 10 + 0 ≤ _), (by decide : 58 + 0 ≤ _)⟩)
      dsimp only [Pt.U, Pt.locs, Pt.cells, Pt.slots] at X142 l142 y142 z142 st142 hQ142
      subst l142 y142 z142
      obtain ⟨rfl, Nq142, e142⟩ := hQ142
      have N142 := Fr.app N141 Nq142
      obtain ⟨cq143, kq143, q143a, q143b, q143c⟩ := isOf hZ137 e142 Er_
      obtain ⟨_, _, ⟨T143, L143, k143, n143⟩, -, X143, ⟨Lc143, hQ143, l143, y143, z143⟩, st143⟩ := X142.virtualBack hx (y := (⟨"java/lang/String", "charAt", "(I)C"⟩ : MethodName)) (z := (⟨"java/lang/String", "charAt", "(I)C"⟩ : MethodName)) hown137 (mvT hZ137 (hw _ (own_m 185 rfl))) (mvT hZ137 (hw _ (own_m 186 rfl))) (notFace_of_selects (args := #[]) (mvT hZ137 (hw _ (own_m 188 rfl)))) (mvT hZ137 (hw _ (own_m 188 rfl))) (mvT hZ137 (hw _ (own_m 187 rfl))) (by decide) (backOf (W := 0) (rmCharAt l Z a0 hw [] r_ (1 : Int32) zc fm [c0, c1, 58, d1, d2, d3, d4, d5] c1 T137.heap n0 f139 hSt f140 ⟨ts_, ks_, (0 : Int32), _, _, Er_, Fr_v, Fr_c, Ar_, Or.inl ⟨rfl, rfl, rfl, hleR⟩, hchR⟩ (own_nrwOf Fr_c) ⟨by decide, Nat.le_of_ble_eq_true rfl⟩ rfl) hZ137 (hw _ (own_m 189 rfl)) (hw _ (own_m 2 rfl)) (by decide) (by decide)) q143a q143c (g := (mkF m 164 #[.val (.int p0), .val (.int p1), .val (.int p2), .val (.int p3), .val (.int c0), .val (.int c1), .val (.ref b3), .val (.int pt), .val (.ref r_), .val (.int (5 : Int32))] [(.int (1 : Int32)), (.ref r_)])) rfl (by rw [hml]; rfl) (Steps.refl _) (argsL := [(.int (1 : Int32))]) (rest := []) (lenOf pd__I_C rfl) rfl (by show 2 * 0 + _ ≤ _; exact Nat.le_of_eq rfl) (hb hby at_164) (fun _ _ => ⟨rfl, e142, (by decide : 10 + 0 ≤ _), (by decide : 58 + 0 ≤ _)⟩)
      dsimp only [Pt.U, Pt.locs, Pt.cells, Pt.slots] at X143 l143 y143 z143 st143 hQ143
      subst l143 y143 z143
      obtain ⟨rfl, Nq143, e143⟩ := hQ143
      have N143 := Fr.app N142 Nq143
      obtain ⟨cq144, kq144, q144a, q144b, q144c⟩ := isOf hZ137 e143 Er_
      obtain ⟨_, _, ⟨T144, L144, k144, n144⟩, -, X144, ⟨Lc144, hQ144, l144, y144, z144⟩, st144⟩ := X143.virtualBack hx (y := (⟨"java/lang/String", "charAt", "(I)C"⟩ : MethodName)) (z := (⟨"java/lang/String", "charAt", "(I)C"⟩ : MethodName)) hown137 (mvT hZ137 (hw _ (own_m 185 rfl))) (mvT hZ137 (hw _ (own_m 186 rfl))) (notFace_of_selects (args := #[]) (mvT hZ137 (hw _ (own_m 188 rfl)))) (mvT hZ137 (hw _ (own_m 188 rfl))) (mvT hZ137 (hw _ (own_m 187 rfl))) (by decide) (backOf (W := 0) (rmCharAt l Z a0 hw [] r_ (2 : Int32) zc fm [c0, c1, 58, d1, d2, d3, d4, d5] (58 : Int32) T137.heap n0 f139 hSt f140 ⟨ts_, ks_, (0 : Int32), _, _, Er_, Fr_v, Fr_c, Ar_, Or.inl ⟨rfl, rfl, rfl, hleR⟩, hchR⟩ (own_nrwOf Fr_c) ⟨by decide, Nat.le_of_ble_eq_true rfl⟩ rfl) hZ137 (hw _ (own_m 189 rfl)) (hw _ (own_m 2 rfl)) (by decide) (by decide)) q144a q144c (g := (mkF m 175 #[.val (.int p0), .val (.int p1), .val (.int p2), .val (.int p3), .val (.int c0), .val (.int c1), .val (.ref b3), .val (.int pt), .val (.ref r_), .val (.int (5 : Int32))] [(.int (2 : Int32)), (.ref r_)])) rfl (by rw [hml]; rfl) (Steps.refl _) (argsL := [(.int (2 : Int32))]) (rest := []) (lenOf pd__I_C rfl) rfl (by show 2 * 0 + _ ≤ _; exact Nat.le_of_eq rfl) (hb hby at_175) (fun _ _ => ⟨rfl, e143, (by decide : 10 + 0 ≤ _), (by decide : 58 + 0 ≤ _)⟩)
      dsimp only [Pt.U, Pt.locs, Pt.cells, Pt.slots] at X144 l144 y144 z144 st144 hQ144
      subst l144 y144 z144
      obtain ⟨rfl, Nq144, e144⟩ := hQ144
      have N144 := Fr.app N143 Nq144
      obtain ⟨_, _, ⟨T145, L145, k145, n145⟩, -, X145, ⟨Lc145, hQ145, l145, y145, z145⟩, st145⟩ := Jvm.LawKit.callS X144 hx (y := (⟨"com/example/kikao/kikao/DomainToStringPinLaw", "digitOk", "(Ljava/lang/String;III)Z"⟩ : MethodName)) hown137 (mvT hZ137 (hw _ (own_m 207 rfl))) (mvT hZ137 (hw _ (own_m 208 rfl))) (mvT hZ137 (hw _ (own_m 209 rfl))) (mvT hZ137 (hw _ (own_m 210 rfl))) (by decide) (backOf (W := 0) (rmDk l Z a0 hw [] r_ pt (5 : Int32) (0 : Int32) zc fm [c0, c1, 58, d1, d2, d3, d4, d5] d1 (10000 : Int32) T137.heap n0 f139 hSt f140 ⟨ts_, ks_, (0 : Int32), _, _, Er_, Fr_v, Fr_c, Ar_, Or.inl ⟨rfl, rfl, rfl, hleR⟩, hchR⟩ (own_nrwOf Fr_c) (by decide) (by decide) (by decide) ⟨by decide, Nat.le_of_ble_eq_true rfl⟩ rfl hy1) hZ137 (hw _ (own_m 210 rfl)) (hw _ (own_m 209 rfl)) (by decide) (by decide)) (g := (mkF m 192 #[.val (.int p0), .val (.int p1), .val (.int p2), .val (.int p3), .val (.int c0), .val (.int c1), .val (.ref b3), .val (.int pt), .val (.ref r_), .val (.int (5 : Int32))] [(.int (0 : Int32)), (.int (5 : Int32)), (.int pt), (.ref r_)])) rfl (by rw [hml]; rfl) (argsL := [(.ref r_), (.int pt), (.int (5 : Int32)), (.int (0 : Int32))]) (rest := []) (lenOf pd__Ljava_lang_String_III_Z rfl) rfl (by show 2 * 0 + _ ≤ _; exact Nat.le_of_eq rfl) (hb hby at_192) (fun _ _ => ⟨rfl, e144, (by decide : 10 + 0 ≤ _), (by decide : 58 + 0 ≤ _)⟩)
      dsimp only [Pt.U, Pt.locs, Pt.cells, Pt.slots] at X145 l145 y145 z145 st145 hQ145
      subst l145 y145 z145
      obtain ⟨rfl, Nq145, e145⟩ := hQ145
      have N145 := Fr.app N144 Nq145
      obtain ⟨_, _, ⟨T146, L146, k146, n146⟩, -, X146, ⟨Lc146, hQ146, l146, y146, z146⟩, st146⟩ := Jvm.LawKit.callS X145 hx (y := (⟨"com/example/kikao/kikao/DomainToStringPinLaw", "digitOk", "(Ljava/lang/String;III)Z"⟩ : MethodName)) hown137 (mvT hZ137 (hw _ (own_m 207 rfl))) (mvT hZ137 (hw _ (own_m 208 rfl))) (mvT hZ137 (hw _ (own_m 209 rfl))) (mvT hZ137 (hw _ (own_m 210 rfl))) (by decide) (backOf (W := 0) (rmDk l Z a0 hw [] r_ pt (5 : Int32) (1 : Int32) zc fm [c0, c1, 58, d1, d2, d3, d4, d5] d2 (1000 : Int32) T137.heap n0 f139 hSt f140 ⟨ts_, ks_, (0 : Int32), _, _, Er_, Fr_v, Fr_c, Ar_, Or.inl ⟨rfl, rfl, rfl, hleR⟩, hchR⟩ (own_nrwOf Fr_c) (by decide) (by decide) (by decide) ⟨by decide, Nat.le_of_ble_eq_true rfl⟩ rfl hy2) hZ137 (hw _ (own_m 210 rfl)) (hw _ (own_m 209 rfl)) (by decide) (by decide)) (g := (mkF m 205 #[.val (.int p0), .val (.int p1), .val (.int p2), .val (.int p3), .val (.int c0), .val (.int c1), .val (.ref b3), .val (.int pt), .val (.ref r_), .val (.int (5 : Int32))] [(.int (1 : Int32)), (.int (5 : Int32)), (.int pt), (.ref r_)])) rfl (by rw [hml]; rfl) (argsL := [(.ref r_), (.int pt), (.int (5 : Int32)), (.int (1 : Int32))]) (rest := []) (lenOf pd__Ljava_lang_String_III_Z rfl) rfl (by show 2 * 0 + _ ≤ _; exact Nat.le_of_eq rfl) (hb hby at_205) (fun _ _ => ⟨rfl, e145, (by decide : 10 + 0 ≤ _), (by decide : 58 + 0 ≤ _)⟩)
      dsimp only [Pt.U, Pt.locs, Pt.cells, Pt.slots] at X146 l146 y146 z146 st146 hQ146
      subst l146 y146 z146
      obtain ⟨rfl, Nq146, e146⟩ := hQ146
      have N146 := Fr.app N145 Nq146
      obtain ⟨_, _, ⟨T147, L147, k147, n147⟩, -, X147, ⟨Lc147, hQ147, l147, y147, z147⟩, st147⟩ := Jvm.LawKit.callS X146 hx (y := (⟨"com/example/kikao/kikao/DomainToStringPinLaw", "digitOk", "(Ljava/lang/String;III)Z"⟩ : MethodName)) hown137 (mvT hZ137 (hw _ (own_m 207 rfl))) (mvT hZ137 (hw _ (own_m 208 rfl))) (mvT hZ137 (hw _ (own_m 209 rfl))) (mvT hZ137 (hw _ (own_m 210 rfl))) (by decide) (backOf (W := 0) (rmDk l Z a0 hw [] r_ pt (5 : Int32) (2 : Int32) zc fm [c0, c1, 58, d1, d2, d3, d4, d5] d3 (100 : Int32) T137.heap n0 f139 hSt f140 ⟨ts_, ks_, (0 : Int32), _, _, Er_, Fr_v, Fr_c, Ar_, Or.inl ⟨rfl, rfl, rfl, hleR⟩, hchR⟩ (own_nrwOf Fr_c) (by decide) (by decide) (by decide) ⟨by decide, Nat.le_of_ble_eq_true rfl⟩ rfl hy3) hZ137 (hw _ (own_m 210 rfl)) (hw _ (own_m 209 rfl)) (by decide) (by decide)) (g := (mkF m 218 #[.val (.int p0), .val (.int p1), .val (.int p2), .val (.int p3), .val (.int c0), .val (.int c1), .val (.ref b3), .val (.int pt), .val (.ref r_), .val (.int (5 : Int32))] [(.int (2 : Int32)), (.int (5 : Int32)), (.int pt), (.ref r_)])) rfl (by rw [hml]; rfl) (argsL := [(.ref r_), (.int pt), (.int (5 : Int32)), (.int (2 : Int32))]) (rest := []) (lenOf pd__Ljava_lang_String_III_Z rfl) rfl (by show 2 * 0 + _ ≤ _; exact Nat.le_of_eq rfl) (hb hby at_218) (fun _ _ => ⟨rfl, e146, (by decide : 10 + 0 ≤ _), (by decide : 58 + 0 ≤ _)⟩)
      dsimp only [Pt.U, Pt.locs, Pt.cells, Pt.slots] at X147 l147 y147 z147 st147 hQ147
      subst l147 y147 z147
      obtain ⟨rfl, Nq147, e147⟩ := hQ147
      have N147 := Fr.app N146 Nq147
      obtain ⟨_, _, ⟨T148, L148, k148, n148⟩, -, X148, ⟨Lc148, hQ148, l148, y148, z148⟩, st148⟩ := Jvm.LawKit.callS X147 hx (y := (⟨"com/example/kikao/kikao/DomainToStringPinLaw", "digitOk", "(Ljava/lang/String;III)Z"⟩ : MethodName)) hown137 (mvT hZ137 (hw _ (own_m 207 rfl))) (mvT hZ137 (hw _ (own_m 208 rfl))) (mvT hZ137 (hw _ (own_m 209 rfl))) (mvT hZ137 (hw _ (own_m 210 rfl))) (by decide) (backOf (W := 0) (rmDk l Z a0 hw [] r_ pt (5 : Int32) (3 : Int32) zc fm [c0, c1, 58, d1, d2, d3, d4, d5] d4 (10 : Int32) T137.heap n0 f139 hSt f140 ⟨ts_, ks_, (0 : Int32), _, _, Er_, Fr_v, Fr_c, Ar_, Or.inl ⟨rfl, rfl, rfl, hleR⟩, hchR⟩ (own_nrwOf Fr_c) (by decide) (by decide) (by decide) ⟨by decide, Nat.le_of_ble_eq_true rfl⟩ rfl hy4) hZ137 (hw _ (own_m 210 rfl)) (hw _ (own_m 209 rfl)) (by decide) (by decide)) (g := (mkF m 231 #[.val (.int p0), .val (.int p1), .val (.int p2), .val (.int p3), .val (.int c0), .val (.int c1), .val (.ref b3), .val (.int pt), .val (.ref r_), .val (.int (5 : Int32))] [(.int (3 : Int32)), (.int (5 : Int32)), (.int pt), (.ref r_)])) rfl (by rw [hml]; rfl) (argsL := [(.ref r_), (.int pt), (.int (5 : Int32)), (.int (3 : Int32))]) (rest := []) (lenOf pd__Ljava_lang_String_III_Z rfl) rfl (by show 2 * 0 + _ ≤ _; exact Nat.le_of_eq rfl) (hb hby at_231) (fun _ _ => ⟨rfl, e147, (by decide : 10 + 0 ≤ _), (by decide : 58 + 0 ≤ _)⟩)
      dsimp only [Pt.U, Pt.locs, Pt.cells, Pt.slots] at X148 l148 y148 z148 st148 hQ148
      subst l148 y148 z148
      obtain ⟨rfl, Nq148, e148⟩ := hQ148
      have N148 := Fr.app N147 Nq148
      obtain ⟨_, _, ⟨T149, L149, k149, n149⟩, -, X149, ⟨Lc149, hQ149, l149, y149, z149⟩, st149⟩ := Jvm.LawKit.callS X148 hx (y := (⟨"com/example/kikao/kikao/DomainToStringPinLaw", "digitOk", "(Ljava/lang/String;III)Z"⟩ : MethodName)) hown137 (mvT hZ137 (hw _ (own_m 207 rfl))) (mvT hZ137 (hw _ (own_m 208 rfl))) (mvT hZ137 (hw _ (own_m 209 rfl))) (mvT hZ137 (hw _ (own_m 210 rfl))) (by decide) (backOf (W := 0) (rmDk l Z a0 hw [] r_ pt (5 : Int32) (4 : Int32) zc fm [c0, c1, 58, d1, d2, d3, d4, d5] d5 (1 : Int32) T137.heap n0 f139 hSt f140 ⟨ts_, ks_, (0 : Int32), _, _, Er_, Fr_v, Fr_c, Ar_, Or.inl ⟨rfl, rfl, rfl, hleR⟩, hchR⟩ (own_nrwOf Fr_c) (by decide) (by decide) (by decide) ⟨by decide, Nat.le_of_ble_eq_true rfl⟩ rfl hy5) hZ137 (hw _ (own_m 210 rfl)) (hw _ (own_m 209 rfl)) (by decide) (by decide)) (g := (mkF m 244 #[.val (.int p0), .val (.int p1), .val (.int p2), .val (.int p3), .val (.int c0), .val (.int c1), .val (.ref b3), .val (.int pt), .val (.ref r_), .val (.int (5 : Int32))] [(.int (4 : Int32)), (.int (5 : Int32)), (.int pt), (.ref r_)])) rfl (by rw [hml]; rfl) (argsL := [(.ref r_), (.int pt), (.int (5 : Int32)), (.int (4 : Int32))]) (rest := []) (lenOf pd__Ljava_lang_String_III_Z rfl) rfl (by show 2 * 0 + _ ≤ _; exact Nat.le_of_eq rfl) (hb hby at_244) (fun _ _ => ⟨rfl, e148, (by decide : 10 + 0 ≤ _), (by decide : 58 + 0 ≤ _)⟩)
      dsimp only [Pt.U, Pt.locs, Pt.cells, Pt.slots] at X149 l149 y149 z149 st149 hQ149
      subst l149 y149 z149
      obtain ⟨rfl, Nq149, e149⟩ := hQ149
      have N149 := Fr.app N148 Nq149
      obtain ⟨fs, hr, hrun, hended, hEnd⟩ := X149.leaveW hS137 (by rw [e149]; exact hk137) (v := some (.int (1 : Int32))) (fun h => by rw [Bd.returns] at h; cases h)
      refine ⟨_, _, pre29 _ ?_, hrun, hended, _, _, rfl, ?_, hEnd.1, hEnd.2.1, hEnd.2.2.1, hEnd.2.2.2.mono (by decide) (by decide)⟩
      · show Steps p.tables e below (T15.setTop (mkF m 57 #[.val (.int p0), .val (.int p1), .val (.int p2), .val (.int p3), .val (.int c0), .val (.int c1), .val (.ref b3), .val (.int pt), .unset, .unset] [])) _
        refine st127 _ ?_
        show Steps p.tables e below (T127.setTop (mkF m 60 #[.val (.int p0), .val (.int p1), .val (.int p2), .val (.int p3), .val (.int c0), .val (.int c1), .val (.ref b3), .val (.int pt), .unset, .unset] [(.ref b127)])) _
        refine XS.dup X127.here hx rfl (hb hby at_60) rfl rfl ?_
        refine XS.aload X127.here hx rfl (hb hby at_61) rfl rfl ?_
        refine XS.iload X127.here hx rfl (hb hby at_63) rfl  ?_
        show Steps p.tables e below (T127.setTop (mkF m 65 #[.val (.int p0), .val (.int p1), .val (.int p2), .val (.int p3), .val (.int c0), .val (.int c1), .val (.ref b3), .val (.int pt), .unset, .unset] [(.int pt), (.ref b3), (.ref b127), (.ref b127)])) _
        refine st130.trans ?_
        show Steps p.tables e below (T130.setTop (mkF m 68 #[.val (.int p0), .val (.int p1), .val (.int p2), .val (.int p3), .val (.int c0), .val (.int c1), .val (.ref b3), .val (.int pt), .unset, .unset] [(.ref b127)])) _
        refine st137.trans ?_
        show Steps p.tables e below (T137.setTop (mkF m 71 #[.val (.int p0), .val (.int p1), .val (.int p2), .val (.int p3), .val (.int c0), .val (.int c1), .val (.ref b3), .val (.int pt), .unset, .unset] [(.ref r_)])) _
        refine XS.astore X137.here hx rfl (hb hby at_71) rfl rfl (l' := #[.val (.int p0), .val (.int p1), .val (.int p2), .val (.int p3), .val (.int c0), .val (.int c1), .val (.ref b3), .val (.int pt), .val (.ref r_), .unset]) rfl ?_
        refine XS.iload X137.here hx rfl (hb hby at_73) rfl  ?_
        refine XS.iconst X137.here hx rfl (hb hby at_75) ?_
        show Steps p.tables e below (T137.setTop (mkF m 76 #[.val (.int p0), .val (.int p1), .val (.int p2), .val (.int p3), .val (.int c0), .val (.int c1), .val (.ref b3), .val (.int pt), .val (.ref r_), .unset] [(.int (-1 : Int32)), (.int pt)])) _
        refine XS.icmpYes X137.here hx rfl (pc0 := 76) (pc' := 87) rfl (hb hby at_76) rfl (feq (fun q => by rw [q] at gpt; exact absurd gpt.1 (by decide))).2 (by decide) (by decide) ?_
        refine XS.iload X137.here hx rfl (hb hby at_87) rfl  ?_
        refine XS.sipush X137.here hx rfl (hb hby at_89) ?_
        show Steps p.tables e below (T137.setTop (mkF m 92 #[.val (.int p0), .val (.int p1), .val (.int p2), .val (.int p3), .val (.int c0), .val (.int c1), .val (.ref b3), .val (.int pt), .val (.ref r_), .unset] [(.int (10000 : Int32)), (.int pt)])) _
        refine XS.icmpNo X137.here hx rfl (hb hby at_92) rfl (flt hn5).1 ?_
        refine XS.iconst X137.here hx rfl (hb hby at_95) ?_
        refine XS.goto X137.here hx rfl (pc0 := 96) (pc' := 134) rfl (hb hby at_96) (by decide) (by decide) ?_
        refine XS.istore X137.here hx rfl (hb hby at_134) rfl (l' := #[.val (.int p0), .val (.int p1), .val (.int p2), .val (.int p3), .val (.int c0), .val (.int c1), .val (.ref b3), .val (.int pt), .val (.ref r_), .val (.int (5 : Int32))]) rfl ?_
        refine XS.aload X137.here hx rfl (hb hby at_136) rfl rfl ?_
        show Steps p.tables e below (T137.setTop (mkF m 138 #[.val (.int p0), .val (.int p1), .val (.int p2), .val (.int p3), .val (.int c0), .val (.int c1), .val (.ref b3), .val (.int pt), .val (.ref r_), .val (.int (5 : Int32))] [(.ref r_)])) _
        refine st141.trans ?_
        show Steps p.tables e below (T141.setTop (mkF m 141 #[.val (.int p0), .val (.int p1), .val (.int p2), .val (.int p3), .val (.int c0), .val (.int c1), .val (.ref b3), .val (.int pt), .val (.ref r_), .val (.int (5 : Int32))] [(.int (8 : Int32))])) _
        refine XS.iconst X141.here hx rfl (hb hby at_141) ?_
        refine XS.iload X141.here hx rfl (hb hby at_142) rfl  ?_
        refine XS.iadd X141.here hx rfl (hb hby at_144) rfl ?_
        show Steps p.tables e below (T141.setTop (mkF m 145 #[.val (.int p0), .val (.int p1), .val (.int p2), .val (.int p3), .val (.int c0), .val (.int c1), .val (.ref b3), .val (.int pt), .val (.ref r_), .val (.int (5 : Int32))] [(.int (8 : Int32)), (.int (8 : Int32))])) _
        refine XS.icmpYes X141.here hx rfl (pc0 := 145) (pc' := 150) rfl (hb hby at_145) rfl (teq (by decide : (8 : Int32) = (8 : Int32))).1 (by decide) (by decide) ?_
        refine XS.aload X141.here hx rfl (hb hby at_150) rfl rfl ?_
        refine XS.iconst X141.here hx rfl (hb hby at_152) ?_
        show Steps p.tables e below (T141.setTop (mkF m 153 #[.val (.int p0), .val (.int p1), .val (.int p2), .val (.int p3), .val (.int c0), .val (.int c1), .val (.ref b3), .val (.int pt), .val (.ref r_), .val (.int (5 : Int32))] [(.int (0 : Int32)), (.ref r_)])) _
        refine st142.trans ?_
        show Steps p.tables e below (T142.setTop (mkF m 156 #[.val (.int p0), .val (.int p1), .val (.int p2), .val (.int p3), .val (.int c0), .val (.int c1), .val (.ref b3), .val (.int pt), .val (.ref r_), .val (.int (5 : Int32))] [(.int c0)])) _
        refine XS.iload X142.here hx rfl (hb hby at_156) rfl  ?_
        show Steps p.tables e below (T142.setTop (mkF m 158 #[.val (.int p0), .val (.int p1), .val (.int p2), .val (.int p3), .val (.int c0), .val (.int c1), .val (.ref b3), .val (.int pt), .val (.ref r_), .val (.int (5 : Int32))] [(.int c0), (.int c0)])) _
        refine XS.icmpNo X142.here hx rfl (hb hby at_158) rfl (teq (rfl : c0 = c0)).2 ?_
        refine XS.aload X142.here hx rfl (hb hby at_161) rfl rfl ?_
        refine XS.iconst X142.here hx rfl (hb hby at_163) ?_
        show Steps p.tables e below (T142.setTop (mkF m 164 #[.val (.int p0), .val (.int p1), .val (.int p2), .val (.int p3), .val (.int c0), .val (.int c1), .val (.ref b3), .val (.int pt), .val (.ref r_), .val (.int (5 : Int32))] [(.int (1 : Int32)), (.ref r_)])) _
        refine st143.trans ?_
        show Steps p.tables e below (T143.setTop (mkF m 167 #[.val (.int p0), .val (.int p1), .val (.int p2), .val (.int p3), .val (.int c0), .val (.int c1), .val (.ref b3), .val (.int pt), .val (.ref r_), .val (.int (5 : Int32))] [(.int c1)])) _
        refine XS.iload X143.here hx rfl (hb hby at_167) rfl  ?_
        show Steps p.tables e below (T143.setTop (mkF m 169 #[.val (.int p0), .val (.int p1), .val (.int p2), .val (.int p3), .val (.int c0), .val (.int c1), .val (.ref b3), .val (.int pt), .val (.ref r_), .val (.int (5 : Int32))] [(.int c1), (.int c1)])) _
        refine XS.icmpNo X143.here hx rfl (hb hby at_169) rfl (teq (rfl : c1 = c1)).2 ?_
        refine XS.aload X143.here hx rfl (hb hby at_172) rfl rfl ?_
        refine XS.iconst X143.here hx rfl (hb hby at_174) ?_
        show Steps p.tables e below (T143.setTop (mkF m 175 #[.val (.int p0), .val (.int p1), .val (.int p2), .val (.int p3), .val (.int c0), .val (.int c1), .val (.ref b3), .val (.int pt), .val (.ref r_), .val (.int (5 : Int32))] [(.int (2 : Int32)), (.ref r_)])) _
        refine st144.trans ?_
        show Steps p.tables e below (T144.setTop (mkF m 178 #[.val (.int p0), .val (.int p1), .val (.int p2), .val (.int p3), .val (.int c0), .val (.int c1), .val (.ref b3), .val (.int pt), .val (.ref r_), .val (.int (5 : Int32))] [(.int (58 : Int32))])) _
        refine XS.bipush X144.here hx rfl (hb hby at_178) ?_
        show Steps p.tables e below (T144.setTop (mkF m 180 #[.val (.int p0), .val (.int p1), .val (.int p2), .val (.int p3), .val (.int c0), .val (.int c1), .val (.ref b3), .val (.int pt), .val (.ref r_), .val (.int (5 : Int32))] [(.int (58 : Int32)), (.int (58 : Int32))])) _
        refine XS.icmpYes X144.here hx rfl (pc0 := 180) (pc' := 185) rfl (hb hby at_180) rfl (teq (by decide : (58 : Int32) = (58 : Int32))).1 (by decide) (by decide) ?_
        refine XS.aload X144.here hx rfl (hb hby at_185) rfl rfl ?_
        refine XS.iload X144.here hx rfl (hb hby at_187) rfl  ?_
        refine XS.iload X144.here hx rfl (hb hby at_189) rfl  ?_
        refine XS.iconst X144.here hx rfl (hb hby at_191) ?_
        show Steps p.tables e below (T144.setTop (mkF m 192 #[.val (.int p0), .val (.int p1), .val (.int p2), .val (.int p3), .val (.int c0), .val (.int c1), .val (.ref b3), .val (.int pt), .val (.ref r_), .val (.int (5 : Int32))] [(.int (0 : Int32)), (.int (5 : Int32)), (.int pt), (.ref r_)])) _
        refine st145 _ ?_
        show Steps p.tables e below (T145.setTop (mkF m 195 #[.val (.int p0), .val (.int p1), .val (.int p2), .val (.int p3), .val (.int c0), .val (.int c1), .val (.ref b3), .val (.int pt), .val (.ref r_), .val (.int (5 : Int32))] [(.int (1 : Int32))])) _
        refine XS.ifNo X145.here hx rfl (hb hby at_195) rfl ((if0 _ _).trans (feq (by decide : ¬ ((1 : Int32) = (0 : Int32)))).1) ?_
        refine XS.aload X145.here hx rfl (hb hby at_198) rfl rfl ?_
        refine XS.iload X145.here hx rfl (hb hby at_200) rfl  ?_
        refine XS.iload X145.here hx rfl (hb hby at_202) rfl  ?_
        refine XS.iconst X145.here hx rfl (hb hby at_204) ?_
        show Steps p.tables e below (T145.setTop (mkF m 205 #[.val (.int p0), .val (.int p1), .val (.int p2), .val (.int p3), .val (.int c0), .val (.int c1), .val (.ref b3), .val (.int pt), .val (.ref r_), .val (.int (5 : Int32))] [(.int (1 : Int32)), (.int (5 : Int32)), (.int pt), (.ref r_)])) _
        refine st146 _ ?_
        show Steps p.tables e below (T146.setTop (mkF m 208 #[.val (.int p0), .val (.int p1), .val (.int p2), .val (.int p3), .val (.int c0), .val (.int c1), .val (.ref b3), .val (.int pt), .val (.ref r_), .val (.int (5 : Int32))] [(.int (1 : Int32))])) _
        refine XS.ifNo X146.here hx rfl (hb hby at_208) rfl ((if0 _ _).trans (feq (by decide : ¬ ((1 : Int32) = (0 : Int32)))).1) ?_
        refine XS.aload X146.here hx rfl (hb hby at_211) rfl rfl ?_
        refine XS.iload X146.here hx rfl (hb hby at_213) rfl  ?_
        refine XS.iload X146.here hx rfl (hb hby at_215) rfl  ?_
        refine XS.iconst X146.here hx rfl (hb hby at_217) ?_
        show Steps p.tables e below (T146.setTop (mkF m 218 #[.val (.int p0), .val (.int p1), .val (.int p2), .val (.int p3), .val (.int c0), .val (.int c1), .val (.ref b3), .val (.int pt), .val (.ref r_), .val (.int (5 : Int32))] [(.int (2 : Int32)), (.int (5 : Int32)), (.int pt), (.ref r_)])) _
        refine st147 _ ?_
        show Steps p.tables e below (T147.setTop (mkF m 221 #[.val (.int p0), .val (.int p1), .val (.int p2), .val (.int p3), .val (.int c0), .val (.int c1), .val (.ref b3), .val (.int pt), .val (.ref r_), .val (.int (5 : Int32))] [(.int (1 : Int32))])) _
        refine XS.ifNo X147.here hx rfl (hb hby at_221) rfl ((if0 _ _).trans (feq (by decide : ¬ ((1 : Int32) = (0 : Int32)))).1) ?_
        refine XS.aload X147.here hx rfl (hb hby at_224) rfl rfl ?_
        refine XS.iload X147.here hx rfl (hb hby at_226) rfl  ?_
        refine XS.iload X147.here hx rfl (hb hby at_228) rfl  ?_
        refine XS.iconst X147.here hx rfl (hb hby at_230) ?_
        show Steps p.tables e below (T147.setTop (mkF m 231 #[.val (.int p0), .val (.int p1), .val (.int p2), .val (.int p3), .val (.int c0), .val (.int c1), .val (.ref b3), .val (.int pt), .val (.ref r_), .val (.int (5 : Int32))] [(.int (3 : Int32)), (.int (5 : Int32)), (.int pt), (.ref r_)])) _
        refine st148 _ ?_
        show Steps p.tables e below (T148.setTop (mkF m 234 #[.val (.int p0), .val (.int p1), .val (.int p2), .val (.int p3), .val (.int c0), .val (.int c1), .val (.ref b3), .val (.int pt), .val (.ref r_), .val (.int (5 : Int32))] [(.int (1 : Int32))])) _
        refine XS.ifNo X148.here hx rfl (hb hby at_234) rfl ((if0 _ _).trans (feq (by decide : ¬ ((1 : Int32) = (0 : Int32)))).1) ?_
        refine XS.aload X148.here hx rfl (hb hby at_237) rfl rfl ?_
        refine XS.iload X148.here hx rfl (hb hby at_239) rfl  ?_
        refine XS.iload X148.here hx rfl (hb hby at_241) rfl  ?_
        refine XS.iconst X148.here hx rfl (hb hby at_243) ?_
        show Steps p.tables e below (T148.setTop (mkF m 244 #[.val (.int p0), .val (.int p1), .val (.int p2), .val (.int p3), .val (.int c0), .val (.int c1), .val (.ref b3), .val (.int pt), .val (.ref r_), .val (.int (5 : Int32))] [(.int (4 : Int32)), (.int (5 : Int32)), (.int pt), (.ref r_)])) _
        refine st149 _ ?_
        show Steps p.tables e below (T149.setTop (mkF m 247 #[.val (.int p0), .val (.int p1), .val (.int p2), .val (.int p3), .val (.int c0), .val (.int c1), .val (.ref b3), .val (.int pt), .val (.ref r_), .val (.int (5 : Int32))] [(.int (1 : Int32))])) _
        refine XS.ifNo X149.here hx rfl (hb hby at_247) rfl ((if0 _ _).trans (feq (by decide : ¬ ((1 : Int32) = (0 : Int32)))).1) ?_
        refine XS.iconst X149.here hx rfl (hb hby at_250) ?_
        refine XS.goto X149.here hx rfl (pc0 := 251) (pc' := 255) rfl (hb hby at_251) (by decide) (by decide) ?_
        show Steps p.tables e below (T149.setTop (mkF m 255 #[.val (.int p0), .val (.int p1), .val (.int p2), .val (.int p3), .val (.int c0), .val (.int c1), .val (.ref b3), .val (.int pt), .val (.ref r_), .val (.int (5 : Int32))] [(.int (1 : Int32))])) _
        exact retN X149 hx (t := .boolean) Bd.returns (by simp) (hb hby at_255) hr
      · show Q_rm0 Z p0 p1 p2 p3 zc fm wO cO wT cT h0 n0 _ T149.heap _
        rw [e149]
        exact ⟨rfl, N149⟩
set_option maxRecDepth 65536 in
set_option maxHeartbeats 40000000 in
theorem comes_1 {Post : Tables → Env → Array Value → State → Outcome → State → Prop} (hpost : ∀ tb e args s v u, (limb_1_1.after args s (.returned v) u = true ∧ limb_1_2.after args s (.returned v) u = true ∧ True) → FramedW s (.returned v) u (Jvm.fieldLocs frame_1_writes args s ++ Jvm.arrayLocs frame_1_arrays args s ++ Jvm.staticLocs frame_1_statics s) 32 1216 → Post tb e args s (.returned v) u) :
    ArmFor flags0 classFile x code maxLocals ret World_1 tables_1 room_1 Calls_1 rest_1 Pre_1 Post := by
  intro l hfl _ _ p e ha hc hk s m args below hf hA hF happ hP
  obtain ⟨hcalls, hrest, hpre⟩ := hP
  obtain ⟨-, -, -, hnamed, -, -, -, hat⟩ := (Spec.applies_iff hf).mp happ
  obtain ⟨hg, hn⟩ := and_e (Cond.before_iff.mp (show (Jvm.Cond.and given_1 narrow_1).before args s = true from hpre))
  obtain ⟨gc, gr0⟩ := and_e hg
  obtain ⟨ga0, gr1⟩ := and_e gr0
  obtain ⟨ga1, gr2⟩ := and_e gr1
  obtain ⟨ga2, gr3⟩ := and_e gr2
  obtain ⟨w0, w1, w2, w3, rfl⟩ : ∃ w0 w1 w2 w3 : Value, args = #[w0, w1, w2, w3] := by
    have hs : args.size = 4 := by simpa [Cond.value, given_1] using gc
    obtain ⟨L⟩ := args
    match L, hs with
    | [w0, w1, w2, w3], _ => exact ⟨w0, w1, w2, w3, rfl⟩
  have hw := fun d (hd : d ∈ tables_1) => atoms_spec (ws := Jvm.Cond.code x code maxLocals ret :: tables_1) hat d (List.mem_cons_of_mem _ hd)
  have hfit : Fit s := fun {y c} hc i hi => by
    obtain ⟨ha, rfl⟩ := Array.getElem?_eq_some_iff.mp hc
    have q := List.all_eq_true.mp ((Array.all_eq_true_iff_forall_mem.mp hF) _ (Array.getElem_mem ha)) i (List.mem_range.mpr hi)
    simpa [Array.getElem?_eq_getElem hi] using q
  obtain ⟨i0, ei0⟩ := is_v ga0
  obtain rfl : w0 = (.int i0) := Option.some.inj ei0
  obtain ⟨i1, ei1⟩ := is_v ga1
  obtain rfl : w1 = (.int i1) := Option.some.inj ei1
  obtain ⟨i2, ei2⟩ := is_v ga2
  obtain rfl : w2 = (.int i2) := Option.some.inj ei2
  obtain ⟨i3, ei3⟩ := is_v gr3
  obtain rfl : w3 = (.int i3) := Option.some.inj ei3
  obtain ⟨hsets, hown0⟩ := atoms_of _ (rest_1_c_eq ▸ (show rest_1_c.before _ s = true from hrest))
  obtain ⟨zc, evz⟩ := is_v (Cond.before_iff.mp (hsets _ (own_m 1 rfl)))
  have hzc : ¬ zc = (0 : Int32) := fun q => by
    have h2 := (Cond.before_iff.mp (hsets _ (own_m 2 rfl)))
    have h3 := not_v h2
    rw [eq_i evz (Term.int_eval (0)) (by rw [q])] at h3; cases h3
  obtain ⟨fm, evf, hfm⟩ := isR_v (Cond.before_iff.mp (hsets _ (own_m 8 rfl)))
  have hSt : own_St s zc fm := ⟨Sta.start evz (Or.inl (hsets _ (own_m 0 rfl))), hzc, Sta.start evf (Or.inl (hsets _ (own_m 7 rfl))), hfm⟩
  obtain ⟨wO, evO⟩ := exa_v (Cond.before_iff.mp (hsets _ (own_m 12 rfl)))
  obtain ⟨cO, haO, hsO⟩ := own_len evO (Cond.before_iff.mp (hsets _ (own_m 13 rfl)))
  obtain ⟨wT, evT⟩ := exa_v (Cond.before_iff.mp (hsets _ (own_m 17 rfl)))
  obtain ⟨cT, haT, hsT⟩ := own_len evT (Cond.before_iff.mp (hsets _ (own_m 18 rfl)))
  have hDT : own_DT s wO cO wT cT := by
    refine ⟨Sta.start evO (Or.inl (hsets _ (own_m 11 rfl))), Sta.start evT (Or.inl (hsets _ (own_m 16 rfl))), own_arrB evO (Cond.before_iff.mp (hsets _ (own_m 12 rfl))) (hw _ (own_m 19 rfl)) haO, own_arrB evT (Cond.before_iff.mp (hsets _ (own_m 17 rfl))) (hw _ (own_m 19 rfl)) haT, ⟨hsO, ?_⟩, hsT, ?_⟩
    · exact own_tab evO haO hsO (Cond.before_iff.mp (hsets _ (own_m 14 rfl))) (f := fun j => j % 10) (fun j h0 => by rw [Term.eval, idx_at h0]; rfl)
    · exact own_tab evT haT hsT (Cond.before_iff.mp (hsets _ (own_m 19 rfl))) (f := fun j => j / 10) (fun j h0 => by rw [Term.eval, idx_at h0]; rfl)
  have hcw : Jvm.Lit.compactW.before _ s = true := (hsets _ (own_m 2 rfl))
  have hheld : Jvm.Lit.constHeld s "com/example/kikao/kikao/Domain" 140 := hcalls.1 ("com/example/kikao/kikao/Domain", 140) (List.mem_cons_self ..)
  obtain ⟨n, o, h1, h2, h3, _, L, rfl, ⟨rfl, N⟩, hq⟩ := rm0 l s _ hw tables_1 i0 i1 i2 i3 zc fm wO cO wT cT s.heap s.heap.size (Nat.le_refl _) hSt (own_Old.start s) hDT hheld hcw p e ha hc hk s m _ below hf ((Spec.applies_iff_loose hf).mp happ).1 ⟨rfl, State.Warmed39.refl s, rfl, rfl⟩ trivial
  refine ⟨n, _, h1, h2, h3, hpost _ _ _ _ _ _ ⟨Cond.after_iff.mpr rfl, Cond.after_iff.mpr (eq_i res_at (Term.int_eval (1)) rfl), trivial⟩ ⟨hq.1, hq.2.1, hq.2.2.1, (hq.2.2.2.sift fun y hy => Or.inr (N y hy)).mono (by decide) (by decide)⟩⟩
theorem main_1_1 : Claimed_1_1 := comes_1 fun _ _ _ _ _ _ h hF => ⟨h.1, hF⟩
theorem main_1_2 : Claimed_1_2 := comes_1 fun _ _ _ _ _ _ h hF => ⟨h.2.1, hF⟩
end Jvm.Pilot.@@N@@
namespace Jvm.Pilot.@@N@@
open Jvm Jvm.ClassFile Sem Op Lib Jvm.Free Jvm.Stand Jvm.Pilot.@@N@@.Jvm.D
/-! MADE BY PROGRAM (witnessworld.py) out of the Statement's table words and the real class files: 29 classes; the members and pool entries that the words name. The judged class is class 1, her method 1. -/
namespace start1
open Jvm.ClassFile
def u (s : String) : CpInfo := .utf8 (stringToUtf16 s)
/-- a pool by its gaps: so many unusable entries, then the entry; so many at the end -/
def gap : Nat → List CpInfo → List CpInfo
  | 0, r => r
  | n + 1, r => .unusable :: gap n r
def poolList (es : List (Nat × CpInfo)) (last : Nat) : List CpInfo := es.foldr (fun e r => gap e.1 (e.2 :: r)) (gap last [])
def pool (es : List (Nat × CpInfo)) (last : Nat) : Array CpInfo := ⟨poolList es last⟩
def fileOf (pool : Array CpInfo) (this : Nat) (attrs : Array Attribute := #[]) (ms : Array MethodInfo := #[]) (fl : Nat := 33) (sup : Nat := 0) (ifs : Array Nat := #[]) (fds : Array FieldInfo := #[]) : ClassFile where
  minorVersion := 0
  majorVersion := 65
  constantPool := pool
  accessFlags := fl
  thisClass := this
  superClass := sup
  interfaces := ifs
  fields := fds
  methods := ms
  attributes := attrs
def plain (name : String) (sup : Option ClassId) : Class where
  name := name
  kind := .ordinary
  loader := none
  accessFlags := 33
  super := sup
  interfaces := #[]
  cf := none
  fields := #[]
  methods := #[]
  instanceTypes := #[]
  staticTypes := #[]
  resolved := #[]
  callSites := []
  init := .initialized
  statics := none
  mirror := none

def pool0 : Array CpInfo := pool [(5, u "<init>"), (0, u "()V"), (1, .class_ 10), (1, u "java/lang/Object")] 113

def k0c0 : Code := { maxStack := 0, maxLocals := 1, code := object_method_1_code, exceptionTable := #[], attributes := #[] }
def k0m0 : Method := { name := "<init>", desc := "()V", sig := { parameters := [], returnType := none }, accessFlags := 1, code := some k0c0 }
/-- java/lang/Object -/
def k0 : Class := { plain "java/lang/Object" none with
  accessFlags := 33
  interfaces := #[]
  cf := some (fileOf pool0 8 #[] #[{ accessFlags := 1, nameIndex := 5, descriptorIndex := 6, attributes := #[] }] 33 0 #[] #[])
  fields := #[]
  methods := #[k0m0]
  instanceTypes := #[]
  staticTypes := #[]
  resolved := Array.replicate 124 none
  statics := none }

def pool1 : Array CpInfo := pool [(2, .class_ 4), (1, u "java/lang/Object"), (0, u "<init>"), (0, u "()V"), (0, .class_ 8), (0, u "java/lang/String"), (0, .methodref 7 10), (0, .nameAndType 5 11), (0, u "([C)V"), (0, .integer 2147483647), (0, .integer 65536), (0, .class_ 15), (0, u "com/example/kikao/kikao/Domain"), (0, .methodref 14 17), (0, .nameAndType 5 18), (0, u "(Ljava/lang/String;I)V"), (0, .methodref 14 20), (0, .nameAndType 21 22), (0, u "toString"), (0, u "()Ljava/lang/String;"), (0, .methodref 7 24), (0, .nameAndType 25 26), (0, u "equals"), (0, u "(Ljava/lang/Object;)Z"), (0, .methodref 7 28), (0, .nameAndType 29 30), (0, u "length"), (0, u "()I"), (0, .methodref 7 32), (0, .nameAndType 33 34), (0, u "charAt"), (0, u "(I)C"), (0, .methodref 36 37), (0, .class_ 38), (0, .nameAndType 39 40), (0, u "com/example/kikao/kikao/DomainToStringPinLaw"), (0, u "digitOk"), (0, u "(Ljava/lang/String;III)Z"), (0, .methodref 36 42), (0, .nameAndType 43 44), (0, u "pow10"), (0, u "(I)I"), (2, u "law"), (0, u "(IIII)Z")] 3

def k1m0 : Method := { name := "<init>", desc := "()V", sig := { parameters := [], returnType := none }, accessFlags := 1, code := none }
def k1c1 : Code := { maxStack := 6, maxLocals := 10, code := code, exceptionTable := #[], attributes := #[] }
def k1m1 : Method := { name := "law", desc := "(IIII)Z", sig := { parameters := [.int, .int, .int, .int], returnType := some .boolean }, accessFlags := 9, code := some k1c1 }
def k1c2 : Code := { maxStack := 3, maxLocals := 5, code := method_3_code, exceptionTable := #[], attributes := #[] }
def k1m2 : Method := { name := "digitOk", desc := "(Ljava/lang/String;III)Z", sig := { parameters := [(.object "java/lang/String"), .int, .int, .int], returnType := some .boolean }, accessFlags := 10, code := some k1c2 }
def k1c3 : Code := { maxStack := 2, maxLocals := 1, code := method_4_code, exceptionTable := #[], attributes := #[] }
def k1m3 : Method := { name := "pow10", desc := "(I)I", sig := { parameters := [.int], returnType := some .int }, accessFlags := 10, code := some k1c3 }
/-- com/example/kikao/kikao/DomainToStringPinLaw -/
def k1 : Class := { plain "com/example/kikao/kikao/DomainToStringPinLaw" (some 0) with
  accessFlags := 49
  interfaces := #[]
  cf := some (fileOf pool1 36 #[] #[{ accessFlags := 1, nameIndex := 5, descriptorIndex := 6, attributes := #[] }, { accessFlags := 9, nameIndex := 47, descriptorIndex := 48, attributes := #[] }, { accessFlags := 10, nameIndex := 39, descriptorIndex := 40, attributes := #[] }, { accessFlags := 10, nameIndex := 43, descriptorIndex := 44, attributes := #[] }] 49 2 #[] #[])
  fields := #[]
  methods := #[k1m0, k1m1, k1m2, k1m3]
  instanceTypes := #[]
  staticTypes := #[]
  resolved := Array.replicate 52 none
  statics := none }

def pool2 : Array CpInfo := pool [(1, .class_ 2), (0, u "java/io/Serializable"), (0, .class_ 4), (0, u "java/lang/Object")] 2

/-- java/io/Serializable -/
def k2 : Class := { plain "java/io/Serializable" (some 0) with
  accessFlags := 1537
  interfaces := #[]
  cf := some (fileOf pool2 1 #[] #[] 1537 3 #[] #[])
  fields := #[]
  methods := #[]
  instanceTypes := #[]
  staticTypes := #[]
  resolved := Array.replicate 7 none
  statics := none }

def pool3 : Array CpInfo := pool [(1, .class_ 2), (0, u "java/lang/Comparable"), (0, .class_ 4), (0, u "java/lang/Object")] 7

/-- java/lang/Comparable -/
def k3 : Class := { plain "java/lang/Comparable" (some 0) with
  accessFlags := 1537
  interfaces := #[]
  cf := some (fileOf pool3 1 #[] #[] 1537 3 #[] #[])
  fields := #[]
  methods := #[]
  instanceTypes := #[]
  staticTypes := #[]
  resolved := Array.replicate 12 none
  statics := none }

def pool4 : Array CpInfo := pool [(2, .class_ 4), (1, u "java/lang/CharSequence"), (42, .class_ 48), (0, u "java/lang/CharSequence$1CodePointIterator"), (10, .class_ 60), (0, u "java/lang/CharSequence$1CharIterator"), (5, .class_ 67), (0, u "java/lang/Object")] 63

/-- java/lang/CharSequence -/
def k4 : Class := { plain "java/lang/CharSequence" (some 0) with
  accessFlags := 1537
  interfaces := #[]
  cf := some (fileOf pool4 2 #[.nestMembers #[47, 59]] #[] 1537 66 #[] #[])
  fields := #[]
  methods := #[]
  instanceTypes := #[]
  staticTypes := #[]
  resolved := Array.replicate 131 none
  statics := none }

def pool5 : Array CpInfo := pool [(1, .class_ 2), (0, u "java/lang/constant/Constable"), (0, .class_ 4), (0, u "java/lang/Object")] 6

/-- java/lang/constant/Constable -/
def k5 : Class := { plain "java/lang/constant/Constable" (some 0) with
  accessFlags := 1537
  interfaces := #[]
  cf := some (fileOf pool5 1 #[] #[] 1537 3 #[] #[])
  fields := #[]
  methods := #[]
  instanceTypes := #[]
  staticTypes := #[]
  resolved := Array.replicate 11 none
  statics := none }

def pool6 : Array CpInfo := pool [(1, .class_ 2), (0, u "java/lang/constant/ConstantDesc"), (0, .class_ 4), (0, u "java/lang/Object")] 32

/-- java/lang/constant/ConstantDesc -/
def k6 : Class := { plain "java/lang/constant/ConstantDesc" (some 0) with
  accessFlags := 1537
  interfaces := #[]
  cf := some (fileOf pool6 1 #[] #[] 1537 3 #[] #[])
  fields := #[]
  methods := #[]
  instanceTypes := #[]
  staticTypes := #[]
  resolved := Array.replicate 37 none
  statics := none }

def pool7 : Array CpInfo := pool [(1, .methodref 2 3), (0, .class_ 4), (0, .nameAndType 5 6), (0, u "java/lang/Object"), (0, u "<init>"), (0, u "()V"), (2, .fieldref 10 11), (0, .class_ 12), (0, .nameAndType 13 14), (0, u "java/lang/String"), (0, u "value"), (0, u "[B"), (0, .fieldref 10 16), (0, .nameAndType 17 18), (0, u "coder"), (0, u "B"), (2, u "hash"), (0, u "I"), (2, u "hashIsZero"), (0, u "Z"), (0, .methodref 10 28), (0, .nameAndType 5 29), (0, u "([CIILjava/lang/Void;)V"), (8, .fieldref 10 39), (0, .nameAndType 40 26), (0, u "COMPACT_STRINGS"), (1, .class_ 44), (1, u "java/lang/StringUTF16"), (0, u "compress"), (1, .methodref 42 48), (0, .nameAndType 49 50), (0, u "coderFromArrayLen"), (0, u "([BI)B"), (3, .methodref 55 56), (0, .class_ 57), (0, .nameAndType 58 59), (0, u "java/util/Arrays"), (0, u "copyOfRange"), (0, u "([BII)[B"), (47, .class_ 109), (1, u "java/lang/StringLatin1"), (32, u "()Z"), (34, .methodref 42 178), (0, .nameAndType 45 179), (0, u "([CII)[B"), (13, .class_ 195), (1, u "java/lang/System"), (16, .methodref 193 213), (0, .nameAndType 214 215), (0, u "arraycopy"), (0, u "(Ljava/lang/Object;ILjava/lang/Object;II)V"), (118, u "()I"), (0, .methodref 10 336), (0, .nameAndType 17 337), (0, u "()B"), (2, u "()[B"), (22, u "([BI)C"), (27, u "(II)V"), (35, u "(I)C"), (61, .methodref 10 490), (0, .nameAndType 5 491), (0, u "(Ljava/lang/AbstractStringBuilder;Ljava/lang/Void;)V"), (0, .methodref 10 493), (0, .nameAndType 494 142), (0, u "isLatin1"), (0, .methodref 107 496), (0, .nameAndType 497 363), (0, u "charAt"), (3, u "checkIndex"), (4, .nameAndType 507 334), (0, u "length"), (24, u "getBytes"), (10, u "equals"), (5, .methodref 550 506), (0, .class_ 551), (0, u "java/lang/AbstractStringBuilder"), (0, .methodref 550 553), (0, .nameAndType 554 340), (0, u "getValue"), (18, u "(Ljava/lang/Object;)Z"), (1, .class_ 576), (0, u "java/lang/CharSequence"), (22, u "CASE_INSENSITIVE_ORDER"), (0, u "Ljava/util/Comparator;"), (220, u "([BIB)V"), (188, u "([C)V"), (36, .methodref 550 493), (5, .fieldref 1054 1055), (0, .class_ 1056), (0, .nameAndType 1057 1058), (0, u "jdk/internal/util/Preconditions"), (0, u "SIOOBE_FORMATTER"), (0, u "Ljava/util/function/BiFunction;"), (0, .methodref 1054 1060), (0, .nameAndType 501 1061), (0, u "(IILjava/util/function/BiFunction;)I"), (39, u "serialPersistentFields"), (0, u "[Ljava/io/ObjectStreamField;"), (0, .class_ 1104), (0, u "java/lang/String$CaseInsensitiveComparator"), (1, .class_ 1107), (0, u "java/io/Serializable"), (0, .class_ 1109), (0, u "java/lang/Comparable"), (0, .class_ 1111), (0, u "java/lang/constant/Constable"), (0, .class_ 1113), (0, u "java/lang/constant/ConstantDesc"), (2, u "serialVersionUID"), (0, u "J"), (3, u "REPL"), (0, u "C"), (2, u "LATIN1"), (1, u "UTF16"), (105, u "(Ljava/lang/StringBuilder;)V")] 217

def k7m0 : Method := { name := "<init>", desc := "()V", sig := { parameters := [], returnType := none }, accessFlags := 1, code := none }
def k7c1 : Code := { maxStack := 5, maxLocals := 2, code := jdk_42_method_3_code, exceptionTable := #[], attributes := #[] }
def k7m1 : Method := { name := "<init>", desc := "([C)V", sig := { parameters := [(.array .char)], returnType := none }, accessFlags := 1, code := some k7c1 }
def k7c2 : Code := { maxStack := 3, maxLocals := 2, code := jdk_42_method_53_code, exceptionTable := #[], attributes := #[] }
def k7m2 : Method := { name := "<init>", desc := "(Ljava/lang/StringBuilder;)V", sig := { parameters := [(.object "java/lang/StringBuilder")], returnType := none }, accessFlags := 1, code := some k7c2 }
def k7c3 : Code := { maxStack := 2, maxLocals := 1, code := jdk_42_method_54_code, exceptionTable := #[], attributes := #[] }
def k7m3 : Method := { name := "length", desc := "()I", sig := { parameters := [], returnType := some .int }, accessFlags := 1, code := some k7c3 }
def k7c4 : Code := { maxStack := 2, maxLocals := 2, code := jdk_42_method_56_code, exceptionTable := #[], attributes := #[] }
def k7m4 : Method := { name := "charAt", desc := "(I)C", sig := { parameters := [.int], returnType := some .char }, accessFlags := 1, code := some k7c4 }
def k7c5 : Code := { maxStack := 2, maxLocals := 3, code := jdk_42_method_66_code, exceptionTable := #[], attributes := #[] }
def k7m5 : Method := { name := "equals", desc := "(Ljava/lang/Object;)Z", sig := { parameters := [(.object "java/lang/Object")], returnType := some .boolean }, accessFlags := 1, code := some k7c5 }
def k7c6 : Code := { maxStack := 5, maxLocals := 4, code := jdk_42_method_147_code, exceptionTable := #[], attributes := #[] }
def k7m6 : Method := { name := "getBytes", desc := "([BIB)V", sig := { parameters := [(.array .byte), .int, .byte], returnType := none }, accessFlags := 0, code := some k7c6 }
def k7c7 : Code := { maxStack := 4, maxLocals := 6, code := jdk_42_method_149_code, exceptionTable := #[], attributes := #[] }
def k7m7 : Method := { name := "<init>", desc := "([CIILjava/lang/Void;)V", sig := { parameters := [(.array .char), .int, .int, (.object "java/lang/Void")], returnType := none }, accessFlags := 2, code := some k7c7 }
def k7c8 : Code := { maxStack := 5, maxLocals := 5, code := jdk_42_method_150_code, exceptionTable := #[], attributes := #[] }
def k7m8 : Method := { name := "<init>", desc := "(Ljava/lang/AbstractStringBuilder;Ljava/lang/Void;)V", sig := { parameters := [(.object "java/lang/AbstractStringBuilder"), (.object "java/lang/Void")], returnType := none }, accessFlags := 0, code := some k7c8 }
def k7c9 : Code := { maxStack := 1, maxLocals := 1, code := jdk_42_method_152_code, exceptionTable := #[], attributes := #[] }
def k7m9 : Method := { name := "coder", desc := "()B", sig := { parameters := [], returnType := some .byte }, accessFlags := 0, code := some k7c9 }
def k7c10 : Code := { maxStack := 1, maxLocals := 1, code := jdk_42_method_154_code, exceptionTable := #[], attributes := #[] }
def k7m10 : Method := { name := "isLatin1", desc := "()Z", sig := { parameters := [], returnType := some .boolean }, accessFlags := 0, code := some k7c10 }
def k7c11 : Code := { maxStack := 3, maxLocals := 2, code := jdk_42_method_155_code, exceptionTable := #[], attributes := #[] }
def k7m11 : Method := { name := "checkIndex", desc := "(II)V", sig := { parameters := [.int, .int], returnType := none }, accessFlags := 8, code := some k7c11 }
/-- java/lang/String -/
def k7 : Class := { plain "java/lang/String" (some 0) with
  accessFlags := 49
  interfaces := #[2, 3, 4, 5, 6]
  cf := some (fileOf pool7 10 #[.nestMembers #[1103]] #[{ accessFlags := 1, nameIndex := 5, descriptorIndex := 6, attributes := #[] }, { accessFlags := 1, nameIndex := 5, descriptorIndex := 1010, attributes := #[] }, { accessFlags := 1, nameIndex := 5, descriptorIndex := 1233, attributes := #[] }, { accessFlags := 1, nameIndex := 507, descriptorIndex := 334, attributes := #[] }, { accessFlags := 1, nameIndex := 497, descriptorIndex := 427, attributes := #[] }, { accessFlags := 1, nameIndex := 543, descriptorIndex := 573, attributes := #[] }, { accessFlags := 0, nameIndex := 532, descriptorIndex := 821, attributes := #[] }, { accessFlags := 2, nameIndex := 5, descriptorIndex := 29, attributes := #[] }, { accessFlags := 0, nameIndex := 5, descriptorIndex := 491, attributes := #[] }, { accessFlags := 0, nameIndex := 17, descriptorIndex := 337, attributes := #[] }, { accessFlags := 0, nameIndex := 494, descriptorIndex := 142, attributes := #[] }, { accessFlags := 8, nameIndex := 501, descriptorIndex := 391, attributes := #[] }] 49 2 #[1106, 1108, 575, 1110, 1112] #[{ accessFlags := 18, nameIndex := 13, descriptorIndex := 14, attributes := #[] }, { accessFlags := 18, nameIndex := 17, descriptorIndex := 18, attributes := #[] }, { accessFlags := 2, nameIndex := 21, descriptorIndex := 22, attributes := #[] }, { accessFlags := 2, nameIndex := 25, descriptorIndex := 26, attributes := #[] }, { accessFlags := 26, nameIndex := 1116, descriptorIndex := 1117, attributes := #[] }, { accessFlags := 24, nameIndex := 40, descriptorIndex := 26, attributes := #[] }, { accessFlags := 26, nameIndex := 1101, descriptorIndex := 1102, attributes := #[] }, { accessFlags := 26, nameIndex := 1121, descriptorIndex := 1122, attributes := #[] }, { accessFlags := 25, nameIndex := 599, descriptorIndex := 600, attributes := #[] }, { accessFlags := 24, nameIndex := 1125, descriptorIndex := 18, attributes := #[] }, { accessFlags := 24, nameIndex := 1127, descriptorIndex := 18, attributes := #[] }])
  fields := #[{ name := "value", type := (.array .byte), accessFlags := 18, slot := 0, constantValue := 0 }, { name := "coder", type := .byte, accessFlags := 18, slot := 1, constantValue := 0 }, { name := "hash", type := .int, accessFlags := 2, slot := 2, constantValue := 0 }, { name := "hashIsZero", type := .boolean, accessFlags := 2, slot := 3, constantValue := 0 }, { name := "serialVersionUID", type := .long, accessFlags := 26, slot := 0, constantValue := 0 }, { name := "COMPACT_STRINGS", type := .boolean, accessFlags := 24, slot := 1, constantValue := 0 }, { name := "serialPersistentFields", type := (.array (.object "java/io/ObjectStreamField")), accessFlags := 26, slot := 2, constantValue := 0 }, { name := "REPL", type := .char, accessFlags := 26, slot := 3, constantValue := 0 }, { name := "CASE_INSENSITIVE_ORDER", type := (.object "java/util/Comparator"), accessFlags := 25, slot := 4, constantValue := 0 }, { name := "LATIN1", type := .byte, accessFlags := 24, slot := 5, constantValue := 0 }, { name := "UTF16", type := .byte, accessFlags := 24, slot := 6, constantValue := 0 }]
  methods := #[k7m0, k7m1, k7m2, k7m3, k7m4, k7m5, k7m6, k7m7, k7m8, k7m9, k7m10, k7m11]
  instanceTypes := #[(.array .byte), .byte, .int, .boolean]
  staticTypes := #[.long, .boolean, (.array (.object "java/io/ObjectStreamField")), .char, (.object "java/util/Comparator"), .byte, .byte]
  resolved := Array.replicate 1451 none
  statics := some 0 }

def pool8 : Array CpInfo := pool [(6, .class_ 8), (1, u "java/lang/Object"), (0, u "<init>"), (0, u "()V"), (1, .class_ 14), (1, u "java/lang/StringUTF16"), (31, u "$assertionsDisabled"), (0, u "Z"), (13, u "HI_BYTE_SHIFT"), (0, u "I"), (2, u "LO_BYTE_SHIFT"), (49, .methodref 12 116), (0, .nameAndType 117 118), (0, u "compress"), (0, u "([CI[BII)I"), (3, u "([CII)[B"), (138, u "coderFromArrayLen"), (0, u "([BI)B"), (106, .class_ 371), (1, u "java/lang/StringUTF16$LinesSpliterator"), (58, u "MAX_LENGTH"), (196, .class_ 628), (0, u "java/lang/StringUTF16$CodePointsSpliterator"), (0, .class_ 630), (0, u "java/lang/StringUTF16$CharsSpliterator")] 4

def k8m0 : Method := { name := "<init>", desc := "()V", sig := { parameters := [], returnType := none }, accessFlags := 0, code := none }
def k8c1 : Code := { maxStack := 2, maxLocals := 2, code := jdk_52_method_15_code, exceptionTable := #[], attributes := #[] }
def k8m1 : Method := { name := "coderFromArrayLen", desc := "([BI)B", sig := { parameters := [(.array .byte), .int], returnType := some .byte }, accessFlags := 8, code := some k8c1 }
def k8c2 : Code := { maxStack := 5, maxLocals := 6, code := jdk_52_method_16_code, exceptionTable := #[], attributes := #[] }
def k8m2 : Method := { name := "compress", desc := "([CII)[B", sig := { parameters := [(.array .char), .int, .int], returnType := some (.array .byte) }, accessFlags := 9, code := some k8c2 }
def k8c3 : Code := { maxStack := 3, maxLocals := 7, code := jdk_52_method_21_code, exceptionTable := #[], attributes := #[] }
def k8m3 : Method := { name := "compress", desc := "([CI[BII)I", sig := { parameters := [(.array .char), .int, (.array .byte), .int, .int], returnType := some .int }, accessFlags := 9, code := some k8c3 }
/-- java/lang/StringUTF16 -/
def k8 : Class := { plain "java/lang/StringUTF16" (some 0) with
  accessFlags := 48
  interfaces := #[]
  cf := some (fileOf pool8 12 #[.nestMembers #[627, 629, 369]] #[{ accessFlags := 0, nameIndex := 9, descriptorIndex := 10, attributes := #[] }, { accessFlags := 8, nameIndex := 261, descriptorIndex := 262, attributes := #[] }, { accessFlags := 9, nameIndex := 117, descriptorIndex := 122, attributes := #[] }, { accessFlags := 9, nameIndex := 117, descriptorIndex := 118, attributes := #[] }] 48 6 #[] #[{ accessFlags := 26, nameIndex := 61, descriptorIndex := 62, attributes := #[] }, { accessFlags := 26, nameIndex := 65, descriptorIndex := 62, attributes := #[] }, { accessFlags := 24, nameIndex := 430, descriptorIndex := 62, attributes := #[] }, { accessFlags := 4120, nameIndex := 46, descriptorIndex := 47, attributes := #[] }])
  fields := #[{ name := "HI_BYTE_SHIFT", type := .int, accessFlags := 26, slot := 0, constantValue := 0 }, { name := "LO_BYTE_SHIFT", type := .int, accessFlags := 26, slot := 1, constantValue := 0 }, { name := "MAX_LENGTH", type := .int, accessFlags := 24, slot := 2, constantValue := 0 }, { name := "$assertionsDisabled", type := .boolean, accessFlags := 4120, slot := 3, constantValue := 0 }]
  methods := #[k8m0, k8m1, k8m2, k8m3]
  instanceTypes := #[]
  staticTypes := #[.int, .int, .int, .boolean]
  resolved := Array.replicate 635 none
  statics := none }

def pool9 : Array CpInfo := pool [(1, .methodref 2 3), (0, .class_ 4), (0, .nameAndType 5 6), (0, u "java/lang/Object"), (0, u "<init>"), (0, u "()V"), (0, .class_ 8), (0, u "java/lang/Record")] 13

def k9c0 : Code := { maxStack := 1, maxLocals := 1, code := jdk_30_method_1_code, exceptionTable := #[], attributes := #[] }
def k9m0 : Method := { name := "<init>", desc := "()V", sig := { parameters := [], returnType := none }, accessFlags := 4, code := some k9c0 }
/-- java/lang/Record -/
def k9 : Class := { plain "java/lang/Record" (some 0) with
  accessFlags := 1057
  interfaces := #[]
  cf := some (fileOf pool9 7 #[] #[{ accessFlags := 4, nameIndex := 5, descriptorIndex := 6, attributes := #[] }] 1057 2 #[] #[])
  fields := #[]
  methods := #[k9m0]
  instanceTypes := #[]
  staticTypes := #[]
  resolved := Array.replicate 22 none
  statics := none }

def pool10 : Array CpInfo := pool [(1, .methodref 2 3), (0, .class_ 4), (0, .nameAndType 5 6), (0, u "java/lang/Record"), (0, u "<init>"), (0, u "()V"), (0, .fieldref 8 9), (0, .class_ 10), (0, .nameAndType 11 12), (0, u "com/example/kikao/kikao/Domain"), (0, u "host"), (0, u "Ljava/lang/String;"), (0, .fieldref 8 14), (0, .nameAndType 15 16), (0, u "port"), (0, u "I"), (10, u "()Ljava/lang/String;"), (31, u "(Ljava/lang/String;I)V"), (11, u "SYNTAX"), (0, u "Ljava/util/regex/Pattern;"), (16, .class_ 90), (0, u "java/lang/StringBuilder"), (0, .methodref 89 3), (2, .methodref 89 95), (0, .nameAndType 96 97), (0, u "append"), (0, u "(Ljava/lang/String;)Ljava/lang/StringBuilder;"), (2, .methodref 89 101), (0, .nameAndType 102 27), (0, u "toString"), (27, u "IPV4"), (9, .string 141), (0, u ":"), (0, .methodref 89 143), (0, .nameAndType 96 144), (0, u "(I)Ljava/lang/StringBuilder;"), (16, u "RULE"), (1, u "MAX_PORT")] 32

def k10c0 : Code := { maxStack := 2, maxLocals := 3, code := prog_6_method_1_code, exceptionTable := #[], attributes := #[] }
def k10m0 : Method := { name := "<init>", desc := "(Ljava/lang/String;I)V", sig := { parameters := [(.object "java/lang/String"), .int], returnType := none }, accessFlags := 0, code := some k10c0 }
def k10c1 : Code := { maxStack := 2, maxLocals := 1, code := prog_6_method_6_code, exceptionTable := #[], attributes := #[] }
def k10m1 : Method := { name := "toString", desc := "()Ljava/lang/String;", sig := { parameters := [], returnType := some (.object "java/lang/String") }, accessFlags := 1, code := some k10c1 }
/-- com/example/kikao/kikao/Domain -/
def k10 : Class := { plain "com/example/kikao/kikao/Domain" (some 9) with
  accessFlags := 48
  interfaces := #[]
  cf := some (fileOf pool10 8 #[] #[{ accessFlags := 0, nameIndex := 5, descriptorIndex := 59, attributes := #[] }, { accessFlags := 1, nameIndex := 102, descriptorIndex := 27, attributes := #[] }] 48 2 #[] #[{ accessFlags := 18, nameIndex := 11, descriptorIndex := 12, attributes := #[] }, { accessFlags := 18, nameIndex := 15, descriptorIndex := 16, attributes := #[] }, { accessFlags := 24, nameIndex := 161, descriptorIndex := 12, attributes := #[] }, { accessFlags := 26, nameIndex := 71, descriptorIndex := 72, attributes := #[] }, { accessFlags := 26, nameIndex := 163, descriptorIndex := 16, attributes := #[] }, { accessFlags := 26, nameIndex := 130, descriptorIndex := 72, attributes := #[] }])
  fields := #[{ name := "host", type := (.object "java/lang/String"), accessFlags := 18, slot := 0, constantValue := 0 }, { name := "port", type := .int, accessFlags := 18, slot := 1, constantValue := 0 }, { name := "RULE", type := (.object "java/lang/String"), accessFlags := 24, slot := 0, constantValue := 0 }, { name := "SYNTAX", type := (.object "java/util/regex/Pattern"), accessFlags := 26, slot := 1, constantValue := 0 }, { name := "MAX_PORT", type := .int, accessFlags := 26, slot := 2, constantValue := 0 }, { name := "IPV4", type := (.object "java/util/regex/Pattern"), accessFlags := 26, slot := 3, constantValue := 0 }]
  methods := #[k10m0, k10m1]
  instanceTypes := #[(.object "java/lang/String"), .int]
  staticTypes := #[(.object "java/lang/String"), (.object "java/util/regex/Pattern"), .int, (.object "java/util/regex/Pattern")]
  resolved := Array.replicate 196 none
  statics := none }

def pool11 : Array CpInfo := pool [(1, .class_ 2), (0, u "java/lang/Appendable"), (0, .class_ 4), (0, u "java/lang/Object")] 9

/-- java/lang/Appendable -/
def k11 : Class := { plain "java/lang/Appendable" (some 0) with
  accessFlags := 1537
  interfaces := #[]
  cf := some (fileOf pool11 1 #[] #[] 1537 3 #[] #[])
  fields := #[]
  methods := #[]
  instanceTypes := #[]
  staticTypes := #[]
  resolved := Array.replicate 14 none
  statics := none }

def pool12 : Array CpInfo := pool [(1, .class_ 2), (0, u "java/lang/String"), (0, .methodref 4 5), (0, .class_ 6), (0, .nameAndType 7 8), (0, u "java/lang/Object"), (0, u "<init>"), (0, u "()V"), (1, .class_ 12), (1, u "java/lang/AbstractStringBuilder"), (0, u "EMPTYVALUE"), (0, u "[B"), (0, .fieldref 10 16), (0, .nameAndType 17 14), (0, u "value"), (0, .fieldref 1 19), (0, .nameAndType 20 21), (0, u "COMPACT_STRINGS"), (0, u "Z"), (0, .fieldref 10 23), (0, .nameAndType 24 25), (0, u "coder"), (0, u "B"), (6, .methodref 1 33), (0, .nameAndType 34 35), (0, u "length"), (0, u "()I"), (0, .class_ 37), (0, u "java/lang/Integer"), (2, .methodref 1 41), (0, .nameAndType 24 42), (0, u "()B"), (2, u "append"), (0, u "(Ljava/lang/String;)Ljava/lang/AbstractStringBuilder;"), (1, .class_ 49), (0, u "java/lang/CharSequence"), (19, u "(Ljava/lang/String;)V"), (5, u "maybeLatin1"), (3, .fieldref 10 80), (0, .nameAndType 81 82), (0, u "count"), (0, u "I"), (0, .methodref 10 84), (0, .nameAndType 85 86), (0, u "isLatin1"), (0, u "()Z"), (13, .methodref 10 101), (0, .nameAndType 102 103), (0, u "ensureCapacityInternal"), (0, u "(I)V"), (3, u "(I)I"), (80, u "getChars"), (19, .methodref 10 209), (0, .nameAndType 210 211), (0, u "putStringAt"), (0, u "(ILjava/lang/String;)V"), (5, u "inflateIfNeededFor"), (2, .nameAndType 221 222), (0, u "getBytes"), (0, u "([BIB)V"), (22, .methodref 36 246), (0, .nameAndType 247 107), (0, u "stringSize"), (0, .methodref 36 249), (0, .nameAndType 188 250), (0, u "(II[B)I"), (146, .methodref 10 398), (0, .nameAndType 217 69), (0, .methodref 1 220), (3, u "()[B"), (40, .class_ 445), (0, u "java/lang/Appendable"), (65, u "(I)Ljava/lang/AbstractStringBuilder;"), (40, u "getValue")] 56

def k12m0 : Method := { name := "<init>", desc := "()V", sig := { parameters := [], returnType := none }, accessFlags := 0, code := none }
def k12c1 : Code := { maxStack := 2, maxLocals := 2, code := jdk_68_method_2_code, exceptionTable := #[], attributes := #[] }
def k12m1 : Method := { name := "<init>", desc := "(I)V", sig := { parameters := [.int], returnType := none }, accessFlags := 0, code := some k12c1 }
def k12c2 : Code := { maxStack := 1, maxLocals := 1, code := jdk_68_method_6_code, exceptionTable := #[], attributes := #[] }
def k12m2 : Method := { name := "length", desc := "()I", sig := { parameters := [], returnType := some .int }, accessFlags := 1, code := some k12c2 }
def k12c3 : Code := { maxStack := 4, maxLocals := 3, code := jdk_68_method_9_code, exceptionTable := #[], attributes := #[] }
def k12m3 : Method := { name := "ensureCapacityInternal", desc := "(I)V", sig := { parameters := [.int], returnType := none }, accessFlags := 2, code := some k12c3 }
def k12c4 : Code := { maxStack := 3, maxLocals := 3, code := jdk_68_method_22_code, exceptionTable := #[], attributes := #[] }
def k12m4 : Method := { name := "append", desc := "(Ljava/lang/String;)Ljava/lang/AbstractStringBuilder;", sig := { parameters := [(.object "java/lang/String")], returnType := some (.object "java/lang/AbstractStringBuilder") }, accessFlags := 1, code := some k12c4 }
def k12c5 : Code := { maxStack := 4, maxLocals := 4, code := jdk_68_method_32_code, exceptionTable := #[], attributes := #[] }
def k12m5 : Method := { name := "append", desc := "(I)Ljava/lang/AbstractStringBuilder;", sig := { parameters := [.int], returnType := some (.object "java/lang/AbstractStringBuilder") }, accessFlags := 1, code := some k12c5 }
def k12c6 : Code := { maxStack := 1, maxLocals := 1, code := jdk_68_method_64_code, exceptionTable := #[], attributes := #[] }
def k12m6 : Method := { name := "getValue", desc := "()[B", sig := { parameters := [], returnType := some (.array .byte) }, accessFlags := 16, code := some k12c6 }
def k12c7 : Code := { maxStack := 1, maxLocals := 1, code := jdk_68_method_68_code, exceptionTable := #[], attributes := #[] }
def k12m7 : Method := { name := "isLatin1", desc := "()Z", sig := { parameters := [], returnType := some .boolean }, accessFlags := 16, code := some k12c7 }
def k12c8 : Code := { maxStack := 2, maxLocals := 2, code := jdk_68_method_71_code, exceptionTable := #[], attributes := #[] }
def k12m8 : Method := { name := "inflateIfNeededFor", desc := "(Ljava/lang/String;)V", sig := { parameters := [(.object "java/lang/String")], returnType := none }, accessFlags := 2, code := some k12c8 }
def k12c9 : Code := { maxStack := 4, maxLocals := 3, code := jdk_68_method_73_code, exceptionTable := #[], attributes := #[] }
def k12m9 : Method := { name := "putStringAt", desc := "(ILjava/lang/String;)V", sig := { parameters := [.int, (.object "java/lang/String")], returnType := none }, accessFlags := 2, code := some k12c9 }
/-- java/lang/AbstractStringBuilder -/
def k12 : Class := { plain "java/lang/AbstractStringBuilder" (some 0) with
  accessFlags := 1056
  interfaces := #[11, 4]
  cf := some (fileOf pool12 10 #[] #[{ accessFlags := 0, nameIndex := 7, descriptorIndex := 8, attributes := #[] }, { accessFlags := 0, nameIndex := 7, descriptorIndex := 103, attributes := #[] }, { accessFlags := 1, nameIndex := 34, descriptorIndex := 35, attributes := #[] }, { accessFlags := 2, nameIndex := 102, descriptorIndex := 103, attributes := #[] }, { accessFlags := 1, nameIndex := 45, descriptorIndex := 46, attributes := #[] }, { accessFlags := 1, nameIndex := 45, descriptorIndex := 511, attributes := #[] }, { accessFlags := 16, nameIndex := 552, descriptorIndex := 403, attributes := #[] }, { accessFlags := 16, nameIndex := 85, descriptorIndex := 86, attributes := #[] }, { accessFlags := 2, nameIndex := 217, descriptorIndex := 69, attributes := #[] }, { accessFlags := 2, nameIndex := 210, descriptorIndex := 211, attributes := #[] }] 1056 4 #[444, 48] #[{ accessFlags := 0, nameIndex := 17, descriptorIndex := 14, attributes := #[] }, { accessFlags := 0, nameIndex := 24, descriptorIndex := 25, attributes := #[] }, { accessFlags := 0, nameIndex := 75, descriptorIndex := 21, attributes := #[] }, { accessFlags := 0, nameIndex := 81, descriptorIndex := 82, attributes := #[] }, { accessFlags := 26, nameIndex := 13, descriptorIndex := 14, attributes := #[] }])
  fields := #[{ name := "value", type := (.array .byte), accessFlags := 0, slot := 0, constantValue := 0 }, { name := "coder", type := .byte, accessFlags := 0, slot := 1, constantValue := 0 }, { name := "maybeLatin1", type := .boolean, accessFlags := 0, slot := 2, constantValue := 0 }, { name := "count", type := .int, accessFlags := 0, slot := 3, constantValue := 0 }, { name := "EMPTYVALUE", type := (.array .byte), accessFlags := 26, slot := 0, constantValue := 0 }]
  methods := #[k12m0, k12m1, k12m2, k12m3, k12m4, k12m5, k12m6, k12m7, k12m8, k12m9]
  instanceTypes := #[(.array .byte), .byte, .boolean, .int]
  staticTypes := #[(.array .byte)]
  resolved := Array.replicate 609 none
  statics := none }

def pool13 : Array CpInfo := pool [(1, .methodref 2 3), (0, .class_ 4), (0, .nameAndType 5 6), (0, u "java/lang/AbstractStringBuilder"), (0, u "<init>"), (0, u "(I)V"), (11, .class_ 20), (1, u "java/lang/String"), (3, .class_ 26), (1, u "java/lang/StringBuilder"), (0, u "append"), (0, u "(Ljava/lang/String;)Ljava/lang/StringBuilder;"), (0, .methodref 2 30), (0, .nameAndType 27 31), (0, u "(Ljava/lang/String;)Ljava/lang/AbstractStringBuilder;"), (21, .methodref 2 54), (0, .nameAndType 27 55), (0, u "(I)Ljava/lang/AbstractStringBuilder;"), (81, .methodref 18 138), (0, .nameAndType 5 139), (0, u "(Ljava/lang/StringBuilder;)V"), (5, u "()V"), (10, u "()I"), (111, u "(I)Ljava/lang/StringBuilder;"), (74, .methodref 2 344), (0, .nameAndType 345 156), (0, u "length"), (3, .class_ 350), (0, u "java/lang/Appendable"), (0, .class_ 352), (0, u "java/io/Serializable"), (0, .class_ 354), (0, u "java/lang/Comparable"), (0, .class_ 356), (0, u "java/lang/CharSequence"), (0, u "serialVersionUID"), (0, u "J"), (40, u "toString"), (0, u "()Ljava/lang/String;")] 21

def k13c0 : Code := { maxStack := 2, maxLocals := 1, code := jdk_67_method_1_code, exceptionTable := #[], attributes := #[] }
def k13m0 : Method := { name := "<init>", desc := "()V", sig := { parameters := [], returnType := none }, accessFlags := 1, code := some k13c0 }
def k13c1 : Code := { maxStack := 2, maxLocals := 2, code := jdk_67_method_7_code, exceptionTable := #[], attributes := #[] }
def k13m1 : Method := { name := "append", desc := "(Ljava/lang/String;)Ljava/lang/StringBuilder;", sig := { parameters := [(.object "java/lang/String")], returnType := some (.object "java/lang/StringBuilder") }, accessFlags := 1, code := some k13c1 }
def k13c2 : Code := { maxStack := 2, maxLocals := 2, code := jdk_67_method_15_code, exceptionTable := #[], attributes := #[] }
def k13m2 : Method := { name := "append", desc := "(I)Ljava/lang/StringBuilder;", sig := { parameters := [.int], returnType := some (.object "java/lang/StringBuilder") }, accessFlags := 1, code := some k13c2 }
def k13c3 : Code := { maxStack := 3, maxLocals := 1, code := jdk_67_method_42_code, exceptionTable := #[], attributes := #[] }
def k13m3 : Method := { name := "toString", desc := "()Ljava/lang/String;", sig := { parameters := [], returnType := some (.object "java/lang/String") }, accessFlags := 1, code := some k13c3 }
def k13c4 : Code := { maxStack := 1, maxLocals := 1, code := jdk_67_method_93_code, exceptionTable := #[], attributes := #[] }
def k13m4 : Method := { name := "length", desc := "()I", sig := { parameters := [], returnType := some .int }, accessFlags := 4161, code := some k13c4 }
/-- java/lang/StringBuilder -/
def k13 : Class := { plain "java/lang/StringBuilder" (some 12) with
  accessFlags := 49
  interfaces := #[11, 2, 3, 4]
  cf := some (fileOf pool13 24 #[] #[{ accessFlags := 1, nameIndex := 5, descriptorIndex := 145, attributes := #[] }, { accessFlags := 1, nameIndex := 27, descriptorIndex := 28, attributes := #[] }, { accessFlags := 1, nameIndex := 27, descriptorIndex := 268, attributes := #[] }, { accessFlags := 1, nameIndex := 399, descriptorIndex := 400, attributes := #[] }, { accessFlags := 4161, nameIndex := 345, descriptorIndex := 156, attributes := #[] }] 49 2 #[349, 351, 353, 355] #[{ accessFlags := 24, nameIndex := 357, descriptorIndex := 358, attributes := #[] }])
  fields := #[{ name := "serialVersionUID", type := .long, accessFlags := 24, slot := 0, constantValue := 0 }]
  methods := #[k13m0, k13m1, k13m2, k13m3, k13m4]
  instanceTypes := #[(.array .byte), .byte, .boolean, .int]
  staticTypes := #[.long]
  resolved := Array.replicate 422 none
  statics := none }

def pool14 : Array CpInfo := pool [(2, .class_ 4), (1, u "java/lang/Object"), (0, u "<init>"), (0, u "()V"), (1, .class_ 10), (1, u "java/lang/System"), (0, u "allowSecurityManager"), (0, u "I"), (16, u "cons"), (0, u "Ljava/io/Console;"), (77, .class_ 110), (1, u "java/lang/System$CallersHolder"), (43, u "initialErrStream"), (0, u "Ljava/io/PrintStream;"), (19, u "security"), (0, u "Ljava/lang/SecurityManager;"), (31, .class_ 209), (0, u "java/lang/System$1"), (7, u "props"), (0, u "Ljava/util/Properties;"), (2, u "lineSeparator"), (0, u "Ljava/lang/String;"), (96, .class_ 321), (1, u "java/lang/System$LoggerFinder"), (5, .class_ 328), (0, u "java/lang/System$Logger"), (67, u "err"), (2, u "out"), (91, u "notSupportedJnuEncoding"), (15, u "in"), (17, u "initialIn"), (0, u "Ljava/io/InputStream;"), (35, u "bootLayer"), (0, u "Ljava/lang/ModuleLayer;"), (99, .class_ 664), (0, u "java/lang/System$2"), (9, u "NEVER"), (2, u "MAYBE"), (49, u "arraycopy"), (0, u "(Ljava/lang/Object;ILjava/lang/Object;II)V"), (72, .class_ 802), (0, u "java/lang/System$Logger$Level")] 31

def k14m0 : Method := { name := "<init>", desc := "()V", sig := { parameters := [], returnType := none }, accessFlags := 2, code := none }
def k14m1 : Method := { name := "arraycopy", desc := "(Ljava/lang/Object;ILjava/lang/Object;II)V", sig := { parameters := [(.object "java/lang/Object"), .int, (.object "java/lang/Object"), .int, .int], returnType := none }, accessFlags := 265, code := none }
/-- java/lang/System -/
def k14 : Class := { plain "java/lang/System" (some 0) with
  accessFlags := 49
  interfaces := #[]
  cf := some (fileOf pool14 8 #[.nestMembers #[319, 327, 801, 108, 663, 208]] #[{ accessFlags := 2, nameIndex := 5, descriptorIndex := 6, attributes := #[] }, { accessFlags := 265, nameIndex := 727, descriptorIndex := 728, attributes := #[] }] 49 2 #[] #[{ accessFlags := 25, nameIndex := 507, descriptorIndex := 526, attributes := #[] }, { accessFlags := 25, nameIndex := 399, descriptorIndex := 155, attributes := #[] }, { accessFlags := 25, nameIndex := 396, descriptorIndex := 155, attributes := #[] }, { accessFlags := 10, nameIndex := 525, descriptorIndex := 526, attributes := #[] }, { accessFlags := 26, nameIndex := 674, descriptorIndex := 12, attributes := #[] }, { accessFlags := 26, nameIndex := 677, descriptorIndex := 12, attributes := #[] }, { accessFlags := 10, nameIndex := 11, descriptorIndex := 12, attributes := #[] }, { accessFlags := 74, nameIndex := 175, descriptorIndex := 176, attributes := #[] }, { accessFlags := 10, nameIndex := 491, descriptorIndex := 222, attributes := #[] }, { accessFlags := 74, nameIndex := 29, descriptorIndex := 30, attributes := #[] }, { accessFlags := 74, nameIndex := 154, descriptorIndex := 155, attributes := #[] }, { accessFlags := 10, nameIndex := 217, descriptorIndex := 218, attributes := #[] }, { accessFlags := 10, nameIndex := 221, descriptorIndex := 222, attributes := #[] }, { accessFlags := 8, nameIndex := 562, descriptorIndex := 563, attributes := #[] }])
  fields := #[{ name := "in", type := (.object "java/io/InputStream"), accessFlags := 25, slot := 0, constantValue := 0 }, { name := "out", type := (.object "java/io/PrintStream"), accessFlags := 25, slot := 1, constantValue := 0 }, { name := "err", type := (.object "java/io/PrintStream"), accessFlags := 25, slot := 2, constantValue := 0 }, { name := "initialIn", type := (.object "java/io/InputStream"), accessFlags := 10, slot := 3, constantValue := 0 }, { name := "NEVER", type := .int, accessFlags := 26, slot := 4, constantValue := 0 }, { name := "MAYBE", type := .int, accessFlags := 26, slot := 5, constantValue := 0 }, { name := "allowSecurityManager", type := .int, accessFlags := 10, slot := 6, constantValue := 0 }, { name := "security", type := (.object "java/lang/SecurityManager"), accessFlags := 74, slot := 7, constantValue := 0 }, { name := "notSupportedJnuEncoding", type := (.object "java/lang/String"), accessFlags := 10, slot := 8, constantValue := 0 }, { name := "cons", type := (.object "java/io/Console"), accessFlags := 74, slot := 9, constantValue := 0 }, { name := "initialErrStream", type := (.object "java/io/PrintStream"), accessFlags := 74, slot := 10, constantValue := 0 }, { name := "props", type := (.object "java/util/Properties"), accessFlags := 10, slot := 11, constantValue := 0 }, { name := "lineSeparator", type := (.object "java/lang/String"), accessFlags := 10, slot := 12, constantValue := 0 }, { name := "bootLayer", type := (.object "java/lang/ModuleLayer"), accessFlags := 8, slot := 13, constantValue := 0 }]
  methods := #[k14m0, k14m1]
  instanceTypes := #[]
  staticTypes := #[(.object "java/io/InputStream"), (.object "java/io/PrintStream"), (.object "java/io/PrintStream"), (.object "java/io/InputStream"), .int, .int, .int, (.object "java/lang/SecurityManager"), (.object "java/lang/String"), (.object "java/io/Console"), (.object "java/io/PrintStream"), (.object "java/util/Properties"), (.object "java/lang/String"), (.object "java/lang/ModuleLayer")]
  resolved := Array.replicate 834 none
  statics := none }

def pool15 : Array CpInfo := pool [(2, .class_ 4), (1, u "java/lang/Object"), (0, u "<init>"), (0, u "()V"), (1, .class_ 10), (1, u "java/lang/Number"), (2, .class_ 14), (0, u "java/io/Serializable"), (0, u "serialVersionUID"), (0, u "J")] 20

def k15m0 : Method := { name := "<init>", desc := "()V", sig := { parameters := [], returnType := none }, accessFlags := 1, code := none }
/-- java/lang/Number -/
def k15 : Class := { plain "java/lang/Number" (some 0) with
  accessFlags := 1057
  interfaces := #[2]
  cf := some (fileOf pool15 8 #[] #[{ accessFlags := 1, nameIndex := 5, descriptorIndex := 6, attributes := #[] }] 1057 2 #[13] #[{ accessFlags := 26, nameIndex := 15, descriptorIndex := 16, attributes := #[] }])
  fields := #[{ name := "serialVersionUID", type := .long, accessFlags := 26, slot := 0, constantValue := 0 }]
  methods := #[k15m0]
  instanceTypes := #[]
  staticTypes := #[.long]
  resolved := Array.replicate 37 none
  statics := none }

def pool16 : Array CpInfo := pool [(1, .class_ 2), (0, u "java/lang/Integer"), (16, u "digits"), (0, u "[C"), (33, u "(I)I"), (19, u "stringSize"), (2, u "getChars"), (0, u "(II[B)I"), (4, .fieldref 1 84), (0, .nameAndType 85 86), (0, u "DigitOnes"), (0, u "[B"), (0, .fieldref 1 88), (0, .nameAndType 89 86), (0, u "DigitTens"), (99, .class_ 190), (0, u "java/lang/Integer$IntegerCache"), (3, u "I"), (8, .class_ 204), (0, u "java/lang/Number"), (2, u "value"), (94, u "TYPE"), (0, u "Ljava/lang/Class;"), (0, .class_ 305), (0, u "java/lang/Comparable"), (0, .class_ 307), (0, u "java/lang/constant/Constable"), (0, .class_ 309), (0, u "java/lang/constant/ConstantDesc"), (0, u "MIN_VALUE"), (1, u "MAX_VALUE"), (3, u "SIZE"), (1, u "BYTES"), (1, u "serialVersionUID"), (0, u "J")] 131

def k16c0 : Code := { maxStack := 4, maxLocals := 7, code := jdk_33_method_12_code, exceptionTable := #[], attributes := #[] }
def k16m0 : Method := { name := "getChars", desc := "(II[B)I", sig := { parameters := [.int, .int, (.array .byte)], returnType := some .int }, accessFlags := 8, code := some k16c0 }
def k16c1 : Code := { maxStack := 2, maxLocals := 4, code := jdk_33_method_13_code, exceptionTable := #[], attributes := #[] }
def k16m1 : Method := { name := "stringSize", desc := "(I)I", sig := { parameters := [.int], returnType := some .int }, accessFlags := 8, code := some k16c1 }
/-- java/lang/Integer -/
def k16 : Class := { plain "java/lang/Integer" (some 15) with
  accessFlags := 49
  interfaces := #[3, 5, 6]
  cf := some (fileOf pool16 1 #[.nestMembers #[189]] #[{ accessFlags := 8, nameIndex := 77, descriptorIndex := 78, attributes := #[] }, { accessFlags := 8, nameIndex := 74, descriptorIndex := 54, attributes := #[] }] 49 203 #[304, 306, 308] #[{ accessFlags := 25, nameIndex := 310, descriptorIndex := 194, attributes := #[] }, { accessFlags := 25, nameIndex := 312, descriptorIndex := 194, attributes := #[] }, { accessFlags := 25, nameIndex := 302, descriptorIndex := 303, attributes := #[] }, { accessFlags := 24, nameIndex := 19, descriptorIndex := 20, attributes := #[] }, { accessFlags := 24, nameIndex := 89, descriptorIndex := 86, attributes := #[] }, { accessFlags := 24, nameIndex := 85, descriptorIndex := 86, attributes := #[] }, { accessFlags := 18, nameIndex := 207, descriptorIndex := 194, attributes := #[] }, { accessFlags := 25, nameIndex := 316, descriptorIndex := 194, attributes := #[] }, { accessFlags := 25, nameIndex := 318, descriptorIndex := 194, attributes := #[] }, { accessFlags := 26, nameIndex := 320, descriptorIndex := 321, attributes := #[] }])
  fields := #[{ name := "MIN_VALUE", type := .int, accessFlags := 25, slot := 0, constantValue := 0 }, { name := "MAX_VALUE", type := .int, accessFlags := 25, slot := 1, constantValue := 0 }, { name := "TYPE", type := (.object "java/lang/Class"), accessFlags := 25, slot := 2, constantValue := 0 }, { name := "digits", type := (.array .char), accessFlags := 24, slot := 3, constantValue := 0 }, { name := "DigitTens", type := (.array .byte), accessFlags := 24, slot := 4, constantValue := 0 }, { name := "DigitOnes", type := (.array .byte), accessFlags := 24, slot := 5, constantValue := 0 }, { name := "value", type := .int, accessFlags := 18, slot := 0, constantValue := 0 }, { name := "SIZE", type := .int, accessFlags := 25, slot := 6, constantValue := 0 }, { name := "BYTES", type := .int, accessFlags := 25, slot := 7, constantValue := 0 }, { name := "serialVersionUID", type := .long, accessFlags := 26, slot := 8, constantValue := 0 }]
  methods := #[k16m0, k16m1]
  instanceTypes := #[.int]
  staticTypes := #[.int, .int, (.object "java/lang/Class"), (.array .char), (.array .byte), (.array .byte), .int, .int, .long]
  resolved := Array.replicate 453 none
  statics := some 1 }

def pool17 : Array CpInfo := pool [(2, .class_ 4), (1, u "java/lang/Object"), (0, u "<init>"), (0, u "()V"), (7, .class_ 16), (1, u "java/util/Arrays"), (57, .class_ 76), (1, u "java/util/Arrays$NaturalOrder"), (36, .class_ 115), (1, u "java/util/Arrays$LegacyMergeSort"), (1, u "Z"), (21, u "copyOfRange"), (10, .methodref 151 152), (0, .class_ 153), (0, .nameAndType 154 155), (0, u "java/lang/System"), (0, u "arraycopy"), (0, u "(Ljava/lang/Object;ILjava/lang/Object;II)V"), (148, .methodref 305 306), (0, .class_ 307), (0, .nameAndType 308 309), (0, u "java/lang/Math"), (0, u "min"), (0, u "(II)I"), (29, .methodref 14 340), (0, .nameAndType 341 342), (0, u "copyOfRangeByte"), (0, u "([BII)[B"), (0, .methodref 14 344), (0, .nameAndType 345 346), (0, u "checkLength"), (0, u "(II)V"), (28, .class_ 376), (0, u "java/util/Arrays$ArrayList"), (68, u "$assertionsDisabled"), (269, u "MIN_ARRAY_SORT_GRAN"), (0, u "I"), (2, u "INSERTIONSORT_THRESHOLD"), (255, .class_ 976), (0, u "java/util/Arrays$ArrayItr")] 52

def k17m0 : Method := { name := "<init>", desc := "()V", sig := { parameters := [], returnType := none }, accessFlags := 2, code := none }
def k17c1 : Code := { maxStack := 4, maxLocals := 2, code := jdk_65_method_131_code, exceptionTable := #[], attributes := #[] }
def k17m1 : Method := { name := "checkLength", desc := "(II)V", sig := { parameters := [.int, .int], returnType := none }, accessFlags := 10, code := some k17c1 }
def k17c2 : Code := { maxStack := 3, maxLocals := 3, code := jdk_65_method_132_code, exceptionTable := #[], attributes := #[] }
def k17m2 : Method := { name := "copyOfRange", desc := "([BII)[B", sig := { parameters := [(.array .byte), .int, .int], returnType := some (.array .byte) }, accessFlags := 9, code := some k17c2 }
def k17c3 : Code := { maxStack := 6, maxLocals := 5, code := jdk_65_method_133_code, exceptionTable := #[], attributes := #[] }
def k17m3 : Method := { name := "copyOfRangeByte", desc := "([BII)[B", sig := { parameters := [(.array .byte), .int, .int], returnType := some (.array .byte) }, accessFlags := 10, code := some k17c3 }
/-- java/util/Arrays -/
def k17 : Class := { plain "java/util/Arrays" (some 0) with
  accessFlags := 49
  interfaces := #[]
  cf := some (fileOf pool17 14 #[.nestMembers #[975, 375, 113, 74]] #[{ accessFlags := 2, nameIndex := 5, descriptorIndex := 6, attributes := #[] }, { accessFlags := 10, nameIndex := 345, descriptorIndex := 346, attributes := #[] }, { accessFlags := 9, nameIndex := 139, descriptorIndex := 342, attributes := #[] }, { accessFlags := 10, nameIndex := 341, descriptorIndex := 342, attributes := #[] }] 49 2 #[] #[{ accessFlags := 26, nameIndex := 715, descriptorIndex := 716, attributes := #[] }, { accessFlags := 26, nameIndex := 719, descriptorIndex := 716, attributes := #[] }, { accessFlags := 4120, nameIndex := 445, descriptorIndex := 117, attributes := #[] }])
  fields := #[{ name := "MIN_ARRAY_SORT_GRAN", type := .int, accessFlags := 26, slot := 0, constantValue := 0 }, { name := "INSERTIONSORT_THRESHOLD", type := .int, accessFlags := 26, slot := 1, constantValue := 0 }, { name := "$assertionsDisabled", type := .boolean, accessFlags := 4120, slot := 2, constantValue := 0 }]
  methods := #[k17m0, k17m1, k17m2, k17m3]
  instanceTypes := #[]
  staticTypes := #[.int, .int, .boolean]
  resolved := Array.replicate 1029 none
  statics := none }

def pool18 : Array CpInfo := pool [(1, .class_ 2), (0, u "java/lang/Math"), (1, .class_ 6), (1, u "java/lang/Object"), (0, u "<init>"), (0, u "()V"), (89, .class_ 100), (1, u "java/lang/Math$RandomNumberGeneratorHolder"), (71, u "negativeZeroFloatBits"), (0, u "J"), (2, u "negativeZeroDoubleBits"), (24, u "min"), (43, u "$assertionsDisabled"), (0, u "Z"), (88, u "(II)I"), (2, u "twoToTheDoubleScaleDown"), (0, u "D"), (4, u "twoToTheDoubleScaleUp"), (9, u "E"), (3, u "PI"), (2, u "TAU"), (2, u "DEGREES_TO_RADIANS"), (0, u "RADIANS_TO_DEGREES")] 94

def k18m0 : Method := { name := "<init>", desc := "()V", sig := { parameters := [], returnType := none }, accessFlags := 2, code := none }
def k18c1 : Code := { maxStack := 2, maxLocals := 2, code := jdk_29_method_69_code, exceptionTable := #[], attributes := #[] }
def k18m1 : Method := { name := "min", desc := "(II)I", sig := { parameters := [.int, .int], returnType := some .int }, accessFlags := 9, code := some k18c1 }
/-- java/lang/Math -/
def k18 : Class := { plain "java/lang/Math" (some 0) with
  accessFlags := 49
  interfaces := #[]
  cf := some (fileOf pool18 1 #[.nestMembers #[98]] #[{ accessFlags := 2, nameIndex := 7, descriptorIndex := 8, attributes := #[] }, { accessFlags := 9, nameIndex := 201, descriptorIndex := 335, attributes := #[] }] 49 4 #[] #[{ accessFlags := 25, nameIndex := 354, descriptorIndex := 339, attributes := #[] }, { accessFlags := 25, nameIndex := 358, descriptorIndex := 339, attributes := #[] }, { accessFlags := 25, nameIndex := 361, descriptorIndex := 339, attributes := #[] }, { accessFlags := 26, nameIndex := 364, descriptorIndex := 339, attributes := #[] }, { accessFlags := 26, nameIndex := 365, descriptorIndex := 339, attributes := #[] }, { accessFlags := 26, nameIndex := 172, descriptorIndex := 173, attributes := #[] }, { accessFlags := 26, nameIndex := 176, descriptorIndex := 173, attributes := #[] }, { accessFlags := 8, nameIndex := 344, descriptorIndex := 339, attributes := #[] }, { accessFlags := 8, nameIndex := 338, descriptorIndex := 339, attributes := #[] }, { accessFlags := 4120, nameIndex := 245, descriptorIndex := 246, attributes := #[] }])
  fields := #[{ name := "E", type := .double, accessFlags := 25, slot := 0, constantValue := 0 }, { name := "PI", type := .double, accessFlags := 25, slot := 1, constantValue := 0 }, { name := "TAU", type := .double, accessFlags := 25, slot := 2, constantValue := 0 }, { name := "DEGREES_TO_RADIANS", type := .double, accessFlags := 26, slot := 3, constantValue := 0 }, { name := "RADIANS_TO_DEGREES", type := .double, accessFlags := 26, slot := 4, constantValue := 0 }, { name := "negativeZeroFloatBits", type := .long, accessFlags := 26, slot := 5, constantValue := 0 }, { name := "negativeZeroDoubleBits", type := .long, accessFlags := 26, slot := 6, constantValue := 0 }, { name := "twoToTheDoubleScaleUp", type := .double, accessFlags := 8, slot := 7, constantValue := 0 }, { name := "twoToTheDoubleScaleDown", type := .double, accessFlags := 8, slot := 8, constantValue := 0 }, { name := "$assertionsDisabled", type := .boolean, accessFlags := 4120, slot := 9, constantValue := 0 }]
  methods := #[k18m0, k18m1]
  instanceTypes := #[]
  staticTypes := #[.double, .double, .double, .double, .double, .long, .long, .double, .double, .boolean]
  resolved := Array.replicate 460 none
  statics := none }

def pool19 : Array CpInfo := pool [(1, .class_ 2), (0, u "java/lang/String"), (1, .class_ 6), (1, u "java/lang/Object"), (0, u "<init>"), (0, u "()V"), (0, .methodref 1 10), (0, .nameAndType 11 12), (0, u "checkIndex"), (0, u "(II)V"), (1, .class_ 16), (1, u "java/lang/StringLatin1"), (36, u "([BI)C"), (67, u "$assertionsDisabled"), (0, u "Z"), (98, .class_ 223), (1, u "java/lang/StringLatin1$LinesSpliterator"), (28, u "charAt"), (137, .class_ 391), (0, u "java/lang/StringLatin1$CharsSpliterator")] 3

def k19m0 : Method := { name := "<init>", desc := "()V", sig := { parameters := [], returnType := none }, accessFlags := 0, code := none }
def k19c1 : Code := { maxStack := 2, maxLocals := 2, code := jdk_43_method_2_code, exceptionTable := #[], attributes := #[] }
def k19m1 : Method := { name := "charAt", desc := "([BI)C", sig := { parameters := [(.array .byte), .int], returnType := some .char }, accessFlags := 9, code := some k19c1 }
/-- java/lang/StringLatin1 -/
def k19 : Class := { plain "java/lang/StringLatin1" (some 0) with
  accessFlags := 48
  interfaces := #[]
  cf := some (fileOf pool19 14 #[.nestMembers #[390, 221]] #[{ accessFlags := 0, nameIndex := 7, descriptorIndex := 8, attributes := #[] }, { accessFlags := 9, nameIndex := 252, descriptorIndex := 53, attributes := #[] }] 48 4 #[] #[{ accessFlags := 4120, nameIndex := 121, descriptorIndex := 122, attributes := #[] }])
  fields := #[{ name := "$assertionsDisabled", type := .boolean, accessFlags := 4120, slot := 0, constantValue := 0 }]
  methods := #[k19m0, k19m1]
  instanceTypes := #[]
  staticTypes := #[.boolean]
  resolved := Array.replicate 395 none
  statics := none }

def pool20 : Array CpInfo := pool [(2, .class_ 4), (1, u "java/lang/Object"), (0, u "<init>"), (0, u "()V"), (17, .class_ 26), (1, u "jdk/internal/util/Preconditions"), (6, u "checkIndex"), (21, .class_ 56), (0, u "jdk/internal/util/Preconditions$4"), (57, .class_ 115), (0, u "jdk/internal/util/Preconditions$1"), (7, u "SIOOBE_FORMATTER"), (0, u "Ljava/util/function/BiFunction;"), (0, .class_ 126), (0, u "jdk/internal/util/Preconditions$2"), (3, u "AIOOBE_FORMATTER"), (0, .class_ 132), (0, u "jdk/internal/util/Preconditions$3"), (3, u "IOOBE_FORMATTER"), (41, u "(IILjava/util/function/BiFunction;)I")] 15

def k20m0 : Method := { name := "<init>", desc := "()V", sig := { parameters := [], returnType := none }, accessFlags := 1, code := none }
def k20c1 : Code := { maxStack := 3, maxLocals := 3, code := jdk_41_method_11_code, exceptionTable := #[], attributes := #[] }
def k20m1 : Method := { name := "checkIndex", desc := "(IILjava/util/function/BiFunction;)I", sig := { parameters := [.int, .int, (.object "java/util/function/BiFunction")], returnType := some .int }, accessFlags := 9, code := some k20c1 }
/-- jdk/internal/util/Preconditions -/
def k20 : Class := { plain "jdk/internal/util/Preconditions" (some 0) with
  accessFlags := 33
  interfaces := #[]
  cf := some (fileOf pool20 24 #[.nestMembers #[55, 131, 125, 114]] #[{ accessFlags := 1, nameIndex := 5, descriptorIndex := 6, attributes := #[] }, { accessFlags := 9, nameIndex := 33, descriptorIndex := 178, attributes := #[] }] 33 2 #[] #[{ accessFlags := 25, nameIndex := 123, descriptorIndex := 124, attributes := #[] }, { accessFlags := 25, nameIndex := 130, descriptorIndex := 124, attributes := #[] }, { accessFlags := 25, nameIndex := 136, descriptorIndex := 124, attributes := #[] }])
  fields := #[{ name := "SIOOBE_FORMATTER", type := (.object "java/util/function/BiFunction"), accessFlags := 25, slot := 0, constantValue := 0 }, { name := "AIOOBE_FORMATTER", type := (.object "java/util/function/BiFunction"), accessFlags := 25, slot := 1, constantValue := 0 }, { name := "IOOBE_FORMATTER", type := (.object "java/util/function/BiFunction"), accessFlags := 25, slot := 2, constantValue := 0 }]
  methods := #[k20m0, k20m1]
  instanceTypes := #[]
  staticTypes := #[(.object "java/util/function/BiFunction"), (.object "java/util/function/BiFunction"), (.object "java/util/function/BiFunction")]
  resolved := Array.replicate 194 none
  statics := some 2 }

def pool21 : Array CpInfo := pool [(9, u "<init>"), (6, .class_ 18), (1, u "java/lang/Object"), (0, u "()V"), (1, .class_ 23), (1, u "jdk/internal/util/ArraysSupport"), (0, u "LOG2_ARRAY_LONG_INDEX_SCALE"), (0, u "I"), (2, u "U"), (0, u "Ljdk/internal/misc/Unsafe;"), (8, u "BIG_ENDIAN"), (0, u "Z"), (8, u "LOG2_BYTE_BIT_SIZE"), (4, u "LOG2_ARRAY_INT_INDEX_SCALE"), (54, u "JLA"), (0, u "Ljdk/internal/access/JavaLangAccess;"), (11, u "LOG2_ARRAY_BOOLEAN_INDEX_SCALE"), (9, u "LOG2_ARRAY_BYTE_INDEX_SCALE"), (5, u "LOG2_ARRAY_CHAR_INDEX_SCALE"), (5, u "LOG2_ARRAY_SHORT_INDEX_SCALE"), (18, u "LOG2_ARRAY_FLOAT_INDEX_SCALE"), (24, u "LOG2_ARRAY_DOUBLE_INDEX_SCALE"), (89, u "T_BOOLEAN"), (2, u "T_CHAR"), (1, u "T_FLOAT"), (1, u "T_DOUBLE"), (1, u "T_BYTE"), (1, u "T_SHORT"), (1, u "T_INT"), (1, u "T_LONG"), (1, u "SOFT_MAX_ARRAY_LENGTH")] 83

def k21m0 : Method := { name := "<init>", desc := "()V", sig := { parameters := [], returnType := none }, accessFlags := 2, code := none }
/-- jdk/internal/util/ArraysSupport -/
def k21 : Class := { plain "jdk/internal/util/ArraysSupport" (some 0) with
  accessFlags := 33
  interfaces := #[]
  cf := some (fileOf pool21 21 #[] #[{ accessFlags := 2, nameIndex := 9, descriptorIndex := 19, attributes := #[] }] 33 16 #[] #[{ accessFlags := 24, nameIndex := 28, descriptorIndex := 29, attributes := #[] }, { accessFlags := 26, nameIndex := 38, descriptorIndex := 39, attributes := #[] }, { accessFlags := 25, nameIndex := 121, descriptorIndex := 25, attributes := #[] }, { accessFlags := 25, nameIndex := 131, descriptorIndex := 25, attributes := #[] }, { accessFlags := 25, nameIndex := 137, descriptorIndex := 25, attributes := #[] }, { accessFlags := 25, nameIndex := 143, descriptorIndex := 25, attributes := #[] }, { accessFlags := 25, nameIndex := 53, descriptorIndex := 25, attributes := #[] }, { accessFlags := 25, nameIndex := 24, descriptorIndex := 25, attributes := #[] }, { accessFlags := 25, nameIndex := 162, descriptorIndex := 25, attributes := #[] }, { accessFlags := 25, nameIndex := 187, descriptorIndex := 25, attributes := #[] }, { accessFlags := 26, nameIndex := 48, descriptorIndex := 25, attributes := #[] }, { accessFlags := 25, nameIndex := 277, descriptorIndex := 25, attributes := #[] }, { accessFlags := 25, nameIndex := 280, descriptorIndex := 25, attributes := #[] }, { accessFlags := 25, nameIndex := 282, descriptorIndex := 25, attributes := #[] }, { accessFlags := 25, nameIndex := 284, descriptorIndex := 25, attributes := #[] }, { accessFlags := 25, nameIndex := 286, descriptorIndex := 25, attributes := #[] }, { accessFlags := 25, nameIndex := 288, descriptorIndex := 25, attributes := #[] }, { accessFlags := 25, nameIndex := 290, descriptorIndex := 25, attributes := #[] }, { accessFlags := 25, nameIndex := 292, descriptorIndex := 25, attributes := #[] }, { accessFlags := 26, nameIndex := 108, descriptorIndex := 109, attributes := #[] }, { accessFlags := 25, nameIndex := 294, descriptorIndex := 25, attributes := #[] }])
  fields := #[{ name := "U", type := (.object "jdk/internal/misc/Unsafe"), accessFlags := 24, slot := 0, constantValue := 0 }, { name := "BIG_ENDIAN", type := .boolean, accessFlags := 26, slot := 1, constantValue := 0 }, { name := "LOG2_ARRAY_BOOLEAN_INDEX_SCALE", type := .int, accessFlags := 25, slot := 2, constantValue := 0 }, { name := "LOG2_ARRAY_BYTE_INDEX_SCALE", type := .int, accessFlags := 25, slot := 3, constantValue := 0 }, { name := "LOG2_ARRAY_CHAR_INDEX_SCALE", type := .int, accessFlags := 25, slot := 4, constantValue := 0 }, { name := "LOG2_ARRAY_SHORT_INDEX_SCALE", type := .int, accessFlags := 25, slot := 5, constantValue := 0 }, { name := "LOG2_ARRAY_INT_INDEX_SCALE", type := .int, accessFlags := 25, slot := 6, constantValue := 0 }, { name := "LOG2_ARRAY_LONG_INDEX_SCALE", type := .int, accessFlags := 25, slot := 7, constantValue := 0 }, { name := "LOG2_ARRAY_FLOAT_INDEX_SCALE", type := .int, accessFlags := 25, slot := 8, constantValue := 0 }, { name := "LOG2_ARRAY_DOUBLE_INDEX_SCALE", type := .int, accessFlags := 25, slot := 9, constantValue := 0 }, { name := "LOG2_BYTE_BIT_SIZE", type := .int, accessFlags := 26, slot := 10, constantValue := 0 }, { name := "T_BOOLEAN", type := .int, accessFlags := 25, slot := 11, constantValue := 0 }, { name := "T_CHAR", type := .int, accessFlags := 25, slot := 12, constantValue := 0 }, { name := "T_FLOAT", type := .int, accessFlags := 25, slot := 13, constantValue := 0 }, { name := "T_DOUBLE", type := .int, accessFlags := 25, slot := 14, constantValue := 0 }, { name := "T_BYTE", type := .int, accessFlags := 25, slot := 15, constantValue := 0 }, { name := "T_SHORT", type := .int, accessFlags := 25, slot := 16, constantValue := 0 }, { name := "T_INT", type := .int, accessFlags := 25, slot := 17, constantValue := 0 }, { name := "T_LONG", type := .int, accessFlags := 25, slot := 18, constantValue := 0 }, { name := "JLA", type := (.object "jdk/internal/access/JavaLangAccess"), accessFlags := 26, slot := 19, constantValue := 0 }, { name := "SOFT_MAX_ARRAY_LENGTH", type := .int, accessFlags := 25, slot := 20, constantValue := 0 }]
  methods := #[k21m0]
  instanceTypes := #[]
  staticTypes := #[(.object "jdk/internal/misc/Unsafe"), .boolean, .int, .int, .int, .int, .int, .int, .int, .int, .int, .int, .int, .int, .int, .int, .int, .int, .int, (.object "jdk/internal/access/JavaLangAccess"), .int]
  resolved := Array.replicate 378 none
  statics := none }

def pool22 : Array CpInfo := pool [(1, u "java/lang/Cloneable"), (0, .class_ 1), (0, u "java/lang/Object"), (0, .class_ 3)] 3

/-- java/lang/Cloneable -/
def k22 : Class := { plain "java/lang/Cloneable" (some 0) with
  accessFlags := 1537
  interfaces := #[]
  cf := some (fileOf pool22 2 #[] #[] 1537 4 #[] #[])
  fields := #[]
  methods := #[]
  instanceTypes := #[]
  staticTypes := #[]
  resolved := Array.replicate 8 none
  statics := none }

/-- the primitive byte -/
def k23 : Class := { plain "byte" none with kind := .primitive 'B', accessFlags := 0x411 }
/-- [B -/
def k24 : Class := { plain "[B" (some 0) with kind := .array 23 .byte, interfaces := #[22, 2], accessFlags := 1041 }

/-- the primitive char -/
def k25 : Class := { plain "char" none with kind := .primitive 'C', accessFlags := 0x411 }
/-- [C -/
def k26 : Class := { plain "[C" (some 0) with kind := .array 25 .char, interfaces := #[22, 2], accessFlags := 1041 }

/-- the primitive int -/
def k27 : Class := { plain "int" none with kind := .primitive 'I', accessFlags := 0x411 }
/-- [I -/
def k28 : Class := { plain "[I" (some 0) with kind := .array 27 .int, interfaces := #[22, 2], accessFlags := 1041 }

def heap : Heap := #[{ cls := 7, slots := #[.long 0, .int 1, .null, .int 0, .null, .int 0, .int 0], vm := .statics 7 },
  { cls := 16, slots := #[.int 0, .int 0, .null, .null, .ref 4, .ref 3, .int 0, .int 0, .long 0], vm := .statics 16 },
  { cls := 20, slots := #[.null, .null, .null], vm := .statics 20 },
  { cls := 24, slots := #[.int 48, .int 49, .int 50, .int 51, .int 52, .int 53, .int 54, .int 55, .int 56, .int 57, .int 48, .int 49, .int 50, .int 51, .int 52, .int 53, .int 54, .int 55, .int 56, .int 57, .int 48, .int 49, .int 50, .int 51, .int 52, .int 53, .int 54, .int 55, .int 56, .int 57, .int 48, .int 49, .int 50, .int 51, .int 52, .int 53, .int 54, .int 55, .int 56, .int 57, .int 48, .int 49, .int 50, .int 51, .int 52, .int 53, .int 54, .int 55, .int 56, .int 57, .int 48, .int 49, .int 50, .int 51, .int 52, .int 53, .int 54, .int 55, .int 56, .int 57, .int 48, .int 49, .int 50, .int 51, .int 52, .int 53, .int 54, .int 55, .int 56, .int 57, .int 48, .int 49, .int 50, .int 51, .int 52, .int 53, .int 54, .int 55, .int 56, .int 57, .int 48, .int 49, .int 50, .int 51, .int 52, .int 53, .int 54, .int 55, .int 56, .int 57, .int 48, .int 49, .int 50, .int 51, .int 52, .int 53, .int 54, .int 55, .int 56, .int 57], vm := .none },
  { cls := 24, slots := #[.int 48, .int 48, .int 48, .int 48, .int 48, .int 48, .int 48, .int 48, .int 48, .int 48, .int 49, .int 49, .int 49, .int 49, .int 49, .int 49, .int 49, .int 49, .int 49, .int 49, .int 50, .int 50, .int 50, .int 50, .int 50, .int 50, .int 50, .int 50, .int 50, .int 50, .int 51, .int 51, .int 51, .int 51, .int 51, .int 51, .int 51, .int 51, .int 51, .int 51, .int 52, .int 52, .int 52, .int 52, .int 52, .int 52, .int 52, .int 52, .int 52, .int 52, .int 53, .int 53, .int 53, .int 53, .int 53, .int 53, .int 53, .int 53, .int 53, .int 53, .int 54, .int 54, .int 54, .int 54, .int 54, .int 54, .int 54, .int 54, .int 54, .int 54, .int 55, .int 55, .int 55, .int 55, .int 55, .int 55, .int 55, .int 55, .int 55, .int 55, .int 56, .int 56, .int 56, .int 56, .int 56, .int 56, .int 56, .int 56, .int 56, .int 56, .int 57, .int 57, .int 57, .int 57, .int 57, .int 57, .int 57, .int 57, .int 57, .int 57], vm := .none }]
def classes : Array Class := #[k0, k1, k2, k3, k4, k5, k6, k7, k8, k9, k10, k11, k12, k13, k14, k15, k16, k17, k18, k19, k20, k21, k22, k23, k24, k25, k26, k27, k28]
def interned : List (Array UInt16 × Addr) := []
def slotsUsed : Nat := 219
def theMethod : MethodId := ⟨1, 1⟩
def args0 : Array Value := #[.int 5, .int 5, .int 5, .int 5]
def aboutOver (below : List Frame) : State where
  vm := { classes := classes, interned := interned.toArray }
  heap := heap
  slotsUsed := slotsUsed
  threads := #[{ frames := .invoking theMethod args0 :: below }]
def below0 : List Frame := [.native { method := ⟨0, 0⟩, args := #[] }]
def about1 : State := aboutOver below0
def p0 : Program := .bare "" "" ""
def e0 : Env := launch0.env 0 0 0
theorem w_frames : about1.frames = Frame.invoking theMethod args0 :: below0 := rfl
set_option maxRecDepth 65536 in
theorem w_args : argsFit about1.vm theMethod args0 = true := by decide +kernel
set_option maxRecDepth 65536 in
theorem w_heap : heapFits about1 = true := by decide +kernel
set_option maxRecDepth 65536 in
theorem w_runnable : about1.curStatus? = some .runnable := by decide +kernel
set_option maxRecDepth 65536 in
theorem w_alone : about1.alone = true := by decide +kernel
set_option maxRecDepth 65536 in
theorem w_named : about1.methodNamed? x = some theMethod := by decide +kernel
set_option maxRecDepth 65536 in
theorem w_hears : about1.hears theMethod below0 = true := by decide +kernel
set_option maxRecDepth 65536 in
theorem w_ripe : about1.ripe theMethod args0 below0 = true := by decide +kernel
theorem w_running : about1.status = .running := rfl
set_option maxRecDepth 65536 in
theorem w_room : about1.hasRoom e0.platform room_1 = true :=
  launch0.hasRoom_least _ room_1 (by decide +kernel) (by decide +kernel) (by decide +kernel) (by decide +kernel) (by decide +kernel) (by decide +kernel)
theorem allAtoms_all (ts : List Jvm.Cond) (a : Array Jvm.Value) (st : Jvm.State) : (allAtoms ts).before a st = ts.all (fun c => c.before a st) := by
  induction ts with
  | nil => rfl
  | cons c t ih =>
    show (Jvm.Cond.and c (allAtoms t)).before a st = _
    rw [Jvm.Cond.before_and, ih, List.all_cons]
def words1 : List Jvm.Cond := Jvm.Cond.code x code maxLocals ret :: tables_1
/-- a 'code' word, met by the world's own term for the bytes: nothing is compared byte by byte -/
theorem code_word {y : MethodName} {bytes : ByteArray} {mx : Nat} {rt : Option FieldType} {a : Array Value} {s : State} {m : MethodId} {meth : Method} {c : Code} (h1 : s.methodNamed? y = some m) (h2 : s.vm.method? m = some meth) (h3 : meth.code = some c) (h4 : c.code = bytes)
    (h5 : (c.maxLocals == mx && c.exceptionTable.isEmpty && decide (c.maxStack ≤ mostOperands) && decide (meth.sig.returnType = rt) && !meth.locks && decide (parseMethodDescriptor y.desc = some meth.sig)) = true) : (Jvm.Cond.code y bytes mx rt).before a s = true := by
  simp only [Bool.and_eq_true, beq_iff_eq, Bool.not_eq_true', decide_eq_true_eq] at h5
  obtain ⟨⟨⟨⟨⟨g1, g2⟩, g3⟩, g4⟩, g5⟩, g6⟩ := h5
  simp [Cond.before, Cond.holds, Cond.value, h1, h2, h3, h4, g1, g2, g3, g4, g5, g6]
def isCode : Jvm.Cond → Bool
  | .code _ _ _ _ => true
  | _ => false
theorem all_split {L : List Jvm.Cond} {P : Jvm.Cond → Bool} (h1 : L.all (fun c => isCode c || P c) = true) (h2 : ∀ c ∈ L.filter isCode, P c = true) : L.all P = true := by
  refine List.all_eq_true.mpr fun c hc => ?_
  have h := List.all_eq_true.mp h1 c hc
  rcases Bool.eq_false_or_eq_true (isCode c) with hi | hi
  · exact h2 c (List.mem_filter.mpr ⟨hc, hi⟩)
  · simpa [hi] using h
set_option maxRecDepth 65536 in
theorem w_c0 : (Jvm.Cond.code x code maxLocals ret).before args0 about1 = true := code_word (m := ⟨1, 1⟩) (meth := k1m1) (c := k1c1) (by decide +kernel) rfl rfl rfl (by decide +kernel)
set_option maxRecDepth 65536 in
theorem w_c1 : (Jvm.Cond.code ({ cls := "java/lang/String", name := "<init>", desc := "([C)V" } : Jvm.MethodName) jdk_42_method_3_code (2 : Nat) (Option.none : Option Jvm.ClassFile.FieldType)).before args0 about1 = true := code_word (m := ⟨7, 1⟩) (meth := k7m1) (c := k7c1) (by decide +kernel) rfl rfl rfl (by decide +kernel)
set_option maxRecDepth 65536 in
theorem w_c2 : (Jvm.Cond.code ({ cls := "java/lang/String", name := "<init>", desc := "([CIILjava/lang/Void;)V" } : Jvm.MethodName) jdk_42_method_149_code (6 : Nat) (Option.none : Option Jvm.ClassFile.FieldType)).before args0 about1 = true := code_word (m := ⟨7, 7⟩) (meth := k7m7) (c := k7c7) (by decide +kernel) rfl rfl rfl (by decide +kernel)
set_option maxRecDepth 65536 in
theorem w_c3 : (Jvm.Cond.code ({ cls := "java/lang/Object", name := "<init>", desc := "()V" } : Jvm.MethodName) object_method_1_code (1 : Nat) (Option.none : Option Jvm.ClassFile.FieldType)).before args0 about1 = true := code_word (m := ⟨0, 0⟩) (meth := k0m0) (c := k0c0) (by decide +kernel) rfl rfl rfl (by decide +kernel)
set_option maxRecDepth 65536 in
theorem w_c4 : (Jvm.Cond.code ({ cls := "java/lang/StringUTF16", name := "compress", desc := "([CII)[B" } : Jvm.MethodName) jdk_52_method_16_code (6 : Nat) (Option.some (Jvm.ClassFile.FieldType.array Jvm.ClassFile.FieldType.byte))).before args0 about1 = true := code_word (m := ⟨8, 2⟩) (meth := k8m2) (c := k8c2) (by decide +kernel) rfl rfl rfl (by decide +kernel)
set_option maxRecDepth 65536 in
theorem w_c5 : (Jvm.Cond.code ({ cls := "java/lang/StringUTF16", name := "compress", desc := "([CI[BII)I" } : Jvm.MethodName) jdk_52_method_21_code (7 : Nat) (Option.some Jvm.ClassFile.FieldType.int)).before args0 about1 = true := code_word (m := ⟨8, 3⟩) (meth := k8m3) (c := k8c3) (by decide +kernel) rfl rfl rfl (by decide +kernel)
set_option maxRecDepth 65536 in
theorem w_c6 : (Jvm.Cond.code ({ cls := "java/lang/StringUTF16", name := "coderFromArrayLen", desc := "([BI)B" } : Jvm.MethodName) jdk_52_method_15_code (2 : Nat) (Option.some Jvm.ClassFile.FieldType.byte)).before args0 about1 = true := code_word (m := ⟨8, 1⟩) (meth := k8m1) (c := k8c1) (by decide +kernel) rfl rfl rfl (by decide +kernel)
set_option maxRecDepth 65536 in
theorem w_c7 : (Jvm.Cond.code ({ cls := "com/example/kikao/kikao/Domain", name := "<init>", desc := "(Ljava/lang/String;I)V" } : Jvm.MethodName) prog_6_method_1_code (3 : Nat) (Option.none : Option Jvm.ClassFile.FieldType)).before args0 about1 = true := code_word (m := ⟨10, 0⟩) (meth := k10m0) (c := k10c0) (by decide +kernel) rfl rfl rfl (by decide +kernel)
set_option maxRecDepth 65536 in
theorem w_c8 : (Jvm.Cond.code ({ cls := "java/lang/Record", name := "<init>", desc := "()V" } : Jvm.MethodName) jdk_30_method_1_code (1 : Nat) (Option.none : Option Jvm.ClassFile.FieldType)).before args0 about1 = true := code_word (m := ⟨9, 0⟩) (meth := k9m0) (c := k9c0) (by decide +kernel) rfl rfl rfl (by decide +kernel)
set_option maxRecDepth 65536 in
theorem w_c9 : (Jvm.Cond.code ({ cls := "com/example/kikao/kikao/Domain", name := "toString", desc := "()Ljava/lang/String;" } : Jvm.MethodName) prog_6_method_6_code (1 : Nat) (Option.some (Jvm.ClassFile.FieldType.object "java/lang/String"))).before args0 about1 = true := code_word (m := ⟨10, 1⟩) (meth := k10m1) (c := k10c1) (by decide +kernel) rfl rfl rfl (by decide +kernel)
set_option maxRecDepth 65536 in
theorem w_c10 : (Jvm.Cond.code ({ cls := "java/lang/StringBuilder", name := "<init>", desc := "()V" } : Jvm.MethodName) jdk_67_method_1_code (1 : Nat) (Option.none : Option Jvm.ClassFile.FieldType)).before args0 about1 = true := code_word (m := ⟨13, 0⟩) (meth := k13m0) (c := k13c0) (by decide +kernel) rfl rfl rfl (by decide +kernel)
set_option maxRecDepth 65536 in
theorem w_c11 : (Jvm.Cond.code ({ cls := "java/lang/AbstractStringBuilder", name := "<init>", desc := "(I)V" } : Jvm.MethodName) jdk_68_method_2_code (2 : Nat) (Option.none : Option Jvm.ClassFile.FieldType)).before args0 about1 = true := code_word (m := ⟨12, 1⟩) (meth := k12m1) (c := k12c1) (by decide +kernel) rfl rfl rfl (by decide +kernel)
set_option maxRecDepth 65536 in
theorem w_c12 : (Jvm.Cond.code ({ cls := "java/lang/StringBuilder", name := "append", desc := "(Ljava/lang/String;)Ljava/lang/StringBuilder;" } : Jvm.MethodName) jdk_67_method_7_code (2 : Nat) (Option.some (Jvm.ClassFile.FieldType.object "java/lang/StringBuilder"))).before args0 about1 = true := code_word (m := ⟨13, 1⟩) (meth := k13m1) (c := k13c1) (by decide +kernel) rfl rfl rfl (by decide +kernel)
set_option maxRecDepth 65536 in
theorem w_c13 : (Jvm.Cond.code ({ cls := "java/lang/AbstractStringBuilder", name := "append", desc := "(Ljava/lang/String;)Ljava/lang/AbstractStringBuilder;" } : Jvm.MethodName) jdk_68_method_22_code (3 : Nat) (Option.some (Jvm.ClassFile.FieldType.object "java/lang/AbstractStringBuilder"))).before args0 about1 = true := code_word (m := ⟨12, 4⟩) (meth := k12m4) (c := k12c4) (by decide +kernel) rfl rfl rfl (by decide +kernel)
set_option maxRecDepth 65536 in
theorem w_c14 : (Jvm.Cond.code ({ cls := "java/lang/String", name := "length", desc := "()I" } : Jvm.MethodName) jdk_42_method_54_code (1 : Nat) (Option.some Jvm.ClassFile.FieldType.int)).before args0 about1 = true := code_word (m := ⟨7, 3⟩) (meth := k7m3) (c := k7c3) (by decide +kernel) rfl rfl rfl (by decide +kernel)
set_option maxRecDepth 65536 in
theorem w_c15 : (Jvm.Cond.code ({ cls := "java/lang/String", name := "coder", desc := "()B" } : Jvm.MethodName) jdk_42_method_152_code (1 : Nat) (Option.some Jvm.ClassFile.FieldType.byte)).before args0 about1 = true := code_word (m := ⟨7, 9⟩) (meth := k7m9) (c := k7c9) (by decide +kernel) rfl rfl rfl (by decide +kernel)
set_option maxRecDepth 65536 in
theorem w_c16 : (Jvm.Cond.code ({ cls := "java/lang/AbstractStringBuilder", name := "ensureCapacityInternal", desc := "(I)V" } : Jvm.MethodName) jdk_68_method_9_code (3 : Nat) (Option.none : Option Jvm.ClassFile.FieldType)).before args0 about1 = true := code_word (m := ⟨12, 3⟩) (meth := k12m3) (c := k12c3) (by decide +kernel) rfl rfl rfl (by decide +kernel)
set_option maxRecDepth 65536 in
theorem w_c17 : (Jvm.Cond.code ({ cls := "java/lang/AbstractStringBuilder", name := "putStringAt", desc := "(ILjava/lang/String;)V" } : Jvm.MethodName) jdk_68_method_73_code (3 : Nat) (Option.none : Option Jvm.ClassFile.FieldType)).before args0 about1 = true := code_word (m := ⟨12, 9⟩) (meth := k12m9) (c := k12c9) (by decide +kernel) rfl rfl rfl (by decide +kernel)
set_option maxRecDepth 65536 in
theorem w_c18 : (Jvm.Cond.code ({ cls := "java/lang/AbstractStringBuilder", name := "inflateIfNeededFor", desc := "(Ljava/lang/String;)V" } : Jvm.MethodName) jdk_68_method_71_code (2 : Nat) (Option.none : Option Jvm.ClassFile.FieldType)).before args0 about1 = true := code_word (m := ⟨12, 8⟩) (meth := k12m8) (c := k12c8) (by decide +kernel) rfl rfl rfl (by decide +kernel)
set_option maxRecDepth 65536 in
theorem w_c19 : (Jvm.Cond.code ({ cls := "java/lang/String", name := "getBytes", desc := "([BIB)V" } : Jvm.MethodName) jdk_42_method_147_code (4 : Nat) (Option.none : Option Jvm.ClassFile.FieldType)).before args0 about1 = true := code_word (m := ⟨7, 6⟩) (meth := k7m6) (c := k7c6) (by decide +kernel) rfl rfl rfl (by decide +kernel)
set_option maxRecDepth 65536 in
theorem w_c20 : (Jvm.Cond.code ({ cls := "java/lang/StringBuilder", name := "append", desc := "(I)Ljava/lang/StringBuilder;" } : Jvm.MethodName) jdk_67_method_15_code (2 : Nat) (Option.some (Jvm.ClassFile.FieldType.object "java/lang/StringBuilder"))).before args0 about1 = true := code_word (m := ⟨13, 2⟩) (meth := k13m2) (c := k13c2) (by decide +kernel) rfl rfl rfl (by decide +kernel)
set_option maxRecDepth 65536 in
theorem w_c21 : (Jvm.Cond.code ({ cls := "java/lang/AbstractStringBuilder", name := "append", desc := "(I)Ljava/lang/AbstractStringBuilder;" } : Jvm.MethodName) jdk_68_method_32_code (4 : Nat) (Option.some (Jvm.ClassFile.FieldType.object "java/lang/AbstractStringBuilder"))).before args0 about1 = true := code_word (m := ⟨12, 5⟩) (meth := k12m5) (c := k12c5) (by decide +kernel) rfl rfl rfl (by decide +kernel)
set_option maxRecDepth 65536 in
theorem w_c22 : (Jvm.Cond.code ({ cls := "java/lang/Integer", name := "stringSize", desc := "(I)I" } : Jvm.MethodName) jdk_33_method_13_code (4 : Nat) (Option.some Jvm.ClassFile.FieldType.int)).before args0 about1 = true := code_word (m := ⟨16, 1⟩) (meth := k16m1) (c := k16c1) (by decide +kernel) rfl rfl rfl (by decide +kernel)
set_option maxRecDepth 65536 in
theorem w_c23 : (Jvm.Cond.code ({ cls := "java/lang/AbstractStringBuilder", name := "isLatin1", desc := "()Z" } : Jvm.MethodName) jdk_68_method_68_code (1 : Nat) (Option.some Jvm.ClassFile.FieldType.boolean)).before args0 about1 = true := code_word (m := ⟨12, 7⟩) (meth := k12m7) (c := k12c7) (by decide +kernel) rfl rfl rfl (by decide +kernel)
set_option maxRecDepth 65536 in
theorem w_c24 : (Jvm.Cond.code ({ cls := "java/lang/Integer", name := "getChars", desc := "(II[B)I" } : Jvm.MethodName) jdk_33_method_12_code (7 : Nat) (Option.some Jvm.ClassFile.FieldType.int)).before args0 about1 = true := code_word (m := ⟨16, 0⟩) (meth := k16m0) (c := k16c0) (by decide +kernel) rfl rfl rfl (by decide +kernel)
set_option maxRecDepth 65536 in
theorem w_c25 : (Jvm.Cond.code ({ cls := "java/lang/StringBuilder", name := "toString", desc := "()Ljava/lang/String;" } : Jvm.MethodName) jdk_67_method_42_code (1 : Nat) (Option.some (Jvm.ClassFile.FieldType.object "java/lang/String"))).before args0 about1 = true := code_word (m := ⟨13, 3⟩) (meth := k13m3) (c := k13c3) (by decide +kernel) rfl rfl rfl (by decide +kernel)
set_option maxRecDepth 65536 in
theorem w_c26 : (Jvm.Cond.code ({ cls := "java/lang/String", name := "<init>", desc := "(Ljava/lang/StringBuilder;)V" } : Jvm.MethodName) jdk_42_method_53_code (2 : Nat) (Option.none : Option Jvm.ClassFile.FieldType)).before args0 about1 = true := code_word (m := ⟨7, 2⟩) (meth := k7m2) (c := k7c2) (by decide +kernel) rfl rfl rfl (by decide +kernel)
set_option maxRecDepth 65536 in
theorem w_c27 : (Jvm.Cond.code ({ cls := "java/lang/String", name := "<init>", desc := "(Ljava/lang/AbstractStringBuilder;Ljava/lang/Void;)V" } : Jvm.MethodName) jdk_42_method_150_code (5 : Nat) (Option.none : Option Jvm.ClassFile.FieldType)).before args0 about1 = true := code_word (m := ⟨7, 8⟩) (meth := k7m8) (c := k7c8) (by decide +kernel) rfl rfl rfl (by decide +kernel)
set_option maxRecDepth 65536 in
theorem w_c28 : (Jvm.Cond.code ({ cls := "java/lang/AbstractStringBuilder", name := "getValue", desc := "()[B" } : Jvm.MethodName) jdk_68_method_64_code (1 : Nat) (Option.some (Jvm.ClassFile.FieldType.array Jvm.ClassFile.FieldType.byte))).before args0 about1 = true := code_word (m := ⟨12, 6⟩) (meth := k12m6) (c := k12c6) (by decide +kernel) rfl rfl rfl (by decide +kernel)
set_option maxRecDepth 65536 in
theorem w_c29 : (Jvm.Cond.code ({ cls := "java/lang/StringBuilder", name := "length", desc := "()I" } : Jvm.MethodName) jdk_67_method_93_code (1 : Nat) (Option.some Jvm.ClassFile.FieldType.int)).before args0 about1 = true := code_word (m := ⟨13, 4⟩) (meth := k13m4) (c := k13c4) (by decide +kernel) rfl rfl rfl (by decide +kernel)
set_option maxRecDepth 65536 in
theorem w_c30 : (Jvm.Cond.code ({ cls := "java/lang/AbstractStringBuilder", name := "length", desc := "()I" } : Jvm.MethodName) jdk_68_method_6_code (1 : Nat) (Option.some Jvm.ClassFile.FieldType.int)).before args0 about1 = true := code_word (m := ⟨12, 2⟩) (meth := k12m2) (c := k12c2) (by decide +kernel) rfl rfl rfl (by decide +kernel)
set_option maxRecDepth 65536 in
theorem w_c31 : (Jvm.Cond.code ({ cls := "java/util/Arrays", name := "copyOfRange", desc := "([BII)[B" } : Jvm.MethodName) jdk_65_method_132_code (3 : Nat) (Option.some (Jvm.ClassFile.FieldType.array Jvm.ClassFile.FieldType.byte))).before args0 about1 = true := code_word (m := ⟨17, 2⟩) (meth := k17m2) (c := k17c2) (by decide +kernel) rfl rfl rfl (by decide +kernel)
set_option maxRecDepth 65536 in
theorem w_c32 : (Jvm.Cond.code ({ cls := "java/util/Arrays", name := "copyOfRangeByte", desc := "([BII)[B" } : Jvm.MethodName) jdk_65_method_133_code (5 : Nat) (Option.some (Jvm.ClassFile.FieldType.array Jvm.ClassFile.FieldType.byte))).before args0 about1 = true := code_word (m := ⟨17, 3⟩) (meth := k17m3) (c := k17c3) (by decide +kernel) rfl rfl rfl (by decide +kernel)
set_option maxRecDepth 65536 in
theorem w_c33 : (Jvm.Cond.code ({ cls := "java/util/Arrays", name := "checkLength", desc := "(II)V" } : Jvm.MethodName) jdk_65_method_131_code (2 : Nat) (Option.none : Option Jvm.ClassFile.FieldType)).before args0 about1 = true := code_word (m := ⟨17, 1⟩) (meth := k17m1) (c := k17c1) (by decide +kernel) rfl rfl rfl (by decide +kernel)
set_option maxRecDepth 65536 in
theorem w_c34 : (Jvm.Cond.code ({ cls := "java/lang/Math", name := "min", desc := "(II)I" } : Jvm.MethodName) jdk_29_method_69_code (2 : Nat) (Option.some Jvm.ClassFile.FieldType.int)).before args0 about1 = true := code_word (m := ⟨18, 1⟩) (meth := k18m1) (c := k18c1) (by decide +kernel) rfl rfl rfl (by decide +kernel)
set_option maxRecDepth 65536 in
theorem w_c35 : (Jvm.Cond.code ({ cls := "java/lang/String", name := "charAt", desc := "(I)C" } : Jvm.MethodName) jdk_42_method_56_code (2 : Nat) (Option.some Jvm.ClassFile.FieldType.char)).before args0 about1 = true := code_word (m := ⟨7, 4⟩) (meth := k7m4) (c := k7c4) (by decide +kernel) rfl rfl rfl (by decide +kernel)
set_option maxRecDepth 65536 in
theorem w_c36 : (Jvm.Cond.code ({ cls := "java/lang/String", name := "isLatin1", desc := "()Z" } : Jvm.MethodName) jdk_42_method_154_code (1 : Nat) (Option.some Jvm.ClassFile.FieldType.boolean)).before args0 about1 = true := code_word (m := ⟨7, 10⟩) (meth := k7m10) (c := k7c10) (by decide +kernel) rfl rfl rfl (by decide +kernel)
set_option maxRecDepth 65536 in
theorem w_c37 : (Jvm.Cond.code ({ cls := "java/lang/StringLatin1", name := "charAt", desc := "([BI)C" } : Jvm.MethodName) jdk_43_method_2_code (2 : Nat) (Option.some Jvm.ClassFile.FieldType.char)).before args0 about1 = true := code_word (m := ⟨19, 1⟩) (meth := k19m1) (c := k19c1) (by decide +kernel) rfl rfl rfl (by decide +kernel)
set_option maxRecDepth 65536 in
theorem w_c38 : (Jvm.Cond.code ({ cls := "java/lang/String", name := "checkIndex", desc := "(II)V" } : Jvm.MethodName) jdk_42_method_155_code (2 : Nat) (Option.none : Option Jvm.ClassFile.FieldType)).before args0 about1 = true := code_word (m := ⟨7, 11⟩) (meth := k7m11) (c := k7c11) (by decide +kernel) rfl rfl rfl (by decide +kernel)
set_option maxRecDepth 65536 in
theorem w_c39 : (Jvm.Cond.code ({ cls := "jdk/internal/util/Preconditions", name := "checkIndex", desc := "(IILjava/util/function/BiFunction;)I" } : Jvm.MethodName) jdk_41_method_11_code (3 : Nat) (Option.some Jvm.ClassFile.FieldType.int)).before args0 about1 = true := code_word (m := ⟨20, 1⟩) (meth := k20m1) (c := k20c1) (by decide +kernel) rfl rfl rfl (by decide +kernel)
set_option maxRecDepth 65536 in
theorem w_c40 : (Jvm.Cond.code ({ cls := "com/example/kikao/kikao/DomainToStringPinLaw", name := "digitOk", desc := "(Ljava/lang/String;III)Z" } : Jvm.MethodName) method_3_code (5 : Nat) (Option.some Jvm.ClassFile.FieldType.boolean)).before args0 about1 = true := code_word (m := ⟨1, 2⟩) (meth := k1m2) (c := k1c2) (by decide +kernel) rfl rfl rfl (by decide +kernel)
set_option maxRecDepth 65536 in
theorem w_c41 : (Jvm.Cond.code ({ cls := "com/example/kikao/kikao/DomainToStringPinLaw", name := "pow10", desc := "(I)I" } : Jvm.MethodName) method_4_code (1 : Nat) (Option.some Jvm.ClassFile.FieldType.int)).before args0 about1 = true := code_word (m := ⟨1, 3⟩) (meth := k1m3) (c := k1c3) (by decide +kernel) rfl rfl rfl (by decide +kernel)
set_option maxRecDepth 65536 in
theorem w_c42 : (Jvm.Cond.code ({ cls := "java/lang/String", name := "equals", desc := "(Ljava/lang/Object;)Z" } : Jvm.MethodName) jdk_42_method_66_code (3 : Nat) (Option.some Jvm.ClassFile.FieldType.boolean)).before args0 about1 = true := code_word (m := ⟨7, 5⟩) (meth := k7m5) (c := k7c5) (by decide +kernel) rfl rfl rfl (by decide +kernel)
def codes1 : List Jvm.Cond := [Jvm.Cond.code x code maxLocals ret, Jvm.Cond.code ({ cls := "java/lang/String", name := "<init>", desc := "([C)V" } : Jvm.MethodName) jdk_42_method_3_code (2 : Nat) (Option.none : Option Jvm.ClassFile.FieldType), Jvm.Cond.code ({ cls := "java/lang/String", name := "<init>", desc := "([CIILjava/lang/Void;)V" } : Jvm.MethodName) jdk_42_method_149_code (6 : Nat) (Option.none : Option Jvm.ClassFile.FieldType), Jvm.Cond.code ({ cls := "java/lang/Object", name := "<init>", desc := "()V" } : Jvm.MethodName) object_method_1_code (1 : Nat) (Option.none : Option Jvm.ClassFile.FieldType), Jvm.Cond.code ({ cls := "java/lang/StringUTF16", name := "compress", desc := "([CII)[B" } : Jvm.MethodName) jdk_52_method_16_code (6 : Nat) (Option.some (Jvm.ClassFile.FieldType.array Jvm.ClassFile.FieldType.byte)), Jvm.Cond.code ({ cls := "java/lang/StringUTF16", name := "compress", desc := "([CI[BII)I" } : Jvm.MethodName) jdk_52_method_21_code (7 : Nat) (Option.some Jvm.ClassFile.FieldType.int), Jvm.Cond.code ({ cls := "java/lang/StringUTF16", name := "coderFromArrayLen", desc := "([BI)B" } : Jvm.MethodName) jdk_52_method_15_code (2 : Nat) (Option.some Jvm.ClassFile.FieldType.byte), Jvm.Cond.code ({ cls := "com/example/kikao/kikao/Domain", name := "<init>", desc := "(Ljava/lang/String;I)V" } : Jvm.MethodName) prog_6_method_1_code (3 : Nat) (Option.none : Option Jvm.ClassFile.FieldType), Jvm.Cond.code ({ cls := "java/lang/Record", name := "<init>", desc := "()V" } : Jvm.MethodName) jdk_30_method_1_code (1 : Nat) (Option.none : Option Jvm.ClassFile.FieldType), Jvm.Cond.code ({ cls := "com/example/kikao/kikao/Domain", name := "toString", desc := "()Ljava/lang/String;" } : Jvm.MethodName) prog_6_method_6_code (1 : Nat) (Option.some (Jvm.ClassFile.FieldType.object "java/lang/String")), Jvm.Cond.code ({ cls := "java/lang/StringBuilder", name := "<init>", desc := "()V" } : Jvm.MethodName) jdk_67_method_1_code (1 : Nat) (Option.none : Option Jvm.ClassFile.FieldType), Jvm.Cond.code ({ cls := "java/lang/AbstractStringBuilder", name := "<init>", desc := "(I)V" } : Jvm.MethodName) jdk_68_method_2_code (2 : Nat) (Option.none : Option Jvm.ClassFile.FieldType), Jvm.Cond.code ({ cls := "java/lang/StringBuilder", name := "append", desc := "(Ljava/lang/String;)Ljava/lang/StringBuilder;" } : Jvm.MethodName) jdk_67_method_7_code (2 : Nat) (Option.some (Jvm.ClassFile.FieldType.object "java/lang/StringBuilder")), Jvm.Cond.code ({ cls := "java/lang/AbstractStringBuilder", name := "append", desc := "(Ljava/lang/String;)Ljava/lang/AbstractStringBuilder;" } : Jvm.MethodName) jdk_68_method_22_code (3 : Nat) (Option.some (Jvm.ClassFile.FieldType.object "java/lang/AbstractStringBuilder")), Jvm.Cond.code ({ cls := "java/lang/String", name := "length", desc := "()I" } : Jvm.MethodName) jdk_42_method_54_code (1 : Nat) (Option.some Jvm.ClassFile.FieldType.int), Jvm.Cond.code ({ cls := "java/lang/String", name := "coder", desc := "()B" } : Jvm.MethodName) jdk_42_method_152_code (1 : Nat) (Option.some Jvm.ClassFile.FieldType.byte), Jvm.Cond.code ({ cls := "java/lang/AbstractStringBuilder", name := "ensureCapacityInternal", desc := "(I)V" } : Jvm.MethodName) jdk_68_method_9_code (3 : Nat) (Option.none : Option Jvm.ClassFile.FieldType), Jvm.Cond.code ({ cls := "java/lang/AbstractStringBuilder", name := "putStringAt", desc := "(ILjava/lang/String;)V" } : Jvm.MethodName) jdk_68_method_73_code (3 : Nat) (Option.none : Option Jvm.ClassFile.FieldType), Jvm.Cond.code ({ cls := "java/lang/AbstractStringBuilder", name := "inflateIfNeededFor", desc := "(Ljava/lang/String;)V" } : Jvm.MethodName) jdk_68_method_71_code (2 : Nat) (Option.none : Option Jvm.ClassFile.FieldType), Jvm.Cond.code ({ cls := "java/lang/String", name := "getBytes", desc := "([BIB)V" } : Jvm.MethodName) jdk_42_method_147_code (4 : Nat) (Option.none : Option Jvm.ClassFile.FieldType), Jvm.Cond.code ({ cls := "java/lang/StringBuilder", name := "append", desc := "(I)Ljava/lang/StringBuilder;" } : Jvm.MethodName) jdk_67_method_15_code (2 : Nat) (Option.some (Jvm.ClassFile.FieldType.object "java/lang/StringBuilder")), Jvm.Cond.code ({ cls := "java/lang/AbstractStringBuilder", name := "append", desc := "(I)Ljava/lang/AbstractStringBuilder;" } : Jvm.MethodName) jdk_68_method_32_code (4 : Nat) (Option.some (Jvm.ClassFile.FieldType.object "java/lang/AbstractStringBuilder")), Jvm.Cond.code ({ cls := "java/lang/Integer", name := "stringSize", desc := "(I)I" } : Jvm.MethodName) jdk_33_method_13_code (4 : Nat) (Option.some Jvm.ClassFile.FieldType.int), Jvm.Cond.code ({ cls := "java/lang/AbstractStringBuilder", name := "isLatin1", desc := "()Z" } : Jvm.MethodName) jdk_68_method_68_code (1 : Nat) (Option.some Jvm.ClassFile.FieldType.boolean), Jvm.Cond.code ({ cls := "java/lang/Integer", name := "getChars", desc := "(II[B)I" } : Jvm.MethodName) jdk_33_method_12_code (7 : Nat) (Option.some Jvm.ClassFile.FieldType.int), Jvm.Cond.code ({ cls := "java/lang/StringBuilder", name := "toString", desc := "()Ljava/lang/String;" } : Jvm.MethodName) jdk_67_method_42_code (1 : Nat) (Option.some (Jvm.ClassFile.FieldType.object "java/lang/String")), Jvm.Cond.code ({ cls := "java/lang/String", name := "<init>", desc := "(Ljava/lang/StringBuilder;)V" } : Jvm.MethodName) jdk_42_method_53_code (2 : Nat) (Option.none : Option Jvm.ClassFile.FieldType), Jvm.Cond.code ({ cls := "java/lang/String", name := "<init>", desc := "(Ljava/lang/AbstractStringBuilder;Ljava/lang/Void;)V" } : Jvm.MethodName) jdk_42_method_150_code (5 : Nat) (Option.none : Option Jvm.ClassFile.FieldType), Jvm.Cond.code ({ cls := "java/lang/AbstractStringBuilder", name := "getValue", desc := "()[B" } : Jvm.MethodName) jdk_68_method_64_code (1 : Nat) (Option.some (Jvm.ClassFile.FieldType.array Jvm.ClassFile.FieldType.byte)), Jvm.Cond.code ({ cls := "java/lang/StringBuilder", name := "length", desc := "()I" } : Jvm.MethodName) jdk_67_method_93_code (1 : Nat) (Option.some Jvm.ClassFile.FieldType.int), Jvm.Cond.code ({ cls := "java/lang/AbstractStringBuilder", name := "length", desc := "()I" } : Jvm.MethodName) jdk_68_method_6_code (1 : Nat) (Option.some Jvm.ClassFile.FieldType.int), Jvm.Cond.code ({ cls := "java/util/Arrays", name := "copyOfRange", desc := "([BII)[B" } : Jvm.MethodName) jdk_65_method_132_code (3 : Nat) (Option.some (Jvm.ClassFile.FieldType.array Jvm.ClassFile.FieldType.byte)), Jvm.Cond.code ({ cls := "java/util/Arrays", name := "copyOfRangeByte", desc := "([BII)[B" } : Jvm.MethodName) jdk_65_method_133_code (5 : Nat) (Option.some (Jvm.ClassFile.FieldType.array Jvm.ClassFile.FieldType.byte)), Jvm.Cond.code ({ cls := "java/util/Arrays", name := "checkLength", desc := "(II)V" } : Jvm.MethodName) jdk_65_method_131_code (2 : Nat) (Option.none : Option Jvm.ClassFile.FieldType), Jvm.Cond.code ({ cls := "java/lang/Math", name := "min", desc := "(II)I" } : Jvm.MethodName) jdk_29_method_69_code (2 : Nat) (Option.some Jvm.ClassFile.FieldType.int), Jvm.Cond.code ({ cls := "java/lang/String", name := "charAt", desc := "(I)C" } : Jvm.MethodName) jdk_42_method_56_code (2 : Nat) (Option.some Jvm.ClassFile.FieldType.char), Jvm.Cond.code ({ cls := "java/lang/String", name := "isLatin1", desc := "()Z" } : Jvm.MethodName) jdk_42_method_154_code (1 : Nat) (Option.some Jvm.ClassFile.FieldType.boolean), Jvm.Cond.code ({ cls := "java/lang/StringLatin1", name := "charAt", desc := "([BI)C" } : Jvm.MethodName) jdk_43_method_2_code (2 : Nat) (Option.some Jvm.ClassFile.FieldType.char), Jvm.Cond.code ({ cls := "java/lang/String", name := "checkIndex", desc := "(II)V" } : Jvm.MethodName) jdk_42_method_155_code (2 : Nat) (Option.none : Option Jvm.ClassFile.FieldType), Jvm.Cond.code ({ cls := "jdk/internal/util/Preconditions", name := "checkIndex", desc := "(IILjava/util/function/BiFunction;)I" } : Jvm.MethodName) jdk_41_method_11_code (3 : Nat) (Option.some Jvm.ClassFile.FieldType.int), Jvm.Cond.code ({ cls := "com/example/kikao/kikao/DomainToStringPinLaw", name := "digitOk", desc := "(Ljava/lang/String;III)Z" } : Jvm.MethodName) method_3_code (5 : Nat) (Option.some Jvm.ClassFile.FieldType.boolean), Jvm.Cond.code ({ cls := "com/example/kikao/kikao/DomainToStringPinLaw", name := "pow10", desc := "(I)I" } : Jvm.MethodName) method_4_code (1 : Nat) (Option.some Jvm.ClassFile.FieldType.int), Jvm.Cond.code ({ cls := "java/lang/String", name := "equals", desc := "(Ljava/lang/Object;)Z" } : Jvm.MethodName) jdk_42_method_66_code (3 : Nat) (Option.some Jvm.ClassFile.FieldType.boolean)]
set_option maxRecDepth 65536 in
theorem codes_eq : words1.filter isCode = codes1 := rfl
theorem w_codes : ∀ c ∈ words1.filter isCode, c.before args0 about1 = true := by
  rw [codes_eq]
  intro c hc
  simp only [codes1, List.mem_cons, List.not_mem_nil, or_false] at hc
  rcases hc with rfl | rfl | rfl | rfl | rfl | rfl | rfl | rfl | rfl | rfl | rfl | rfl | rfl | rfl | rfl | rfl | rfl | rfl | rfl | rfl | rfl | rfl | rfl | rfl | rfl | rfl | rfl | rfl | rfl | rfl | rfl | rfl | rfl | rfl | rfl | rfl | rfl | rfl | rfl | rfl | rfl | rfl | rfl
  · exact w_c0
  · exact w_c1
  · exact w_c2
  · exact w_c3
  · exact w_c4
  · exact w_c5
  · exact w_c6
  · exact w_c7
  · exact w_c8
  · exact w_c9
  · exact w_c10
  · exact w_c11
  · exact w_c12
  · exact w_c13
  · exact w_c14
  · exact w_c15
  · exact w_c16
  · exact w_c17
  · exact w_c18
  · exact w_c19
  · exact w_c20
  · exact w_c21
  · exact w_c22
  · exact w_c23
  · exact w_c24
  · exact w_c25
  · exact w_c26
  · exact w_c27
  · exact w_c28
  · exact w_c29
  · exact w_c30
  · exact w_c31
  · exact w_c32
  · exact w_c33
  · exact w_c34
  · exact w_c35
  · exact w_c36
  · exact w_c37
  · exact w_c38
  · exact w_c39
  · exact w_c40
  · exact w_c41
  · exact w_c42
set_option maxRecDepth 65536 in
theorem w_t1 : (words1.take 24).all (fun c => isCode c || c.before args0 about1) = true := by decide +kernel
set_option maxRecDepth 65536 in
theorem w_t2 : ((words1.drop 24).take 24).all (fun c => isCode c || c.before args0 about1) = true := by decide +kernel
set_option maxRecDepth 65536 in
theorem w_t3 : (((words1.drop 24).drop 24).take 24).all (fun c => isCode c || c.before args0 about1) = true := by decide +kernel
set_option maxRecDepth 65536 in
theorem w_t4 : ((((words1.drop 24).drop 24).drop 24).take 24).all (fun c => isCode c || c.before args0 about1) = true := by decide +kernel
set_option maxRecDepth 65536 in
theorem w_t5 : (((((words1.drop 24).drop 24).drop 24).drop 24).take 24).all (fun c => isCode c || c.before args0 about1) = true := by decide +kernel
set_option maxRecDepth 65536 in
theorem w_t6 : ((((((words1.drop 24).drop 24).drop 24).drop 24).drop 24).take 24).all (fun c => isCode c || c.before args0 about1) = true := by decide +kernel
set_option maxRecDepth 65536 in
theorem w_t7 : (((((((words1.drop 24).drop 24).drop 24).drop 24).drop 24).drop 24).take 24).all (fun c => isCode c || c.before args0 about1) = true := by decide +kernel
set_option maxRecDepth 65536 in
theorem w_t8 : ((((((((words1.drop 24).drop 24).drop 24).drop 24).drop 24).drop 24).drop 24).take 24).all (fun c => isCode c || c.before args0 about1) = true := by decide +kernel
set_option maxRecDepth 65536 in
theorem w_t9 : (((((((((words1.drop 24).drop 24).drop 24).drop 24).drop 24).drop 24).drop 24).drop 24).take 24).all (fun c => isCode c || c.before args0 about1) = true := by decide +kernel
set_option maxRecDepth 65536 in
theorem w_t10 : (((((((((words1.drop 24).drop 24).drop 24).drop 24).drop 24).drop 24).drop 24).drop 24).drop 24).all (fun c => isCode c || c.before args0 about1) = true := by decide +kernel
theorem w_tables : (allAtoms (Jvm.Cond.code x code maxLocals ret :: tables_1)).before args0 about1 = true := by
  rw [allAtoms_all]
  show words1.all (fun c => c.before args0 about1) = true
  refine all_split ?_ w_codes
  rw [← List.take_append_drop 24 words1, List.all_append, w_t1, ← List.take_append_drop 24 (words1.drop 24), List.all_append, w_t2, ← List.take_append_drop 24 ((words1.drop 24).drop 24), List.all_append, w_t3, ← List.take_append_drop 24 (((words1.drop 24).drop 24).drop 24), List.all_append, w_t4, ← List.take_append_drop 24 ((((words1.drop 24).drop 24).drop 24).drop 24), List.all_append, w_t5, ← List.take_append_drop 24 (((((words1.drop 24).drop 24).drop 24).drop 24).drop 24), List.all_append, w_t6, ← List.take_append_drop 24 ((((((words1.drop 24).drop 24).drop 24).drop 24).drop 24).drop 24), List.all_append, w_t7, ← List.take_append_drop 24 (((((((words1.drop 24).drop 24).drop 24).drop 24).drop 24).drop 24).drop 24), List.all_append, w_t8, ← List.take_append_drop 24 ((((((((words1.drop 24).drop 24).drop 24).drop 24).drop 24).drop 24).drop 24).drop 24), List.all_append, w_t9, w_t10]
  rfl
set_option maxRecDepth 65536 in
theorem w_rest : rest_1_c.before args0 about1 = true := by decide +kernel
set_option maxRecDepth 65536 in
theorem w_case : (Jvm.Cond.and given_1 narrow_1).before args0 about1 = true := by decide +kernel
set_option maxRecDepth 65536 in
theorem w_consts : constsHeld consts_1 about1 := Jvm.Lit.constsHeldB_iff.mp (by decide +kernel)
theorem w_applies : (headSpec (Jvm.Cond.code x code maxLocals ret :: tables_1) room_1).applies x e0.platform about1 = true :=
  (Spec.applies_iff w_frames).mpr ⟨w_running, w_runnable, w_alone, w_named, w_hears, w_ripe, w_room, w_tables⟩
theorem atStart : AtStart classFile x code maxLocals ret World_1 tables_1 room_1 Calls_1 rest_1 Pre_1 launch0 p0 e0 about1 theMethod args0 below0 :=
  ⟨lists_1, trivial, launch0.admits_env _ _ _, launch0.least_env, fairChoices_fair.cas, fairChoices_fair.clock, w_frames, w_args, w_heap, w_applies, ⟨w_consts, trivial⟩, w_rest, w_case⟩
end start1
theorem witness_1 : WitnessClaimed_1 := ⟨start1.p0, start1.e0, start1.about1, start1.theMethod, start1.args0, start1.below0, start1.atStart⟩
end Jvm.Pilot.@@N@@
