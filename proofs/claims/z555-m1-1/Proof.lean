import JvmDerived
import JvmDerived.Pilot.@@N@@Statement
import JvmDerived.Pilot.@@N@@Code
set_option linter.unusedVariables false
set_option linter.unusedSimpArgs false
namespace Jvm.RoadKit
open Sem ClassFile Op Lib Jvm.Stand Jvm.Free Jvm.LawKit
section New
variable {p : Program} {l : Launch} {e : Env} {R : Room} {s : State} {m : MethodId} {args : Array Value} {below : List Frame} {meth : Method} {c : Code} {T : State} {locs : List Loc} {cells slots : Nat}
theorem retI (X : Stand p l e R s m args below meth c T locs cells slots) (hx : p.tables.exec = Jvm.exec) {pc : Nat} {Ls : Array Slot} {z : Int32} {rest : List Value} (hret : meth.sig.returnType = some .int) (hd : decode c.code pc = .ok (.ireturn, 1)) {fs : List Frame}
    (hl : ∀ (f : JFrame) (acts : List Action), f.method = m → f.locked = none → f.entered = [] → (doReturn e (T.setTop f) acts (some (.int z))).1 = T.setFrames fs) : Steps p.tables e below (T.setTop (mkF m pc Ls (.int z :: rest))) (T.setFrames fs) := by
  have hm' : T.vm.method? m = some meth := X.method'
  have hn : narrow .int (.int z) = .int z := rfl
  show Steps p.tables e below (T.setTop { method := m, pc := pc, locals := Ls, stack := _ :: rest, locked := none }) _
  jvm_step X.here [X.here.top, hx, hd, hm', hret, hn]
  first | (intro acts; rw [hl _ acts rfl rfl rfl]) | rw [hl _ _ rfl rfl rfl]
  exact Steps.refl _
end New
end Jvm.RoadKit
namespace Jvm.Pilot.@@N@@
open Jvm Jvm.ClassFile Sem Op Lib Jvm.Free Jvm.Stand Jvm.LawKit Jvm.RoadKit Bundle Jvm.Pilot.@@N@@.Jvm.D
def own_b (c : Int32) : Int32 := nar .byte c.toInt8.toInt32
def own_wl (c : Int32) : Int32 := nar .byte (c >>> ((0 : Int32) &&& 31)).toInt8.toInt32
def own_wh (c : Int32) : Int32 := nar .byte (c >>> ((8 : Int32) &&& 31)).toInt8.toInt32
def own_nrw (cs : List Int32) : List Value := cs.map fun c => Value.int (own_b c)
def own_wide : List Int32 → List Value
  | [] => []
  | c :: r => .int (own_wl c) :: .int (own_wh c) :: own_wide r
def own_Cod (cs : List Int32) (cd z : Int32) (vs : List Value) : Prop := (cd = 0 ∧ z = Int32.ofNat cs.length ∧ vs = own_nrw cs ∧ ∀ c ∈ cs, ¬ (255 : Int32) < c) ∨ (cd = 1 ∧ z = Int32.ofNat (2 * cs.length) ∧ vs = own_wide cs)
def own_Chs (cs : List Int32) : Prop := (∀ c ∈ cs, ¬ c < (0 : Int32) ∧ ¬ (65535 : Int32) < c) ∧ cs.length < 1000
def own_Str (Z : State) (h : Heap) (x : Addr) (cs : List Int32) : Prop := ∃ (t : Addr) (k : ClassId) (cd z : Int32) (vs : List Value), Exa Z h x "java/lang/String" ∧ Fld Z h x "java/lang/String" "value" "[B" (.ref t) ∧ Fld Z h x "java/lang/String" "coder" "B" (.int cd) ∧ Arv Z h t k .byte z vs (.int (0 : Int32)) ∧ own_Cod cs cd z vs ∧ own_Chs cs
theorem own_Str.exa {Z : State} {h : Heap} {x : Addr} {cs : List Int32} (F : own_Str Z h x cs) : Exa Z h x "java/lang/String" := by obtain ⟨_, _, _, _, _, E, -⟩ := F; exact E
theorem own_Str.lt {Z : State} {h : Heap} {x : Addr} {cs : List Int32} (F : own_Str Z h x cs) : x < h.size := F.exa.lt
theorem own_Str.ext {Z : State} {h h' : Heap} {x : Addr} {cs : List Int32} (F : own_Str Z h x cs) (E : Ext h h') : own_Str Z h' x cs := by
  obtain ⟨t, k, cd, z, vs, e, f, g, a, r⟩ := F; exact ⟨t, k, cd, z, vs, e.ext E, f.ext E, g.ext E, a.ext E, r⟩
theorem own_Str.keep {Z : State} {h h' : Heap} {x : Addr} {cs : List Int32} {ws : List Addr} (F : own_Str Z h x cs) (K : Keep h h' ws) (q : ∀ w ∈ ws, h.size ≤ w) : own_Str Z h' x cs := by
  obtain ⟨t, k, cd, z, vs, e, f, g, a, r⟩ := F
  have n1 : x ∉ ws := fun hx => absurd e.lt (Nat.not_lt.mpr (q x hx))
  have n2 : t ∉ ws := fun hx => absurd a.lt (Nat.not_lt.mpr (q t hx))
  exact ⟨t, k, cd, z, vs, e.keep K, f.keep K n1, g.keep K n1, a.keep K n2, r⟩
theorem own_ofI {n : Nat} (h : n < 2 ^ 31) : (Int32.ofNat n).toInt = n := Int32.toInt_ofNat_of_lt h
theorem own_getb : ∀ (cs : List Int32) (j : Nat), j < cs.length → (own_nrw cs).getD j (.int (0 : Int32)) = .int (own_b (cs.getD j 0))
  | [], _, h => nomatch h
  | _ :: _, 0, _ => rfl
  | _ :: r, j + 1, h => own_getb r j (Nat.lt_of_succ_lt_succ h)
theorem own_getw : ∀ (cs : List Int32) (j : Nat), j < cs.length → (own_wide cs).getD (2 * j) (.int (0 : Int32)) = .int (own_wl (cs.getD j 0)) ∧ (own_wide cs).getD (2 * j + 1) (.int (0 : Int32)) = .int (own_wh (cs.getD j 0))
  | [], _, h => nomatch h
  | _ :: _, 0, _ => ⟨rfl, rfl⟩
  | _ :: r, j + 1, h => own_getw r j (Nat.lt_of_succ_lt_succ h)
theorem own_mem {cs : List Int32} {j : Nat} (h : j < cs.length) : cs.getD j 0 ∈ cs := by rw [List.getD_eq_getElem?_getD, List.getElem?_eq_getElem h]; exact List.getElem_mem h
theorem own_narc {c : Int32} (h : ¬ c < (0 : Int32) ∧ ¬ (65535 : Int32) < c) : nar .char c = c := by
  have q := c_i2c c
  have e0 : (0 : Int32).toInt = 0 := by decide
  have e1 : (65535 : Int32).toInt = 65535 := by decide
  simp only [Int32.lt_iff_toInt_lt] at h
  exact Int32.toInt_inj.mp (by show (c.toUInt32.toUInt16.toUInt32.toInt32).toInt = _; omega)
theorem own_rec8 {c : Int32} (h0 : ¬ c < (0 : Int32)) (h1 : ¬ (255 : Int32) < c) : nar .char (own_b c &&& (255 : Int32)).toUInt32.toUInt16.toUInt32.toInt32 = c := by
  have e0 : (0 : Int32).toInt = 0 := by decide
  have e1 : (255 : Int32).toInt = 255 := by decide
  simp only [Int32.lt_iff_toInt_lt] at h0 h1
  have a1 := c_i2b c
  have a2 := c_i2b c.toInt8.toInt32
  have a3 := c_mask (own_b c) 255 8 (by decide) (by decide)
  have e : own_b c = (c.toInt8.toInt32).toInt8.toInt32 := rfl
  rw [← e] at a2
  have a4 := c_i2c (own_b c &&& 255)
  have hh : (own_b c &&& (255 : Int32)).toUInt32.toUInt16.toUInt32.toInt32 = c := Int32.toInt_inj.mp (by omega)
  rw [hh]; exact own_narc ⟨by simp only [Int32.lt_iff_toInt_lt]; omega, by
    have e2 : (65535 : Int32).toInt = 65535 := by decide
    simp only [Int32.lt_iff_toInt_lt]; omega⟩
theorem own_len0 {n : Nat} (h : n < 1000) : Int32.ofNat n = Int32.ofNat n >>> ((0 : Int32) &&& 31) := by
  have a := c_ishr (Int32.ofNat n) 0 0 (by decide)
  exact Int32.toInt_inj.mp (by rw [a]; simp)
theorem own_len1 {n : Nat} (h : n < 1000) : Int32.ofNat n = Int32.ofNat (2 * n) >>> ((1 : Int32) &&& 31) := by
  have a := c_ishr (Int32.ofNat (2 * n)) 1 1 (by decide)
  exact Int32.toInt_inj.mp (by rw [a, own_ofI (by omega), own_ofI (by omega)]; omega)
theorem own_inr {i : Int32} {n : Nat} (h0 : ¬ i < 0) (h : i.toNatClampNeg < n) (hn : n < 1000) : i < Int32.ofNat n := by
  have := nat_of h0
  rw [Int32.lt_iff_toInt_lt, own_ofI (by omega)]; omega
theorem own_jin {i : Int32} {j : Nat} (hi : i = Int32.ofNat j) (hj : j < 2000) : ¬ i < (0 : Int32) ∧ i.toNatClampNeg = j := by
  subst hi
  have e0 : (0 : Int32).toInt = 0 := by decide
  have e := own_ofI (n := j) (by omega)
  simp only [Int32.lt_iff_toInt_lt, Int32.toNatClampNeg]; omega
theorem own_ofne {j n : Nat} (h : j < n) (hn : n < 1000) : ¬ Int32.ofNat j = Int32.ofNat n := fun q => by
  have e1 := own_ofI (n := j) (by omega)
  have e2 := own_ofI (n := n) (by omega)
  rw [q] at e1; omega
theorem own_shl {i : Int32} {n : Nat} (h0 : ¬ i < 0) (h : i.toNatClampNeg < n) (hn : n < 1000) : (i <<< ((1 : Int32) &&& 31)).toNatClampNeg = 2 * i.toNatClampNeg ∧ ((i <<< ((1 : Int32) &&& 31)) + (1 : Int32)).toNatClampNeg = 2 * i.toNatClampNeg + 1 ∧ (¬ (i <<< ((1 : Int32) &&& 31)) < 0 ∧ (i <<< ((1 : Int32) &&& 31)) < Int32.ofNat (2 * n)) ∧ (¬ ((i <<< ((1 : Int32) &&& 31)) + (1 : Int32)) < 0 ∧ ((i <<< ((1 : Int32) &&& 31)) + (1 : Int32)) < Int32.ofNat (2 * n)) := by
  have a := nat_of h0
  have b := c_ishl i 1 1 (by decide)
  have r := rng32 (i <<< ((1 : Int32) &&& 31))
  have c := c_iadd (i <<< ((1 : Int32) &&& 31)) 1
  have r2 := rng32 ((i <<< ((1 : Int32) &&& 31)) + 1)
  have e0 : (0 : Int32).toInt = 0 := by decide
  have e1 : (1 : Int32).toInt = 1 := by decide
  have e2 := own_ofI (n := 2 * n) (by omega)
  simp only [Int32.lt_iff_toInt_lt, Int32.toNatClampNeg] at *
  refine ⟨?_, ?_, ⟨?_, ?_⟩, ?_, ?_⟩ <;> omega
theorem own_rec16 {c : Int32} (h0 : ¬ c < (0 : Int32)) (h1 : ¬ (65535 : Int32) < c) : nar .char (((own_wl c &&& (255 : Int32)) <<< ((0 : Int32) &&& 31)) ||| ((own_wh c &&& (255 : Int32)) <<< ((8 : Int32) &&& 31))).toUInt32.toUInt16.toUInt32.toInt32 = c := by
  have e0 : (0 : Int32).toInt = 0 := by decide
  have e1 : (65535 : Int32).toInt = 65535 := by decide
  have hc : ¬ c < (0 : Int32) ∧ ¬ (65535 : Int32) < c := ⟨h0, h1⟩
  simp only [Int32.lt_iff_toInt_lt] at h0 h1
  have s0 := c_ishr c 0 0 (by decide)
  have s8 := c_ishr c 8 8 (by decide)
  have a1 := c_i2b (c >>> ((0 : Int32) &&& 31))
  have a2 := c_i2b (c >>> ((0 : Int32) &&& 31)).toInt8.toInt32
  have a3 := c_i2b (c >>> ((8 : Int32) &&& 31))
  have a4 := c_i2b (c >>> ((8 : Int32) &&& 31)).toInt8.toInt32
  have el : own_wl c = ((c >>> ((0 : Int32) &&& 31)).toInt8.toInt32).toInt8.toInt32 := rfl
  have eh : own_wh c = ((c >>> ((8 : Int32) &&& 31)).toInt8.toInt32).toInt8.toInt32 := rfl
  rw [← el] at a2; rw [← eh] at a4
  have m1 := c_mask (own_wl c) 255 8 (by decide) (by decide)
  have m2 := c_mask (own_wh c) 255 8 (by decide) (by decide)
  have l0 := c_ishl (own_wl c &&& 255) 0 0 (by decide)
  have l8 := c_ishl (own_wh c &&& 255) 8 8 (by decide)
  have r0 := rng32 ((own_wl c &&& 255) <<< ((0 : Int32) &&& 31))
  have r8 := rng32 ((own_wh c &&& 255) <<< ((8 : Int32) &&& 31))
  have o := c_or' ((own_wl c &&& 255) <<< ((0 : Int32) &&& 31)) ((own_wh c &&& 255) <<< ((8 : Int32) &&& 31)) 8 (by decide) 256 (by decide) (by omega) (by omega) (by omega)
  have ro := rng32 (((own_wl c &&& 255) <<< ((0 : Int32) &&& 31)) ||| ((own_wh c &&& 255) <<< ((8 : Int32) &&& 31)))
  have ch := c_i2c (((own_wl c &&& 255) <<< ((0 : Int32) &&& 31)) ||| ((own_wh c &&& 255) <<< ((8 : Int32) &&& 31)))
  have hh : (((own_wl c &&& (255 : Int32)) <<< ((0 : Int32) &&& 31)) ||| ((own_wh c &&& (255 : Int32)) <<< ((8 : Int32) &&& 31))).toUInt32.toUInt16.toUInt32.toInt32 = c := Int32.toInt_inj.mp (by omega)
  rw [hh]; exact own_narc hc
def own_St (Z : State) (zc : Int32) (fm : Value) : Prop := Sta Z Z.heap "java/lang/String" "COMPACT_STRINGS" "Z" (.int zc) ∧ ¬ zc = (0 : Int32) ∧ Sta Z Z.heap "jdk/internal/util/Preconditions" "SIOOBE_FORMATTER" "Ljava/util/function/BiFunction;" fm ∧ fm.isRef = true ∧ Sta Z Z.heap "java/lang/StringUTF16" "$assertionsDisabled" "Z" (.int (1 : Int32)) ∧ Sta Z Z.heap "java/lang/StringUTF16" "HI_BYTE_SHIFT" "I" (.int (0 : Int32)) ∧ Sta Z Z.heap "java/lang/StringUTF16" "LO_BYTE_SHIFT" "I" (.int (8 : Int32))
theorem own_allc {P : Int32 → Prop} {c : Int32} {L : List Int32} (h : P c) (r : ∀ x ∈ L, P x) : ∀ x ∈ c :: L, P x := fun x hx => (List.mem_cons.mp hx).elim (fun u => u ▸ h) (r x)
theorem own_nrwOf {Z : State} {h : Heap} {x : Addr} (F : Fld Z h x "java/lang/String" "coder" "B" (.int (0 : Int32))) : ∀ (t : Addr) (cd : Int32), Fld Z h x "java/lang/String" "coder" "B" (.int cd) → ¬ cd = 1 := fun _ cd G e => by
  subst e
  obtain ⟨c1, _, _, _, _, h1, h2, -, -, -, -, h7⟩ := F
  obtain ⟨c2, _, _, _, _, g1, g2, -, -, -, -, g7⟩ := G
  cases h1.symm.trans g1; cases h2.symm.trans g2; cases h7.symm.trans g7
def own_ma (cs : List Int32) : Nat → Nat → Int32
  | 0, _ => -1
  | k + 1, j => if j < cs.length then (if (¬ (cs.getD j 0) < (55296 : Int32) ∧ (cs.getD j 0) < (56320 : Int32)) then own_ma cs k (j + 2) else if (¬ (cs.getD j 0) < (56320 : Int32) ∧ (cs.getD j 0) < (57344 : Int32)) then Int32.ofNat j else own_ma cs k (j + 1)) else -1
theorem own_os {z0 z1 : Value} {s2 : Slot} {v : Int32} (h : One s2) : storeLocals #[.val z0, .val z1, s2] 2 (.int v) = some #[.val z0, .val z1, .val (.int v)] := by
  rcases h with rfl | ⟨w, rfl, hw⟩
  · rfl
  · cases w <;> first | rfl | (simp [Value.category] at hw)
theorem own_jlt {i : Int32} {j n : Nat} (hi : i = Int32.ofNat j) (hj : j < 2000) (hn : n < 1000) : i < Int32.ofNat n ↔ j < n := by
  subst hi; rw [Int32.lt_iff_toInt_lt, own_ofI (by omega), own_ofI (by omega)]; omega
theorem own_jup {i : Int32} {j : Nat} (hi : i = Int32.ofNat j) (hj : j < 2000) : i + (1 : Int32) = Int32.ofNat (j + 1) := by
  subst hi
  have e1 : (1 : Int32).toInt = 1 := by decide
  have e := own_ofI (n := j) (by omega)
  have e' := own_ofI (n := j + 1) (by omega)
  have a := c_iadd (Int32.ofNat j) 1
  have r := rng32 (Int32.ofNat j + 1)
  exact Int32.toInt_inj.mp (by omega)
def own_mal : List Int32 → Nat → Int32
  | [], _ => -1
  | [c], j => if (¬ c < (55296 : Int32) ∧ c < (56320 : Int32)) then -1 else if (¬ c < (56320 : Int32) ∧ c < (57344 : Int32)) then Int32.ofNat j else -1
  | c :: d :: r, j => if (¬ c < (55296 : Int32) ∧ c < (56320 : Int32)) then own_mal r (j + 2) else if (¬ c < (56320 : Int32) ∧ c < (57344 : Int32)) then Int32.ofNat j else own_mal (d :: r) (j + 1)
theorem own_mal1 {c : Int32} {r : List Int32} {j : Nat} (h1 : ¬ (¬ c < (55296 : Int32) ∧ c < (56320 : Int32))) (h2 : ¬ (¬ c < (56320 : Int32) ∧ c < (57344 : Int32))) : own_mal (c :: r) j = own_mal r (j + 1) := by
  cases r with
  | nil => simp only [own_mal, if_neg h1, if_neg h2]
  | cons d r => simp only [own_mal, if_neg h1, if_neg h2]
theorem own_mal2 {c : Int32} {r : List Int32} {j : Nat} (h1 : ¬ (¬ c < (55296 : Int32) ∧ c < (56320 : Int32))) (h2 : (¬ c < (56320 : Int32) ∧ c < (57344 : Int32))) : own_mal (c :: r) j = Int32.ofNat j := by
  cases r with
  | nil => simp only [own_mal, if_neg h1, if_pos h2]
  | cons d r => simp only [own_mal, if_neg h1, if_pos h2]
theorem own_mal_eq (cs : List Int32) : ∀ (k j : Nat), cs.length < j + k → own_ma cs k j = own_mal (cs.drop j) j := by
  intro k; induction k with
  | zero => intro j h; rw [List.drop_eq_nil_of_le (by omega)]; rfl
  | succ k ih =>
    intro j h
    by_cases hj : j < cs.length
    · have hd : cs.drop j = cs.getD j 0 :: cs.drop (j + 1) := by
        rw [List.getD_eq_getElem?_getD, List.getElem?_eq_getElem hj]; exact List.drop_eq_getElem_cons hj
      rw [own_ma, if_pos hj, hd]
      by_cases h1 : (¬ (cs.getD j 0) < (55296 : Int32) ∧ (cs.getD j 0) < (56320 : Int32))
      · rw [if_pos h1, ih _ (by omega)]
        by_cases hj2 : j + 1 < cs.length
        · have hd2 : cs.drop (j + 1) = cs.getD (j + 1) 0 :: cs.drop (j + 2) := by
            rw [List.getD_eq_getElem?_getD, List.getElem?_eq_getElem hj2]; exact List.drop_eq_getElem_cons hj2
          rw [hd2, own_mal, if_pos h1]
        · rw [List.drop_eq_nil_of_le (as := cs) (i := j + 1) (by omega), List.drop_eq_nil_of_le (by omega)]
          simp only [own_mal, if_pos h1]
      · rw [if_neg h1]
        by_cases h2 : (¬ (cs.getD j 0) < (56320 : Int32) ∧ (cs.getD j 0) < (57344 : Int32))
        · rw [if_pos h2, own_mal2 h1 h2]
        · rw [if_neg h2, own_mal1 h1 h2, ih _ (by omega)]
    · rw [own_ma, if_neg hj, List.drop_eq_nil_of_le (by omega)]; rfl
theorem own_hi {c : Int32} (h : 55296 ≤ c.toInt ∧ c.toInt < 56320) : (¬ c < (55296 : Int32) ∧ c < (56320 : Int32)) := by
  have e1 : (55296 : Int32).toInt = 55296 := by decide
  have e2 : (56320 : Int32).toInt = 56320 := by decide
  simp only [Int32.lt_iff_toInt_lt]; omega
theorem own_nhi {c : Int32} (h : c.toInt < 55296 ∨ 56320 ≤ c.toInt) : ¬ (¬ c < (55296 : Int32) ∧ c < (56320 : Int32)) := by
  have e1 : (55296 : Int32).toInt = 55296 := by decide
  have e2 : (56320 : Int32).toInt = 56320 := by decide
  simp only [Int32.lt_iff_toInt_lt]; omega
theorem own_lo {c : Int32} (h : 56320 ≤ c.toInt ∧ c.toInt < 57344) : (¬ c < (56320 : Int32) ∧ c < (57344 : Int32)) := by
  have e1 : (57344 : Int32).toInt = 57344 := by decide
  have e2 : (56320 : Int32).toInt = 56320 := by decide
  simp only [Int32.lt_iff_toInt_lt]; omega
theorem own_nlo {c : Int32} (h : c.toInt < 56320 ∨ 57344 ≤ c.toInt) : ¬ (¬ c < (56320 : Int32) ∧ c < (57344 : Int32)) := by
  have e1 : (57344 : Int32).toInt = 57344 := by decide
  have e2 : (56320 : Int32).toInt = 56320 := by decide
  simp only [Int32.lt_iff_toInt_lt]; omega
theorem own_backI {p : Program} {l : Launch} {e : Env} {R : Room} {s : State} {args : Array Value} {below : List Frame} {Z : State} {a0 : Array Value} {h : Heap} {y : MethodName} {bytes : ByteArray} {maxL : Nat} {ret : Option FieldType} {rm : Room} {len W : Nat} {as' : Array Value} {Q : Option Value → Heap → List Loc → Prop}
    (hM : MetFree l y (head1 [Jvm.Cond.code y bytes maxL ret] rm) (fun a U => a = as' ∧ Z.Warmed39 U.vm ∧ U.heap = h ∧ U.vm.interned = Z.vm.interned) (fun _ _ _ _ _ => True) (fun _ U o U' => ∃ v L, o = .returned v ∧ Q v U'.heap L ∧ ReturnedEndW U o U' L rm.cells rm.slots))
    (hI : s.vm.interned = Z.vm.interned) (hZ : Z.Warmed39 s.vm) (wc : (Jvm.Cond.code y bytes maxL ret).before a0 Z = true) (wz : (Jvm.Cond.initialized y.cls).before a0 Z = true) (hf : rm.frames + 1 ≤ R.frames) (hl : W + (maxL + 11) + rm.locals ≤ R.locals) :
    BackS l R p e below s args y len W (fun A a => a = as' ∧ A.U.heap = h ∧ A.cells + rm.cells ≤ R.cells ∧ A.slots + rm.slots ≤ R.slots) (fun A _ v B => ∃ L, Q v B.U.heap L ∧ B.locs = A.locs ++ L ∧ B.cells = A.cells + rm.cells ∧ B.slots = A.slots + rm.slots) := by
  refine BackS.of_freeW (bytes := bytes) (maxL := maxL) (ret := ret) (E := fun _ _ o t L k n => k = rm.cells ∧ n = rm.slots ∧ ∃ v, o = .returned v ∧ Q v t.heap L) hM hf hl ?_ ?_ (fun _ _ _ _ _ _ _ _ _ => trivial) ?_ ?_
  · intro m meth c A a Y hp
    have hU : Z.Warmed39 A.U.vm := wtrans hZ Y.warmed
    exact ⟨by show (Jvm.Cond.and _ .tt).before a A.U = true; rw [Cond.before_and, mv hU wc]; rfl, mv hU wc, mv hU wz, hp.2.2.1, hp.2.2.2⟩
  · intro m meth c A a g mk Y hp
    exact ⟨hp.1, wtrans hZ Y.warmed, hp.2.1, Y.warmed.interned_eq.trans hI⟩
  · rintro a first o t ⟨v, L, h1, h2, h3⟩
    exact ⟨L, _, _, h3, rfl, rfl, v, h1, h2⟩
  · rintro m meth c A a g mk v t L k n Y hp - - ⟨e1, e2, v', e3, e4⟩
    cases e3; subst e1 e2; exact ⟨L, e4, rfl, rfl, rfl⟩
theorem own_IB {Z s : State} {vm : Vm} (hI : s.vm.interned = Z.vm.interned) (hW : s.WarmedH vm) : IB Z vm [] := ⟨#[], by rw [hW.interned_eq, hI]; simp, fun q hq => by simp at hq⟩
theorem own_wS {a0 : Array Value} {Z : State} (hw : ∀ d ∈ tables_1, d.before a0 Z = true) : ∀ a ∈ Bundle.stringAtoms, a.before a0 Z = true := by
  intro a ha
  simp only [Bundle.stringAtoms, Bundle.sN, List.mem_cons, List.not_mem_nil, or_false] at ha
  rcases ha with rfl | rfl | rfl | rfl | rfl | rfl | rfl
  · exact (hw _ (List.mem_of_getElem? (i := 3) rfl))
  · exact (hw _ (List.mem_of_getElem? (i := 2) rfl))
  · exact (hw _ (List.mem_of_getElem? (i := 15) rfl))
  · exact (hw _ (List.mem_of_getElem? (i := 16) rfl))
  · exact (hw _ (List.mem_of_getElem? (i := 17) rfl))
  · exact (hw _ (List.mem_of_getElem? (i := 18) rfl))
  · exact (hw _ (List.mem_of_getElem? (i := 19) rfl))
theorem own_sti {args : Array Value} {s : State} {C n d : String} {k : Int32} (h : (Jvm.Cond.eq (.static C n d) (.int k)).value args s none s [] = some true) : (Term.static C n d).eval args s none [] s = some (.int k) := by
  simp only [Cond.value, Term.int_eval] at h
  cases hq : (Term.static C n d).eval args s none [] s with
  | none => simp [hq] at h
  | some v => cases v <;> simp [hq] at h ⊢; exact h
def own_kn (t : Int32) : Int32 := if (4 : Int32) < (t &&& (7 : Int32)) then 0 else (t &&& (7 : Int32))
def own_bm (p : Int32) : Int32 := nar .char (if (p &&& (65535 : Int32)) < (55296 : Int32) then ((p &&& (65535 : Int32)).toUInt32.toUInt16.toUInt32.toInt32) else if (57343 : Int32) < (p &&& (65535 : Int32)) then ((p &&& (65535 : Int32)).toUInt32.toUInt16.toUInt32.toInt32) else (((p &&& (65535 : Int32)) - (16384 : Int32)).toUInt32.toUInt16.toUInt32.toInt32))
def own_es (p : Int32) : Int32 := nar .char (((56320 : Int32) + (p &&& (255 : Int32))).toUInt32.toUInt16.toUInt32.toInt32)
def own_u0 (t : Int32) : Int32 := nar .char (if own_kn t = 0 then own_bm ((t.toUInt32 >>> ((3 : Int32) &&& 31).toUInt32).toInt32) else if own_kn t = 1 then (((55296 : Int32) + (((t.toUInt32 >>> ((3 : Int32) &&& 31).toUInt32).toInt32) &&& (1023 : Int32))).toUInt32.toUInt16.toUInt32.toInt32) else if own_kn t = 2 then own_es ((t.toUInt32 >>> ((3 : Int32) &&& 31).toUInt32).toInt32) else if own_kn t = 3 then own_bm ((((t.toUInt32 >>> ((3 : Int32) &&& 31).toUInt32).toInt32).toUInt32 >>> ((8 : Int32) &&& 31).toUInt32).toInt32) else own_es ((t.toUInt32 >>> ((3 : Int32) &&& 31).toUInt32).toInt32))
def own_u1 (t : Int32) : Int32 := nar .char (if own_kn t = 0 then own_bm ((((t.toUInt32 >>> ((3 : Int32) &&& 31).toUInt32).toInt32).toUInt32 >>> ((13 : Int32) &&& 31).toUInt32).toInt32) else if own_kn t = 1 then (((56320 : Int32) + (((((t.toUInt32 >>> ((3 : Int32) &&& 31).toUInt32).toInt32).toUInt32 >>> ((10 : Int32) &&& 31).toUInt32).toInt32) &&& (1023 : Int32))).toUInt32.toUInt16.toUInt32.toInt32) else if own_kn t = 2 then own_bm ((((t.toUInt32 >>> ((3 : Int32) &&& 31).toUInt32).toInt32).toUInt32 >>> ((8 : Int32) &&& 31).toUInt32).toInt32) else if own_kn t = 3 then own_es ((t.toUInt32 >>> ((3 : Int32) &&& 31).toUInt32).toInt32) else own_es ((((t.toUInt32 >>> ((3 : Int32) &&& 31).toUInt32).toInt32).toUInt32 >>> ((8 : Int32) &&& 31).toUInt32).toInt32))
def own_v0 (t : Int32) : Int32 := nar .char (own_u0 t)
def own_v1 (t : Int32) : Int32 := nar .char (own_u1 t)
def own_i0 (t : Int32) : Prop := own_kn t = 4 ∨ own_kn t = 2
def own_i1 (t : Int32) : Prop := own_kn t = 4 ∨ own_kn t = 3
instance own_d0 (t : Int32) : Decidable (own_i0 t) := inferInstanceAs (Decidable (_ ∨ _))
instance own_d1 (t : Int32) : Decidable (own_i1 t) := inferInstanceAs (Decidable (_ ∨ _))
theorem own_i2c {x : Int32} (h : 0 ≤ x.toInt ∧ x.toInt < 65536) : x.toUInt32.toUInt16.toUInt32.toInt32 = x := by
  have a := c_i2c x
  exact Int32.toInt_inj.mp (by omega)
theorem own_nari {x : Int32} (h : 0 ≤ x.toInt ∧ x.toInt < 65536) : nar .char x = x := own_i2c h
theorem own_bmr (p : Int32) : 0 ≤ (own_bm p).toInt ∧ (own_bm p).toInt < 65536 ∧ ((own_bm p).toInt < 55296 ∨ 57344 ≤ (own_bm p).toInt) := by
  have m := c_mask p 65535 16 (by decide) (by decide)
  unfold own_bm; generalize (p &&& (65535 : Int32)) = x at *
  have e1 : (55296 : Int32).toInt = 55296 := by decide
  have e2 : (57343 : Int32).toInt = 57343 := by decide
  have e3 : (16384 : Int32).toInt = 16384 := by decide
  have s := c_isub x 16384
  have r := rng32 (x - 16384)
  simp only [Int32.lt_iff_toInt_lt]
  by_cases h1 : x.toInt < (55296 : Int32).toInt
  · rw [if_pos h1, own_i2c (by omega), own_nari (by omega)]; omega
  · rw [if_neg h1]
    by_cases h2 : (57343 : Int32).toInt < x.toInt
    · rw [if_pos h2, own_i2c (by omega), own_nari (by omega)]; omega
    · rw [if_neg h2, own_i2c (by omega), own_nari (by omega)]; omega
theorem own_add {b x : Int32} {B n : Int} (hb : b.toInt = B) (hx : 0 ≤ x.toInt ∧ x.toInt < n) (h0 : 0 ≤ B) (h1 : B + n ≤ 65536) : 0 ≤ B ∧ (b + x).toUInt32.toUInt16.toUInt32.toInt32.toInt = B + x.toInt := by
  have s := c_iadd b x
  have r := rng32 (b + x)
  refine ⟨h0, ?_⟩
  rw [own_i2c (by omega)]; omega
theorem own_esr (p : Int32) : 56320 ≤ (own_es p).toInt ∧ (own_es p).toInt < 56576 := by
  have m := c_mask p 255 8 (by decide) (by decide)
  have q := (own_add (b := 56320) (x := p &&& 255) (B := 56320) (n := 256) (by decide) (by omega) (by omega) (by omega)).2
  unfold own_es; rw [own_nari (by omega)]; omega
theorem own_hr (a : Int32) : 55296 ≤ ((((55296 : Int32) + (a &&& (1023 : Int32))).toUInt32.toUInt16.toUInt32.toInt32)).toInt ∧ ((((55296 : Int32) + (a &&& (1023 : Int32))).toUInt32.toUInt16.toUInt32.toInt32)).toInt < 56320 := by
  have m := c_mask a 1023 10 (by decide) (by decide)
  have q := (own_add (b := 55296) (x := a &&& 1023) (B := 55296) (n := 1024) (by decide) (by omega) (by omega) (by omega)).2
  omega
theorem own_lr (a : Int32) : 56320 ≤ ((((56320 : Int32) + (a &&& (1023 : Int32))).toUInt32.toUInt16.toUInt32.toInt32)).toInt ∧ ((((56320 : Int32) + (a &&& (1023 : Int32))).toUInt32.toUInt16.toUInt32.toInt32)).toInt < 57344 := by
  have m := c_mask a 1023 10 (by decide) (by decide)
  have q := (own_add (b := 56320) (x := a &&& 1023) (B := 56320) (n := 1024) (by decide) (by omega) (by omega) (by omega)).2
  omega
theorem own_vr (x : Int32) : ¬ (nar .char x) < (0 : Int32) ∧ ¬ (65535 : Int32) < nar .char x := by
  have q := c_i2c x
  have e0 : (0 : Int32).toInt = 0 := by decide
  have e1 : (65535 : Int32).toInt = 65535 := by decide
  rw [Int32.lt_iff_toInt_lt, Int32.lt_iff_toInt_lt, e0, e1]
  exact ⟨Int.not_lt.mpr q.2.1, Int.not_lt.mpr (Int.le_of_lt_add_one q.2.2)⟩
theorem own_kc (t : Int32) : own_kn t = 0 ∨ own_kn t = 1 ∨ own_kn t = 2 ∨ own_kn t = 3 ∨ own_kn t = 4 := by
  have h := c_mask t 7 3 (by decide) (by decide)
  have e4 : (4 : Int32).toInt = 4 := by decide
  have q : (own_kn t).toInt = 0 ∨ (own_kn t).toInt = 1 ∨ (own_kn t).toInt = 2 ∨ (own_kn t).toInt = 3 ∨ (own_kn t).toInt = 4 := by
    unfold own_kn; by_cases g : (4 : Int32) < (t &&& (7 : Int32))
    · rw [if_pos g]; exact Or.inl (by decide)
    · rw [if_neg g]; rw [Int32.lt_iff_toInt_lt] at g; omega
  rcases q with q | q | q | q | q
  · exact Or.inl (Int32.toInt_inj.mp (q.trans (by decide)))
  · exact Or.inr (Or.inl (Int32.toInt_inj.mp (q.trans (by decide))))
  · exact Or.inr (Or.inr (Or.inl (Int32.toInt_inj.mp (q.trans (by decide)))))
  · exact Or.inr (Or.inr (Or.inr (Or.inl (Int32.toInt_inj.mp (q.trans (by decide))))))
  · exact Or.inr (Or.inr (Or.inr (Or.inr (Int32.toInt_inj.mp (q.trans (by decide))))))
theorem own_mc (n : Int32) (h0 : ¬ (n &&& (3 : Int32)) = 0) (h1 : ¬ (n &&& (3 : Int32)) = 1) (h2 : ¬ (n &&& (3 : Int32)) = 2) : (n &&& (3 : Int32)) = 3 := by
  have h := c_mask n 3 2 (by decide) (by decide)
  have q : (n &&& (3 : Int32)).toInt = 0 ∨ (n &&& (3 : Int32)).toInt = 1 ∨ (n &&& (3 : Int32)).toInt = 2 ∨ (n &&& (3 : Int32)).toInt = 3 := by omega
  rcases q with q | q | q | q
  · exact absurd (Int32.toInt_inj.mp (q.trans (by decide))) h0
  · exact absurd (Int32.toInt_inj.mp (q.trans (by decide))) h1
  · exact absurd (Int32.toInt_inj.mp (q.trans (by decide))) h2
  · exact Int32.toInt_inj.mp (q.trans (by decide))
theorem own_pairU (t : Int32) (r : List Int32) (j : Nat) : (own_i0 t → own_mal (own_v0 t :: own_v1 t :: r) j = Int32.ofNat j) ∧ (¬ own_i0 t → own_i1 t → own_mal (own_v0 t :: own_v1 t :: r) j = Int32.ofNat (j + 1)) ∧ (¬ own_i0 t → ¬ own_i1 t → own_mal (own_v0 t :: own_v1 t :: r) j = own_mal r (j + 2)) := by
  have n2 : ∀ x : Int32, 0 ≤ x.toInt ∧ x.toInt < 65536 → nar .char (nar .char x) = x := fun x h => by rw [own_nari h, own_nari h]
  unfold own_i0 own_i1 own_v0 own_v1 own_u0 own_u1
  rcases own_kc t with k | k | k | k | k
  · rw [k]
    have b0 := own_bmr ((t.toUInt32 >>> ((3 : Int32) &&& 31).toUInt32).toInt32)
    have b1 := own_bmr ((((t.toUInt32 >>> ((3 : Int32) &&& 31).toUInt32).toInt32).toUInt32 >>> ((13 : Int32) &&& 31).toUInt32).toInt32)
    refine ⟨fun h => absurd h (by decide), fun _ h => absurd h (by decide), fun _ _ => ?_⟩
    show own_mal (nar .char (nar .char (own_bm _)) :: nar .char (nar .char (own_bm _)) :: r) j = _
    rw [n2 _ (by omega), n2 _ (by omega), own_mal1 (own_nhi (by omega)) (own_nlo (by omega)), own_mal1 (own_nhi (by omega)) (own_nlo (by omega))]
  · rw [k]
    have b0 := own_hr ((t.toUInt32 >>> ((3 : Int32) &&& 31).toUInt32).toInt32)
    refine ⟨fun h => absurd h (by decide), fun _ h => absurd h (by decide), fun _ _ => ?_⟩
    show own_mal (nar .char (nar .char (((55296 : Int32) + (((t.toUInt32 >>> ((3 : Int32) &&& 31).toUInt32).toInt32) &&& (1023 : Int32))).toUInt32.toUInt16.toUInt32.toInt32)) :: nar .char (nar .char _) :: r) j = _
    rw [n2 _ (by omega), own_mal, if_pos (own_hi b0)]
  · rw [k]
    have b0 := own_esr ((t.toUInt32 >>> ((3 : Int32) &&& 31).toUInt32).toInt32)
    refine ⟨fun _ => ?_, fun h => absurd (by decide) h, fun h => absurd (by decide) h⟩
    show own_mal (nar .char (nar .char (own_es _)) :: _) j = _
    rw [n2 _ (by omega), own_mal2 (own_nhi (by omega)) (own_lo (by omega))]
  · rw [k]
    have b0 := own_bmr ((((t.toUInt32 >>> ((3 : Int32) &&& 31).toUInt32).toInt32).toUInt32 >>> ((8 : Int32) &&& 31).toUInt32).toInt32)
    have b1 := own_esr ((t.toUInt32 >>> ((3 : Int32) &&& 31).toUInt32).toInt32)
    refine ⟨fun h => absurd h (by decide), fun _ _ => ?_, fun _ h => absurd (by decide) h⟩
    show own_mal (nar .char (nar .char (own_bm _)) :: nar .char (nar .char (own_es _)) :: r) j = _
    rw [n2 _ (by omega), n2 _ (by omega), own_mal1 (own_nhi (by omega)) (own_nlo (by omega)), own_mal2 (own_nhi (by omega)) (own_lo (by omega))]
  · rw [k]
    have b0 := own_esr ((t.toUInt32 >>> ((3 : Int32) &&& 31).toUInt32).toInt32)
    refine ⟨fun _ => ?_, fun h => absurd (by decide) h, fun h => absurd (by decide) h⟩
    show own_mal (nar .char (nar .char (own_es _)) :: _) j = _
    rw [n2 _ (by omega), own_mal2 (own_nhi (by omega)) (own_lo (by omega))]
theorem pn_com_example_abeyance_abeyance_model_Utf8ReaderMalformedAtPinLaw : plainName "com/example/abeyance/abeyance/model/Utf8ReaderMalformedAtPinLaw" = true := by first | (simp [plainName, overriddenIn]; done) | decide +kernel
theorem pn_com_example_abeyance_abeyance_model_Utf8Reader : plainName "com/example/abeyance/abeyance/model/Utf8Reader" = true := by first | (simp [plainName, overriddenIn]; done) | decide +kernel
theorem pn_java_lang_Character : plainName "java/lang/Character" = true := by first | (simp [plainName, overriddenIn]; done) | decide +kernel
theorem pn_java_lang_StringUTF16 : plainName "java/lang/StringUTF16" = true := by first | (simp [plainName, overriddenIn]; done) | decide +kernel
theorem pn_java_lang_StringLatin1 : plainName "java/lang/StringLatin1" = true := by first | (simp [plainName, overriddenIn]; done) | decide +kernel
theorem pn_java_lang_String : plainName "java/lang/String" = true := by first | (simp [plainName, overriddenIn]; done) | decide +kernel
theorem pn_jdk_internal_util_Preconditions : plainName "jdk/internal/util/Preconditions" = true := by first | (simp [plainName, overriddenIn]; done) | decide +kernel
theorem ef_rmPre (m : MethodId) (p0 : Int32) (p1 : Int32) (fm : Value) (hfm : fm.isRef = true) : entryFrame m #[(.int p0), (.int p1), fm] 3 = mkF m 0 #[.val (.int p0), .val (.int p1), .val fm] [] := by rcases ref_cases hfm with rfl | ⟨z, rfl⟩ <;> first | (simp [entryFrame, mkF, argsToLocals, Value.category]; done) | rfl
theorem d26_0 : decode jdk_41_method_11_code 0 = .ok (.iload_n 0, 1) := by decide +kernel
theorem d26_1 : decode jdk_41_method_11_code 1 = .ok (.ifCond .lt 8, 3) := by decide +kernel
theorem d26_4 : decode jdk_41_method_11_code 4 = .ok (.iload_n 0, 1) := by decide +kernel
theorem d26_5 : decode jdk_41_method_11_code 5 = .ok (.iload_n 1, 1) := by decide +kernel
theorem d26_6 : decode jdk_41_method_11_code 6 = .ok (.if_icmp .lt 10, 3) := by decide +kernel
theorem d26_16 : decode jdk_41_method_11_code 16 = .ok (.iload_n 0, 1) := by decide +kernel
theorem d26_17 : decode jdk_41_method_11_code 17 = .ok (.ireturn, 1) := by decide +kernel
def Q_rmPre (Z : State) (p0 : Int32) (p1 : Int32) (fm : Value) (h0 : Heap) (n0 : Nat) (v : Option Value) (h : Heap) (L : List Loc) : Prop := v = some (.int p0) ∧ Fr n0 L ∧ h = h0
set_option maxRecDepth 65536 in
set_option maxHeartbeats 40000000 in
theorem rmPre (l : Launch) (Z : State) (a0 : Array Value) (hw : ∀ d ∈ tables_1, d.before a0 Z = true) (ws : List Jvm.Cond) (p0 : Int32) (p1 : Int32) (fm : Value) (h0 : Heap) (n0 : Nat) (Z0 : n0 ≤ h0.size) (hfm : fm.isRef = true) (h0_ : ¬ p0 < (0 : Int32)) (h1_ : p0 < p1) :
    MetFree l (⟨"jdk/internal/util/Preconditions", "checkIndex", "(IILjava/util/function/BiFunction;)I"⟩ : MethodName) (head1 (Jvm.Cond.code (⟨"jdk/internal/util/Preconditions", "checkIndex", "(IILjava/util/function/BiFunction;)I"⟩ : MethodName) jdk_41_method_11_code 3 (some .int) :: ws) ({ frames := 0, cells := 0, slots := 0, locals := 0 } : Room)) (fun a U => a = #[(.int p0), (.int p1), fm] ∧ Z.Warmed39 U.vm ∧ U.heap = h0) (fun _ _ _ _ _ => True) (fun _ U o U' => ∃ v L, o = .returned v ∧ Q_rmPre Z p0 p1 fm h0 n0 v U'.heap L ∧ FrameEnd U o U' L ({ frames := 0, cells := 0, slots := 0, locals := 0 } : Room).cells ({ frames := 0, cells := 0, slots := 0, locals := 0 } : Room).slots) := by
  refine MetFree.of_bodySF (plainFor_of_name pn_jdk_internal_util_Preconditions) hisR ?_
  intro p e s m args below meth c s₁ Bd hml0 hP hK
  obtain ⟨rfl, hZ, hh⟩ := hP
  have hx := Bd.exec
  have hby := Bd.bytes
  have hml : c.maxLocals = 3 := hml0
  have hown : s.vm.findClass "jdk/internal/util/Preconditions" = some m.cls := findClass_of_methodNamed Bd.named
  have hnm := (name_of_methodNamed Bd.named Bd.method).1
  have hZo := hZ
  have howno := hown
  have X0 : Stand p l e ({ frames := 0, cells := 0, slots := 0, locals := 0 } : Room) s m #[(.int p0), (.int p1), fm] below meth c s₁ [] 0 0 := Stand.of_body Bd
  have e0 : s₁.heap = h0 := by rw [← hh, Bd.state]; rfl
  have N0 := Fr.nil n0
  have pre0 : ∀ t, Steps p.tables e below (s₁.setTop (mkF m 0 #[.val (.int p0), .val (.int p1), .val fm] [])) t → Steps p.tables e below (s₁.setTop (entryFrame m #[(.int p0), (.int p1), fm] 3)) t := fun t k => castTop (ef_rmPre m p0 p1 fm hfm) k
  obtain ⟨fs, hr, hrun, hended, hW, hsame⟩ := X0.leave (v := some (.int p0)) (fun h => by rw [Bd.returns] at h; cases h)
  refine ⟨_, _, pre0 _ ?_, hrun, hended, _, _, rfl, ?_, ⟨_, rfl⟩, hW, hsame.mono (by decide) (by decide)⟩
  · show Steps p.tables e below (s₁.setTop (mkF m 0 #[.val (.int p0), .val (.int p1), .val fm] [])) _
    refine XS.iloadN X0.here hx rfl (hb hby d26_0) rfl  ?_
    show Steps p.tables e below (s₁.setTop (mkF m 1 #[.val (.int p0), .val (.int p1), .val fm] [(.int p0)])) _
    refine XS.ifNo X0.here hx rfl (hb hby d26_1) rfl ((if0 _ _).trans (flt h0_).1) ?_
    refine XS.iloadN X0.here hx rfl (hb hby d26_4) rfl  ?_
    refine XS.iloadN X0.here hx rfl (hb hby d26_5) rfl  ?_
    show Steps p.tables e below (s₁.setTop (mkF m 6 #[.val (.int p0), .val (.int p1), .val fm] [(.int p1), (.int p0)])) _
    refine XS.icmpYes X0.here hx rfl (pc0 := 6) (pc' := 16) rfl (hb hby d26_6) rfl (tlt h1_).1 (by decide) (by decide) ?_
    refine XS.iloadN X0.here hx rfl (hb hby d26_16) rfl  ?_
    show Steps p.tables e below (s₁.setTop (mkF m 17 #[.val (.int p0), .val (.int p1), .val fm] [(.int p0)])) _
    exact retI X0 hx Bd.returns (hb hby d26_17) hr
  · show Q_rmPre Z p0 p1 fm h0 n0 _ s₁.heap _
    rw [e0]
    exact ⟨rfl, N0, rfl⟩
theorem ef_rmChk (m : MethodId) (p0 : Int32) (p1 : Int32) : entryFrame m #[(.int p0), (.int p1)] 2 = mkF m 0 #[.val (.int p0), .val (.int p1)] [] := by first | (simp [entryFrame, mkF, argsToLocals, Value.category]; done) | rfl
theorem d25_0 : decode jdk_42_method_155_code 0 = .ok (.iload_n 0, 1) := by decide +kernel
theorem d25_1 : decode jdk_42_method_155_code 1 = .ok (.iload_n 1, 1) := by decide +kernel
theorem d25_2 : decode jdk_42_method_155_code 2 = .ok (.getstatic 1053, 3) := by decide +kernel
theorem pd__IILjava_util_function_BiFunction__I : parseMethodDescriptor "(IILjava/util/function/BiFunction;)I" = some ⟨[.int, .int, (.object "java/util/function/BiFunction")], some .int⟩ := by decide +kernel
theorem d25_5 : decode jdk_42_method_155_code 5 = .ok (.invokestatic 1059, 3) := by decide +kernel
theorem d25_8 : decode jdk_42_method_155_code 8 = .ok (.pop, 1) := by decide +kernel
theorem d25_9 : decode jdk_42_method_155_code 9 = .ok (.return_, 1) := by decide +kernel
def Q_rmChk (Z : State) (p0 : Int32) (p1 : Int32) (zc : Int32) (fm : Value) (h0 : Heap) (n0 : Nat) (v : Option Value) (h : Heap) (L : List Loc) : Prop := v = none ∧ Fr n0 L ∧ h = h0
set_option maxRecDepth 65536 in
set_option maxHeartbeats 40000000 in
theorem rmChk (l : Launch) (Z : State) (a0 : Array Value) (hw : ∀ d ∈ tables_1, d.before a0 Z = true) (ws : List Jvm.Cond) (p0 : Int32) (p1 : Int32) (zc : Int32) (fm : Value) (h0 : Heap) (n0 : Nat) (Z0 : n0 ≤ h0.size) (hSt : own_St Z zc fm) (Ol : Old Z n0 h0) (h0_ : ¬ p0 < (0 : Int32)) (h1_ : p0 < p1) :
    MetFree l (⟨"java/lang/String", "checkIndex", "(II)V"⟩ : MethodName) (head1 (Jvm.Cond.code (⟨"java/lang/String", "checkIndex", "(II)V"⟩ : MethodName) jdk_42_method_155_code 2 none :: ws) ({ frames := 1, cells := 0, slots := 0, locals := 14 } : Room)) (fun a U => a = #[(.int p0), (.int p1)] ∧ Z.Warmed39 U.vm ∧ U.heap = h0) (fun _ _ _ _ _ => True) (fun _ U o U' => ∃ v L, o = .returned v ∧ Q_rmChk Z p0 p1 zc fm h0 n0 v U'.heap L ∧ FrameEnd U o U' L ({ frames := 1, cells := 0, slots := 0, locals := 14 } : Room).cells ({ frames := 1, cells := 0, slots := 0, locals := 14 } : Room).slots) := by
  refine MetFree.of_bodySF (plainFor_of_name pn_java_lang_String) hisR ?_
  intro p e s m args below meth c s₁ Bd hml0 hP hK
  obtain ⟨rfl, hZ, hh⟩ := hP
  have hx := Bd.exec
  have hby := Bd.bytes
  have hml : c.maxLocals = 2 := hml0
  have hown : s.vm.findClass "java/lang/String" = some m.cls := findClass_of_methodNamed Bd.named
  have hnm := (name_of_methodNamed Bd.named Bd.method).1
  have hZo := hZ
  have howno := hown
  have X0 : Stand p l e ({ frames := 1, cells := 0, slots := 0, locals := 14 } : Room) s m #[(.int p0), (.int p1)] below meth c s₁ [] 0 0 := Stand.of_body Bd
  have e0 : s₁.heap = h0 := by rw [← hh, Bd.state]; rfl
  have N0 := Fr.nil n0
  have pre0 : ∀ t, Steps p.tables e below (s₁.setTop (mkF m 0 #[.val (.int p0), .val (.int p1)] [])) t → Steps p.tables e below (s₁.setTop (entryFrame m #[(.int p0), (.int p1)] 2)) t := fun t k => castTop (ef_rmChk m p0 p1 ) k
  obtain ⟨T1, X1, e1, st1⟩ := getS2 X0 hx hZ hown (host := "") (Or.inl (hw _ (List.mem_of_getElem? (i := 114) rfl))) Via.refl e0 (hSt.2.2.1.ext Ol.2) (g := (mkF m 2 #[.val (.int p0), .val (.int p1)] [(.int p1), (.int p0)])) rfl (hb hby d25_2)
  obtain ⟨_, _, ⟨T2, L2, k2, n2⟩, -, X2, ⟨Lc2, hQ2, l2, y2, z2⟩, st2⟩ := Jvm.LawKit.callS X1 hx (y := (⟨"jdk/internal/util/Preconditions", "checkIndex", "(IILjava/util/function/BiFunction;)I"⟩ : MethodName)) hown (mvT hZ (hw _ (List.mem_of_getElem? (i := 116) rfl))) (mvT hZ (hw _ (List.mem_of_getElem? (i := 117) rfl))) (mvT hZ (hw _ (List.mem_of_getElem? (i := 115) rfl))) (mvT hZ (hw _ (List.mem_of_getElem? (i := 118) rfl))) (by decide) (backOf (W := 0) (rmPre l Z a0 hw [] p0 p1 fm h0 n0 Z0 hSt.2.2.2.1 h0_ h1_) hZ (hw _ (List.mem_of_getElem? (i := 118) rfl)) (hw _ (List.mem_of_getElem? (i := 115) rfl)) (by decide) (by decide)) (g := (mkF m 5 #[.val (.int p0), .val (.int p1)] [fm, (.int p1), (.int p0)])) rfl (by rw [hml]; rfl) (argsL := [(.int p0), (.int p1), fm]) (rest := []) (lenOf pd__IILjava_util_function_BiFunction__I rfl) rfl (by show 2 * 0 + _ ≤ _; exact Nat.le_of_eq rfl) (hb hby d25_5) (fun _ _ => ⟨rfl, e1, (by decide : 0 + 0 ≤ _), (by decide : 0 + 0 ≤ _)⟩)
  dsimp only [Pt.U, Pt.locs, Pt.cells, Pt.slots] at X2 l2 y2 z2 st2 hQ2
  subst l2 y2 z2
  obtain ⟨rfl, Nq2, e2⟩ := hQ2
  have N2 := Fr.app N0 Nq2
  obtain ⟨fs, hr, hrun, hended, hW, hsame⟩ := X2.leave (v := none) (fun _ => rfl)
  refine ⟨_, _, pre0 _ ?_, hrun, hended, _, _, rfl, ?_, ⟨_, rfl⟩, hW, hsame.mono (by decide) (by decide)⟩
  · show Steps p.tables e below (s₁.setTop (mkF m 0 #[.val (.int p0), .val (.int p1)] [])) _
    refine XS.iloadN X0.here hx rfl (hb hby d25_0) rfl  ?_
    refine XS.iloadN X0.here hx rfl (hb hby d25_1) rfl  ?_
    show Steps p.tables e below (s₁.setTop (mkF m 2 #[.val (.int p0), .val (.int p1)] [(.int p1), (.int p0)])) _
    refine st1 _ ?_
    show Steps p.tables e below (T1.setTop (mkF m 5 #[.val (.int p0), .val (.int p1)] [fm, (.int p1), (.int p0)])) _
    refine st2 _ ?_
    show Steps p.tables e below (T2.setTop (mkF m 8 #[.val (.int p0), .val (.int p1)] [(.int p0)])) _
    refine XS.pop X2.here hx rfl (hb hby d25_8) rfl rfl ?_
    show Steps p.tables e below (T2.setTop (mkF m 9 #[.val (.int p0), .val (.int p1)] [])) _
    exact X2.returnOut hx Bd.returns (hb hby d25_9) hr
  · show Q_rmChk Z p0 p1 zc fm h0 n0 _ T2.heap _
    rw [e2]
    exact ⟨rfl, N2, rfl⟩
theorem ef_rmCoder (m : MethodId) (p0 : Addr) : entryFrame m #[(.ref p0)] 1 = mkF m 0 #[.val (.ref p0)] [] := by first | (simp [entryFrame, mkF, argsToLocals, Value.category]; done) | rfl
theorem d6_0 : decode jdk_42_method_152_code 0 = .ok (.getstatic 38, 3) := by decide +kernel
theorem d6_3 : decode jdk_42_method_152_code 3 = .ok (.ifCond .eq 10, 3) := by decide +kernel
theorem d6_6 : decode jdk_42_method_152_code 6 = .ok (.aload_n 0, 1) := by decide +kernel
theorem d6_7 : decode jdk_42_method_152_code 7 = .ok (.getfield 15, 3) := by decide +kernel
theorem d6_10 : decode jdk_42_method_152_code 10 = .ok (.goto 4, 3) := by decide +kernel
theorem d6_14 : decode jdk_42_method_152_code 14 = .ok (.ireturn, 1) := by decide +kernel
def Q_rmCoder (Z : State) (p0 : Addr) (zc : Int32) (fm : Value) (cd : Int32) (h0 : Heap) (n0 : Nat) (v : Option Value) (h : Heap) (L : List Loc) : Prop := v = some (.int cd) ∧ Fr n0 L ∧ h = h0
set_option maxRecDepth 65536 in
set_option maxHeartbeats 40000000 in
theorem rmCoder (l : Launch) (Z : State) (a0 : Array Value) (hw : ∀ d ∈ tables_1, d.before a0 Z = true) (ws : List Jvm.Cond) (p0 : Addr) (zc : Int32) (fm : Value) (cd : Int32) (h0 : Heap) (n0 : Nat) (Z0 : n0 ≤ h0.size) (hSt : own_St Z zc fm) (Ol : Old Z n0 h0) (Fc : Fld Z h0 p0 "java/lang/String" "coder" "B" (.int cd)) (hcd : nar .byte cd = cd) :
    MetFree l (⟨"java/lang/String", "coder", "()B"⟩ : MethodName) (head1 (Jvm.Cond.code (⟨"java/lang/String", "coder", "()B"⟩ : MethodName) jdk_42_method_152_code 1 (some .byte) :: ws) ({ frames := 0, cells := 0, slots := 0, locals := 0 } : Room)) (fun a U => a = #[(.ref p0)] ∧ Z.Warmed39 U.vm ∧ U.heap = h0) (fun _ _ _ _ _ => True) (fun _ U o U' => ∃ v L, o = .returned v ∧ Q_rmCoder Z p0 zc fm cd h0 n0 v U'.heap L ∧ FrameEnd U o U' L ({ frames := 0, cells := 0, slots := 0, locals := 0 } : Room).cells ({ frames := 0, cells := 0, slots := 0, locals := 0 } : Room).slots) := by
  refine MetFree.of_bodySF (plainFor_of_name pn_java_lang_String) hisR ?_
  intro p e s m args below meth c s₁ Bd hml0 hP hK
  obtain ⟨rfl, hZ, hh⟩ := hP
  have hx := Bd.exec
  have hby := Bd.bytes
  have hml : c.maxLocals = 1 := hml0
  have hown : s.vm.findClass "java/lang/String" = some m.cls := findClass_of_methodNamed Bd.named
  have hnm := (name_of_methodNamed Bd.named Bd.method).1
  have hZo := hZ
  have howno := hown
  have X0 : Stand p l e ({ frames := 0, cells := 0, slots := 0, locals := 0 } : Room) s m #[(.ref p0)] below meth c s₁ [] 0 0 := Stand.of_body Bd
  have e0 : s₁.heap = h0 := by rw [← hh, Bd.state]; rfl
  have N0 := Fr.nil n0
  have pre0 : ∀ t, Steps p.tables e below (s₁.setTop (mkF m 0 #[.val (.ref p0)] [])) t → Steps p.tables e below (s₁.setTop (entryFrame m #[(.ref p0)] 1)) t := fun t k => castTop (ef_rmCoder m p0 ) k
  obtain ⟨T1, X1, e1, st1⟩ := getS2 X0 hx hZ hown (host := "") (Or.inl (hw _ (List.mem_of_getElem? (i := 40) rfl))) Via.refl e0 (hSt.1.ext Ol.2) (g := (mkF m 0 #[.val (.ref p0)] [])) rfl (hb hby d6_0)
  obtain ⟨T2, X2, e2, st2⟩ := getF X1 hx hZ hown (host := "") (Or.inl (hw _ (List.mem_of_getElem? (i := 21) rfl))) Via.refl e1 Fc (g := (mkF m 7 #[.val (.ref p0)] [(.ref p0)])) rfl rfl (hb hby d6_7)
  obtain ⟨fs, hr, hrun, hended, hW, hsame⟩ := X2.leave (v := some (.int (nar .byte cd))) (fun h => by rw [Bd.returns] at h; cases h)
  refine ⟨_, _, pre0 _ ?_, hrun, hended, _, _, rfl, ?_, ⟨_, rfl⟩, hW, hsame.mono (by decide) (by decide)⟩
  · show Steps p.tables e below (s₁.setTop (mkF m 0 #[.val (.ref p0)] [])) _
    refine st1 _ ?_
    show Steps p.tables e below (T1.setTop (mkF m 3 #[.val (.ref p0)] [(.int zc)])) _
    refine XS.ifNo X1.here hx rfl (hb hby d6_3) rfl ((if0 _ _).trans (feq hSt.2.1).1) ?_
    refine XS.aloadN X1.here hx rfl (hb hby d6_6) rfl rfl ?_
    show Steps p.tables e below (T1.setTop (mkF m 7 #[.val (.ref p0)] [(.ref p0)])) _
    refine st2 _ ?_
    show Steps p.tables e below (T2.setTop (mkF m 10 #[.val (.ref p0)] [(.int cd)])) _
    refine XS.goto X2.here hx rfl (pc0 := 10) (pc' := 14) rfl (hb hby d6_10) (by decide) (by decide) ?_
    show Steps p.tables e below (T2.setTop (mkF m 14 #[.val (.ref p0)] [(.int cd)])) _
    exact retN X2 hx (t := .byte) Bd.returns (by simp) (hb hby d6_14) hr
  · show Q_rmCoder Z p0 zc fm cd h0 n0 _ T2.heap _
    rw [e2]
    exact ⟨by rw [hcd], N0, rfl⟩
theorem ef_rmLat (m : MethodId) (p0 : Addr) : entryFrame m #[(.ref p0)] 1 = mkF m 0 #[.val (.ref p0)] [] := by first | (simp [entryFrame, mkF, argsToLocals, Value.category]; done) | rfl
theorem d21_0 : decode jdk_42_method_154_code 0 = .ok (.getstatic 38, 3) := by decide +kernel
theorem d21_3 : decode jdk_42_method_154_code 3 = .ok (.ifCond .eq 14, 3) := by decide +kernel
theorem d21_6 : decode jdk_42_method_154_code 6 = .ok (.aload_n 0, 1) := by decide +kernel
theorem d21_7 : decode jdk_42_method_154_code 7 = .ok (.getfield 15, 3) := by decide +kernel
theorem d21_10 : decode jdk_42_method_154_code 10 = .ok (.ifCond .ne 7, 3) := by decide +kernel
theorem d21_13 : decode jdk_42_method_154_code 13 = .ok (.iconst 1, 1) := by decide +kernel
theorem d21_14 : decode jdk_42_method_154_code 14 = .ok (.goto 4, 3) := by decide +kernel
theorem d21_18 : decode jdk_42_method_154_code 18 = .ok (.ireturn, 1) := by decide +kernel
theorem d21_17 : decode jdk_42_method_154_code 17 = .ok (.iconst 0, 1) := by decide +kernel
def Q_rmLat (Z : State) (p0 : Addr) (zc : Int32) (fm : Value) (cd : Int32) (r : Int32) (h0 : Heap) (n0 : Nat) (v : Option Value) (h : Heap) (L : List Loc) : Prop := v = some (.int r) ∧ Fr n0 L ∧ h = h0
set_option maxRecDepth 65536 in
set_option maxHeartbeats 40000000 in
theorem rmLat (l : Launch) (Z : State) (a0 : Array Value) (hw : ∀ d ∈ tables_1, d.before a0 Z = true) (ws : List Jvm.Cond) (p0 : Addr) (zc : Int32) (fm : Value) (cd : Int32) (r : Int32) (h0 : Heap) (n0 : Nat) (Z0 : n0 ≤ h0.size) (hSt : own_St Z zc fm) (Ol : Old Z n0 h0) (Fc : Fld Z h0 p0 "java/lang/String" "coder" "B" (.int cd)) (hres : r = if cd = 0 then 1 else 0) :
    MetFree l (⟨"java/lang/String", "isLatin1", "()Z"⟩ : MethodName) (head1 (Jvm.Cond.code (⟨"java/lang/String", "isLatin1", "()Z"⟩ : MethodName) jdk_42_method_154_code 1 (some .boolean) :: ws) ({ frames := 0, cells := 0, slots := 0, locals := 0 } : Room)) (fun a U => a = #[(.ref p0)] ∧ Z.Warmed39 U.vm ∧ U.heap = h0) (fun _ _ _ _ _ => True) (fun _ U o U' => ∃ v L, o = .returned v ∧ Q_rmLat Z p0 zc fm cd r h0 n0 v U'.heap L ∧ FrameEnd U o U' L ({ frames := 0, cells := 0, slots := 0, locals := 0 } : Room).cells ({ frames := 0, cells := 0, slots := 0, locals := 0 } : Room).slots) := by
  refine MetFree.of_bodySF (plainFor_of_name pn_java_lang_String) hisR ?_
  intro p e s m args below meth c s₁ Bd hml0 hP hK
  obtain ⟨rfl, hZ, hh⟩ := hP
  have hx := Bd.exec
  have hby := Bd.bytes
  have hml : c.maxLocals = 1 := hml0
  have hown : s.vm.findClass "java/lang/String" = some m.cls := findClass_of_methodNamed Bd.named
  have hnm := (name_of_methodNamed Bd.named Bd.method).1
  have hZo := hZ
  have howno := hown
  have X0 : Stand p l e ({ frames := 0, cells := 0, slots := 0, locals := 0 } : Room) s m #[(.ref p0)] below meth c s₁ [] 0 0 := Stand.of_body Bd
  have e0 : s₁.heap = h0 := by rw [← hh, Bd.state]; rfl
  have N0 := Fr.nil n0
  have pre0 : ∀ t, Steps p.tables e below (s₁.setTop (mkF m 0 #[.val (.ref p0)] [])) t → Steps p.tables e below (s₁.setTop (entryFrame m #[(.ref p0)] 1)) t := fun t k => castTop (ef_rmLat m p0 ) k
  obtain ⟨T1, X1, e1, st1⟩ := getS2 X0 hx hZ hown (host := "") (Or.inl (hw _ (List.mem_of_getElem? (i := 40) rfl))) Via.refl e0 (hSt.1.ext Ol.2) (g := (mkF m 0 #[.val (.ref p0)] [])) rfl (hb hby d21_0)
  obtain ⟨T2, X2, e2, st2⟩ := getF X1 hx hZ hown (host := "") (Or.inl (hw _ (List.mem_of_getElem? (i := 21) rfl))) Via.refl e1 Fc (g := (mkF m 7 #[.val (.ref p0)] [(.ref p0)])) rfl rfl (hb hby d21_7)
  have pre4 : ∀ t, Steps p.tables e below (T2.setTop (mkF m 10 #[.val (.ref p0)] [(.int cd)])) t → Steps p.tables e below (s₁.setTop (entryFrame m #[(.ref p0)] 1)) t := fun t kt => pre0 t (by
    show Steps p.tables e below (s₁.setTop (mkF m 0 #[.val (.ref p0)] [])) _
    refine st1 _ ?_
    show Steps p.tables e below (T1.setTop (mkF m 3 #[.val (.ref p0)] [(.int zc)])) _
    refine XS.ifNo X1.here hx rfl (hb hby d21_3) rfl ((if0 _ _).trans (feq hSt.2.1).1) ?_
    refine XS.aloadN X1.here hx rfl (hb hby d21_6) rfl rfl ?_
    show Steps p.tables e below (T1.setTop (mkF m 7 #[.val (.ref p0)] [(.ref p0)])) _
    refine st2 _ ?_
    exact kt)
  by_cases hc10_3 : cd = (0 : Int32)
  · obtain ⟨fs, hr, hrun, hended, hW, hsame⟩ := X2.leave (v := some (.int (1 : Int32))) (fun h => by rw [Bd.returns] at h; cases h)
    refine ⟨_, _, pre4 _ ?_, hrun, hended, _, _, rfl, ?_, ⟨_, rfl⟩, hW, hsame.mono (by decide) (by decide)⟩
    · show Steps p.tables e below (T2.setTop (mkF m 10 #[.val (.ref p0)] [(.int cd)])) _
      refine XS.ifNo X2.here hx rfl (hb hby d21_10) rfl ((if0 _ _).trans (teq hc10_3).2) ?_
      refine XS.iconst X2.here hx rfl (hb hby d21_13) ?_
      refine XS.goto X2.here hx rfl (pc0 := 14) (pc' := 18) rfl (hb hby d21_14) (by decide) (by decide) ?_
      show Steps p.tables e below (T2.setTop (mkF m 18 #[.val (.ref p0)] [(.int (1 : Int32))])) _
      exact retN X2 hx (t := .boolean) Bd.returns (by simp) (hb hby d21_18) hr
    · show Q_rmLat Z p0 zc fm cd r h0 n0 _ T2.heap _
      rw [e2]
      exact ⟨by rw [hres, if_pos hc10_3], N0, rfl⟩
  · obtain ⟨fs, hr, hrun, hended, hW, hsame⟩ := X2.leave (v := some (.int (0 : Int32))) (fun h => by rw [Bd.returns] at h; cases h)
    refine ⟨_, _, pre4 _ ?_, hrun, hended, _, _, rfl, ?_, ⟨_, rfl⟩, hW, hsame.mono (by decide) (by decide)⟩
    · show Steps p.tables e below (T2.setTop (mkF m 10 #[.val (.ref p0)] [(.int cd)])) _
      refine XS.ifYes X2.here hx rfl (pc0 := 10) (pc' := 17) rfl (hb hby d21_10) rfl ((if0 _ _).trans (feq hc10_3).2) (by decide) (by decide) ?_
      refine XS.iconst X2.here hx rfl (hb hby d21_17) ?_
      show Steps p.tables e below (T2.setTop (mkF m 18 #[.val (.ref p0)] [(.int (0 : Int32))])) _
      exact retN X2 hx (t := .boolean) Bd.returns (by simp) (hb hby d21_18) hr
    · show Q_rmLat Z p0 zc fm cd r h0 n0 _ T2.heap _
      rw [e2]
      exact ⟨by rw [hres, if_neg hc10_3], N0, rfl⟩
theorem ef_rmLen (m : MethodId) (p0 : Addr) : entryFrame m #[(.ref p0)] 1 = mkF m 0 #[.val (.ref p0)] [] := by first | (simp [entryFrame, mkF, argsToLocals, Value.category]; done) | rfl
theorem d5_0 : decode jdk_42_method_54_code 0 = .ok (.aload_n 0, 1) := by decide +kernel
theorem d5_1 : decode jdk_42_method_54_code 1 = .ok (.getfield 9, 3) := by decide +kernel
theorem d5_4 : decode jdk_42_method_54_code 4 = .ok (.arraylength, 1) := by decide +kernel
theorem d5_5 : decode jdk_42_method_54_code 5 = .ok (.aload_n 0, 1) := by decide +kernel
theorem pd___B : parseMethodDescriptor "()B" = some ⟨[], some .byte⟩ := by decide +kernel
theorem d5_6 : decode jdk_42_method_54_code 6 = .ok (.invokevirtual 335, 3) := by decide +kernel
theorem d5_9 : decode jdk_42_method_54_code 9 = .ok (.ishr, 1) := by decide +kernel
theorem d5_10 : decode jdk_42_method_54_code 10 = .ok (.ireturn, 1) := by decide +kernel
def Q_rmLen (Z : State) (p0 : Addr) (zc : Int32) (fm : Value) (cs : List Int32) (r : Int32) (h0 : Heap) (n0 : Nat) (v : Option Value) (h : Heap) (L : List Loc) : Prop := v = some (.int r) ∧ Fr n0 L ∧ h = h0
set_option maxRecDepth 65536 in
set_option maxHeartbeats 40000000 in
theorem rmLen (l : Launch) (Z : State) (a0 : Array Value) (hw : ∀ d ∈ tables_1, d.before a0 Z = true) (ws : List Jvm.Cond) (p0 : Addr) (zc : Int32) (fm : Value) (cs : List Int32) (r : Int32) (h0 : Heap) (n0 : Nat) (Z0 : n0 ≤ h0.size) (hSt : own_St Z zc fm) (Ol : Old Z n0 h0) (hS : own_Str Z h0 p0 cs) (hres : r = Int32.ofNat cs.length) :
    MetFree l (⟨"java/lang/String", "length", "()I"⟩ : MethodName) (head1 (Jvm.Cond.code (⟨"java/lang/String", "length", "()I"⟩ : MethodName) jdk_42_method_54_code 1 (some .int) :: ws) ({ frames := 1, cells := 0, slots := 0, locals := 13 } : Room)) (fun a U => a = #[(.ref p0)] ∧ Z.Warmed39 U.vm ∧ U.heap = h0) (fun _ _ _ _ _ => True) (fun _ U o U' => ∃ v L, o = .returned v ∧ Q_rmLen Z p0 zc fm cs r h0 n0 v U'.heap L ∧ FrameEnd U o U' L ({ frames := 1, cells := 0, slots := 0, locals := 13 } : Room).cells ({ frames := 1, cells := 0, slots := 0, locals := 13 } : Room).slots) := by
  refine MetFree.of_bodySF (plainFor_of_name pn_java_lang_String) hisR ?_
  intro p e s m args below meth c s₁ Bd hml0 hP hK
  obtain ⟨rfl, hZ, hh⟩ := hP
  have hx := Bd.exec
  have hby := Bd.bytes
  have hml : c.maxLocals = 1 := hml0
  have hown : s.vm.findClass "java/lang/String" = some m.cls := findClass_of_methodNamed Bd.named
  have hnm := (name_of_methodNamed Bd.named Bd.method).1
  have hZo := hZ
  have howno := hown
  have X0 : Stand p l e ({ frames := 1, cells := 0, slots := 0, locals := 13 } : Room) s m #[(.ref p0)] below meth c s₁ [] 0 0 := Stand.of_body Bd
  have e0 : s₁.heap = h0 := by rw [← hh, Bd.state]; rfl
  have N0 := Fr.nil n0
  have pre0 : ∀ t, Steps p.tables e below (s₁.setTop (mkF m 0 #[.val (.ref p0)] [])) t → Steps p.tables e below (s₁.setTop (entryFrame m #[(.ref p0)] 1)) t := fun t k => castTop (ef_rmLen m p0 ) k
  obtain ⟨t, k, cd, z, vs, E0, Fv, Fc, A0, hcod, hch, hln⟩ := hS
  rcases hcod with ⟨rfl, rfl, rfl, hle⟩ | ⟨rfl, rfl, rfl⟩
  · obtain ⟨T1, X1, e1, st1⟩ := getF X0 hx hZ hown (host := "") (Or.inl (hw _ (List.mem_of_getElem? (i := 20) rfl))) Via.refl e0 Fv (g := (mkF m 1 #[.val (.ref p0)] [(.ref p0)])) rfl rfl (hb hby d5_1)
    obtain ⟨cl2, Ar2, -, S2, N2, -, -⟩ := id A0
    obtain ⟨cq3, kq3, q3a, q3b, q3c⟩ := isOf hZ e1 E0
    obtain ⟨_, _, ⟨T3, L3, k3, n3⟩, -, X3, ⟨Lc3, hQ3, l3, y3, z3⟩, st3⟩ := X1.virtualBack hx (y := (⟨"java/lang/String", "coder", "()B"⟩ : MethodName)) (z := (⟨"java/lang/String", "coder", "()B"⟩ : MethodName)) hown (mvT hZ (hw _ (List.mem_of_getElem? (i := 35) rfl))) (mvT hZ (hw _ (List.mem_of_getElem? (i := 36) rfl))) (notFace_of_selects (args := #[]) (mvT hZ (hw _ (List.mem_of_getElem? (i := 38) rfl)))) (mvT hZ (hw _ (List.mem_of_getElem? (i := 38) rfl))) (mvT hZ (hw _ (List.mem_of_getElem? (i := 37) rfl))) (by decide) (backOf (W := 1) (rmCoder l Z a0 hw [] p0 zc fm (0 : Int32) h0 n0 Z0 hSt Ol Fc (by decide)) hZ (hw _ (List.mem_of_getElem? (i := 39) rfl)) (hw _ (List.mem_of_getElem? (i := 3) rfl)) (by decide) (by decide)) q3a q3c (g := (mkF m 6 #[.val (.ref p0)] [(.ref p0), (.int (Int32.ofNat cs.length))])) rfl (by rw [hml]; rfl) (Steps.refl _) (argsL := []) (rest := [(.int (Int32.ofNat cs.length))]) (lenOf pd___B rfl) rfl (by show 2 * 0 + _ ≤ _; exact Nat.le_of_eq rfl) (hb hby d5_6) (fun _ _ => ⟨rfl, e1, (by decide : 0 + 0 ≤ _), (by decide : 0 + 0 ≤ _)⟩)
    dsimp only [Pt.U, Pt.locs, Pt.cells, Pt.slots] at X3 l3 y3 z3 st3 hQ3
    subst l3 y3 z3
    obtain ⟨rfl, Nq3, e3⟩ := hQ3
    have N3 := Fr.app N0 Nq3
    obtain ⟨fs, hr, hrun, hended, hW, hsame⟩ := X3.leave (v := some (.int ((Int32.ofNat cs.length) >>> ((0 : Int32) &&& 31)))) (fun h => by rw [Bd.returns] at h; cases h)
    refine ⟨_, _, pre0 _ ?_, hrun, hended, _, _, rfl, ?_, ⟨_, rfl⟩, hW, hsame.mono (by decide) (by decide)⟩
    · show Steps p.tables e below (s₁.setTop (mkF m 0 #[.val (.ref p0)] [])) _
      refine XS.aloadN X0.here hx rfl (hb hby d5_0) rfl rfl ?_
      show Steps p.tables e below (s₁.setTop (mkF m 1 #[.val (.ref p0)] [(.ref p0)])) _
      refine st1 _ ?_
      show Steps p.tables e below (T1.setTop (mkF m 4 #[.val (.ref p0)] [(.ref t)])) _
      refine X1.arraylength hx (by rw [e1]; exact Ar2.1) (State.isArrayOf_alike hZ.alike Ar2.2.1) (g := (mkF m 4 #[.val (.ref p0)] [(.ref t)])) rfl rfl (hb hby d5_4) _ ?_
      rw [len_of S2 N2]
      show Steps p.tables e below (T1.setTop (mkF m 5 #[.val (.ref p0)] [(.int (Int32.ofNat cs.length))])) _
      refine XS.aloadN X1.here hx rfl (hb hby d5_5) rfl rfl ?_
      show Steps p.tables e below (T1.setTop (mkF m 6 #[.val (.ref p0)] [(.ref p0), (.int (Int32.ofNat cs.length))])) _
      refine st3.trans ?_
      show Steps p.tables e below (T3.setTop (mkF m 9 #[.val (.ref p0)] [(.int (0 : Int32)), (.int (Int32.ofNat cs.length))])) _
      refine XS.ishr X3.here hx rfl (hb hby d5_9) rfl ?_
      show Steps p.tables e below (T3.setTop (mkF m 10 #[.val (.ref p0)] [(.int ((Int32.ofNat cs.length) >>> ((0 : Int32) &&& 31)))])) _
      exact retI X3 hx Bd.returns (hb hby d5_10) hr
    · show Q_rmLen Z p0 zc fm cs r h0 n0 _ T3.heap _
      rw [e3]
      exact ⟨by rw [hres, ← own_len0 hln], N3, rfl⟩
  · obtain ⟨T4, X4, e4, st4⟩ := getF X0 hx hZ hown (host := "") (Or.inl (hw _ (List.mem_of_getElem? (i := 20) rfl))) Via.refl e0 Fv (g := (mkF m 1 #[.val (.ref p0)] [(.ref p0)])) rfl rfl (hb hby d5_1)
    obtain ⟨cl5, Ar5, -, S5, N5, -, -⟩ := id A0
    obtain ⟨cq6, kq6, q6a, q6b, q6c⟩ := isOf hZ e4 E0
    obtain ⟨_, _, ⟨T6, L6, k6, n6⟩, -, X6, ⟨Lc6, hQ6, l6, y6, z6⟩, st6⟩ := X4.virtualBack hx (y := (⟨"java/lang/String", "coder", "()B"⟩ : MethodName)) (z := (⟨"java/lang/String", "coder", "()B"⟩ : MethodName)) hown (mvT hZ (hw _ (List.mem_of_getElem? (i := 35) rfl))) (mvT hZ (hw _ (List.mem_of_getElem? (i := 36) rfl))) (notFace_of_selects (args := #[]) (mvT hZ (hw _ (List.mem_of_getElem? (i := 38) rfl)))) (mvT hZ (hw _ (List.mem_of_getElem? (i := 38) rfl))) (mvT hZ (hw _ (List.mem_of_getElem? (i := 37) rfl))) (by decide) (backOf (W := 1) (rmCoder l Z a0 hw [] p0 zc fm (1 : Int32) h0 n0 Z0 hSt Ol Fc (by decide)) hZ (hw _ (List.mem_of_getElem? (i := 39) rfl)) (hw _ (List.mem_of_getElem? (i := 3) rfl)) (by decide) (by decide)) q6a q6c (g := (mkF m 6 #[.val (.ref p0)] [(.ref p0), (.int (Int32.ofNat (2 * cs.length)))])) rfl (by rw [hml]; rfl) (Steps.refl _) (argsL := []) (rest := [(.int (Int32.ofNat (2 * cs.length)))]) (lenOf pd___B rfl) rfl (by show 2 * 0 + _ ≤ _; exact Nat.le_of_eq rfl) (hb hby d5_6) (fun _ _ => ⟨rfl, e4, (by decide : 0 + 0 ≤ _), (by decide : 0 + 0 ≤ _)⟩)
    dsimp only [Pt.U, Pt.locs, Pt.cells, Pt.slots] at X6 l6 y6 z6 st6 hQ6
    subst l6 y6 z6
    obtain ⟨rfl, Nq6, e6⟩ := hQ6
    have N6 := Fr.app N0 Nq6
    obtain ⟨fs, hr, hrun, hended, hW, hsame⟩ := X6.leave (v := some (.int ((Int32.ofNat (2 * cs.length)) >>> ((1 : Int32) &&& 31)))) (fun h => by rw [Bd.returns] at h; cases h)
    refine ⟨_, _, pre0 _ ?_, hrun, hended, _, _, rfl, ?_, ⟨_, rfl⟩, hW, hsame.mono (by decide) (by decide)⟩
    · show Steps p.tables e below (s₁.setTop (mkF m 0 #[.val (.ref p0)] [])) _
      refine XS.aloadN X0.here hx rfl (hb hby d5_0) rfl rfl ?_
      show Steps p.tables e below (s₁.setTop (mkF m 1 #[.val (.ref p0)] [(.ref p0)])) _
      refine st4 _ ?_
      show Steps p.tables e below (T4.setTop (mkF m 4 #[.val (.ref p0)] [(.ref t)])) _
      refine X4.arraylength hx (by rw [e4]; exact Ar5.1) (State.isArrayOf_alike hZ.alike Ar5.2.1) (g := (mkF m 4 #[.val (.ref p0)] [(.ref t)])) rfl rfl (hb hby d5_4) _ ?_
      rw [len_of S5 N5]
      show Steps p.tables e below (T4.setTop (mkF m 5 #[.val (.ref p0)] [(.int (Int32.ofNat (2 * cs.length)))])) _
      refine XS.aloadN X4.here hx rfl (hb hby d5_5) rfl rfl ?_
      show Steps p.tables e below (T4.setTop (mkF m 6 #[.val (.ref p0)] [(.ref p0), (.int (Int32.ofNat (2 * cs.length)))])) _
      refine st6.trans ?_
      show Steps p.tables e below (T6.setTop (mkF m 9 #[.val (.ref p0)] [(.int (1 : Int32)), (.int (Int32.ofNat (2 * cs.length)))])) _
      refine XS.ishr X6.here hx rfl (hb hby d5_9) rfl ?_
      show Steps p.tables e below (T6.setTop (mkF m 10 #[.val (.ref p0)] [(.int ((Int32.ofNat (2 * cs.length)) >>> ((1 : Int32) &&& 31)))])) _
      exact retI X6 hx Bd.returns (hb hby d5_10) hr
    · show Q_rmLen Z p0 zc fm cs r h0 n0 _ T6.heap _
      rw [e6]
      exact ⟨by rw [hres, ← own_len1 hln], N6, rfl⟩
theorem ef_rmLCh (m : MethodId) (p0 : Addr) (p1 : Int32) : entryFrame m #[(.ref p0), (.int p1)] 2 = mkF m 0 #[.val (.ref p0), .val (.int p1)] [] := by first | (simp [entryFrame, mkF, argsToLocals, Value.category]; done) | rfl
theorem d29_0 : decode jdk_43_method_2_code 0 = .ok (.iload_n 1, 1) := by decide +kernel
theorem d29_1 : decode jdk_43_method_2_code 1 = .ok (.aload_n 0, 1) := by decide +kernel
theorem d29_2 : decode jdk_43_method_2_code 2 = .ok (.arraylength, 1) := by decide +kernel
theorem pd__II_V : parseMethodDescriptor "(II)V" = some ⟨[.int, .int], none⟩ := by decide +kernel
theorem d29_3 : decode jdk_43_method_2_code 3 = .ok (.invokestatic 9, 3) := by decide +kernel
theorem d29_6 : decode jdk_43_method_2_code 6 = .ok (.aload_n 0, 1) := by decide +kernel
theorem d29_7 : decode jdk_43_method_2_code 7 = .ok (.iload_n 1, 1) := by decide +kernel
theorem d29_8 : decode jdk_43_method_2_code 8 = .ok (.baload, 1) := by decide +kernel
theorem d29_9 : decode jdk_43_method_2_code 9 = .ok (.sipush 255, 3) := by decide +kernel
theorem d29_12 : decode jdk_43_method_2_code 12 = .ok (.iand, 1) := by decide +kernel
theorem d29_13 : decode jdk_43_method_2_code 13 = .ok (.i2c, 1) := by decide +kernel
theorem d29_14 : decode jdk_43_method_2_code 14 = .ok (.ireturn, 1) := by decide +kernel
def Q_rmLCh (Z : State) (p0 : Addr) (p1 : Int32) (zc : Int32) (fm : Value) (k : ClassId) (z : Int32) (vs : List Value) (b : Int32) (r : Int32) (h0 : Heap) (n0 : Nat) (v : Option Value) (h : Heap) (L : List Loc) : Prop := v = some (.int r) ∧ Fr n0 L ∧ h = h0
set_option maxRecDepth 65536 in
set_option maxHeartbeats 40000000 in
theorem rmLCh (l : Launch) (Z : State) (a0 : Array Value) (hw : ∀ d ∈ tables_1, d.before a0 Z = true) (ws : List Jvm.Cond) (p0 : Addr) (p1 : Int32) (zc : Int32) (fm : Value) (k : ClassId) (z : Int32) (vs : List Value) (b : Int32) (r : Int32) (h0 : Heap) (n0 : Nat) (Z0 : n0 ≤ h0.size) (hSt : own_St Z zc fm) (Ol : Old Z n0 h0) (A0 : Arv Z h0 p0 k .byte z vs (.int (0 : Int32))) (hi : ¬ p1 < (0 : Int32) ∧ p1 < z) (hat : vs.getD p1.toNatClampNeg (.int (0 : Int32)) = .int b) (hres : r = nar .char (b &&& (255 : Int32)).toUInt32.toUInt16.toUInt32.toInt32) :
    MetFree l (⟨"java/lang/StringLatin1", "charAt", "([BI)C"⟩ : MethodName) (head1 (Jvm.Cond.code (⟨"java/lang/StringLatin1", "charAt", "([BI)C"⟩ : MethodName) jdk_43_method_2_code 2 (some .char) :: ws) ({ frames := 2, cells := 0, slots := 0, locals := 27 } : Room)) (fun a U => a = #[(.ref p0), (.int p1)] ∧ Z.Warmed39 U.vm ∧ U.heap = h0) (fun _ _ _ _ _ => True) (fun _ U o U' => ∃ v L, o = .returned v ∧ Q_rmLCh Z p0 p1 zc fm k z vs b r h0 n0 v U'.heap L ∧ FrameEnd U o U' L ({ frames := 2, cells := 0, slots := 0, locals := 27 } : Room).cells ({ frames := 2, cells := 0, slots := 0, locals := 27 } : Room).slots) := by
  refine MetFree.of_bodySF (plainFor_of_name pn_java_lang_StringLatin1) hisR ?_
  intro p e s m args below meth c s₁ Bd hml0 hP hK
  obtain ⟨rfl, hZ, hh⟩ := hP
  have hx := Bd.exec
  have hby := Bd.bytes
  have hml : c.maxLocals = 2 := hml0
  have hown : s.vm.findClass "java/lang/StringLatin1" = some m.cls := findClass_of_methodNamed Bd.named
  have hnm := (name_of_methodNamed Bd.named Bd.method).1
  have hZo := hZ
  have howno := hown
  have X0 : Stand p l e ({ frames := 2, cells := 0, slots := 0, locals := 27 } : Room) s m #[(.ref p0), (.int p1)] below meth c s₁ [] 0 0 := Stand.of_body Bd
  have e0 : s₁.heap = h0 := by rw [← hh, Bd.state]; rfl
  have N0 := Fr.nil n0
  have pre0 : ∀ t, Steps p.tables e below (s₁.setTop (mkF m 0 #[.val (.ref p0), .val (.int p1)] [])) t → Steps p.tables e below (s₁.setTop (entryFrame m #[(.ref p0), (.int p1)] 2)) t := fun t k => castTop (ef_rmLCh m p0 p1 ) k
  obtain ⟨cl1, Ar1, -, S1, N1, -, -⟩ := id A0
  obtain ⟨_, _, ⟨T2, L2, k2, n2⟩, -, X2, ⟨Lc2, hQ2, l2, y2, z2⟩, st2⟩ := Jvm.LawKit.callS X0 hx (y := (⟨"java/lang/String", "checkIndex", "(II)V"⟩ : MethodName)) hown (mvT hZ (hw _ (List.mem_of_getElem? (i := 133) rfl))) (mvT hZ (hw _ (List.mem_of_getElem? (i := 112) rfl))) (mvT hZ (hw _ (List.mem_of_getElem? (i := 3) rfl))) (mvT hZ (hw _ (List.mem_of_getElem? (i := 113) rfl))) (by decide) (backOf (W := 0) (rmChk l Z a0 hw [] p1 z zc fm  h0 n0 Z0 hSt Ol hi.1 hi.2) hZ (hw _ (List.mem_of_getElem? (i := 113) rfl)) (hw _ (List.mem_of_getElem? (i := 3) rfl)) (by decide) (by decide)) (g := (mkF m 3 #[.val (.ref p0), .val (.int p1)] [(.int z), (.int p1)])) rfl (by rw [hml]; rfl) (argsL := [(.int p1), (.int z)]) (rest := []) (lenOf pd__II_V rfl) rfl (by show 2 * 0 + _ ≤ _; exact Nat.le_of_eq rfl) (hb hby d29_3) (fun _ _ => ⟨rfl, e0, (by decide : 0 + 0 ≤ _), (by decide : 0 + 0 ≤ _)⟩)
  dsimp only [Pt.U, Pt.locs, Pt.cells, Pt.slots] at X2 l2 y2 z2 st2 hQ2
  subst l2 y2 z2
  obtain ⟨rfl, Nq2, e2⟩ := hQ2
  have N2 := Fr.app N0 Nq2
  obtain ⟨cl3, Ar3, q3, S3, N3, H3, G3⟩ := id A0
  have hin3 : ¬ (p1 < 0 ∨ cl3.slots.size ≤ (p1).toNatClampNeg) := inb_of S3 hi
  have hat3 : cl3.slots[(p1).toNatClampNeg]? = some (.int b) := Has.at H3 hin3 hat
  obtain ⟨fs, hr, hrun, hended, hW, hsame⟩ := X2.leave (v := some (.int (nar .char ((b &&& (255 : Int32)).toUInt32.toUInt16.toUInt32.toInt32)))) (fun h => by rw [Bd.returns] at h; cases h)
  refine ⟨_, _, pre0 _ ?_, hrun, hended, _, _, rfl, ?_, ⟨_, rfl⟩, hW, hsame.mono (by decide) (by decide)⟩
  · show Steps p.tables e below (s₁.setTop (mkF m 0 #[.val (.ref p0), .val (.int p1)] [])) _
    refine XS.iloadN X0.here hx rfl (hb hby d29_0) rfl  ?_
    refine XS.aloadN X0.here hx rfl (hb hby d29_1) rfl rfl ?_
    show Steps p.tables e below (s₁.setTop (mkF m 2 #[.val (.ref p0), .val (.int p1)] [(.ref p0), (.int p1)])) _
    refine X0.arraylength hx (by rw [e0]; exact Ar1.1) (State.isArrayOf_alike hZ.alike Ar1.2.1) (g := (mkF m 2 #[.val (.ref p0), .val (.int p1)] [(.ref p0), (.int p1)])) rfl rfl (hb hby d29_2) _ ?_
    rw [len_of S1 N1]
    show Steps p.tables e below (s₁.setTop (mkF m 3 #[.val (.ref p0), .val (.int p1)] [(.int z), (.int p1)])) _
    refine st2 _ ?_
    show Steps p.tables e below (T2.setTop (mkF m 6 #[.val (.ref p0), .val (.int p1)] [])) _
    refine XS.aloadN X2.here hx rfl (hb hby d29_6) rfl rfl ?_
    refine XS.iloadN X2.here hx rfl (hb hby d29_7) rfl  ?_
    show Steps p.tables e below (T2.setTop (mkF m 8 #[.val (.ref p0), .val (.int p1)] [(.int p1), (.ref p0)])) _
    refine X2.baloadBytes hx (j := p1) (v := (.int b)) (by rw [e2]; exact Ar3.1) (State.isArrayOf_alike hZ.alike Ar3.2.1) Ar3.2.2 hin3 hat3 (g := (mkF m 8 #[.val (.ref p0), .val (.int p1)] [(.int p1), (.ref p0)])) rfl rfl (hb hby d29_8) _ ?_
    show Steps p.tables e below (T2.setTop (mkF m 9 #[.val (.ref p0), .val (.int p1)] [(.int b)])) _
    refine XS.sipush X2.here hx rfl (hb hby d29_9) ?_
    refine XS.iand X2.here hx rfl (hb hby d29_12) rfl ?_
    refine XS.i2c X2.here hx rfl (hb hby d29_13) rfl ?_
    show Steps p.tables e below (T2.setTop (mkF m 14 #[.val (.ref p0), .val (.int p1)] [(.int ((b &&& (255 : Int32)).toUInt32.toUInt16.toUInt32.toInt32))])) _
    exact retN X2 hx (t := .char) Bd.returns (by simp) (hb hby d29_14) hr
  · show Q_rmLCh Z p0 p1 zc fm k z vs b r h0 n0 _ T2.heap _
    rw [e2]
    exact ⟨by rw [hres], N2, rfl⟩
theorem ef_rmULen (m : MethodId) (p0 : Addr) : entryFrame m #[(.ref p0)] 1 = mkF m 0 #[.val (.ref p0)] [] := by first | (simp [entryFrame, mkF, argsToLocals, Value.category]; done) | rfl
theorem d24_0 : decode jdk_52_method_6_code 0 = .ok (.aload_n 0, 1) := by decide +kernel
theorem d24_1 : decode jdk_52_method_6_code 1 = .ok (.arraylength, 1) := by decide +kernel
theorem d24_2 : decode jdk_52_method_6_code 2 = .ok (.iconst 1, 1) := by decide +kernel
theorem d24_3 : decode jdk_52_method_6_code 3 = .ok (.ishr, 1) := by decide +kernel
theorem d24_4 : decode jdk_52_method_6_code 4 = .ok (.ireturn, 1) := by decide +kernel
def Q_rmULen (Z : State) (p0 : Addr) (zc : Int32) (fm : Value) (k : ClassId) (z : Int32) (vs : List Value) (r : Int32) (h0 : Heap) (n0 : Nat) (v : Option Value) (h : Heap) (L : List Loc) : Prop := v = some (.int r) ∧ Fr n0 L ∧ h = h0
set_option maxRecDepth 65536 in
set_option maxHeartbeats 40000000 in
theorem rmULen (l : Launch) (Z : State) (a0 : Array Value) (hw : ∀ d ∈ tables_1, d.before a0 Z = true) (ws : List Jvm.Cond) (p0 : Addr) (zc : Int32) (fm : Value) (k : ClassId) (z : Int32) (vs : List Value) (r : Int32) (h0 : Heap) (n0 : Nat) (Z0 : n0 ≤ h0.size) (hSt : own_St Z zc fm) (Ol : Old Z n0 h0) (A0 : Arv Z h0 p0 k .byte z vs (.int (0 : Int32))) (hres : r = z >>> ((1 : Int32) &&& 31)) :
    MetFree l (⟨"java/lang/StringUTF16", "length", "([B)I"⟩ : MethodName) (head1 (Jvm.Cond.code (⟨"java/lang/StringUTF16", "length", "([B)I"⟩ : MethodName) jdk_52_method_6_code 1 (some .int) :: ws) ({ frames := 0, cells := 0, slots := 0, locals := 0 } : Room)) (fun a U => a = #[(.ref p0)] ∧ Z.Warmed39 U.vm ∧ U.heap = h0) (fun _ _ _ _ _ => True) (fun _ U o U' => ∃ v L, o = .returned v ∧ Q_rmULen Z p0 zc fm k z vs r h0 n0 v U'.heap L ∧ FrameEnd U o U' L ({ frames := 0, cells := 0, slots := 0, locals := 0 } : Room).cells ({ frames := 0, cells := 0, slots := 0, locals := 0 } : Room).slots) := by
  refine MetFree.of_bodySF (plainFor_of_name pn_java_lang_StringUTF16) hisR ?_
  intro p e s m args below meth c s₁ Bd hml0 hP hK
  obtain ⟨rfl, hZ, hh⟩ := hP
  have hx := Bd.exec
  have hby := Bd.bytes
  have hml : c.maxLocals = 1 := hml0
  have hown : s.vm.findClass "java/lang/StringUTF16" = some m.cls := findClass_of_methodNamed Bd.named
  have hnm := (name_of_methodNamed Bd.named Bd.method).1
  have hZo := hZ
  have howno := hown
  have X0 : Stand p l e ({ frames := 0, cells := 0, slots := 0, locals := 0 } : Room) s m #[(.ref p0)] below meth c s₁ [] 0 0 := Stand.of_body Bd
  have e0 : s₁.heap = h0 := by rw [← hh, Bd.state]; rfl
  have N0 := Fr.nil n0
  have pre0 : ∀ t, Steps p.tables e below (s₁.setTop (mkF m 0 #[.val (.ref p0)] [])) t → Steps p.tables e below (s₁.setTop (entryFrame m #[(.ref p0)] 1)) t := fun t k => castTop (ef_rmULen m p0 ) k
  obtain ⟨cl1, Ar1, -, S1, N1, -, -⟩ := id A0
  obtain ⟨fs, hr, hrun, hended, hW, hsame⟩ := X0.leave (v := some (.int (z >>> ((1 : Int32) &&& 31)))) (fun h => by rw [Bd.returns] at h; cases h)
  refine ⟨_, _, pre0 _ ?_, hrun, hended, _, _, rfl, ?_, ⟨_, rfl⟩, hW, hsame.mono (by decide) (by decide)⟩
  · show Steps p.tables e below (s₁.setTop (mkF m 0 #[.val (.ref p0)] [])) _
    refine XS.aloadN X0.here hx rfl (hb hby d24_0) rfl rfl ?_
    show Steps p.tables e below (s₁.setTop (mkF m 1 #[.val (.ref p0)] [(.ref p0)])) _
    refine X0.arraylength hx (by rw [e0]; exact Ar1.1) (State.isArrayOf_alike hZ.alike Ar1.2.1) (g := (mkF m 1 #[.val (.ref p0)] [(.ref p0)])) rfl rfl (hb hby d24_1) _ ?_
    rw [len_of S1 N1]
    show Steps p.tables e below (s₁.setTop (mkF m 2 #[.val (.ref p0)] [(.int z)])) _
    refine XS.iconst X0.here hx rfl (hb hby d24_2) ?_
    refine XS.ishr X0.here hx rfl (hb hby d24_3) rfl ?_
    show Steps p.tables e below (s₁.setTop (mkF m 4 #[.val (.ref p0)] [(.int (z >>> ((1 : Int32) &&& 31)))])) _
    exact retI X0 hx Bd.returns (hb hby d24_4) hr
  · show Q_rmULen Z p0 zc fm k z vs r h0 n0 _ s₁.heap _
    rw [e0]
    exact ⟨by rw [hres], N0, rfl⟩
theorem ef_rmUChk (m : MethodId) (p0 : Int32) (p1 : Addr) : entryFrame m #[(.int p0), (.ref p1)] 2 = mkF m 0 #[.val (.int p0), .val (.ref p1)] [] := by first | (simp [entryFrame, mkF, argsToLocals, Value.category]; done) | rfl
theorem d23_0 : decode jdk_52_method_91_code 0 = .ok (.iload_n 0, 1) := by decide +kernel
theorem d23_1 : decode jdk_52_method_91_code 1 = .ok (.aload_n 1, 1) := by decide +kernel
theorem pd___B_I : parseMethodDescriptor "([B)I" = some ⟨[(.array .byte)], some .int⟩ := by decide +kernel
theorem d23_2 : decode jdk_52_method_91_code 2 = .ok (.invokestatic 48, 3) := by decide +kernel
theorem d23_5 : decode jdk_52_method_91_code 5 = .ok (.invokestatic 414, 3) := by decide +kernel
theorem d23_8 : decode jdk_52_method_91_code 8 = .ok (.return_, 1) := by decide +kernel
def Q_rmUChk (Z : State) (p0 : Int32) (p1 : Addr) (zc : Int32) (fm : Value) (k : ClassId) (z : Int32) (vs : List Value) (n : Int32) (h0 : Heap) (n0 : Nat) (v : Option Value) (h : Heap) (L : List Loc) : Prop := v = none ∧ Fr n0 L ∧ h = h0
set_option maxRecDepth 65536 in
set_option maxHeartbeats 40000000 in
theorem rmUChk (l : Launch) (Z : State) (a0 : Array Value) (hw : ∀ d ∈ tables_1, d.before a0 Z = true) (ws : List Jvm.Cond) (p0 : Int32) (p1 : Addr) (zc : Int32) (fm : Value) (k : ClassId) (z : Int32) (vs : List Value) (n : Int32) (h0 : Heap) (n0 : Nat) (Z0 : n0 ≤ h0.size) (hSt : own_St Z zc fm) (Ol : Old Z n0 h0) (A0 : Arv Z h0 p1 k .byte z vs (.int (0 : Int32))) (hn : n = z >>> ((1 : Int32) &&& 31)) (hi : ¬ p0 < (0 : Int32) ∧ p0 < n) :
    MetFree l (⟨"java/lang/StringUTF16", "checkIndex", "(I[B)V"⟩ : MethodName) (head1 (Jvm.Cond.code (⟨"java/lang/StringUTF16", "checkIndex", "(I[B)V"⟩ : MethodName) jdk_52_method_91_code 2 none :: ws) ({ frames := 2, cells := 0, slots := 0, locals := 27 } : Room)) (fun a U => a = #[(.int p0), (.ref p1)] ∧ Z.Warmed39 U.vm ∧ U.heap = h0) (fun _ _ _ _ _ => True) (fun _ U o U' => ∃ v L, o = .returned v ∧ Q_rmUChk Z p0 p1 zc fm k z vs n h0 n0 v U'.heap L ∧ FrameEnd U o U' L ({ frames := 2, cells := 0, slots := 0, locals := 27 } : Room).cells ({ frames := 2, cells := 0, slots := 0, locals := 27 } : Room).slots) := by
  refine MetFree.of_bodySF (plainFor_of_name pn_java_lang_StringUTF16) hisR ?_
  intro p e s m args below meth c s₁ Bd hml0 hP hK
  obtain ⟨rfl, hZ, hh⟩ := hP
  have hx := Bd.exec
  have hby := Bd.bytes
  have hml : c.maxLocals = 2 := hml0
  have hown : s.vm.findClass "java/lang/StringUTF16" = some m.cls := findClass_of_methodNamed Bd.named
  have hnm := (name_of_methodNamed Bd.named Bd.method).1
  have hZo := hZ
  have howno := hown
  have X0 : Stand p l e ({ frames := 2, cells := 0, slots := 0, locals := 27 } : Room) s m #[(.int p0), (.ref p1)] below meth c s₁ [] 0 0 := Stand.of_body Bd
  have e0 : s₁.heap = h0 := by rw [← hh, Bd.state]; rfl
  have N0 := Fr.nil n0
  have pre0 : ∀ t, Steps p.tables e below (s₁.setTop (mkF m 0 #[.val (.int p0), .val (.ref p1)] [])) t → Steps p.tables e below (s₁.setTop (entryFrame m #[(.int p0), (.ref p1)] 2)) t := fun t k => castTop (ef_rmUChk m p0 p1 ) k
  obtain ⟨_, _, ⟨T1, L1, k1, n1⟩, -, X1, ⟨Lc1, hQ1, l1, y1, z1⟩, st1⟩ := Jvm.LawKit.callS X0 hx (y := (⟨"java/lang/StringUTF16", "length", "([B)I"⟩ : MethodName)) hown (mvT hZ (hw _ (List.mem_of_getElem? (i := 108) rfl))) (mvT hZ (hw _ (List.mem_of_getElem? (i := 109) rfl))) (mvT hZ (hw _ (List.mem_of_getElem? (i := 62) rfl))) (mvT hZ (hw _ (List.mem_of_getElem? (i := 110) rfl))) (by decide) (backOf (W := 1) (rmULen l Z a0 hw [] p1 zc fm k z vs n h0 n0 Z0 hSt Ol A0 hn) hZ (hw _ (List.mem_of_getElem? (i := 110) rfl)) (hw _ (List.mem_of_getElem? (i := 62) rfl)) (by decide) (by decide)) (g := (mkF m 2 #[.val (.int p0), .val (.ref p1)] [(.ref p1), (.int p0)])) rfl (by rw [hml]; rfl) (argsL := [(.ref p1)]) (rest := [(.int p0)]) (lenOf pd___B_I rfl) rfl (by show 2 * 0 + _ ≤ _; exact Nat.le_of_eq rfl) (hb hby d23_2) (fun _ _ => ⟨rfl, e0, (by decide : 0 + 0 ≤ _), (by decide : 0 + 0 ≤ _)⟩)
  dsimp only [Pt.U, Pt.locs, Pt.cells, Pt.slots] at X1 l1 y1 z1 st1 hQ1
  subst l1 y1 z1
  obtain ⟨rfl, Nq1, e1⟩ := hQ1
  have N1 := Fr.app N0 Nq1
  obtain ⟨_, _, ⟨T2, L2, k2, n2⟩, -, X2, ⟨Lc2, hQ2, l2, y2, z2⟩, st2⟩ := Jvm.LawKit.callS X1 hx (y := (⟨"java/lang/String", "checkIndex", "(II)V"⟩ : MethodName)) hown (mvT hZ (hw _ (List.mem_of_getElem? (i := 111) rfl))) (mvT hZ (hw _ (List.mem_of_getElem? (i := 112) rfl))) (mvT hZ (hw _ (List.mem_of_getElem? (i := 3) rfl))) (mvT hZ (hw _ (List.mem_of_getElem? (i := 113) rfl))) (by decide) (backOf (W := 0) (rmChk l Z a0 hw [] p0 n zc fm  h0 n0 Z0 hSt Ol hi.1 hi.2) hZ (hw _ (List.mem_of_getElem? (i := 113) rfl)) (hw _ (List.mem_of_getElem? (i := 3) rfl)) (by decide) (by decide)) (g := (mkF m 5 #[.val (.int p0), .val (.ref p1)] [(.int n), (.int p0)])) rfl (by rw [hml]; rfl) (argsL := [(.int p0), (.int n)]) (rest := []) (lenOf pd__II_V rfl) rfl (by show 2 * 0 + _ ≤ _; exact Nat.le_of_eq rfl) (hb hby d23_5) (fun _ _ => ⟨rfl, e1, (by decide : 0 + 0 ≤ _), (by decide : 0 + 0 ≤ _)⟩)
  dsimp only [Pt.U, Pt.locs, Pt.cells, Pt.slots] at X2 l2 y2 z2 st2 hQ2
  subst l2 y2 z2
  obtain ⟨rfl, Nq2, e2⟩ := hQ2
  have N2 := Fr.app N1 Nq2
  obtain ⟨fs, hr, hrun, hended, hW, hsame⟩ := X2.leave (v := none) (fun _ => rfl)
  refine ⟨_, _, pre0 _ ?_, hrun, hended, _, _, rfl, ?_, ⟨_, rfl⟩, hW, hsame.mono (by decide) (by decide)⟩
  · show Steps p.tables e below (s₁.setTop (mkF m 0 #[.val (.int p0), .val (.ref p1)] [])) _
    refine XS.iloadN X0.here hx rfl (hb hby d23_0) rfl  ?_
    refine XS.aloadN X0.here hx rfl (hb hby d23_1) rfl rfl ?_
    show Steps p.tables e below (s₁.setTop (mkF m 2 #[.val (.int p0), .val (.ref p1)] [(.ref p1), (.int p0)])) _
    refine st1 _ ?_
    show Steps p.tables e below (T1.setTop (mkF m 5 #[.val (.int p0), .val (.ref p1)] [(.int n), (.int p0)])) _
    refine st2 _ ?_
    show Steps p.tables e below (T2.setTop (mkF m 8 #[.val (.int p0), .val (.ref p1)] [])) _
    exact X2.returnOut hx Bd.returns (hb hby d23_8) hr
  · show Q_rmUChk Z p0 p1 zc fm k z vs n h0 n0 _ T2.heap _
    rw [e2]
    exact ⟨rfl, N2, rfl⟩
theorem ef_rmGet (m : MethodId) (p0 : Addr) (p1 : Int32) : entryFrame m #[(.ref p0), (.int p1)] 2 = mkF m 0 #[.val (.ref p0), .val (.int p1)] [] := by first | (simp [entryFrame, mkF, argsToLocals, Value.category]; done) | rfl
theorem d18_0 : decode jdk_52_method_5_code 0 = .ok (.getstatic 44, 3) := by decide +kernel
theorem d18_3 : decode jdk_52_method_5_code 3 = .ok (.ifCond .ne 25, 3) := by decide +kernel
theorem d18_28 : decode jdk_52_method_5_code 28 = .ok (.iload_n 1, 1) := by decide +kernel
theorem d18_29 : decode jdk_52_method_5_code 29 = .ok (.iconst 1, 1) := by decide +kernel
theorem d18_30 : decode jdk_52_method_5_code 30 = .ok (.ishl, 1) := by decide +kernel
theorem d18_31 : decode jdk_52_method_5_code 31 = .ok (.istore_n 1, 1) := by decide +kernel
theorem d18_32 : decode jdk_52_method_5_code 32 = .ok (.aload_n 0, 1) := by decide +kernel
theorem d18_33 : decode jdk_52_method_5_code 33 = .ok (.iload_n 1, 1) := by decide +kernel
theorem d18_34 : decode jdk_52_method_5_code 34 = .ok (.iinc 1 1, 3) := by decide +kernel
theorem d18_37 : decode jdk_52_method_5_code 37 = .ok (.baload, 1) := by decide +kernel
theorem d18_38 : decode jdk_52_method_5_code 38 = .ok (.sipush 255, 3) := by decide +kernel
theorem d18_41 : decode jdk_52_method_5_code 41 = .ok (.iand, 1) := by decide +kernel
theorem d18_42 : decode jdk_52_method_5_code 42 = .ok (.getstatic 59, 3) := by decide +kernel
theorem d18_45 : decode jdk_52_method_5_code 45 = .ok (.ishl, 1) := by decide +kernel
theorem d18_46 : decode jdk_52_method_5_code 46 = .ok (.aload_n 0, 1) := by decide +kernel
theorem d18_47 : decode jdk_52_method_5_code 47 = .ok (.iload_n 1, 1) := by decide +kernel
theorem d18_48 : decode jdk_52_method_5_code 48 = .ok (.baload, 1) := by decide +kernel
theorem d18_49 : decode jdk_52_method_5_code 49 = .ok (.sipush 255, 3) := by decide +kernel
theorem d18_52 : decode jdk_52_method_5_code 52 = .ok (.iand, 1) := by decide +kernel
theorem d18_53 : decode jdk_52_method_5_code 53 = .ok (.getstatic 63, 3) := by decide +kernel
theorem d18_56 : decode jdk_52_method_5_code 56 = .ok (.ishl, 1) := by decide +kernel
theorem d18_57 : decode jdk_52_method_5_code 57 = .ok (.ior, 1) := by decide +kernel
theorem d18_58 : decode jdk_52_method_5_code 58 = .ok (.i2c, 1) := by decide +kernel
theorem d18_59 : decode jdk_52_method_5_code 59 = .ok (.ireturn, 1) := by decide +kernel
def Q_rmGet (Z : State) (p0 : Addr) (p1 : Int32) (zc : Int32) (fm : Value) (k : ClassId) (z : Int32) (vs : List Value) (b : Int32) (d : Int32) (r : Int32) (h0 : Heap) (n0 : Nat) (v : Option Value) (h : Heap) (L : List Loc) : Prop := v = some (.int r) ∧ Fr n0 L ∧ h = h0
set_option maxRecDepth 65536 in
set_option maxHeartbeats 40000000 in
theorem rmGet (l : Launch) (Z : State) (a0 : Array Value) (hw : ∀ d ∈ tables_1, d.before a0 Z = true) (ws : List Jvm.Cond) (p0 : Addr) (p1 : Int32) (zc : Int32) (fm : Value) (k : ClassId) (z : Int32) (vs : List Value) (b : Int32) (d : Int32) (r : Int32) (h0 : Heap) (n0 : Nat) (Z0 : n0 ≤ h0.size) (hSt : own_St Z zc fm) (Ol : Old Z n0 h0) (A0 : Arv Z h0 p0 k .byte z vs (.int (0 : Int32))) (hi1 : ¬ (p1 <<< ((1 : Int32) &&& 31)) < (0 : Int32) ∧ (p1 <<< ((1 : Int32) &&& 31)) < z) (hi2 : ¬ ((p1 <<< ((1 : Int32) &&& 31)) + (1 : Int32)) < (0 : Int32) ∧ ((p1 <<< ((1 : Int32) &&& 31)) + (1 : Int32)) < z) (hab1 : vs.getD (p1 <<< ((1 : Int32) &&& 31)).toNatClampNeg (.int (0 : Int32)) = .int b) (hab2 : vs.getD ((p1 <<< ((1 : Int32) &&& 31)) + (1 : Int32)).toNatClampNeg (.int (0 : Int32)) = .int d) (hres : r = nar .char (((b &&& (255 : Int32)) <<< ((0 : Int32) &&& 31)) ||| ((d &&& (255 : Int32)) <<< ((8 : Int32) &&& 31))).toUInt32.toUInt16.toUInt32.toInt32) :
    MetFree l (⟨"java/lang/StringUTF16", "getChar", "([BI)C"⟩ : MethodName) (head1 (Jvm.Cond.code (⟨"java/lang/StringUTF16", "getChar", "([BI)C"⟩ : MethodName) jdk_52_method_5_code 2 (some .char) :: ws) ({ frames := 0, cells := 0, slots := 0, locals := 0 } : Room)) (fun a U => a = #[(.ref p0), (.int p1)] ∧ Z.Warmed39 U.vm ∧ U.heap = h0) (fun _ _ _ _ _ => True) (fun _ U o U' => ∃ v L, o = .returned v ∧ Q_rmGet Z p0 p1 zc fm k z vs b d r h0 n0 v U'.heap L ∧ FrameEnd U o U' L ({ frames := 0, cells := 0, slots := 0, locals := 0 } : Room).cells ({ frames := 0, cells := 0, slots := 0, locals := 0 } : Room).slots) := by
  refine MetFree.of_bodySF (plainFor_of_name pn_java_lang_StringUTF16) hisR ?_
  intro p e s m args below meth c s₁ Bd hml0 hP hK
  obtain ⟨rfl, hZ, hh⟩ := hP
  have hx := Bd.exec
  have hby := Bd.bytes
  have hml : c.maxLocals = 2 := hml0
  have hown : s.vm.findClass "java/lang/StringUTF16" = some m.cls := findClass_of_methodNamed Bd.named
  have hnm := (name_of_methodNamed Bd.named Bd.method).1
  have hZo := hZ
  have howno := hown
  have X0 : Stand p l e ({ frames := 0, cells := 0, slots := 0, locals := 0 } : Room) s m #[(.ref p0), (.int p1)] below meth c s₁ [] 0 0 := Stand.of_body Bd
  have e0 : s₁.heap = h0 := by rw [← hh, Bd.state]; rfl
  have N0 := Fr.nil n0
  have pre0 : ∀ t, Steps p.tables e below (s₁.setTop (mkF m 0 #[.val (.ref p0), .val (.int p1)] [])) t → Steps p.tables e below (s₁.setTop (entryFrame m #[(.ref p0), (.int p1)] 2)) t := fun t k => castTop (ef_rmGet m p0 p1 ) k
  obtain ⟨T1, X1, e1, st1⟩ := getS2 X0 hx hZ hown (host := "") (Or.inl (hw _ (List.mem_of_getElem? (i := 80) rfl))) Via.refl e0 (hSt.2.2.2.2.1.ext Ol.2) (g := (mkF m 0 #[.val (.ref p0), .val (.int p1)] [])) rfl (hb hby d18_0)
  obtain ⟨cl2, Ar2, q2, S2, N2, H2, G2⟩ := id A0
  have hin2 : ¬ ((p1 <<< ((1 : Int32) &&& 31)) < 0 ∨ cl2.slots.size ≤ ((p1 <<< ((1 : Int32) &&& 31))).toNatClampNeg) := inb_of S2 hi1
  have hat2 : cl2.slots[((p1 <<< ((1 : Int32) &&& 31))).toNatClampNeg]? = some (.int b) := Has.at H2 hin2 hab1
  obtain ⟨T3, X3, e3, st3⟩ := getS2 X1 hx hZ hown (host := "") (Or.inl (hw _ (List.mem_of_getElem? (i := 81) rfl))) Via.refl e1 (hSt.2.2.2.2.2.1.ext Ol.2) (g := (mkF m 42 #[.val (.ref p0), .val (.int ((p1 <<< ((1 : Int32) &&& 31)) + (1 : Int32)))] [(.int (b &&& (255 : Int32)))])) rfl (hb hby d18_42)
  obtain ⟨cl4, Ar4, q4, S4, N4, H4, G4⟩ := id A0
  have hin4 : ¬ (((p1 <<< ((1 : Int32) &&& 31)) + (1 : Int32)) < 0 ∨ cl4.slots.size ≤ (((p1 <<< ((1 : Int32) &&& 31)) + (1 : Int32))).toNatClampNeg) := inb_of S4 hi2
  have hat4 : cl4.slots[(((p1 <<< ((1 : Int32) &&& 31)) + (1 : Int32))).toNatClampNeg]? = some (.int d) := Has.at H4 hin4 hab2
  obtain ⟨T5, X5, e5, st5⟩ := getS2 X3 hx hZ hown (host := "") (Or.inl (hw _ (List.mem_of_getElem? (i := 82) rfl))) Via.refl e3 (hSt.2.2.2.2.2.2.ext Ol.2) (g := (mkF m 53 #[.val (.ref p0), .val (.int ((p1 <<< ((1 : Int32) &&& 31)) + (1 : Int32)))] [(.int (d &&& (255 : Int32))), (.int ((b &&& (255 : Int32)) <<< ((0 : Int32) &&& 31)))])) rfl (hb hby d18_53)
  obtain ⟨fs, hr, hrun, hended, hW, hsame⟩ := X5.leave (v := some (.int (nar .char ((((b &&& (255 : Int32)) <<< ((0 : Int32) &&& 31)) ||| ((d &&& (255 : Int32)) <<< ((8 : Int32) &&& 31))).toUInt32.toUInt16.toUInt32.toInt32)))) (fun h => by rw [Bd.returns] at h; cases h)
  refine ⟨_, _, pre0 _ ?_, hrun, hended, _, _, rfl, ?_, ⟨_, rfl⟩, hW, hsame.mono (by decide) (by decide)⟩
  · show Steps p.tables e below (s₁.setTop (mkF m 0 #[.val (.ref p0), .val (.int p1)] [])) _
    refine st1 _ ?_
    show Steps p.tables e below (T1.setTop (mkF m 3 #[.val (.ref p0), .val (.int p1)] [(.int (1 : Int32))])) _
    refine XS.ifYes X1.here hx rfl (pc0 := 3) (pc' := 28) rfl (hb hby d18_3) rfl ((if0 _ _).trans (feq (by decide : ¬ ((1 : Int32) = (0 : Int32)))).2) (by decide) (by decide) ?_
    refine XS.iloadN X1.here hx rfl (hb hby d18_28) rfl  ?_
    refine XS.iconst X1.here hx rfl (hb hby d18_29) ?_
    show Steps p.tables e below (T1.setTop (mkF m 30 #[.val (.ref p0), .val (.int p1)] [(.int (1 : Int32)), (.int p1)])) _
    refine XS.ishl X1.here hx rfl (hb hby d18_30) rfl ?_
    refine XS.istoreN X1.here hx rfl (hb hby d18_31) rfl (l' := #[.val (.ref p0), .val (.int (p1 <<< ((1 : Int32) &&& 31)))]) rfl ?_
    refine XS.aloadN X1.here hx rfl (hb hby d18_32) rfl rfl ?_
    show Steps p.tables e below (T1.setTop (mkF m 33 #[.val (.ref p0), .val (.int (p1 <<< ((1 : Int32) &&& 31)))] [(.ref p0)])) _
    refine XS.iloadN X1.here hx rfl (hb hby d18_33) rfl  ?_
    refine XS.iinc X1.here hx rfl (hb hby d18_34) rfl (l' := #[.val (.ref p0), .val (.int ((p1 <<< ((1 : Int32) &&& 31)) + (1 : Int32)))]) rfl ?_
    show Steps p.tables e below (T1.setTop (mkF m 37 #[.val (.ref p0), .val (.int ((p1 <<< ((1 : Int32) &&& 31)) + (1 : Int32)))] [(.int (p1 <<< ((1 : Int32) &&& 31))), (.ref p0)])) _
    refine X1.baloadBytes hx (j := (p1 <<< ((1 : Int32) &&& 31))) (v := (.int b)) (by rw [e1]; exact Ar2.1) (State.isArrayOf_alike hZ.alike Ar2.2.1) Ar2.2.2 hin2 hat2 (g := (mkF m 37 #[.val (.ref p0), .val (.int ((p1 <<< ((1 : Int32) &&& 31)) + (1 : Int32)))] [(.int (p1 <<< ((1 : Int32) &&& 31))), (.ref p0)])) rfl rfl (hb hby d18_37) _ ?_
    show Steps p.tables e below (T1.setTop (mkF m 38 #[.val (.ref p0), .val (.int ((p1 <<< ((1 : Int32) &&& 31)) + (1 : Int32)))] [(.int b)])) _
    refine XS.sipush X1.here hx rfl (hb hby d18_38) ?_
    refine XS.iand X1.here hx rfl (hb hby d18_41) rfl ?_
    show Steps p.tables e below (T1.setTop (mkF m 42 #[.val (.ref p0), .val (.int ((p1 <<< ((1 : Int32) &&& 31)) + (1 : Int32)))] [(.int (b &&& (255 : Int32)))])) _
    refine st3 _ ?_
    show Steps p.tables e below (T3.setTop (mkF m 45 #[.val (.ref p0), .val (.int ((p1 <<< ((1 : Int32) &&& 31)) + (1 : Int32)))] [(.int (0 : Int32)), (.int (b &&& (255 : Int32)))])) _
    refine XS.ishl X3.here hx rfl (hb hby d18_45) rfl ?_
    refine XS.aloadN X3.here hx rfl (hb hby d18_46) rfl rfl ?_
    refine XS.iloadN X3.here hx rfl (hb hby d18_47) rfl  ?_
    show Steps p.tables e below (T3.setTop (mkF m 48 #[.val (.ref p0), .val (.int ((p1 <<< ((1 : Int32) &&& 31)) + (1 : Int32)))] [(.int ((p1 <<< ((1 : Int32) &&& 31)) + (1 : Int32))), (.ref p0), (.int ((b &&& (255 : Int32)) <<< ((0 : Int32) &&& 31)))])) _
    refine X3.baloadBytes hx (j := ((p1 <<< ((1 : Int32) &&& 31)) + (1 : Int32))) (v := (.int d)) (by rw [e3]; exact Ar4.1) (State.isArrayOf_alike hZ.alike Ar4.2.1) Ar4.2.2 hin4 hat4 (g := (mkF m 48 #[.val (.ref p0), .val (.int ((p1 <<< ((1 : Int32) &&& 31)) + (1 : Int32)))] [(.int ((p1 <<< ((1 : Int32) &&& 31)) + (1 : Int32))), (.ref p0), (.int ((b &&& (255 : Int32)) <<< ((0 : Int32) &&& 31)))])) rfl rfl (hb hby d18_48) _ ?_
    show Steps p.tables e below (T3.setTop (mkF m 49 #[.val (.ref p0), .val (.int ((p1 <<< ((1 : Int32) &&& 31)) + (1 : Int32)))] [(.int d), (.int ((b &&& (255 : Int32)) <<< ((0 : Int32) &&& 31)))])) _
    refine XS.sipush X3.here hx rfl (hb hby d18_49) ?_
    refine XS.iand X3.here hx rfl (hb hby d18_52) rfl ?_
    show Steps p.tables e below (T3.setTop (mkF m 53 #[.val (.ref p0), .val (.int ((p1 <<< ((1 : Int32) &&& 31)) + (1 : Int32)))] [(.int (d &&& (255 : Int32))), (.int ((b &&& (255 : Int32)) <<< ((0 : Int32) &&& 31)))])) _
    refine st5 _ ?_
    show Steps p.tables e below (T5.setTop (mkF m 56 #[.val (.ref p0), .val (.int ((p1 <<< ((1 : Int32) &&& 31)) + (1 : Int32)))] [(.int (8 : Int32)), (.int (d &&& (255 : Int32))), (.int ((b &&& (255 : Int32)) <<< ((0 : Int32) &&& 31)))])) _
    refine XS.ishl X5.here hx rfl (hb hby d18_56) rfl ?_
    refine XS.ior X5.here hx rfl (hb hby d18_57) rfl ?_
    refine XS.i2c X5.here hx rfl (hb hby d18_58) rfl ?_
    show Steps p.tables e below (T5.setTop (mkF m 59 #[.val (.ref p0), .val (.int ((p1 <<< ((1 : Int32) &&& 31)) + (1 : Int32)))] [(.int ((((b &&& (255 : Int32)) <<< ((0 : Int32) &&& 31)) ||| ((d &&& (255 : Int32)) <<< ((8 : Int32) &&& 31))).toUInt32.toUInt16.toUInt32.toInt32))])) _
    exact retN X5 hx (t := .char) Bd.returns (by simp) (hb hby d18_59) hr
  · show Q_rmGet Z p0 p1 zc fm k z vs b d r h0 n0 _ T5.heap _
    rw [e5]
    exact ⟨by rw [hres], N0, rfl⟩
theorem ef_rmUCh (m : MethodId) (p0 : Addr) (p1 : Int32) : entryFrame m #[(.ref p0), (.int p1)] 2 = mkF m 0 #[.val (.ref p0), .val (.int p1)] [] := by first | (simp [entryFrame, mkF, argsToLocals, Value.category]; done) | rfl
theorem d22_0 : decode jdk_52_method_83_code 0 = .ok (.iload_n 1, 1) := by decide +kernel
theorem d22_1 : decode jdk_52_method_83_code 1 = .ok (.aload_n 0, 1) := by decide +kernel
theorem pd__I_B_V : parseMethodDescriptor "(I[B)V" = some ⟨[.int, (.array .byte)], none⟩ := by decide +kernel
theorem d22_2 : decode jdk_52_method_83_code 2 = .ok (.invokestatic 67, 3) := by decide +kernel
theorem d22_5 : decode jdk_52_method_83_code 5 = .ok (.aload_n 0, 1) := by decide +kernel
theorem d22_6 : decode jdk_52_method_83_code 6 = .ok (.iload_n 1, 1) := by decide +kernel
theorem pd___BI_C : parseMethodDescriptor "([BI)C" = some ⟨[(.array .byte), .int], some .char⟩ := by decide +kernel
theorem d22_7 : decode jdk_52_method_83_code 7 = .ok (.invokestatic 71, 3) := by decide +kernel
theorem d22_10 : decode jdk_52_method_83_code 10 = .ok (.ireturn, 1) := by decide +kernel
def Q_rmUCh (Z : State) (p0 : Addr) (p1 : Int32) (zc : Int32) (fm : Value) (k : ClassId) (z : Int32) (vs : List Value) (n : Int32) (b : Int32) (d : Int32) (r' : Int32) (r : Int32) (h0 : Heap) (n0 : Nat) (v : Option Value) (h : Heap) (L : List Loc) : Prop := v = some (.int r) ∧ Fr n0 L ∧ h = h0
set_option maxRecDepth 65536 in
set_option maxHeartbeats 40000000 in
theorem rmUCh (l : Launch) (Z : State) (a0 : Array Value) (hw : ∀ d ∈ tables_1, d.before a0 Z = true) (ws : List Jvm.Cond) (p0 : Addr) (p1 : Int32) (zc : Int32) (fm : Value) (k : ClassId) (z : Int32) (vs : List Value) (n : Int32) (b : Int32) (d : Int32) (r' : Int32) (r : Int32) (h0 : Heap) (n0 : Nat) (Z0 : n0 ≤ h0.size) (hSt : own_St Z zc fm) (Ol : Old Z n0 h0) (A0 : Arv Z h0 p0 k .byte z vs (.int (0 : Int32))) (hn : n = z >>> ((1 : Int32) &&& 31)) (hi : ¬ p1 < (0 : Int32) ∧ p1 < n) (hi1 : ¬ (p1 <<< ((1 : Int32) &&& 31)) < (0 : Int32) ∧ (p1 <<< ((1 : Int32) &&& 31)) < z) (hi2 : ¬ ((p1 <<< ((1 : Int32) &&& 31)) + (1 : Int32)) < (0 : Int32) ∧ ((p1 <<< ((1 : Int32) &&& 31)) + (1 : Int32)) < z) (hab1 : vs.getD (p1 <<< ((1 : Int32) &&& 31)).toNatClampNeg (.int (0 : Int32)) = .int b) (hab2 : vs.getD ((p1 <<< ((1 : Int32) &&& 31)) + (1 : Int32)).toNatClampNeg (.int (0 : Int32)) = .int d) (hr' : r' = nar .char (((b &&& (255 : Int32)) <<< ((0 : Int32) &&& 31)) ||| ((d &&& (255 : Int32)) <<< ((8 : Int32) &&& 31))).toUInt32.toUInt16.toUInt32.toInt32) (hres : r = nar .char r') :
    MetFree l (⟨"java/lang/StringUTF16", "charAt", "([BI)C"⟩ : MethodName) (head1 (Jvm.Cond.code (⟨"java/lang/StringUTF16", "charAt", "([BI)C"⟩ : MethodName) jdk_52_method_83_code 2 (some .char) :: ws) ({ frames := 3, cells := 0, slots := 0, locals := 40 } : Room)) (fun a U => a = #[(.ref p0), (.int p1)] ∧ Z.Warmed39 U.vm ∧ U.heap = h0) (fun _ _ _ _ _ => True) (fun _ U o U' => ∃ v L, o = .returned v ∧ Q_rmUCh Z p0 p1 zc fm k z vs n b d r' r h0 n0 v U'.heap L ∧ FrameEnd U o U' L ({ frames := 3, cells := 0, slots := 0, locals := 40 } : Room).cells ({ frames := 3, cells := 0, slots := 0, locals := 40 } : Room).slots) := by
  refine MetFree.of_bodySF (plainFor_of_name pn_java_lang_StringUTF16) hisR ?_
  intro p e s m args below meth c s₁ Bd hml0 hP hK
  obtain ⟨rfl, hZ, hh⟩ := hP
  have hx := Bd.exec
  have hby := Bd.bytes
  have hml : c.maxLocals = 2 := hml0
  have hown : s.vm.findClass "java/lang/StringUTF16" = some m.cls := findClass_of_methodNamed Bd.named
  have hnm := (name_of_methodNamed Bd.named Bd.method).1
  have hZo := hZ
  have howno := hown
  have X0 : Stand p l e ({ frames := 3, cells := 0, slots := 0, locals := 40 } : Room) s m #[(.ref p0), (.int p1)] below meth c s₁ [] 0 0 := Stand.of_body Bd
  have e0 : s₁.heap = h0 := by rw [← hh, Bd.state]; rfl
  have N0 := Fr.nil n0
  have pre0 : ∀ t, Steps p.tables e below (s₁.setTop (mkF m 0 #[.val (.ref p0), .val (.int p1)] [])) t → Steps p.tables e below (s₁.setTop (entryFrame m #[(.ref p0), (.int p1)] 2)) t := fun t k => castTop (ef_rmUCh m p0 p1 ) k
  obtain ⟨_, _, ⟨T1, L1, k1, n1⟩, -, X1, ⟨Lc1, hQ1, l1, y1, z1⟩, st1⟩ := Jvm.LawKit.callS X0 hx (y := (⟨"java/lang/StringUTF16", "checkIndex", "(I[B)V"⟩ : MethodName)) hown (mvT hZ (hw _ (List.mem_of_getElem? (i := 105) rfl))) (mvT hZ (hw _ (List.mem_of_getElem? (i := 106) rfl))) (mvT hZ (hw _ (List.mem_of_getElem? (i := 62) rfl))) (mvT hZ (hw _ (List.mem_of_getElem? (i := 107) rfl))) (by decide) (backOf (W := 0) (rmUChk l Z a0 hw [] p1 p0 zc fm k z vs n h0 n0 Z0 hSt Ol A0 hn hi) hZ (hw _ (List.mem_of_getElem? (i := 107) rfl)) (hw _ (List.mem_of_getElem? (i := 62) rfl)) (by decide) (by decide)) (g := (mkF m 2 #[.val (.ref p0), .val (.int p1)] [(.ref p0), (.int p1)])) rfl (by rw [hml]; rfl) (argsL := [(.int p1), (.ref p0)]) (rest := []) (lenOf pd__I_B_V rfl) rfl (by show 2 * 0 + _ ≤ _; exact Nat.le_of_eq rfl) (hb hby d22_2) (fun _ _ => ⟨rfl, e0, (by decide : 0 + 0 ≤ _), (by decide : 0 + 0 ≤ _)⟩)
  dsimp only [Pt.U, Pt.locs, Pt.cells, Pt.slots] at X1 l1 y1 z1 st1 hQ1
  subst l1 y1 z1
  obtain ⟨rfl, Nq1, e1⟩ := hQ1
  have N1 := Fr.app N0 Nq1
  obtain ⟨_, _, ⟨T2, L2, k2, n2⟩, -, X2, ⟨Lc2, hQ2, l2, y2, z2⟩, st2⟩ := Jvm.LawKit.callS X1 hx (y := (⟨"java/lang/StringUTF16", "getChar", "([BI)C"⟩ : MethodName)) hown (mvT hZ (hw _ (List.mem_of_getElem? (i := 83) rfl))) (mvT hZ (hw _ (List.mem_of_getElem? (i := 84) rfl))) (mvT hZ (hw _ (List.mem_of_getElem? (i := 62) rfl))) (mvT hZ (hw _ (List.mem_of_getElem? (i := 85) rfl))) (by decide) (backOf (W := 0) (rmGet l Z a0 hw [] p0 p1 zc fm k z vs b d r' h0 n0 Z0 hSt Ol A0 hi1 hi2 hab1 hab2 hr') hZ (hw _ (List.mem_of_getElem? (i := 85) rfl)) (hw _ (List.mem_of_getElem? (i := 62) rfl)) (by decide) (by decide)) (g := (mkF m 7 #[.val (.ref p0), .val (.int p1)] [(.int p1), (.ref p0)])) rfl (by rw [hml]; rfl) (argsL := [(.ref p0), (.int p1)]) (rest := []) (lenOf pd___BI_C rfl) rfl (by show 2 * 0 + _ ≤ _; exact Nat.le_of_eq rfl) (hb hby d22_7) (fun _ _ => ⟨rfl, e1, (by decide : 0 + 0 ≤ _), (by decide : 0 + 0 ≤ _)⟩)
  dsimp only [Pt.U, Pt.locs, Pt.cells, Pt.slots] at X2 l2 y2 z2 st2 hQ2
  subst l2 y2 z2
  obtain ⟨rfl, Nq2, e2⟩ := hQ2
  have N2 := Fr.app N1 Nq2
  obtain ⟨fs, hr, hrun, hended, hW, hsame⟩ := X2.leave (v := some (.int (nar .char r'))) (fun h => by rw [Bd.returns] at h; cases h)
  refine ⟨_, _, pre0 _ ?_, hrun, hended, _, _, rfl, ?_, ⟨_, rfl⟩, hW, hsame.mono (by decide) (by decide)⟩
  · show Steps p.tables e below (s₁.setTop (mkF m 0 #[.val (.ref p0), .val (.int p1)] [])) _
    refine XS.iloadN X0.here hx rfl (hb hby d22_0) rfl  ?_
    refine XS.aloadN X0.here hx rfl (hb hby d22_1) rfl rfl ?_
    show Steps p.tables e below (s₁.setTop (mkF m 2 #[.val (.ref p0), .val (.int p1)] [(.ref p0), (.int p1)])) _
    refine st1 _ ?_
    show Steps p.tables e below (T1.setTop (mkF m 5 #[.val (.ref p0), .val (.int p1)] [])) _
    refine XS.aloadN X1.here hx rfl (hb hby d22_5) rfl rfl ?_
    refine XS.iloadN X1.here hx rfl (hb hby d22_6) rfl  ?_
    show Steps p.tables e below (T1.setTop (mkF m 7 #[.val (.ref p0), .val (.int p1)] [(.int p1), (.ref p0)])) _
    refine st2 _ ?_
    show Steps p.tables e below (T2.setTop (mkF m 10 #[.val (.ref p0), .val (.int p1)] [(.int r')])) _
    exact retN X2 hx (t := .char) Bd.returns (by simp) (hb hby d22_10) hr
  · show Q_rmUCh Z p0 p1 zc fm k z vs n b d r' r h0 n0 _ T2.heap _
    rw [e2]
    exact ⟨by rw [hres], N2, rfl⟩
theorem ef_rmCharAt (m : MethodId) (p0 : Addr) (p1 : Int32) : entryFrame m #[(.ref p0), (.int p1)] 2 = mkF m 0 #[.val (.ref p0), .val (.int p1)] [] := by first | (simp [entryFrame, mkF, argsToLocals, Value.category]; done) | rfl
theorem d20_0 : decode jdk_42_method_56_code 0 = .ok (.aload_n 0, 1) := by decide +kernel
theorem pd___Z : parseMethodDescriptor "()Z" = some ⟨[], some .boolean⟩ := by decide +kernel
theorem d20_1 : decode jdk_42_method_56_code 1 = .ok (.invokevirtual 492, 3) := by decide +kernel
theorem d20_4 : decode jdk_42_method_56_code 4 = .ok (.ifCond .eq 12, 3) := by decide +kernel
theorem d20_7 : decode jdk_42_method_56_code 7 = .ok (.aload_n 0, 1) := by decide +kernel
theorem d20_8 : decode jdk_42_method_56_code 8 = .ok (.getfield 9, 3) := by decide +kernel
theorem d20_11 : decode jdk_42_method_56_code 11 = .ok (.iload_n 1, 1) := by decide +kernel
theorem d20_12 : decode jdk_42_method_56_code 12 = .ok (.invokestatic 495, 3) := by decide +kernel
theorem d20_15 : decode jdk_42_method_56_code 15 = .ok (.ireturn, 1) := by decide +kernel
theorem d20_16 : decode jdk_42_method_56_code 16 = .ok (.aload_n 0, 1) := by decide +kernel
theorem d20_17 : decode jdk_42_method_56_code 17 = .ok (.getfield 9, 3) := by decide +kernel
theorem d20_20 : decode jdk_42_method_56_code 20 = .ok (.iload_n 1, 1) := by decide +kernel
theorem d20_21 : decode jdk_42_method_56_code 21 = .ok (.invokestatic 498, 3) := by decide +kernel
theorem d20_24 : decode jdk_42_method_56_code 24 = .ok (.ireturn, 1) := by decide +kernel
def Q_rmCharAt (Z : State) (p0 : Addr) (p1 : Int32) (zc : Int32) (fm : Value) (cs : List Int32) (r : Int32) (h0 : Heap) (n0 : Nat) (v : Option Value) (h : Heap) (L : List Loc) : Prop := v = some (.int r) ∧ Fr n0 L ∧ h = h0
set_option maxRecDepth 65536 in
set_option maxHeartbeats 40000000 in
theorem rmCharAt (l : Launch) (Z : State) (a0 : Array Value) (hw : ∀ d ∈ tables_1, d.before a0 Z = true) (ws : List Jvm.Cond) (p0 : Addr) (p1 : Int32) (zc : Int32) (fm : Value) (cs : List Int32) (r : Int32) (h0 : Heap) (n0 : Nat) (Z0 : n0 ≤ h0.size) (hSt : own_St Z zc fm) (Ol : Old Z n0 h0) (hS : own_Str Z h0 p0 cs) (hi : ¬ p1 < (0 : Int32) ∧ p1.toNatClampNeg < cs.length) (hres : r = cs.getD p1.toNatClampNeg 0) :
    MetFree l (⟨"java/lang/String", "charAt", "(I)C"⟩ : MethodName) (head1 (Jvm.Cond.code (⟨"java/lang/String", "charAt", "(I)C"⟩ : MethodName) jdk_42_method_56_code 2 (some .char) :: ws) ({ frames := 4, cells := 0, slots := 0, locals := 53 } : Room)) (fun a U => a = #[(.ref p0), (.int p1)] ∧ Z.Warmed39 U.vm ∧ U.heap = h0) (fun _ _ _ _ _ => True) (fun _ U o U' => ∃ v L, o = .returned v ∧ Q_rmCharAt Z p0 p1 zc fm cs r h0 n0 v U'.heap L ∧ FrameEnd U o U' L ({ frames := 4, cells := 0, slots := 0, locals := 53 } : Room).cells ({ frames := 4, cells := 0, slots := 0, locals := 53 } : Room).slots) := by
  refine MetFree.of_bodySF (plainFor_of_name pn_java_lang_String) hisR ?_
  intro p e s m args below meth c s₁ Bd hml0 hP hK
  obtain ⟨rfl, hZ, hh⟩ := hP
  have hx := Bd.exec
  have hby := Bd.bytes
  have hml : c.maxLocals = 2 := hml0
  have hown : s.vm.findClass "java/lang/String" = some m.cls := findClass_of_methodNamed Bd.named
  have hnm := (name_of_methodNamed Bd.named Bd.method).1
  have hZo := hZ
  have howno := hown
  have X0 : Stand p l e ({ frames := 4, cells := 0, slots := 0, locals := 53 } : Room) s m #[(.ref p0), (.int p1)] below meth c s₁ [] 0 0 := Stand.of_body Bd
  have e0 : s₁.heap = h0 := by rw [← hh, Bd.state]; rfl
  have N0 := Fr.nil n0
  have pre0 : ∀ t, Steps p.tables e below (s₁.setTop (mkF m 0 #[.val (.ref p0), .val (.int p1)] [])) t → Steps p.tables e below (s₁.setTop (entryFrame m #[(.ref p0), (.int p1)] 2)) t := fun t k => castTop (ef_rmCharAt m p0 p1 ) k
  obtain ⟨t, k, cd, z, vs, E0, Fv, Fc, A0, hcod, hch, hln⟩ := hS
  rcases hcod with ⟨rfl, rfl, rfl, hle⟩ | ⟨rfl, rfl, rfl⟩
  · obtain ⟨cq1, kq1, q1a, q1b, q1c⟩ := isOf hZ e0 E0
    obtain ⟨_, _, ⟨T1, L1, k1, n1⟩, -, X1, ⟨Lc1, hQ1, l1, y1, z1⟩, st1⟩ := X0.virtualBack hx (y := (⟨"java/lang/String", "isLatin1", "()Z"⟩ : MethodName)) (z := (⟨"java/lang/String", "isLatin1", "()Z"⟩ : MethodName)) hown (mvT hZ (hw _ (List.mem_of_getElem? (i := 97) rfl))) (mvT hZ (hw _ (List.mem_of_getElem? (i := 98) rfl))) (notFace_of_selects (args := #[]) (mvT hZ (hw _ (List.mem_of_getElem? (i := 100) rfl)))) (mvT hZ (hw _ (List.mem_of_getElem? (i := 100) rfl))) (mvT hZ (hw _ (List.mem_of_getElem? (i := 99) rfl))) (by decide) (backOf (W := 0) (rmLat l Z a0 hw [] p0 zc fm (0 : Int32) (1 : Int32) h0 n0 Z0 hSt Ol Fc (by decide)) hZ (hw _ (List.mem_of_getElem? (i := 101) rfl)) (hw _ (List.mem_of_getElem? (i := 3) rfl)) (by decide) (by decide)) q1a q1c (g := (mkF m 1 #[.val (.ref p0), .val (.int p1)] [(.ref p0)])) rfl (by rw [hml]; rfl) (Steps.refl _) (argsL := []) (rest := []) (lenOf pd___Z rfl) rfl (by show 2 * 0 + _ ≤ _; exact Nat.le_of_eq rfl) (hb hby d20_1) (fun _ _ => ⟨rfl, e0, (by decide : 0 + 0 ≤ _), (by decide : 0 + 0 ≤ _)⟩)
    dsimp only [Pt.U, Pt.locs, Pt.cells, Pt.slots] at X1 l1 y1 z1 st1 hQ1
    subst l1 y1 z1
    obtain ⟨rfl, Nq1, e1⟩ := hQ1
    have N1 := Fr.app N0 Nq1
    obtain ⟨T2, X2, e2, st2⟩ := getF X1 hx hZ hown (host := "") (Or.inl (hw _ (List.mem_of_getElem? (i := 20) rfl))) Via.refl e1 Fv (g := (mkF m 8 #[.val (.ref p0), .val (.int p1)] [(.ref p0)])) rfl rfl (hb hby d20_8)
    have hcm := hch _ (own_mem hi.2)
    obtain ⟨_, _, ⟨T3, L3, k3, n3⟩, -, X3, ⟨Lc3, hQ3, l3, y3, z3⟩, st3⟩ := Jvm.LawKit.callS X2 hx (y := (⟨"java/lang/StringLatin1", "charAt", "([BI)C"⟩ : MethodName)) hown (mvT hZ (hw _ (List.mem_of_getElem? (i := 129) rfl))) (mvT hZ (hw _ (List.mem_of_getElem? (i := 130) rfl))) (mvT hZ (hw _ (List.mem_of_getElem? (i := 131) rfl))) (mvT hZ (hw _ (List.mem_of_getElem? (i := 132) rfl))) (by decide) (backOf (W := 0) (rmLCh l Z a0 hw [] t p1 zc fm k (Int32.ofNat cs.length) (own_nrw cs) (own_b (cs.getD p1.toNatClampNeg 0)) (cs.getD p1.toNatClampNeg 0) h0 n0 Z0 hSt Ol A0 ⟨hi.1, own_inr hi.1 hi.2 hln⟩ (own_getb cs _ hi.2) (own_rec8 hcm.1 (hle _ (own_mem hi.2))).symm) hZ (hw _ (List.mem_of_getElem? (i := 132) rfl)) (hw _ (List.mem_of_getElem? (i := 131) rfl)) (by decide) (by decide)) (g := (mkF m 12 #[.val (.ref p0), .val (.int p1)] [(.int p1), (.ref t)])) rfl (by rw [hml]; rfl) (argsL := [(.ref t), (.int p1)]) (rest := []) (lenOf pd___BI_C rfl) rfl (by show 2 * 0 + _ ≤ _; exact Nat.le_of_eq rfl) (hb hby d20_12) (fun _ _ => ⟨rfl, e2, (by decide : 0 + 0 ≤ _), (by decide : 0 + 0 ≤ _)⟩)
    dsimp only [Pt.U, Pt.locs, Pt.cells, Pt.slots] at X3 l3 y3 z3 st3 hQ3
    subst l3 y3 z3
    obtain ⟨rfl, Nq3, e3⟩ := hQ3
    have N3 := Fr.app N1 Nq3
    obtain ⟨fs, hr, hrun, hended, hW, hsame⟩ := X3.leave (v := some (.int (nar .char (cs.getD p1.toNatClampNeg 0)))) (fun h => by rw [Bd.returns] at h; cases h)
    refine ⟨_, _, pre0 _ ?_, hrun, hended, _, _, rfl, ?_, ⟨_, rfl⟩, hW, hsame.mono (by decide) (by decide)⟩
    · show Steps p.tables e below (s₁.setTop (mkF m 0 #[.val (.ref p0), .val (.int p1)] [])) _
      refine XS.aloadN X0.here hx rfl (hb hby d20_0) rfl rfl ?_
      show Steps p.tables e below (s₁.setTop (mkF m 1 #[.val (.ref p0), .val (.int p1)] [(.ref p0)])) _
      refine st1.trans ?_
      show Steps p.tables e below (T1.setTop (mkF m 4 #[.val (.ref p0), .val (.int p1)] [(.int (1 : Int32))])) _
      refine XS.ifNo X1.here hx rfl (hb hby d20_4) rfl ((if0 _ _).trans (feq (by decide : ¬ ((1 : Int32) = (0 : Int32)))).1) ?_
      refine XS.aloadN X1.here hx rfl (hb hby d20_7) rfl rfl ?_
      show Steps p.tables e below (T1.setTop (mkF m 8 #[.val (.ref p0), .val (.int p1)] [(.ref p0)])) _
      refine st2 _ ?_
      show Steps p.tables e below (T2.setTop (mkF m 11 #[.val (.ref p0), .val (.int p1)] [(.ref t)])) _
      refine XS.iloadN X2.here hx rfl (hb hby d20_11) rfl  ?_
      show Steps p.tables e below (T2.setTop (mkF m 12 #[.val (.ref p0), .val (.int p1)] [(.int p1), (.ref t)])) _
      refine st3 _ ?_
      show Steps p.tables e below (T3.setTop (mkF m 15 #[.val (.ref p0), .val (.int p1)] [(.int (cs.getD p1.toNatClampNeg 0))])) _
      exact retN X3 hx (t := .char) Bd.returns (by simp) (hb hby d20_15) hr
    · show Q_rmCharAt Z p0 p1 zc fm cs r h0 n0 _ T3.heap _
      rw [e3]
      exact ⟨by rw [hres, own_narc hcm], N3, rfl⟩
  · obtain ⟨cq4, kq4, q4a, q4b, q4c⟩ := isOf hZ e0 E0
    obtain ⟨_, _, ⟨T4, L4, k4, n4⟩, -, X4, ⟨Lc4, hQ4, l4, y4, z4⟩, st4⟩ := X0.virtualBack hx (y := (⟨"java/lang/String", "isLatin1", "()Z"⟩ : MethodName)) (z := (⟨"java/lang/String", "isLatin1", "()Z"⟩ : MethodName)) hown (mvT hZ (hw _ (List.mem_of_getElem? (i := 97) rfl))) (mvT hZ (hw _ (List.mem_of_getElem? (i := 98) rfl))) (notFace_of_selects (args := #[]) (mvT hZ (hw _ (List.mem_of_getElem? (i := 100) rfl)))) (mvT hZ (hw _ (List.mem_of_getElem? (i := 100) rfl))) (mvT hZ (hw _ (List.mem_of_getElem? (i := 99) rfl))) (by decide) (backOf (W := 0) (rmLat l Z a0 hw [] p0 zc fm (1 : Int32) (0 : Int32) h0 n0 Z0 hSt Ol Fc (by decide)) hZ (hw _ (List.mem_of_getElem? (i := 101) rfl)) (hw _ (List.mem_of_getElem? (i := 3) rfl)) (by decide) (by decide)) q4a q4c (g := (mkF m 1 #[.val (.ref p0), .val (.int p1)] [(.ref p0)])) rfl (by rw [hml]; rfl) (Steps.refl _) (argsL := []) (rest := []) (lenOf pd___Z rfl) rfl (by show 2 * 0 + _ ≤ _; exact Nat.le_of_eq rfl) (hb hby d20_1) (fun _ _ => ⟨rfl, e0, (by decide : 0 + 0 ≤ _), (by decide : 0 + 0 ≤ _)⟩)
    dsimp only [Pt.U, Pt.locs, Pt.cells, Pt.slots] at X4 l4 y4 z4 st4 hQ4
    subst l4 y4 z4
    obtain ⟨rfl, Nq4, e4⟩ := hQ4
    have N4 := Fr.app N0 Nq4
    obtain ⟨T5, X5, e5, st5⟩ := getF X4 hx hZ hown (host := "") (Or.inl (hw _ (List.mem_of_getElem? (i := 20) rfl))) Via.refl e4 Fv (g := (mkF m 17 #[.val (.ref p0), .val (.int p1)] [(.ref p0)])) rfl rfl (hb hby d20_17)
    have hcm := hch _ (own_mem hi.2)
    have hsh := own_shl hi.1 hi.2 hln
    obtain ⟨_, _, ⟨T6, L6, k6, n6⟩, -, X6, ⟨Lc6, hQ6, l6, y6, z6⟩, st6⟩ := Jvm.LawKit.callS X5 hx (y := (⟨"java/lang/StringUTF16", "charAt", "([BI)C"⟩ : MethodName)) hown (mvT hZ (hw _ (List.mem_of_getElem? (i := 102) rfl))) (mvT hZ (hw _ (List.mem_of_getElem? (i := 103) rfl))) (mvT hZ (hw _ (List.mem_of_getElem? (i := 62) rfl))) (mvT hZ (hw _ (List.mem_of_getElem? (i := 104) rfl))) (by decide) (backOf (W := 0) (rmUCh l Z a0 hw [] t p1 zc fm k (Int32.ofNat (2 * cs.length)) (own_wide cs) (Int32.ofNat cs.length) (own_wl (cs.getD p1.toNatClampNeg 0)) (own_wh (cs.getD p1.toNatClampNeg 0)) (cs.getD p1.toNatClampNeg 0) (cs.getD p1.toNatClampNeg 0) h0 n0 Z0 hSt Ol A0 (own_len1 hln) ⟨hi.1, own_inr hi.1 hi.2 hln⟩ hsh.2.2.1 hsh.2.2.2 (by rw [hsh.1]; exact (own_getw cs _ hi.2).1) (by rw [hsh.2.1]; exact (own_getw cs _ hi.2).2) (own_rec16 hcm.1 hcm.2).symm (own_narc hcm).symm) hZ (hw _ (List.mem_of_getElem? (i := 104) rfl)) (hw _ (List.mem_of_getElem? (i := 62) rfl)) (by decide) (by decide)) (g := (mkF m 21 #[.val (.ref p0), .val (.int p1)] [(.int p1), (.ref t)])) rfl (by rw [hml]; rfl) (argsL := [(.ref t), (.int p1)]) (rest := []) (lenOf pd___BI_C rfl) rfl (by show 2 * 0 + _ ≤ _; exact Nat.le_of_eq rfl) (hb hby d20_21) (fun _ _ => ⟨rfl, e5, (by decide : 0 + 0 ≤ _), (by decide : 0 + 0 ≤ _)⟩)
    dsimp only [Pt.U, Pt.locs, Pt.cells, Pt.slots] at X6 l6 y6 z6 st6 hQ6
    subst l6 y6 z6
    obtain ⟨rfl, Nq6, e6⟩ := hQ6
    have N6 := Fr.app N4 Nq6
    obtain ⟨fs, hr, hrun, hended, hW, hsame⟩ := X6.leave (v := some (.int (nar .char (cs.getD p1.toNatClampNeg 0)))) (fun h => by rw [Bd.returns] at h; cases h)
    refine ⟨_, _, pre0 _ ?_, hrun, hended, _, _, rfl, ?_, ⟨_, rfl⟩, hW, hsame.mono (by decide) (by decide)⟩
    · show Steps p.tables e below (s₁.setTop (mkF m 0 #[.val (.ref p0), .val (.int p1)] [])) _
      refine XS.aloadN X0.here hx rfl (hb hby d20_0) rfl rfl ?_
      show Steps p.tables e below (s₁.setTop (mkF m 1 #[.val (.ref p0), .val (.int p1)] [(.ref p0)])) _
      refine st4.trans ?_
      show Steps p.tables e below (T4.setTop (mkF m 4 #[.val (.ref p0), .val (.int p1)] [(.int (0 : Int32))])) _
      refine XS.ifYes X4.here hx rfl (pc0 := 4) (pc' := 16) rfl (hb hby d20_4) rfl ((if0 _ _).trans (teq (by decide : (0 : Int32) = (0 : Int32))).1) (by decide) (by decide) ?_
      refine XS.aloadN X4.here hx rfl (hb hby d20_16) rfl rfl ?_
      show Steps p.tables e below (T4.setTop (mkF m 17 #[.val (.ref p0), .val (.int p1)] [(.ref p0)])) _
      refine st5 _ ?_
      show Steps p.tables e below (T5.setTop (mkF m 20 #[.val (.ref p0), .val (.int p1)] [(.ref t)])) _
      refine XS.iloadN X5.here hx rfl (hb hby d20_20) rfl  ?_
      show Steps p.tables e below (T5.setTop (mkF m 21 #[.val (.ref p0), .val (.int p1)] [(.int p1), (.ref t)])) _
      refine st6 _ ?_
      show Steps p.tables e below (T6.setTop (mkF m 24 #[.val (.ref p0), .val (.int p1)] [(.int (cs.getD p1.toNatClampNeg 0))])) _
      exact retN X6 hx (t := .char) Bd.returns (by simp) (hb hby d20_24) hr
    · show Q_rmCharAt Z p0 p1 zc fm cs r h0 n0 _ T6.heap _
      rw [e6]
      exact ⟨by rw [hres, own_narc hcm], N6, rfl⟩
theorem ef_rmCmp2 (m : MethodId) (p0 : Addr) (p2 : Addr) : entryFrame m #[(.ref p0), (.int (0 : Int32)), (.ref p2), (.int (0 : Int32)), (.int (2 : Int32))] 7 = mkF m 0 #[.val (.ref p0), .val (.int (0 : Int32)), .val (.ref p2), .val (.int (0 : Int32)), .val (.int (2 : Int32)), .unset, .unset] [] := by first | (simp [entryFrame, mkF, argsToLocals, Value.category]; done) | rfl
theorem d13_0 : decode jdk_52_method_21_code 0 = .ok (.iconst 0, 1) := by decide +kernel
theorem d13_1 : decode jdk_52_method_21_code 1 = .ok (.istore 5, 2) := by decide +kernel
theorem d13_3 : decode jdk_52_method_21_code 3 = .ok (.iload 5, 2) := by decide +kernel
theorem d13_5 : decode jdk_52_method_21_code 5 = .ok (.iload 4, 2) := by decide +kernel
theorem d13_7 : decode jdk_52_method_21_code 7 = .ok (.if_icmp .ge 37, 3) := by decide +kernel
theorem d13_10 : decode jdk_52_method_21_code 10 = .ok (.aload_n 0, 1) := by decide +kernel
theorem d13_11 : decode jdk_52_method_21_code 11 = .ok (.iload_n 1, 1) := by decide +kernel
theorem d13_12 : decode jdk_52_method_21_code 12 = .ok (.caload, 1) := by decide +kernel
theorem d13_13 : decode jdk_52_method_21_code 13 = .ok (.istore 6, 2) := by decide +kernel
theorem d13_15 : decode jdk_52_method_21_code 15 = .ok (.iload 6, 2) := by decide +kernel
theorem d13_17 : decode jdk_52_method_21_code 17 = .ok (.sipush 255, 3) := by decide +kernel
theorem d13_20 : decode jdk_52_method_21_code 20 = .ok (.if_icmp .le 6, 3) := by decide +kernel
theorem d13_23 : decode jdk_52_method_21_code 23 = .ok (.iload 5, 2) := by decide +kernel
theorem d13_25 : decode jdk_52_method_21_code 25 = .ok (.ireturn, 1) := by decide +kernel
theorem d13_26 : decode jdk_52_method_21_code 26 = .ok (.aload_n 2, 1) := by decide +kernel
theorem d13_27 : decode jdk_52_method_21_code 27 = .ok (.iload_n 3, 1) := by decide +kernel
theorem d13_28 : decode jdk_52_method_21_code 28 = .ok (.iload 6, 2) := by decide +kernel
theorem d13_30 : decode jdk_52_method_21_code 30 = .ok (.i2b, 1) := by decide +kernel
theorem d13_31 : decode jdk_52_method_21_code 31 = .ok (.bastore, 1) := by decide +kernel
theorem d13_32 : decode jdk_52_method_21_code 32 = .ok (.iinc 1 1, 3) := by decide +kernel
theorem d13_35 : decode jdk_52_method_21_code 35 = .ok (.iinc 3 1, 3) := by decide +kernel
theorem d13_38 : decode jdk_52_method_21_code 38 = .ok (.iinc 5 1, 3) := by decide +kernel
theorem d13_41 : decode jdk_52_method_21_code 41 = .ok (.goto (-38), 3) := by decide +kernel
theorem d13_44 : decode jdk_52_method_21_code 44 = .ok (.iload 4, 2) := by decide +kernel
theorem d13_46 : decode jdk_52_method_21_code 46 = .ok (.ireturn, 1) := by decide +kernel
def Q_rmCmp2 (Z : State) (p0 : Addr) (p2 : Addr) (zc : Int32) (fm : Value) (ks : ClassId) (kd : ClassId) (c0 : Int32) (c1 : Int32) (h0 : Heap) (n0 : Nat) (v : Option Value) (h : Heap) (L : List Loc) : Prop := (∃ r : Int32, v = some (.int r) ∧ ((r = (2 : Int32) ∧ (¬ (255 : Int32) < c0 ∧ ¬ (255 : Int32) < c1) ∧ Arv Z h p2 kd .byte (2 : Int32) [(.int (own_b c0)), (.int (own_b c1))] (.int (0 : Int32))) ∨ (∃ j : Nat, r = Int32.ofNat j ∧ j < 2 ∧ (255 : Int32) < [c0, c1].getD j 0))) ∧ Fr n0 L ∧ Keep h0 h [p2]
set_option maxRecDepth 65536 in
set_option maxHeartbeats 40000000 in
theorem rmCmp2 (l : Launch) (Z : State) (a0 : Array Value) (hw : ∀ d ∈ tables_1, d.before a0 Z = true) (ws : List Jvm.Cond) (p0 : Addr) (p2 : Addr) (zc : Int32) (fm : Value) (ks : ClassId) (kd : ClassId) (c0 : Int32) (c1 : Int32) (h0 : Heap) (n0 : Nat) (Z0 : n0 ≤ h0.size) (hSt : own_St Z zc fm) (Ol : Old Z n0 h0) (As : Arv Z h0 p0 ks .char (2 : Int32) [(.int c0), (.int c1)] (.int (0 : Int32))) (Ad : Arv Z h0 p2 kd .byte (2 : Int32) [(.int (0 : Int32)), (.int (0 : Int32))] (.int (0 : Int32))) (hne : p0 ≠ p2) (g2 : n0 ≤ p2) :
    MetFree l (⟨"java/lang/StringUTF16", "compress", "([CI[BII)I"⟩ : MethodName) (head1 (Jvm.Cond.code (⟨"java/lang/StringUTF16", "compress", "([CI[BII)I"⟩ : MethodName) jdk_52_method_21_code 7 (some .int) :: ws) ({ frames := 0, cells := 0, slots := 0, locals := 0 } : Room)) (fun a U => a = #[(.ref p0), (.int (0 : Int32)), (.ref p2), (.int (0 : Int32)), (.int (2 : Int32))] ∧ Z.Warmed39 U.vm ∧ U.heap = h0) (fun _ _ _ _ _ => True) (fun _ U o U' => ∃ v L, o = .returned v ∧ Q_rmCmp2 Z p0 p2 zc fm ks kd c0 c1 h0 n0 v U'.heap L ∧ FrameEnd U o U' L ({ frames := 0, cells := 0, slots := 0, locals := 0 } : Room).cells ({ frames := 0, cells := 0, slots := 0, locals := 0 } : Room).slots) := by
  refine MetFree.of_bodySF (plainFor_of_name pn_java_lang_StringUTF16) hisR ?_
  intro p e s m args below meth c s₁ Bd hml0 hP hK
  obtain ⟨rfl, hZ, hh⟩ := hP
  have hx := Bd.exec
  have hby := Bd.bytes
  have hml : c.maxLocals = 7 := hml0
  have hown : s.vm.findClass "java/lang/StringUTF16" = some m.cls := findClass_of_methodNamed Bd.named
  have hnm := (name_of_methodNamed Bd.named Bd.method).1
  have hZo := hZ
  have howno := hown
  have X0 : Stand p l e ({ frames := 0, cells := 0, slots := 0, locals := 0 } : Room) s m #[(.ref p0), (.int (0 : Int32)), (.ref p2), (.int (0 : Int32)), (.int (2 : Int32))] below meth c s₁ [] 0 0 := Stand.of_body Bd
  have e0 : s₁.heap = h0 := by rw [← hh, Bd.state]; rfl
  have N0 := Fr.nil n0
  have pre0 : ∀ t, Steps p.tables e below (s₁.setTop (mkF m 0 #[.val (.ref p0), .val (.int (0 : Int32)), .val (.ref p2), .val (.int (0 : Int32)), .val (.int (2 : Int32)), .unset, .unset] [])) t → Steps p.tables e below (s₁.setTop (entryFrame m #[(.ref p0), (.int (0 : Int32)), (.ref p2), (.int (0 : Int32)), (.int (2 : Int32))] 7)) t := fun t k => castTop (ef_rmCmp2 m p0 p2 ) k
  obtain ⟨cl1, Ar1, q1, S1, N1, H1, G1⟩ := id As
  have hin1 : ¬ ((0 : Int32) < 0 ∨ cl1.slots.size ≤ ((0 : Int32)).toNatClampNeg) := inb_of S1 ⟨by decide, by decide⟩
  have hat1 : cl1.slots[((0 : Int32)).toNatClampNeg]? = some (.int c0) := Has.at H1 hin1 rfl
  have pre3 : ∀ t, Steps p.tables e below (s₁.setTop (mkF m 20 #[.val (.ref p0), .val (.int (0 : Int32)), .val (.ref p2), .val (.int (0 : Int32)), .val (.int (2 : Int32)), .val (.int (0 : Int32)), .val (.int c0)] [(.int (255 : Int32)), (.int c0)])) t → Steps p.tables e below (s₁.setTop (entryFrame m #[(.ref p0), (.int (0 : Int32)), (.ref p2), (.int (0 : Int32)), (.int (2 : Int32))] 7)) t := fun t kt => pre0 t (by
    show Steps p.tables e below (s₁.setTop (mkF m 0 #[.val (.ref p0), .val (.int (0 : Int32)), .val (.ref p2), .val (.int (0 : Int32)), .val (.int (2 : Int32)), .unset, .unset] [])) _
    refine XS.iconst X0.here hx rfl (hb hby d13_0) ?_
    refine XS.istore X0.here hx rfl (hb hby d13_1) rfl (l' := #[.val (.ref p0), .val (.int (0 : Int32)), .val (.ref p2), .val (.int (0 : Int32)), .val (.int (2 : Int32)), .val (.int (0 : Int32)), .unset]) rfl ?_
    refine XS.iload X0.here hx rfl (hb hby d13_3) rfl  ?_
    show Steps p.tables e below (s₁.setTop (mkF m 5 #[.val (.ref p0), .val (.int (0 : Int32)), .val (.ref p2), .val (.int (0 : Int32)), .val (.int (2 : Int32)), .val (.int (0 : Int32)), .unset] [(.int (0 : Int32))])) _
    refine XS.iload X0.here hx rfl (hb hby d13_5) rfl  ?_
    show Steps p.tables e below (s₁.setTop (mkF m 7 #[.val (.ref p0), .val (.int (0 : Int32)), .val (.ref p2), .val (.int (0 : Int32)), .val (.int (2 : Int32)), .val (.int (0 : Int32)), .unset] [(.int (2 : Int32)), (.int (0 : Int32))])) _
    refine XS.icmpNo X0.here hx rfl (hb hby d13_7) rfl (tlt (by decide : (0 : Int32) < (2 : Int32))).2.1 ?_
    refine XS.aloadN X0.here hx rfl (hb hby d13_10) rfl rfl ?_
    refine XS.iloadN X0.here hx rfl (hb hby d13_11) rfl  ?_
    show Steps p.tables e below (s₁.setTop (mkF m 12 #[.val (.ref p0), .val (.int (0 : Int32)), .val (.ref p2), .val (.int (0 : Int32)), .val (.int (2 : Int32)), .val (.int (0 : Int32)), .unset] [(.int (0 : Int32)), (.ref p0)])) _
    refine X0.caload hx (j := (0 : Int32)) (v := (.int c0)) (by rw [e0]; exact Ar1.1) (State.isArrayOf_alike hZ.alike Ar1.2.1) Ar1.2.2 hin1 hat1 (g := (mkF m 12 #[.val (.ref p0), .val (.int (0 : Int32)), .val (.ref p2), .val (.int (0 : Int32)), .val (.int (2 : Int32)), .val (.int (0 : Int32)), .unset] [(.int (0 : Int32)), (.ref p0)])) rfl rfl (hb hby d13_12) _ ?_
    show Steps p.tables e below (s₁.setTop (mkF m 13 #[.val (.ref p0), .val (.int (0 : Int32)), .val (.ref p2), .val (.int (0 : Int32)), .val (.int (2 : Int32)), .val (.int (0 : Int32)), .unset] [(.int c0)])) _
    refine XS.istore X0.here hx rfl (hb hby d13_13) rfl (l' := #[.val (.ref p0), .val (.int (0 : Int32)), .val (.ref p2), .val (.int (0 : Int32)), .val (.int (2 : Int32)), .val (.int (0 : Int32)), .val (.int c0)]) rfl ?_
    refine XS.iload X0.here hx rfl (hb hby d13_15) rfl  ?_
    refine XS.sipush X0.here hx rfl (hb hby d13_17) ?_
    exact kt)
  by_cases hc20_2 : (255 : Int32) < c0
  · obtain ⟨fs, hr, hrun, hended, hW, hsame⟩ := X0.leave (v := some (.int (0 : Int32))) (fun h => by rw [Bd.returns] at h; cases h)
    refine ⟨_, _, pre3 _ ?_, hrun, hended, _, _, rfl, ?_, ⟨_, rfl⟩, hW, hsame.mono (by decide) (by decide)⟩
    · show Steps p.tables e below (s₁.setTop (mkF m 20 #[.val (.ref p0), .val (.int (0 : Int32)), .val (.ref p2), .val (.int (0 : Int32)), .val (.int (2 : Int32)), .val (.int (0 : Int32)), .val (.int c0)] [(.int (255 : Int32)), (.int c0)])) _
      refine XS.icmpNo X0.here hx rfl (hb hby d13_20) rfl (tlt hc20_2).2.2.2 ?_
      refine XS.iload X0.here hx rfl (hb hby d13_23) rfl  ?_
      show Steps p.tables e below (s₁.setTop (mkF m 25 #[.val (.ref p0), .val (.int (0 : Int32)), .val (.ref p2), .val (.int (0 : Int32)), .val (.int (2 : Int32)), .val (.int (0 : Int32)), .val (.int c0)] [(.int (0 : Int32))])) _
      exact retI X0 hx Bd.returns (hb hby d13_25) hr
    · show Q_rmCmp2 Z p0 p2 zc fm ks kd c0 c1 h0 n0 _ s₁.heap _
      rw [e0]
      exact ⟨⟨_, rfl, Or.inr ⟨0, rfl, Nat.le_of_ble_eq_true rfl, hc20_2⟩⟩, N0, (Keep.refl h0 [p2])⟩
  · obtain ⟨cl4, Ar4, q4, S4, N4, H4, G4⟩ := id Ad
    have hin4 : ¬ ((0 : Int32) < 0 ∨ cl4.slots.size ≤ ((0 : Int32)).toNatClampNeg) := inb_of S4 ⟨by decide, by decide⟩
    obtain ⟨T5, h5, X5, e5, W5, st5⟩ := stB X0 hx hZ e0 Ar4 (j := (0 : Int32)) hin4 (g := (mkF m 31 #[.val (.ref p0), .val (.int (0 : Int32)), .val (.ref p2), .val (.int (0 : Int32)), .val (.int (2 : Int32)), .val (.int (0 : Int32)), .val (.int c0)] [(.int (c0.toInt8.toInt32)), (.int (0 : Int32)), (.ref p2)])) rfl rfl (hb hby d13_31)
    have N5 := Fr.snoc X5 N0 g2
    have K5 := (Keep.refl h0 [p2]).wr W5 (Or.inl (List.mem_of_getElem? (i := 0) rfl))
    have V5 : Arv Z h5 p2 kd .byte (2 : Int32) [(.int (own_b c0)), (.int (0 : Int32))] (.int (0 : Int32)) := Arv.set Ar4 q4 S4 N4 H4 G4 (fits_nar_byte _) W5 0 rfl (Nat.le_of_ble_eq_true rfl)
    have f6 := (As.other W5 hne)
    obtain ⟨cl7, Ar7, q7, S7, N7, H7, G7⟩ := id f6
    have hin7 : ¬ ((1 : Int32) < 0 ∨ cl7.slots.size ≤ ((1 : Int32)).toNatClampNeg) := inb_of S7 ⟨by decide, by decide⟩
    have hat7 : cl7.slots[((1 : Int32)).toNatClampNeg]? = some (.int c1) := Has.at H7 hin7 rfl
    have pre9 : ∀ t, Steps p.tables e below (T5.setTop (mkF m 20 #[.val (.ref p0), .val (.int (1 : Int32)), .val (.ref p2), .val (.int (1 : Int32)), .val (.int (2 : Int32)), .val (.int (1 : Int32)), .val (.int c1)] [(.int (255 : Int32)), (.int c1)])) t → Steps p.tables e below (s₁.setTop (entryFrame m #[(.ref p0), (.int (0 : Int32)), (.ref p2), (.int (0 : Int32)), (.int (2 : Int32))] 7)) t := fun t kt => pre3 t (by
      show Steps p.tables e below (s₁.setTop (mkF m 20 #[.val (.ref p0), .val (.int (0 : Int32)), .val (.ref p2), .val (.int (0 : Int32)), .val (.int (2 : Int32)), .val (.int (0 : Int32)), .val (.int c0)] [(.int (255 : Int32)), (.int c0)])) _
      refine XS.icmpYes X0.here hx rfl (pc0 := 20) (pc' := 26) rfl (hb hby d13_20) rfl (flt hc20_2).2.2.2 (by decide) (by decide) ?_
      refine XS.aloadN X0.here hx rfl (hb hby d13_26) rfl rfl ?_
      refine XS.iloadN X0.here hx rfl (hb hby d13_27) rfl  ?_
      show Steps p.tables e below (s₁.setTop (mkF m 28 #[.val (.ref p0), .val (.int (0 : Int32)), .val (.ref p2), .val (.int (0 : Int32)), .val (.int (2 : Int32)), .val (.int (0 : Int32)), .val (.int c0)] [(.int (0 : Int32)), (.ref p2)])) _
      refine XS.iload X0.here hx rfl (hb hby d13_28) rfl  ?_
      refine XS.i2b X0.here hx rfl (hb hby d13_30) rfl ?_
      show Steps p.tables e below (s₁.setTop (mkF m 31 #[.val (.ref p0), .val (.int (0 : Int32)), .val (.ref p2), .val (.int (0 : Int32)), .val (.int (2 : Int32)), .val (.int (0 : Int32)), .val (.int c0)] [(.int (c0.toInt8.toInt32)), (.int (0 : Int32)), (.ref p2)])) _
      refine st5 _ ?_
      show Steps p.tables e below (T5.setTop (mkF m 32 #[.val (.ref p0), .val (.int (0 : Int32)), .val (.ref p2), .val (.int (0 : Int32)), .val (.int (2 : Int32)), .val (.int (0 : Int32)), .val (.int c0)] [])) _
      refine XS.iinc X5.here hx rfl (hb hby d13_32) rfl (l' := #[.val (.ref p0), .val (.int (1 : Int32)), .val (.ref p2), .val (.int (0 : Int32)), .val (.int (2 : Int32)), .val (.int (0 : Int32)), .val (.int c0)]) rfl ?_
      refine XS.iinc X5.here hx rfl (hb hby d13_35) rfl (l' := #[.val (.ref p0), .val (.int (1 : Int32)), .val (.ref p2), .val (.int (1 : Int32)), .val (.int (2 : Int32)), .val (.int (0 : Int32)), .val (.int c0)]) rfl ?_
      refine XS.iinc X5.here hx rfl (hb hby d13_38) rfl (l' := #[.val (.ref p0), .val (.int (1 : Int32)), .val (.ref p2), .val (.int (1 : Int32)), .val (.int (2 : Int32)), .val (.int (1 : Int32)), .val (.int c0)]) rfl ?_
      show Steps p.tables e below (T5.setTop (mkF m 41 #[.val (.ref p0), .val (.int (1 : Int32)), .val (.ref p2), .val (.int (1 : Int32)), .val (.int (2 : Int32)), .val (.int (1 : Int32)), .val (.int c0)] [])) _
      refine XS.goto X5.here hx rfl (pc0 := 41) (pc' := 3) rfl (hb hby d13_41) (by decide) (by decide) ?_
      refine XS.iload X5.here hx rfl (hb hby d13_3) rfl  ?_
      refine XS.iload X5.here hx rfl (hb hby d13_5) rfl  ?_
      show Steps p.tables e below (T5.setTop (mkF m 7 #[.val (.ref p0), .val (.int (1 : Int32)), .val (.ref p2), .val (.int (1 : Int32)), .val (.int (2 : Int32)), .val (.int (1 : Int32)), .val (.int c0)] [(.int (2 : Int32)), (.int (1 : Int32))])) _
      refine XS.icmpNo X5.here hx rfl (hb hby d13_7) rfl (tlt (by decide : (1 : Int32) < (2 : Int32))).2.1 ?_
      refine XS.aloadN X5.here hx rfl (hb hby d13_10) rfl rfl ?_
      refine XS.iloadN X5.here hx rfl (hb hby d13_11) rfl  ?_
      show Steps p.tables e below (T5.setTop (mkF m 12 #[.val (.ref p0), .val (.int (1 : Int32)), .val (.ref p2), .val (.int (1 : Int32)), .val (.int (2 : Int32)), .val (.int (1 : Int32)), .val (.int c0)] [(.int (1 : Int32)), (.ref p0)])) _
      refine X5.caload hx (j := (1 : Int32)) (v := (.int c1)) (by rw [e5]; exact Ar7.1) (State.isArrayOf_alike hZ.alike Ar7.2.1) Ar7.2.2 hin7 hat7 (g := (mkF m 12 #[.val (.ref p0), .val (.int (1 : Int32)), .val (.ref p2), .val (.int (1 : Int32)), .val (.int (2 : Int32)), .val (.int (1 : Int32)), .val (.int c0)] [(.int (1 : Int32)), (.ref p0)])) rfl rfl (hb hby d13_12) _ ?_
      show Steps p.tables e below (T5.setTop (mkF m 13 #[.val (.ref p0), .val (.int (1 : Int32)), .val (.ref p2), .val (.int (1 : Int32)), .val (.int (2 : Int32)), .val (.int (1 : Int32)), .val (.int c0)] [(.int c1)])) _
      refine XS.istore X5.here hx rfl (hb hby d13_13) rfl (l' := #[.val (.ref p0), .val (.int (1 : Int32)), .val (.ref p2), .val (.int (1 : Int32)), .val (.int (2 : Int32)), .val (.int (1 : Int32)), .val (.int c1)]) rfl ?_
      refine XS.iload X5.here hx rfl (hb hby d13_15) rfl  ?_
      refine XS.sipush X5.here hx rfl (hb hby d13_17) ?_
      exact kt)
    by_cases hc20_8 : (255 : Int32) < c1
    · obtain ⟨fs, hr, hrun, hended, hW, hsame⟩ := X5.leave (v := some (.int (1 : Int32))) (fun h => by rw [Bd.returns] at h; cases h)
      refine ⟨_, _, pre9 _ ?_, hrun, hended, _, _, rfl, ?_, ⟨_, rfl⟩, hW, hsame.mono (by decide) (by decide)⟩
      · show Steps p.tables e below (T5.setTop (mkF m 20 #[.val (.ref p0), .val (.int (1 : Int32)), .val (.ref p2), .val (.int (1 : Int32)), .val (.int (2 : Int32)), .val (.int (1 : Int32)), .val (.int c1)] [(.int (255 : Int32)), (.int c1)])) _
        refine XS.icmpNo X5.here hx rfl (hb hby d13_20) rfl (tlt hc20_8).2.2.2 ?_
        refine XS.iload X5.here hx rfl (hb hby d13_23) rfl  ?_
        show Steps p.tables e below (T5.setTop (mkF m 25 #[.val (.ref p0), .val (.int (1 : Int32)), .val (.ref p2), .val (.int (1 : Int32)), .val (.int (2 : Int32)), .val (.int (1 : Int32)), .val (.int c1)] [(.int (1 : Int32))])) _
        exact retI X5 hx Bd.returns (hb hby d13_25) hr
      · show Q_rmCmp2 Z p0 p2 zc fm ks kd c0 c1 h0 n0 _ T5.heap _
        rw [e5]
        exact ⟨⟨_, rfl, Or.inr ⟨1, rfl, Nat.le_of_ble_eq_true rfl, hc20_8⟩⟩, N5, K5⟩
    · obtain ⟨cl10, Ar10, q10, S10, N10, H10, G10⟩ := id V5
      have hin10 : ¬ ((1 : Int32) < 0 ∨ cl10.slots.size ≤ ((1 : Int32)).toNatClampNeg) := inb_of S10 ⟨by decide, by decide⟩
      obtain ⟨T11, h11, X11, e11, W11, st11⟩ := stB X5 hx hZ e5 Ar10 (j := (1 : Int32)) hin10 (g := (mkF m 31 #[.val (.ref p0), .val (.int (1 : Int32)), .val (.ref p2), .val (.int (1 : Int32)), .val (.int (2 : Int32)), .val (.int (1 : Int32)), .val (.int c1)] [(.int (c1.toInt8.toInt32)), (.int (1 : Int32)), (.ref p2)])) rfl rfl (hb hby d13_31)
      have N11 := Fr.snoc X11 N5 g2
      have K11 := K5.wr W11 (Or.inl (List.mem_of_getElem? (i := 0) rfl))
      have V11 : Arv Z h11 p2 kd .byte (2 : Int32) [(.int (own_b c0)), (.int (own_b c1))] (.int (0 : Int32)) := Arv.set Ar10 q10 S10 N10 H10 G10 (fits_nar_byte _) W11 1 rfl (Nat.le_of_ble_eq_true rfl)
      obtain ⟨fs, hr, hrun, hended, hW, hsame⟩ := X11.leave (v := some (.int (2 : Int32))) (fun h => by rw [Bd.returns] at h; cases h)
      refine ⟨_, _, pre9 _ ?_, hrun, hended, _, _, rfl, ?_, ⟨_, rfl⟩, hW, hsame.mono (by decide) (by decide)⟩
      · show Steps p.tables e below (T5.setTop (mkF m 20 #[.val (.ref p0), .val (.int (1 : Int32)), .val (.ref p2), .val (.int (1 : Int32)), .val (.int (2 : Int32)), .val (.int (1 : Int32)), .val (.int c1)] [(.int (255 : Int32)), (.int c1)])) _
        refine XS.icmpYes X5.here hx rfl (pc0 := 20) (pc' := 26) rfl (hb hby d13_20) rfl (flt hc20_8).2.2.2 (by decide) (by decide) ?_
        refine XS.aloadN X5.here hx rfl (hb hby d13_26) rfl rfl ?_
        refine XS.iloadN X5.here hx rfl (hb hby d13_27) rfl  ?_
        show Steps p.tables e below (T5.setTop (mkF m 28 #[.val (.ref p0), .val (.int (1 : Int32)), .val (.ref p2), .val (.int (1 : Int32)), .val (.int (2 : Int32)), .val (.int (1 : Int32)), .val (.int c1)] [(.int (1 : Int32)), (.ref p2)])) _
        refine XS.iload X5.here hx rfl (hb hby d13_28) rfl  ?_
        refine XS.i2b X5.here hx rfl (hb hby d13_30) rfl ?_
        show Steps p.tables e below (T5.setTop (mkF m 31 #[.val (.ref p0), .val (.int (1 : Int32)), .val (.ref p2), .val (.int (1 : Int32)), .val (.int (2 : Int32)), .val (.int (1 : Int32)), .val (.int c1)] [(.int (c1.toInt8.toInt32)), (.int (1 : Int32)), (.ref p2)])) _
        refine st11 _ ?_
        show Steps p.tables e below (T11.setTop (mkF m 32 #[.val (.ref p0), .val (.int (1 : Int32)), .val (.ref p2), .val (.int (1 : Int32)), .val (.int (2 : Int32)), .val (.int (1 : Int32)), .val (.int c1)] [])) _
        refine XS.iinc X11.here hx rfl (hb hby d13_32) rfl (l' := #[.val (.ref p0), .val (.int (2 : Int32)), .val (.ref p2), .val (.int (1 : Int32)), .val (.int (2 : Int32)), .val (.int (1 : Int32)), .val (.int c1)]) rfl ?_
        refine XS.iinc X11.here hx rfl (hb hby d13_35) rfl (l' := #[.val (.ref p0), .val (.int (2 : Int32)), .val (.ref p2), .val (.int (2 : Int32)), .val (.int (2 : Int32)), .val (.int (1 : Int32)), .val (.int c1)]) rfl ?_
        refine XS.iinc X11.here hx rfl (hb hby d13_38) rfl (l' := #[.val (.ref p0), .val (.int (2 : Int32)), .val (.ref p2), .val (.int (2 : Int32)), .val (.int (2 : Int32)), .val (.int (2 : Int32)), .val (.int c1)]) rfl ?_
        show Steps p.tables e below (T11.setTop (mkF m 41 #[.val (.ref p0), .val (.int (2 : Int32)), .val (.ref p2), .val (.int (2 : Int32)), .val (.int (2 : Int32)), .val (.int (2 : Int32)), .val (.int c1)] [])) _
        refine XS.goto X11.here hx rfl (pc0 := 41) (pc' := 3) rfl (hb hby d13_41) (by decide) (by decide) ?_
        refine XS.iload X11.here hx rfl (hb hby d13_3) rfl  ?_
        refine XS.iload X11.here hx rfl (hb hby d13_5) rfl  ?_
        show Steps p.tables e below (T11.setTop (mkF m 7 #[.val (.ref p0), .val (.int (2 : Int32)), .val (.ref p2), .val (.int (2 : Int32)), .val (.int (2 : Int32)), .val (.int (2 : Int32)), .val (.int c1)] [(.int (2 : Int32)), (.int (2 : Int32))])) _
        refine XS.icmpYes X11.here hx rfl (pc0 := 7) (pc' := 44) rfl (hb hby d13_7) rfl (flt (by decide : ¬ ((2 : Int32) < (2 : Int32)))).2.1 (by decide) (by decide) ?_
        refine XS.iload X11.here hx rfl (hb hby d13_44) rfl  ?_
        show Steps p.tables e below (T11.setTop (mkF m 46 #[.val (.ref p0), .val (.int (2 : Int32)), .val (.ref p2), .val (.int (2 : Int32)), .val (.int (2 : Int32)), .val (.int (2 : Int32)), .val (.int c1)] [(.int (2 : Int32))])) _
        exact retI X11 hx Bd.returns (hb hby d13_46) hr
      · show Q_rmCmp2 Z p0 p2 zc fm ks kd c0 c1 h0 n0 _ T11.heap _
        rw [e11]
        exact ⟨⟨_, rfl, Or.inl ⟨rfl, ⟨hc20_2, hc20_8⟩, V11⟩⟩, N11, K11⟩
theorem ef_rmPut (m : MethodId) (p0 : Addr) (p1 : Int32) (p2 : Int32) : entryFrame m #[(.ref p0), (.int p1), (.int p2)] 3 = mkF m 0 #[.val (.ref p0), .val (.int p1), .val (.int p2)] [] := by first | (simp [entryFrame, mkF, argsToLocals, Value.category]; done) | rfl
theorem d17_0 : decode jdk_52_method_4_code 0 = .ok (.getstatic 44, 3) := by decide +kernel
theorem d17_3 : decode jdk_52_method_4_code 3 = .ok (.ifCond .ne 25, 3) := by decide +kernel
theorem d17_28 : decode jdk_52_method_4_code 28 = .ok (.iload_n 1, 1) := by decide +kernel
theorem d17_29 : decode jdk_52_method_4_code 29 = .ok (.iconst 1, 1) := by decide +kernel
theorem d17_30 : decode jdk_52_method_4_code 30 = .ok (.ishl, 1) := by decide +kernel
theorem d17_31 : decode jdk_52_method_4_code 31 = .ok (.istore_n 1, 1) := by decide +kernel
theorem d17_32 : decode jdk_52_method_4_code 32 = .ok (.aload_n 0, 1) := by decide +kernel
theorem d17_33 : decode jdk_52_method_4_code 33 = .ok (.iload_n 1, 1) := by decide +kernel
theorem d17_34 : decode jdk_52_method_4_code 34 = .ok (.iinc 1 1, 3) := by decide +kernel
theorem d17_37 : decode jdk_52_method_4_code 37 = .ok (.iload_n 2, 1) := by decide +kernel
theorem d17_38 : decode jdk_52_method_4_code 38 = .ok (.getstatic 59, 3) := by decide +kernel
theorem d17_41 : decode jdk_52_method_4_code 41 = .ok (.ishr, 1) := by decide +kernel
theorem d17_42 : decode jdk_52_method_4_code 42 = .ok (.i2b, 1) := by decide +kernel
theorem d17_43 : decode jdk_52_method_4_code 43 = .ok (.bastore, 1) := by decide +kernel
theorem d17_44 : decode jdk_52_method_4_code 44 = .ok (.aload_n 0, 1) := by decide +kernel
theorem d17_45 : decode jdk_52_method_4_code 45 = .ok (.iload_n 1, 1) := by decide +kernel
theorem d17_46 : decode jdk_52_method_4_code 46 = .ok (.iload_n 2, 1) := by decide +kernel
theorem d17_47 : decode jdk_52_method_4_code 47 = .ok (.getstatic 63, 3) := by decide +kernel
theorem d17_50 : decode jdk_52_method_4_code 50 = .ok (.ishr, 1) := by decide +kernel
theorem d17_51 : decode jdk_52_method_4_code 51 = .ok (.i2b, 1) := by decide +kernel
theorem d17_52 : decode jdk_52_method_4_code 52 = .ok (.bastore, 1) := by decide +kernel
theorem d17_53 : decode jdk_52_method_4_code 53 = .ok (.return_, 1) := by decide +kernel
def Q_rmPut (Z : State) (p0 : Addr) (p1 : Int32) (p2 : Int32) (zc : Int32) (fm : Value) (k : ClassId) (z : Int32) (vs : List Value) (j1 : Nat) (j2 : Nat) (h0 : Heap) (n0 : Nat) (v : Option Value) (h : Heap) (L : List Loc) : Prop := v = none ∧ Fr n0 L ∧ Keep h0 h [p0] ∧ Arv Z h p0 k .byte z ((vs.set j1 (.int (own_wl p2))).set j2 (.int (own_wh p2))) (.int (0 : Int32))
set_option maxRecDepth 65536 in
set_option maxHeartbeats 40000000 in
theorem rmPut (l : Launch) (Z : State) (a0 : Array Value) (hw : ∀ d ∈ tables_1, d.before a0 Z = true) (ws : List Jvm.Cond) (p0 : Addr) (p1 : Int32) (p2 : Int32) (zc : Int32) (fm : Value) (k : ClassId) (z : Int32) (vs : List Value) (j1 : Nat) (j2 : Nat) (h0 : Heap) (n0 : Nat) (Z0 : n0 ≤ h0.size) (hSt : own_St Z zc fm) (Ol : Old Z n0 h0) (A0 : Arv Z h0 p0 k .byte z vs (.int (0 : Int32))) (hi1 : ¬ (p1 <<< ((1 : Int32) &&& 31)) < (0 : Int32) ∧ (p1 <<< ((1 : Int32) &&& 31)) < z) (hi2 : ¬ ((p1 <<< ((1 : Int32) &&& 31)) + (1 : Int32)) < (0 : Int32) ∧ ((p1 <<< ((1 : Int32) &&& 31)) + (1 : Int32)) < z) (hj1 : (p1 <<< ((1 : Int32) &&& 31)).toNatClampNeg = j1) (hj2 : ((p1 <<< ((1 : Int32) &&& 31)) + (1 : Int32)).toNatClampNeg = j2) (hl1 : j1 < vs.length) (hl2 : j2 < vs.length) (g0_ : n0 ≤ p0) :
    MetFree l (⟨"java/lang/StringUTF16", "putChar", "([BII)V"⟩ : MethodName) (head1 (Jvm.Cond.code (⟨"java/lang/StringUTF16", "putChar", "([BII)V"⟩ : MethodName) jdk_52_method_4_code 3 none :: ws) ({ frames := 0, cells := 0, slots := 0, locals := 0 } : Room)) (fun a U => a = #[(.ref p0), (.int p1), (.int p2)] ∧ Z.Warmed39 U.vm ∧ U.heap = h0) (fun _ _ _ _ _ => True) (fun _ U o U' => ∃ v L, o = .returned v ∧ Q_rmPut Z p0 p1 p2 zc fm k z vs j1 j2 h0 n0 v U'.heap L ∧ FrameEnd U o U' L ({ frames := 0, cells := 0, slots := 0, locals := 0 } : Room).cells ({ frames := 0, cells := 0, slots := 0, locals := 0 } : Room).slots) := by
  refine MetFree.of_bodySF (plainFor_of_name pn_java_lang_StringUTF16) hisR ?_
  intro p e s m args below meth c s₁ Bd hml0 hP hK
  obtain ⟨rfl, hZ, hh⟩ := hP
  have hx := Bd.exec
  have hby := Bd.bytes
  have hml : c.maxLocals = 3 := hml0
  have hown : s.vm.findClass "java/lang/StringUTF16" = some m.cls := findClass_of_methodNamed Bd.named
  have hnm := (name_of_methodNamed Bd.named Bd.method).1
  have hZo := hZ
  have howno := hown
  have X0 : Stand p l e ({ frames := 0, cells := 0, slots := 0, locals := 0 } : Room) s m #[(.ref p0), (.int p1), (.int p2)] below meth c s₁ [] 0 0 := Stand.of_body Bd
  have e0 : s₁.heap = h0 := by rw [← hh, Bd.state]; rfl
  have N0 := Fr.nil n0
  have pre0 : ∀ t, Steps p.tables e below (s₁.setTop (mkF m 0 #[.val (.ref p0), .val (.int p1), .val (.int p2)] [])) t → Steps p.tables e below (s₁.setTop (entryFrame m #[(.ref p0), (.int p1), (.int p2)] 3)) t := fun t k => castTop (ef_rmPut m p0 p1 p2 ) k
  obtain ⟨T1, X1, e1, st1⟩ := getS2 X0 hx hZ hown (host := "") (Or.inl (hw _ (List.mem_of_getElem? (i := 80) rfl))) Via.refl e0 (hSt.2.2.2.2.1.ext Ol.2) (g := (mkF m 0 #[.val (.ref p0), .val (.int p1), .val (.int p2)] [])) rfl (hb hby d17_0)
  obtain ⟨T2, X2, e2, st2⟩ := getS2 X1 hx hZ hown (host := "") (Or.inl (hw _ (List.mem_of_getElem? (i := 81) rfl))) Via.refl e1 (hSt.2.2.2.2.2.1.ext Ol.2) (g := (mkF m 38 #[.val (.ref p0), .val (.int ((p1 <<< ((1 : Int32) &&& 31)) + (1 : Int32))), .val (.int p2)] [(.int p2), (.int (p1 <<< ((1 : Int32) &&& 31))), (.ref p0)])) rfl (hb hby d17_38)
  obtain ⟨cl3, Ar3, q3, S3, N3, H3, G3⟩ := id A0
  have hin3 := inb_of (j := (p1 <<< ((1 : Int32) &&& 31))) S3 hi1
  obtain ⟨T4, h4, X4, e4, W4, st4⟩ := stB X2 hx hZ e2 Ar3 (j := (p1 <<< ((1 : Int32) &&& 31))) hin3 (g := (mkF m 43 #[.val (.ref p0), .val (.int ((p1 <<< ((1 : Int32) &&& 31)) + (1 : Int32))), .val (.int p2)] [(.int ((p2 >>> ((0 : Int32) &&& 31)).toInt8.toInt32)), (.int (p1 <<< ((1 : Int32) &&& 31))), (.ref p0)])) rfl rfl (hb hby d17_43)
  have N4 := Fr.snoc X4 N0 g0_
  have K4 := (Keep.refl h0 [p0]).wr W4 (Or.inl (List.mem_of_getElem? (i := 0) rfl))
  have V4 := Arv.set Ar3 q3 S3 N3 H3 G3 (fits_nar_byte _) W4 j1 hj1 hl1
  have f5 := (Ol.wr W4 g0_)
  obtain ⟨T6, X6, e6, st6⟩ := getS2 X4 hx hZ hown (host := "") (Or.inl (hw _ (List.mem_of_getElem? (i := 82) rfl))) Via.refl e4 (hSt.2.2.2.2.2.2.ext f5.2) (g := (mkF m 47 #[.val (.ref p0), .val (.int ((p1 <<< ((1 : Int32) &&& 31)) + (1 : Int32))), .val (.int p2)] [(.int p2), (.int ((p1 <<< ((1 : Int32) &&& 31)) + (1 : Int32))), (.ref p0)])) rfl (hb hby d17_47)
  obtain ⟨cl7, Ar7, q7, S7, N7, H7, G7⟩ := id V4
  have hin7 := inb_of (j := ((p1 <<< ((1 : Int32) &&& 31)) + (1 : Int32))) S7 hi2
  obtain ⟨T8, h8, X8, e8, W8, st8⟩ := stB X6 hx hZ e6 Ar7 (j := ((p1 <<< ((1 : Int32) &&& 31)) + (1 : Int32))) hin7 (g := (mkF m 52 #[.val (.ref p0), .val (.int ((p1 <<< ((1 : Int32) &&& 31)) + (1 : Int32))), .val (.int p2)] [(.int ((p2 >>> ((8 : Int32) &&& 31)).toInt8.toInt32)), (.int ((p1 <<< ((1 : Int32) &&& 31)) + (1 : Int32))), (.ref p0)])) rfl rfl (hb hby d17_52)
  have N8 := Fr.snoc X8 N4 g0_
  have K8 := K4.wr W8 (Or.inl (List.mem_of_getElem? (i := 0) rfl))
  have V8 := Arv.set Ar7 q7 S7 N7 H7 G7 (fits_nar_byte _) W8 j2 hj2 (by rw [List.length_set]; exact hl2)
  obtain ⟨fs, hr, hrun, hended, hW, hsame⟩ := X8.leave (v := none) (fun _ => rfl)
  refine ⟨_, _, pre0 _ ?_, hrun, hended, _, _, rfl, ?_, ⟨_, rfl⟩, hW, hsame.mono (by decide) (by decide)⟩
  · show Steps p.tables e below (s₁.setTop (mkF m 0 #[.val (.ref p0), .val (.int p1), .val (.int p2)] [])) _
    refine st1 _ ?_
    show Steps p.tables e below (T1.setTop (mkF m 3 #[.val (.ref p0), .val (.int p1), .val (.int p2)] [(.int (1 : Int32))])) _
    refine XS.ifYes X1.here hx rfl (pc0 := 3) (pc' := 28) rfl (hb hby d17_3) rfl ((if0 _ _).trans (feq (by decide : ¬ ((1 : Int32) = (0 : Int32)))).2) (by decide) (by decide) ?_
    refine XS.iloadN X1.here hx rfl (hb hby d17_28) rfl  ?_
    refine XS.iconst X1.here hx rfl (hb hby d17_29) ?_
    show Steps p.tables e below (T1.setTop (mkF m 30 #[.val (.ref p0), .val (.int p1), .val (.int p2)] [(.int (1 : Int32)), (.int p1)])) _
    refine XS.ishl X1.here hx rfl (hb hby d17_30) rfl ?_
    refine XS.istoreN X1.here hx rfl (hb hby d17_31) rfl (l' := #[.val (.ref p0), .val (.int (p1 <<< ((1 : Int32) &&& 31))), .val (.int p2)]) rfl ?_
    refine XS.aloadN X1.here hx rfl (hb hby d17_32) rfl rfl ?_
    show Steps p.tables e below (T1.setTop (mkF m 33 #[.val (.ref p0), .val (.int (p1 <<< ((1 : Int32) &&& 31))), .val (.int p2)] [(.ref p0)])) _
    refine XS.iloadN X1.here hx rfl (hb hby d17_33) rfl  ?_
    refine XS.iinc X1.here hx rfl (hb hby d17_34) rfl (l' := #[.val (.ref p0), .val (.int ((p1 <<< ((1 : Int32) &&& 31)) + (1 : Int32))), .val (.int p2)]) rfl ?_
    refine XS.iloadN X1.here hx rfl (hb hby d17_37) rfl  ?_
    show Steps p.tables e below (T1.setTop (mkF m 38 #[.val (.ref p0), .val (.int ((p1 <<< ((1 : Int32) &&& 31)) + (1 : Int32))), .val (.int p2)] [(.int p2), (.int (p1 <<< ((1 : Int32) &&& 31))), (.ref p0)])) _
    refine st2 _ ?_
    show Steps p.tables e below (T2.setTop (mkF m 41 #[.val (.ref p0), .val (.int ((p1 <<< ((1 : Int32) &&& 31)) + (1 : Int32))), .val (.int p2)] [(.int (0 : Int32)), (.int p2), (.int (p1 <<< ((1 : Int32) &&& 31))), (.ref p0)])) _
    refine XS.ishr X2.here hx rfl (hb hby d17_41) rfl ?_
    refine XS.i2b X2.here hx rfl (hb hby d17_42) rfl ?_
    show Steps p.tables e below (T2.setTop (mkF m 43 #[.val (.ref p0), .val (.int ((p1 <<< ((1 : Int32) &&& 31)) + (1 : Int32))), .val (.int p2)] [(.int ((p2 >>> ((0 : Int32) &&& 31)).toInt8.toInt32)), (.int (p1 <<< ((1 : Int32) &&& 31))), (.ref p0)])) _
    refine st4 _ ?_
    show Steps p.tables e below (T4.setTop (mkF m 44 #[.val (.ref p0), .val (.int ((p1 <<< ((1 : Int32) &&& 31)) + (1 : Int32))), .val (.int p2)] [])) _
    refine XS.aloadN X4.here hx rfl (hb hby d17_44) rfl rfl ?_
    refine XS.iloadN X4.here hx rfl (hb hby d17_45) rfl  ?_
    refine XS.iloadN X4.here hx rfl (hb hby d17_46) rfl  ?_
    show Steps p.tables e below (T4.setTop (mkF m 47 #[.val (.ref p0), .val (.int ((p1 <<< ((1 : Int32) &&& 31)) + (1 : Int32))), .val (.int p2)] [(.int p2), (.int ((p1 <<< ((1 : Int32) &&& 31)) + (1 : Int32))), (.ref p0)])) _
    refine st6 _ ?_
    show Steps p.tables e below (T6.setTop (mkF m 50 #[.val (.ref p0), .val (.int ((p1 <<< ((1 : Int32) &&& 31)) + (1 : Int32))), .val (.int p2)] [(.int (8 : Int32)), (.int p2), (.int ((p1 <<< ((1 : Int32) &&& 31)) + (1 : Int32))), (.ref p0)])) _
    refine XS.ishr X6.here hx rfl (hb hby d17_50) rfl ?_
    refine XS.i2b X6.here hx rfl (hb hby d17_51) rfl ?_
    show Steps p.tables e below (T6.setTop (mkF m 52 #[.val (.ref p0), .val (.int ((p1 <<< ((1 : Int32) &&& 31)) + (1 : Int32))), .val (.int p2)] [(.int ((p2 >>> ((8 : Int32) &&& 31)).toInt8.toInt32)), (.int ((p1 <<< ((1 : Int32) &&& 31)) + (1 : Int32))), (.ref p0)])) _
    refine st8 _ ?_
    show Steps p.tables e below (T8.setTop (mkF m 53 #[.val (.ref p0), .val (.int ((p1 <<< ((1 : Int32) &&& 31)) + (1 : Int32))), .val (.int p2)] [])) _
    exact X8.returnOut hx Bd.returns (hb hby d17_53) hr
  · show Q_rmPut Z p0 p1 p2 zc fm k z vs j1 j2 h0 n0 _ T8.heap _
    rw [e8]
    exact ⟨rfl, N8, K8, V8⟩
theorem ef_rmNBL (m : MethodId) (p0 : Int32) : entryFrame m #[(.int p0)] 1 = mkF m 0 #[.val (.int p0)] [] := by first | (simp [entryFrame, mkF, argsToLocals, Value.category]; done) | rfl
theorem d16_0 : decode jdk_52_method_3_code 0 = .ok (.iload_n 0, 1) := by decide +kernel
theorem d16_1 : decode jdk_52_method_3_code 1 = .ok (.ifCond .ge 11, 3) := by decide +kernel
theorem d16_12 : decode jdk_52_method_3_code 12 = .ok (.iload_n 0, 1) := by decide +kernel
theorem d16_13 : decode jdk_52_method_3_code 13 = .ok (.ldc 20, 2) := by decide +kernel
theorem d16_15 : decode jdk_52_method_3_code 15 = .ok (.if_icmp .lt 40, 3) := by decide +kernel
theorem d16_55 : decode jdk_52_method_3_code 55 = .ok (.iload_n 0, 1) := by decide +kernel
theorem d16_56 : decode jdk_52_method_3_code 56 = .ok (.iconst 1, 1) := by decide +kernel
theorem d16_57 : decode jdk_52_method_3_code 57 = .ok (.ishl, 1) := by decide +kernel
theorem d16_58 : decode jdk_52_method_3_code 58 = .ok (.ireturn, 1) := by decide +kernel
def Q_rmNBL (Z : State) (p0 : Int32) (zc : Int32) (fm : Value) (r : Int32) (h0 : Heap) (n0 : Nat) (v : Option Value) (h : Heap) (L : List Loc) : Prop := v = some (.int r) ∧ Fr n0 L ∧ h = h0
set_option maxRecDepth 65536 in
set_option maxHeartbeats 40000000 in
theorem rmNBL (l : Launch) (Z : State) (a0 : Array Value) (hw : ∀ d ∈ tables_1, d.before a0 Z = true) (ws : List Jvm.Cond) (p0 : Int32) (zc : Int32) (fm : Value) (r : Int32) (h0 : Heap) (n0 : Nat) (Z0 : n0 ≤ h0.size) (hSt : own_St Z zc fm) (Ol : Old Z n0 h0) (hp : ¬ p0 < (0 : Int32) ∧ p0 < (1073741823 : Int32)) (hres : r = p0 <<< ((1 : Int32) &&& 31)) :
    MetFree l (⟨"java/lang/StringUTF16", "newBytesLength", "(I)I"⟩ : MethodName) (head1 (Jvm.Cond.code (⟨"java/lang/StringUTF16", "newBytesLength", "(I)I"⟩ : MethodName) jdk_52_method_3_code 1 (some .int) :: ws) ({ frames := 0, cells := 0, slots := 0, locals := 0 } : Room)) (fun a U => a = #[(.int p0)] ∧ Z.Warmed39 U.vm ∧ U.heap = h0) (fun _ _ _ _ _ => True) (fun _ U o U' => ∃ v L, o = .returned v ∧ Q_rmNBL Z p0 zc fm r h0 n0 v U'.heap L ∧ FrameEnd U o U' L ({ frames := 0, cells := 0, slots := 0, locals := 0 } : Room).cells ({ frames := 0, cells := 0, slots := 0, locals := 0 } : Room).slots) := by
  refine MetFree.of_bodySF (plainFor_of_name pn_java_lang_StringUTF16) hisR ?_
  intro p e s m args below meth c s₁ Bd hml0 hP hK
  obtain ⟨rfl, hZ, hh⟩ := hP
  have hx := Bd.exec
  have hby := Bd.bytes
  have hml : c.maxLocals = 1 := hml0
  have hown : s.vm.findClass "java/lang/StringUTF16" = some m.cls := findClass_of_methodNamed Bd.named
  have hnm := (name_of_methodNamed Bd.named Bd.method).1
  have hZo := hZ
  have howno := hown
  have X0 : Stand p l e ({ frames := 0, cells := 0, slots := 0, locals := 0 } : Room) s m #[(.int p0)] below meth c s₁ [] 0 0 := Stand.of_body Bd
  have e0 : s₁.heap = h0 := by rw [← hh, Bd.state]; rfl
  have N0 := Fr.nil n0
  have pre0 : ∀ t, Steps p.tables e below (s₁.setTop (mkF m 0 #[.val (.int p0)] [])) t → Steps p.tables e below (s₁.setTop (entryFrame m #[(.int p0)] 1)) t := fun t k => castTop (ef_rmNBL m p0 ) k
  obtain ⟨fs, hr, hrun, hended, hW, hsame⟩ := X0.leave (v := some (.int (p0 <<< ((1 : Int32) &&& 31)))) (fun h => by rw [Bd.returns] at h; cases h)
  refine ⟨_, _, pre0 _ ?_, hrun, hended, _, _, rfl, ?_, ⟨_, rfl⟩, hW, hsame.mono (by decide) (by decide)⟩
  · show Steps p.tables e below (s₁.setTop (mkF m 0 #[.val (.int p0)] [])) _
    refine XS.iloadN X0.here hx rfl (hb hby d16_0) rfl  ?_
    show Steps p.tables e below (s₁.setTop (mkF m 1 #[.val (.int p0)] [(.int p0)])) _
    refine XS.ifYes X0.here hx rfl (pc0 := 1) (pc' := 12) rfl (hb hby d16_1) rfl ((if0 _ _).trans (flt hp.1).2.1) (by decide) (by decide) ?_
    refine XS.iloadN X0.here hx rfl (hb hby d16_12) rfl  ?_
    show Steps p.tables e below (s₁.setTop (mkF m 13 #[.val (.int p0)] [(.int p0)])) _
    refine X0.ldcInt hx hown (mvT hZ (hw _ (List.mem_of_getElem? (i := 76) rfl))) (g := (mkF m 13 #[.val (.int p0)] [(.int p0)])) rfl (hb hby d16_13) _ ?_
    show Steps p.tables e below (s₁.setTop (mkF m 15 #[.val (.int p0)] [(.int (1073741823 : Int32)), (.int p0)])) _
    refine XS.icmpYes X0.here hx rfl (pc0 := 15) (pc' := 55) rfl (hb hby d16_15) rfl (tlt hp.2).1 (by decide) (by decide) ?_
    refine XS.iloadN X0.here hx rfl (hb hby d16_55) rfl  ?_
    refine XS.iconst X0.here hx rfl (hb hby d16_56) ?_
    show Steps p.tables e below (s₁.setTop (mkF m 57 #[.val (.int p0)] [(.int (1 : Int32)), (.int p0)])) _
    refine XS.ishl X0.here hx rfl (hb hby d16_57) rfl ?_
    show Steps p.tables e below (s₁.setTop (mkF m 58 #[.val (.int p0)] [(.int (p0 <<< ((1 : Int32) &&& 31)))])) _
    exact retI X0 hx Bd.returns (hb hby d16_58) hr
  · show Q_rmNBL Z p0 zc fm r h0 n0 _ s₁.heap _
    rw [e0]
    exact ⟨by rw [hres], N0, rfl⟩
theorem ef_rmNBF2 (m : MethodId)  : entryFrame m #[(.int (2 : Int32))] 1 = mkF m 0 #[.val (.int (2 : Int32))] [] := by first | (simp [entryFrame, mkF, argsToLocals, Value.category]; done) | rfl
theorem d15_0 : decode jdk_52_method_2_code 0 = .ok (.iload_n 0, 1) := by decide +kernel
theorem pd__I_I : parseMethodDescriptor "(I)I" = some ⟨[.int], some .int⟩ := by decide +kernel
theorem d15_1 : decode jdk_52_method_2_code 1 = .ok (.invokestatic 11, 3) := by decide +kernel
theorem d15_4 : decode jdk_52_method_2_code 4 = .ok (.newarray .byte, 2) := by decide +kernel
theorem d15_6 : decode jdk_52_method_2_code 6 = .ok (.areturn, 1) := by decide +kernel
def Q_rmNBF2 (Z : State) (zc : Int32) (fm : Value) (h0 : Heap) (n0 : Nat) (v : Option Value) (h : Heap) (L : List Loc) : Prop := (∃ (b : Addr) (k : ClassId), v = some (.ref b) ∧ n0 ≤ b ∧ h0.size ≤ b ∧ Arv Z h b k .byte (4 : Int32) [(.int (0 : Int32)), (.int (0 : Int32)), (.int (0 : Int32)), (.int (0 : Int32))] (.int (0 : Int32))) ∧ Fr n0 L ∧ Keep h0 h []
set_option maxRecDepth 65536 in
set_option maxHeartbeats 40000000 in
theorem rmNBF2 (l : Launch) (Z : State) (a0 : Array Value) (hw : ∀ d ∈ tables_1, d.before a0 Z = true) (ws : List Jvm.Cond) (zc : Int32) (fm : Value) (h0 : Heap) (n0 : Nat) (Z0 : n0 ≤ h0.size) (hSt : own_St Z zc fm) (Ol : Old Z n0 h0) :
    MetFree l (⟨"java/lang/StringUTF16", "newBytesFor", "(I)[B"⟩ : MethodName) (head1 (Jvm.Cond.code (⟨"java/lang/StringUTF16", "newBytesFor", "(I)[B"⟩ : MethodName) jdk_52_method_2_code 1 (some (.array .byte)) :: ws) ({ frames := 1, cells := 1, slots := 4, locals := 12 } : Room)) (fun a U => a = #[(.int (2 : Int32))] ∧ Z.Warmed39 U.vm ∧ U.heap = h0) (fun _ _ _ _ _ => True) (fun _ U o U' => ∃ v L, o = .returned v ∧ Q_rmNBF2 Z zc fm h0 n0 v U'.heap L ∧ FrameEnd U o U' L ({ frames := 1, cells := 1, slots := 4, locals := 12 } : Room).cells ({ frames := 1, cells := 1, slots := 4, locals := 12 } : Room).slots) := by
  refine MetFree.of_bodySF (plainFor_of_name pn_java_lang_StringUTF16) hisR ?_
  intro p e s m args below meth c s₁ Bd hml0 hP hK
  obtain ⟨rfl, hZ, hh⟩ := hP
  have hx := Bd.exec
  have hby := Bd.bytes
  have hml : c.maxLocals = 1 := hml0
  have hown : s.vm.findClass "java/lang/StringUTF16" = some m.cls := findClass_of_methodNamed Bd.named
  have hnm := (name_of_methodNamed Bd.named Bd.method).1
  have hZo := hZ
  have howno := hown
  have X0 : Stand p l e ({ frames := 1, cells := 1, slots := 4, locals := 12 } : Room) s m #[(.int (2 : Int32))] below meth c s₁ [] 0 0 := Stand.of_body Bd
  have e0 : s₁.heap = h0 := by rw [← hh, Bd.state]; rfl
  have N0 := Fr.nil n0
  have pre0 : ∀ t, Steps p.tables e below (s₁.setTop (mkF m 0 #[.val (.int (2 : Int32))] [])) t → Steps p.tables e below (s₁.setTop (entryFrame m #[(.int (2 : Int32))] 1)) t := fun t k => castTop (ef_rmNBF2 m  ) k
  obtain ⟨_, _, ⟨T1, L1, k1, n1⟩, -, X1, ⟨Lc1, hQ1, l1, y1, z1⟩, st1⟩ := Jvm.LawKit.callS X0 hx (y := (⟨"java/lang/StringUTF16", "newBytesLength", "(I)I"⟩ : MethodName)) hown (mvT hZ (hw _ (List.mem_of_getElem? (i := 73) rfl))) (mvT hZ (hw _ (List.mem_of_getElem? (i := 74) rfl))) (mvT hZ (hw _ (List.mem_of_getElem? (i := 62) rfl))) (mvT hZ (hw _ (List.mem_of_getElem? (i := 75) rfl))) (by decide) (backOf (W := 0) (rmNBL l Z a0 hw [] (2 : Int32) zc fm (4 : Int32) h0 n0 Z0 hSt Ol (by decide) (by decide)) hZ (hw _ (List.mem_of_getElem? (i := 75) rfl)) (hw _ (List.mem_of_getElem? (i := 62) rfl)) (by decide) (by decide)) (g := (mkF m 1 #[.val (.int (2 : Int32))] [(.int (2 : Int32))])) rfl (by rw [hml]; rfl) (argsL := [(.int (2 : Int32))]) (rest := []) (lenOf pd__I_I rfl) rfl (by show 2 * 0 + _ ≤ _; exact Nat.le_of_eq rfl) (hb hby d15_1) (fun _ _ => ⟨rfl, e0, (by decide : 0 + 0 ≤ _), (by decide : 0 + 0 ≤ _)⟩)
  dsimp only [Pt.U, Pt.locs, Pt.cells, Pt.slots] at X1 l1 y1 z1 st1 hQ1
  subst l1 y1 z1
  obtain ⟨rfl, Nq1, e1⟩ := hQ1
  have N1 := Fr.app N0 Nq1
  obtain ⟨T2, h2, k2, X2, e2, E2, A2, st2⟩ := newP X1 hx hZ (hw _ (List.mem_of_getElem? (i := 15) rfl)) e1 (g := (mkF m 4 #[.val (.int (2 : Int32))] [(.int (4 : Int32))])) rfl (hb hby d15_4) rfl (by decide) (cap := 4) (by decide) (by decide) (by decide) (by decide)
  obtain ⟨b2, g2⟩ : ∃ z, z = h0.size := ⟨_, rfl⟩
  rw [← g2] at A2 st2
  have ge2 : n0 ≤ b2 := Nat.le_trans Z0 (Nat.le_of_eq g2.symm)
  have sz2 : h0.size ≤ b2 := Nat.le_trans (Keep.refl h0 []).1 (Nat.le_of_eq g2.symm)
  have K2 := (Keep.refl h0 []).ext E2
  have V2 : Arv Z h2 b2 k2 .byte (4 : Int32) [(.int (0 : Int32)), (.int (0 : Int32)), (.int (0 : Int32)), (.int (0 : Int32))] (.int (0 : Int32)) := (Arv.new A2 (by decide)).pad (pad_rep [] (.int (0 : Int32)) 4)
  obtain ⟨fs, hr, hrun, hended, hW, hsame⟩ := X2.leave (v := some (.ref b2)) (fun h => by rw [Bd.returns] at h; cases h)
  refine ⟨_, _, pre0 _ ?_, hrun, hended, _, _, rfl, ?_, ⟨_, rfl⟩, hW, hsame.mono (by decide) (by decide)⟩
  · show Steps p.tables e below (s₁.setTop (mkF m 0 #[.val (.int (2 : Int32))] [])) _
    refine XS.iloadN X0.here hx rfl (hb hby d15_0) rfl  ?_
    show Steps p.tables e below (s₁.setTop (mkF m 1 #[.val (.int (2 : Int32))] [(.int (2 : Int32))])) _
    refine st1 _ ?_
    show Steps p.tables e below (T1.setTop (mkF m 4 #[.val (.int (2 : Int32))] [(.int (4 : Int32))])) _
    refine st2 _ ?_
    show Steps p.tables e below (T2.setTop (mkF m 6 #[.val (.int (2 : Int32))] [(.ref b2)])) _
    jvm_step X2.here [X2.here.top, hx, (hb hby d15_6), X2.method', Bd.returns, Value.isRef, FieldType.isReference]
    first | (intro acts; rw [hr _ acts rfl rfl rfl]) | rw [hr _ _ rfl rfl rfl]
    exact Steps.refl _
  · show Q_rmNBF2 Z zc fm h0 n0 _ T2.heap _
    rw [e2]
    exact ⟨⟨_, _, rfl, ge2, sz2, V2⟩, N1, K2⟩
theorem ef_rmToB2 (m : MethodId) (p0 : Addr) : entryFrame m #[(.ref p0), (.int (0 : Int32)), (.int (2 : Int32))] 5 = mkF m 0 #[.val (.ref p0), .val (.int (0 : Int32)), .val (.int (2 : Int32)), .unset, .unset] [] := by first | (simp [entryFrame, mkF, argsToLocals, Value.category]; done) | rfl
theorem d14_0 : decode jdk_52_method_14_code 0 = .ok (.iload_n 2, 1) := by decide +kernel
theorem pd__I__B : parseMethodDescriptor "(I)[B" = some ⟨[.int], some (.array .byte)⟩ := by decide +kernel
theorem d14_1 : decode jdk_52_method_14_code 1 = .ok (.invokestatic 107, 3) := by decide +kernel
theorem d14_4 : decode jdk_52_method_14_code 4 = .ok (.astore_n 3, 1) := by decide +kernel
theorem d14_5 : decode jdk_52_method_14_code 5 = .ok (.iconst 0, 1) := by decide +kernel
theorem d14_6 : decode jdk_52_method_14_code 6 = .ok (.istore 4, 2) := by decide +kernel
theorem d14_8 : decode jdk_52_method_14_code 8 = .ok (.iload 4, 2) := by decide +kernel
theorem d14_10 : decode jdk_52_method_14_code 10 = .ok (.iload_n 2, 1) := by decide +kernel
theorem d14_11 : decode jdk_52_method_14_code 11 = .ok (.if_icmp .ge 21, 3) := by decide +kernel
theorem d14_14 : decode jdk_52_method_14_code 14 = .ok (.aload_n 3, 1) := by decide +kernel
theorem d14_15 : decode jdk_52_method_14_code 15 = .ok (.iload 4, 2) := by decide +kernel
theorem d14_17 : decode jdk_52_method_14_code 17 = .ok (.aload_n 0, 1) := by decide +kernel
theorem d14_18 : decode jdk_52_method_14_code 18 = .ok (.iload_n 1, 1) := by decide +kernel
theorem d14_19 : decode jdk_52_method_14_code 19 = .ok (.caload, 1) := by decide +kernel
theorem pd___BII_V : parseMethodDescriptor "([BII)V" = some ⟨[(.array .byte), .int, .int], none⟩ := by decide +kernel
theorem d14_20 : decode jdk_52_method_14_code 20 = .ok (.invokestatic 111, 3) := by decide +kernel
theorem d14_23 : decode jdk_52_method_14_code 23 = .ok (.iinc 1 1, 3) := by decide +kernel
theorem d14_26 : decode jdk_52_method_14_code 26 = .ok (.iinc 4 1, 3) := by decide +kernel
theorem d14_29 : decode jdk_52_method_14_code 29 = .ok (.goto (-21), 3) := by decide +kernel
theorem d14_32 : decode jdk_52_method_14_code 32 = .ok (.aload_n 3, 1) := by decide +kernel
theorem d14_33 : decode jdk_52_method_14_code 33 = .ok (.areturn, 1) := by decide +kernel
def Q_rmToB2 (Z : State) (p0 : Addr) (zc : Int32) (fm : Value) (ks : ClassId) (c0 : Int32) (c1 : Int32) (h0 : Heap) (n0 : Nat) (v : Option Value) (h : Heap) (L : List Loc) : Prop := (∃ (b : Addr) (k : ClassId), v = some (.ref b) ∧ n0 ≤ b ∧ h0.size ≤ b ∧ Arv Z h b k .byte (4 : Int32) [(.int (own_wl c0)), (.int (own_wh c0)), (.int (own_wl c1)), (.int (own_wh c1))] (.int (0 : Int32))) ∧ Fr n0 L ∧ Keep h0 h []
set_option maxRecDepth 65536 in
set_option maxHeartbeats 40000000 in
theorem rmToB2 (l : Launch) (Z : State) (a0 : Array Value) (hw : ∀ d ∈ tables_1, d.before a0 Z = true) (ws : List Jvm.Cond) (p0 : Addr) (zc : Int32) (fm : Value) (ks : ClassId) (c0 : Int32) (c1 : Int32) (h0 : Heap) (n0 : Nat) (Z0 : n0 ≤ h0.size) (hSt : own_St Z zc fm) (Ol : Old Z n0 h0) (As : Arv Z h0 p0 ks .char (2 : Int32) [(.int c0), (.int c1)] (.int (0 : Int32))) :
    MetFree l (⟨"java/lang/StringUTF16", "toBytes", "([CII)[B"⟩ : MethodName) (head1 (Jvm.Cond.code (⟨"java/lang/StringUTF16", "toBytes", "([CII)[B"⟩ : MethodName) jdk_52_method_14_code 5 (some (.array .byte)) :: ws) ({ frames := 2, cells := 1, slots := 4, locals := 24 } : Room)) (fun a U => a = #[(.ref p0), (.int (0 : Int32)), (.int (2 : Int32))] ∧ Z.Warmed39 U.vm ∧ U.heap = h0) (fun _ _ _ _ _ => True) (fun _ U o U' => ∃ v L, o = .returned v ∧ Q_rmToB2 Z p0 zc fm ks c0 c1 h0 n0 v U'.heap L ∧ FrameEnd U o U' L ({ frames := 2, cells := 1, slots := 4, locals := 24 } : Room).cells ({ frames := 2, cells := 1, slots := 4, locals := 24 } : Room).slots) := by
  refine MetFree.of_bodySF (plainFor_of_name pn_java_lang_StringUTF16) hisR ?_
  intro p e s m args below meth c s₁ Bd hml0 hP hK
  obtain ⟨rfl, hZ, hh⟩ := hP
  have hx := Bd.exec
  have hby := Bd.bytes
  have hml : c.maxLocals = 5 := hml0
  have hown : s.vm.findClass "java/lang/StringUTF16" = some m.cls := findClass_of_methodNamed Bd.named
  have hnm := (name_of_methodNamed Bd.named Bd.method).1
  have hZo := hZ
  have howno := hown
  have X0 : Stand p l e ({ frames := 2, cells := 1, slots := 4, locals := 24 } : Room) s m #[(.ref p0), (.int (0 : Int32)), (.int (2 : Int32))] below meth c s₁ [] 0 0 := Stand.of_body Bd
  have e0 : s₁.heap = h0 := by rw [← hh, Bd.state]; rfl
  have N0 := Fr.nil n0
  have pre0 : ∀ t, Steps p.tables e below (s₁.setTop (mkF m 0 #[.val (.ref p0), .val (.int (0 : Int32)), .val (.int (2 : Int32)), .unset, .unset] [])) t → Steps p.tables e below (s₁.setTop (entryFrame m #[(.ref p0), (.int (0 : Int32)), (.int (2 : Int32))] 5)) t := fun t k => castTop (ef_rmToB2 m p0 ) k
  obtain ⟨_, _, ⟨T1, L1, k1, n1⟩, -, X1, ⟨Lc1, hQ1, l1, y1, z1⟩, st1⟩ := Jvm.LawKit.callS X0 hx (y := (⟨"java/lang/StringUTF16", "newBytesFor", "(I)[B"⟩ : MethodName)) hown (mvT hZ (hw _ (List.mem_of_getElem? (i := 70) rfl))) (mvT hZ (hw _ (List.mem_of_getElem? (i := 71) rfl))) (mvT hZ (hw _ (List.mem_of_getElem? (i := 62) rfl))) (mvT hZ (hw _ (List.mem_of_getElem? (i := 72) rfl))) (by decide) (backOf (W := 0) (rmNBF2 l Z a0 hw []  zc fm  h0 n0 Z0 hSt Ol ) hZ (hw _ (List.mem_of_getElem? (i := 72) rfl)) (hw _ (List.mem_of_getElem? (i := 62) rfl)) (by decide) (by decide)) (g := (mkF m 1 #[.val (.ref p0), .val (.int (0 : Int32)), .val (.int (2 : Int32)), .unset, .unset] [(.int (2 : Int32))])) rfl (by rw [hml]; rfl) (argsL := [(.int (2 : Int32))]) (rest := []) (lenOf pd__I__B rfl) rfl (by show 2 * 0 + _ ≤ _; exact Nat.le_of_eq rfl) (hb hby d14_1) (fun _ _ => ⟨rfl, e0, (by decide : 0 + 1 ≤ _), (by decide : 0 + 4 ≤ _)⟩)
  dsimp only [Pt.U, Pt.locs, Pt.cells, Pt.slots] at X1 l1 y1 z1 st1 hQ1
  subst l1 y1 z1
  obtain ⟨⟨nb1, kb1, rfl, gb1, sb1, Ab1⟩, Nq1, K1⟩ := hQ1
  have N1 := Fr.app N0 Nq1
  have KK1 := (Keep.refl h0 []).trans K1 all0
  have nb_ne : p0 ≠ nb1 := Nat.ne_of_lt (Nat.lt_of_lt_of_le As.lt sb1)
  have f2 := (As.keep K1 nin0)
  obtain ⟨cl3, Ar3, q3, S3, N3, H3, G3⟩ := id f2
  have hin3 : ¬ ((0 : Int32) < 0 ∨ cl3.slots.size ≤ ((0 : Int32)).toNatClampNeg) := inb_of S3 ⟨by decide, by decide⟩
  have hat3 : cl3.slots[((0 : Int32)).toNatClampNeg]? = some (.int c0) := Has.at H3 hin3 rfl
  have f4 := (Nat.le_trans Z0 K1.1)
  have f5 := (Ol.keep K1 all0)
  obtain ⟨_, _, ⟨T6, L6, k6, n6⟩, -, X6, ⟨Lc6, hQ6, l6, y6, z6⟩, st6⟩ := Jvm.LawKit.callS X1 hx (y := (⟨"java/lang/StringUTF16", "putChar", "([BII)V"⟩ : MethodName)) hown (mvT hZ (hw _ (List.mem_of_getElem? (i := 77) rfl))) (mvT hZ (hw _ (List.mem_of_getElem? (i := 78) rfl))) (mvT hZ (hw _ (List.mem_of_getElem? (i := 62) rfl))) (mvT hZ (hw _ (List.mem_of_getElem? (i := 79) rfl))) (by decide) (backOf (W := 0) (rmPut l Z a0 hw [] nb1 (0 : Int32) c0 zc fm kb1 (4 : Int32) [(.int (0 : Int32)), (.int (0 : Int32)), (.int (0 : Int32)), (.int (0 : Int32))] 0 1 T1.heap n0 f4 hSt f5 Ab1 (by decide) (by decide) (by decide) (by decide) (Nat.le_of_ble_eq_true rfl) (Nat.le_of_ble_eq_true rfl) gb1) hZ (hw _ (List.mem_of_getElem? (i := 79) rfl)) (hw _ (List.mem_of_getElem? (i := 62) rfl)) (by decide) (by decide)) (g := (mkF m 20 #[.val (.ref p0), .val (.int (0 : Int32)), .val (.int (2 : Int32)), .val (.ref nb1), .val (.int (0 : Int32))] [(.int c0), (.int (0 : Int32)), (.ref nb1)])) rfl (by rw [hml]; rfl) (argsL := [(.ref nb1), (.int (0 : Int32)), (.int c0)]) (rest := []) (lenOf pd___BII_V rfl) rfl (by show 2 * 0 + _ ≤ _; exact Nat.le_of_eq rfl) (hb hby d14_20) (fun _ _ => ⟨rfl, rfl, (by decide : 1 + 0 ≤ _), (by decide : 4 + 0 ≤ _)⟩)
  dsimp only [Pt.U, Pt.locs, Pt.cells, Pt.slots] at X6 l6 y6 z6 st6 hQ6
  subst l6 y6 z6
  obtain ⟨rfl, Nq6, K6, Vp6⟩ := hQ6
  have N6 := Fr.app N1 Nq6
  have KK6 := KK1.trans K6 (allS (Or.inr sb1) all0)
  have f7 := (f2.keep K6 (ninS nb_ne nin0))
  obtain ⟨cl8, Ar8, q8, S8, N8, H8, G8⟩ := id f7
  have hin8 : ¬ ((1 : Int32) < 0 ∨ cl8.slots.size ≤ ((1 : Int32)).toNatClampNeg) := inb_of S8 ⟨by decide, by decide⟩
  have hat8 : cl8.slots[((1 : Int32)).toNatClampNeg]? = some (.int c1) := Has.at H8 hin8 rfl
  have f9 := (Nat.le_trans f4 K6.1)
  have f10 := (f5.keep K6 (allS gb1 all0))
  obtain ⟨_, _, ⟨T11, L11, k11, n11⟩, -, X11, ⟨Lc11, hQ11, l11, y11, z11⟩, st11⟩ := Jvm.LawKit.callS X6 hx (y := (⟨"java/lang/StringUTF16", "putChar", "([BII)V"⟩ : MethodName)) hown (mvT hZ (hw _ (List.mem_of_getElem? (i := 77) rfl))) (mvT hZ (hw _ (List.mem_of_getElem? (i := 78) rfl))) (mvT hZ (hw _ (List.mem_of_getElem? (i := 62) rfl))) (mvT hZ (hw _ (List.mem_of_getElem? (i := 79) rfl))) (by decide) (backOf (W := 0) (rmPut l Z a0 hw [] nb1 (1 : Int32) c1 zc fm kb1 (4 : Int32) [(.int (own_wl c0)), (.int (own_wh c0)), (.int (0 : Int32)), (.int (0 : Int32))] 2 3 T6.heap n0 f9 hSt f10 Vp6 (by decide) (by decide) (by decide) (by decide) (Nat.le_of_ble_eq_true rfl) (Nat.le_of_ble_eq_true rfl) gb1) hZ (hw _ (List.mem_of_getElem? (i := 79) rfl)) (hw _ (List.mem_of_getElem? (i := 62) rfl)) (by decide) (by decide)) (g := (mkF m 20 #[.val (.ref p0), .val (.int (1 : Int32)), .val (.int (2 : Int32)), .val (.ref nb1), .val (.int (1 : Int32))] [(.int c1), (.int (1 : Int32)), (.ref nb1)])) rfl (by rw [hml]; rfl) (argsL := [(.ref nb1), (.int (1 : Int32)), (.int c1)]) (rest := []) (lenOf pd___BII_V rfl) rfl (by show 2 * 0 + _ ≤ _; exact Nat.le_of_eq rfl) (hb hby d14_20) (fun _ _ => ⟨rfl, rfl, (by decide : 1 + 0 ≤ _), (by decide : 4 + 0 ≤ _)⟩)
  dsimp only [Pt.U, Pt.locs, Pt.cells, Pt.slots] at X11 l11 y11 z11 st11 hQ11
  subst l11 y11 z11
  obtain ⟨rfl, Nq11, K11, Vp11⟩ := hQ11
  have N11 := Fr.app N6 Nq11
  have KK11 := KK6.trans K11 (allS (Or.inr sb1) all0)
  obtain ⟨fs, hr, hrun, hended, hW, hsame⟩ := X11.leave (v := some (.ref nb1)) (fun h => by rw [Bd.returns] at h; cases h)
  refine ⟨_, _, pre0 _ ?_, hrun, hended, _, _, rfl, ?_, ⟨_, rfl⟩, hW, hsame.mono (by decide) (by decide)⟩
  · show Steps p.tables e below (s₁.setTop (mkF m 0 #[.val (.ref p0), .val (.int (0 : Int32)), .val (.int (2 : Int32)), .unset, .unset] [])) _
    refine XS.iloadN X0.here hx rfl (hb hby d14_0) rfl  ?_
    show Steps p.tables e below (s₁.setTop (mkF m 1 #[.val (.ref p0), .val (.int (0 : Int32)), .val (.int (2 : Int32)), .unset, .unset] [(.int (2 : Int32))])) _
    refine st1 _ ?_
    show Steps p.tables e below (T1.setTop (mkF m 4 #[.val (.ref p0), .val (.int (0 : Int32)), .val (.int (2 : Int32)), .unset, .unset] [(.ref nb1)])) _
    refine XS.astoreN X1.here hx rfl (hb hby d14_4) rfl rfl (l' := #[.val (.ref p0), .val (.int (0 : Int32)), .val (.int (2 : Int32)), .val (.ref nb1), .unset]) rfl ?_
    refine XS.iconst X1.here hx rfl (hb hby d14_5) ?_
    refine XS.istore X1.here hx rfl (hb hby d14_6) rfl (l' := #[.val (.ref p0), .val (.int (0 : Int32)), .val (.int (2 : Int32)), .val (.ref nb1), .val (.int (0 : Int32))]) rfl ?_
    show Steps p.tables e below (T1.setTop (mkF m 8 #[.val (.ref p0), .val (.int (0 : Int32)), .val (.int (2 : Int32)), .val (.ref nb1), .val (.int (0 : Int32))] [])) _
    refine XS.iload X1.here hx rfl (hb hby d14_8) rfl  ?_
    refine XS.iloadN X1.here hx rfl (hb hby d14_10) rfl  ?_
    show Steps p.tables e below (T1.setTop (mkF m 11 #[.val (.ref p0), .val (.int (0 : Int32)), .val (.int (2 : Int32)), .val (.ref nb1), .val (.int (0 : Int32))] [(.int (2 : Int32)), (.int (0 : Int32))])) _
    refine XS.icmpNo X1.here hx rfl (hb hby d14_11) rfl (tlt (by decide : (0 : Int32) < (2 : Int32))).2.1 ?_
    refine XS.aloadN X1.here hx rfl (hb hby d14_14) rfl rfl ?_
    refine XS.iload X1.here hx rfl (hb hby d14_15) rfl  ?_
    show Steps p.tables e below (T1.setTop (mkF m 17 #[.val (.ref p0), .val (.int (0 : Int32)), .val (.int (2 : Int32)), .val (.ref nb1), .val (.int (0 : Int32))] [(.int (0 : Int32)), (.ref nb1)])) _
    refine XS.aloadN X1.here hx rfl (hb hby d14_17) rfl rfl ?_
    refine XS.iloadN X1.here hx rfl (hb hby d14_18) rfl  ?_
    show Steps p.tables e below (T1.setTop (mkF m 19 #[.val (.ref p0), .val (.int (0 : Int32)), .val (.int (2 : Int32)), .val (.ref nb1), .val (.int (0 : Int32))] [(.int (0 : Int32)), (.ref p0), (.int (0 : Int32)), (.ref nb1)])) _
    refine X1.caload hx (j := (0 : Int32)) (v := (.int c0)) Ar3.1 (State.isArrayOf_alike hZ.alike Ar3.2.1) Ar3.2.2 hin3 hat3 (g := (mkF m 19 #[.val (.ref p0), .val (.int (0 : Int32)), .val (.int (2 : Int32)), .val (.ref nb1), .val (.int (0 : Int32))] [(.int (0 : Int32)), (.ref p0), (.int (0 : Int32)), (.ref nb1)])) rfl rfl (hb hby d14_19) _ ?_
    show Steps p.tables e below (T1.setTop (mkF m 20 #[.val (.ref p0), .val (.int (0 : Int32)), .val (.int (2 : Int32)), .val (.ref nb1), .val (.int (0 : Int32))] [(.int c0), (.int (0 : Int32)), (.ref nb1)])) _
    refine st6 _ ?_
    show Steps p.tables e below (T6.setTop (mkF m 23 #[.val (.ref p0), .val (.int (0 : Int32)), .val (.int (2 : Int32)), .val (.ref nb1), .val (.int (0 : Int32))] [])) _
    refine XS.iinc X6.here hx rfl (hb hby d14_23) rfl (l' := #[.val (.ref p0), .val (.int (1 : Int32)), .val (.int (2 : Int32)), .val (.ref nb1), .val (.int (0 : Int32))]) rfl ?_
    refine XS.iinc X6.here hx rfl (hb hby d14_26) rfl (l' := #[.val (.ref p0), .val (.int (1 : Int32)), .val (.int (2 : Int32)), .val (.ref nb1), .val (.int (1 : Int32))]) rfl ?_
    refine XS.goto X6.here hx rfl (pc0 := 29) (pc' := 8) rfl (hb hby d14_29) (by decide) (by decide) ?_
    show Steps p.tables e below (T6.setTop (mkF m 8 #[.val (.ref p0), .val (.int (1 : Int32)), .val (.int (2 : Int32)), .val (.ref nb1), .val (.int (1 : Int32))] [])) _
    refine XS.iload X6.here hx rfl (hb hby d14_8) rfl  ?_
    refine XS.iloadN X6.here hx rfl (hb hby d14_10) rfl  ?_
    show Steps p.tables e below (T6.setTop (mkF m 11 #[.val (.ref p0), .val (.int (1 : Int32)), .val (.int (2 : Int32)), .val (.ref nb1), .val (.int (1 : Int32))] [(.int (2 : Int32)), (.int (1 : Int32))])) _
    refine XS.icmpNo X6.here hx rfl (hb hby d14_11) rfl (tlt (by decide : (1 : Int32) < (2 : Int32))).2.1 ?_
    refine XS.aloadN X6.here hx rfl (hb hby d14_14) rfl rfl ?_
    refine XS.iload X6.here hx rfl (hb hby d14_15) rfl  ?_
    show Steps p.tables e below (T6.setTop (mkF m 17 #[.val (.ref p0), .val (.int (1 : Int32)), .val (.int (2 : Int32)), .val (.ref nb1), .val (.int (1 : Int32))] [(.int (1 : Int32)), (.ref nb1)])) _
    refine XS.aloadN X6.here hx rfl (hb hby d14_17) rfl rfl ?_
    refine XS.iloadN X6.here hx rfl (hb hby d14_18) rfl  ?_
    show Steps p.tables e below (T6.setTop (mkF m 19 #[.val (.ref p0), .val (.int (1 : Int32)), .val (.int (2 : Int32)), .val (.ref nb1), .val (.int (1 : Int32))] [(.int (1 : Int32)), (.ref p0), (.int (1 : Int32)), (.ref nb1)])) _
    refine X6.caload hx (j := (1 : Int32)) (v := (.int c1)) Ar8.1 (State.isArrayOf_alike hZ.alike Ar8.2.1) Ar8.2.2 hin8 hat8 (g := (mkF m 19 #[.val (.ref p0), .val (.int (1 : Int32)), .val (.int (2 : Int32)), .val (.ref nb1), .val (.int (1 : Int32))] [(.int (1 : Int32)), (.ref p0), (.int (1 : Int32)), (.ref nb1)])) rfl rfl (hb hby d14_19) _ ?_
    show Steps p.tables e below (T6.setTop (mkF m 20 #[.val (.ref p0), .val (.int (1 : Int32)), .val (.int (2 : Int32)), .val (.ref nb1), .val (.int (1 : Int32))] [(.int c1), (.int (1 : Int32)), (.ref nb1)])) _
    refine st11 _ ?_
    show Steps p.tables e below (T11.setTop (mkF m 23 #[.val (.ref p0), .val (.int (1 : Int32)), .val (.int (2 : Int32)), .val (.ref nb1), .val (.int (1 : Int32))] [])) _
    refine XS.iinc X11.here hx rfl (hb hby d14_23) rfl (l' := #[.val (.ref p0), .val (.int (2 : Int32)), .val (.int (2 : Int32)), .val (.ref nb1), .val (.int (1 : Int32))]) rfl ?_
    refine XS.iinc X11.here hx rfl (hb hby d14_26) rfl (l' := #[.val (.ref p0), .val (.int (2 : Int32)), .val (.int (2 : Int32)), .val (.ref nb1), .val (.int (2 : Int32))]) rfl ?_
    refine XS.goto X11.here hx rfl (pc0 := 29) (pc' := 8) rfl (hb hby d14_29) (by decide) (by decide) ?_
    show Steps p.tables e below (T11.setTop (mkF m 8 #[.val (.ref p0), .val (.int (2 : Int32)), .val (.int (2 : Int32)), .val (.ref nb1), .val (.int (2 : Int32))] [])) _
    refine XS.iload X11.here hx rfl (hb hby d14_8) rfl  ?_
    refine XS.iloadN X11.here hx rfl (hb hby d14_10) rfl  ?_
    show Steps p.tables e below (T11.setTop (mkF m 11 #[.val (.ref p0), .val (.int (2 : Int32)), .val (.int (2 : Int32)), .val (.ref nb1), .val (.int (2 : Int32))] [(.int (2 : Int32)), (.int (2 : Int32))])) _
    refine XS.icmpYes X11.here hx rfl (pc0 := 11) (pc' := 32) rfl (hb hby d14_11) rfl (flt (by decide : ¬ ((2 : Int32) < (2 : Int32)))).2.1 (by decide) (by decide) ?_
    refine XS.aloadN X11.here hx rfl (hb hby d14_32) rfl rfl ?_
    show Steps p.tables e below (T11.setTop (mkF m 33 #[.val (.ref p0), .val (.int (2 : Int32)), .val (.int (2 : Int32)), .val (.ref nb1), .val (.int (2 : Int32))] [(.ref nb1)])) _
    jvm_step X11.here [X11.here.top, hx, (hb hby d14_33), X11.method', Bd.returns, Value.isRef, FieldType.isReference]
    first | (intro acts; rw [hr _ acts rfl rfl rfl]) | rw [hr _ _ rfl rfl rfl]
    exact Steps.refl _
  · show Q_rmToB2 Z p0 zc fm ks c0 c1 h0 n0 _ T11.heap _
    exact ⟨⟨_, _, rfl, gb1, sb1, Vp11⟩, N11, KK11⟩
theorem ef_rmComp2 (m : MethodId) (p0 : Addr) : entryFrame m #[(.ref p0), (.int (0 : Int32)), (.int (2 : Int32))] 6 = mkF m 0 #[.val (.ref p0), .val (.int (0 : Int32)), .val (.int (2 : Int32)), .unset, .unset, .unset] [] := by first | (simp [entryFrame, mkF, argsToLocals, Value.category]; done) | rfl
theorem d12_0 : decode jdk_52_method_16_code 0 = .ok (.iload_n 2, 1) := by decide +kernel
theorem d12_1 : decode jdk_52_method_16_code 1 = .ok (.newarray .byte, 2) := by decide +kernel
theorem d12_3 : decode jdk_52_method_16_code 3 = .ok (.astore_n 3, 1) := by decide +kernel
theorem d12_4 : decode jdk_52_method_16_code 4 = .ok (.aload_n 0, 1) := by decide +kernel
theorem d12_5 : decode jdk_52_method_16_code 5 = .ok (.iload_n 1, 1) := by decide +kernel
theorem d12_6 : decode jdk_52_method_16_code 6 = .ok (.aload_n 3, 1) := by decide +kernel
theorem d12_7 : decode jdk_52_method_16_code 7 = .ok (.iconst 0, 1) := by decide +kernel
theorem d12_8 : decode jdk_52_method_16_code 8 = .ok (.iload_n 2, 1) := by decide +kernel
theorem pd___CI_BII_I : parseMethodDescriptor "([CI[BII)I" = some ⟨[(.array .char), .int, (.array .byte), .int, .int], some .int⟩ := by decide +kernel
theorem d12_9 : decode jdk_52_method_16_code 9 = .ok (.invokestatic 115, 3) := by decide +kernel
theorem d12_12 : decode jdk_52_method_16_code 12 = .ok (.istore 4, 2) := by decide +kernel
theorem d12_14 : decode jdk_52_method_16_code 14 = .ok (.iload 4, 2) := by decide +kernel
theorem d12_16 : decode jdk_52_method_16_code 16 = .ok (.iload_n 2, 1) := by decide +kernel
theorem d12_17 : decode jdk_52_method_16_code 17 = .ok (.if_icmp .eq 40, 3) := by decide +kernel
theorem d12_57 : decode jdk_52_method_16_code 57 = .ok (.aload_n 3, 1) := by decide +kernel
theorem d12_58 : decode jdk_52_method_16_code 58 = .ok (.areturn, 1) := by decide +kernel
theorem d12_20 : decode jdk_52_method_16_code 20 = .ok (.aload_n 0, 1) := by decide +kernel
theorem d12_21 : decode jdk_52_method_16_code 21 = .ok (.iload_n 1, 1) := by decide +kernel
theorem d12_22 : decode jdk_52_method_16_code 22 = .ok (.iload_n 2, 1) := by decide +kernel
theorem pd___CII__B : parseMethodDescriptor "([CII)[B" = some ⟨[(.array .char), .int, .int], some (.array .byte)⟩ := by decide +kernel
theorem d12_23 : decode jdk_52_method_16_code 23 = .ok (.invokestatic 119, 3) := by decide +kernel
theorem d12_26 : decode jdk_52_method_16_code 26 = .ok (.astore 5, 2) := by decide +kernel
theorem d12_28 : decode jdk_52_method_16_code 28 = .ok (.aload 5, 2) := by decide +kernel
theorem d12_30 : decode jdk_52_method_16_code 30 = .ok (.iload 4, 2) := by decide +kernel
theorem d12_32 : decode jdk_52_method_16_code 32 = .ok (.invokestatic 71, 3) := by decide +kernel
theorem d12_35 : decode jdk_52_method_16_code 35 = .ok (.sipush 255, 3) := by decide +kernel
theorem d12_38 : decode jdk_52_method_16_code 38 = .ok (.if_icmp .gt 16, 3) := by decide +kernel
theorem d12_54 : decode jdk_52_method_16_code 54 = .ok (.aload 5, 2) := by decide +kernel
theorem d12_56 : decode jdk_52_method_16_code 56 = .ok (.areturn, 1) := by decide +kernel
def Q_rmComp2 (Z : State) (p0 : Addr) (zc : Int32) (fm : Value) (ks : ClassId) (c0 : Int32) (c1 : Int32) (h0 : Heap) (n0 : Nat) (v : Option Value) (h : Heap) (L : List Loc) : Prop := (∃ (b : Addr) (k : ClassId), v = some (.ref b) ∧ n0 ≤ b ∧ h0.size ≤ b ∧ (((¬ (255 : Int32) < c0 ∧ ¬ (255 : Int32) < c1) ∧ Arv Z h b k .byte (2 : Int32) [(.int (own_b c0)), (.int (own_b c1))] (.int (0 : Int32))) ∨ Arv Z h b k .byte (4 : Int32) [(.int (own_wl c0)), (.int (own_wh c0)), (.int (own_wl c1)), (.int (own_wh c1))] (.int (0 : Int32)))) ∧ Fr n0 L ∧ Keep h0 h []
set_option maxRecDepth 65536 in
set_option maxHeartbeats 40000000 in
theorem rmComp2 (l : Launch) (Z : State) (a0 : Array Value) (hw : ∀ d ∈ tables_1, d.before a0 Z = true) (ws : List Jvm.Cond) (p0 : Addr) (zc : Int32) (fm : Value) (ks : ClassId) (c0 : Int32) (c1 : Int32) (h0 : Heap) (n0 : Nat) (Z0 : n0 ≤ h0.size) (hSt : own_St Z zc fm) (Ol : Old Z n0 h0) (As : Arv Z h0 p0 ks .char (2 : Int32) [(.int c0), (.int c1)] (.int (0 : Int32))) (hch : ∀ c ∈ [c0, c1], ¬ c < (0 : Int32) ∧ ¬ (65535 : Int32) < c) :
    MetFree l (⟨"java/lang/StringUTF16", "compress", "([CII)[B"⟩ : MethodName) (head1 (Jvm.Cond.code (⟨"java/lang/StringUTF16", "compress", "([CII)[B"⟩ : MethodName) jdk_52_method_16_code 6 (some (.array .byte)) :: ws) ({ frames := 3, cells := 2, slots := 6, locals := 40 } : Room)) (fun a U => a = #[(.ref p0), (.int (0 : Int32)), (.int (2 : Int32))] ∧ Z.Warmed39 U.vm ∧ U.heap = h0) (fun _ _ _ _ _ => True) (fun _ U o U' => ∃ v L, o = .returned v ∧ Q_rmComp2 Z p0 zc fm ks c0 c1 h0 n0 v U'.heap L ∧ FrameEnd U o U' L ({ frames := 3, cells := 2, slots := 6, locals := 40 } : Room).cells ({ frames := 3, cells := 2, slots := 6, locals := 40 } : Room).slots) := by
  refine MetFree.of_bodySF (plainFor_of_name pn_java_lang_StringUTF16) hisR ?_
  intro p e s m args below meth c s₁ Bd hml0 hP hK
  obtain ⟨rfl, hZ, hh⟩ := hP
  have hx := Bd.exec
  have hby := Bd.bytes
  have hml : c.maxLocals = 6 := hml0
  have hown : s.vm.findClass "java/lang/StringUTF16" = some m.cls := findClass_of_methodNamed Bd.named
  have hnm := (name_of_methodNamed Bd.named Bd.method).1
  have hZo := hZ
  have howno := hown
  have X0 : Stand p l e ({ frames := 3, cells := 2, slots := 6, locals := 40 } : Room) s m #[(.ref p0), (.int (0 : Int32)), (.int (2 : Int32))] below meth c s₁ [] 0 0 := Stand.of_body Bd
  have e0 : s₁.heap = h0 := by rw [← hh, Bd.state]; rfl
  have N0 := Fr.nil n0
  have pre0 : ∀ t, Steps p.tables e below (s₁.setTop (mkF m 0 #[.val (.ref p0), .val (.int (0 : Int32)), .val (.int (2 : Int32)), .unset, .unset, .unset] [])) t → Steps p.tables e below (s₁.setTop (entryFrame m #[(.ref p0), (.int (0 : Int32)), (.int (2 : Int32))] 6)) t := fun t k => castTop (ef_rmComp2 m p0 ) k
  obtain ⟨T1, h1, k1, X1, e1, E1, A1, st1⟩ := newP X0 hx hZ (hw _ (List.mem_of_getElem? (i := 15) rfl)) e0 (g := (mkF m 1 #[.val (.ref p0), .val (.int (0 : Int32)), .val (.int (2 : Int32)), .unset, .unset, .unset] [(.int (2 : Int32))])) rfl (hb hby d12_1) rfl (by decide) (cap := 2) (by decide) (by decide) (by decide) (by decide)
  obtain ⟨b1, g1⟩ : ∃ z, z = h0.size := ⟨_, rfl⟩
  rw [← g1] at A1 st1
  have ne1_p0 : p0 ≠ b1 := Nat.ne_of_lt (Nat.lt_of_lt_of_le As.lt (Nat.le_of_eq g1.symm))
  have ge1 : n0 ≤ b1 := Nat.le_trans Z0 (Nat.le_of_eq g1.symm)
  have sz1 : h0.size ≤ b1 := Nat.le_trans (Keep.refl h0 []).1 (Nat.le_of_eq g1.symm)
  have K1 := (Keep.refl h0 []).ext E1
  have V1 : Arv Z h1 b1 k1 .byte (2 : Int32) [(.int (0 : Int32)), (.int (0 : Int32))] (.int (0 : Int32)) := (Arv.new A1 (by decide)).pad (pad_rep [] (.int (0 : Int32)) 2)
  have f2 := (As.ext E1)
  have f3 := (Nat.le_trans Z0 E1.1)
  have f4 := (Ol.ext E1)
  obtain ⟨_, _, ⟨T5, L5, k5, n5⟩, -, X5, ⟨Lc5, hQ5, l5, y5, z5⟩, st5⟩ := Jvm.LawKit.callS X1 hx (y := (⟨"java/lang/StringUTF16", "compress", "([CI[BII)I"⟩ : MethodName)) hown (mvT hZ (hw _ (List.mem_of_getElem? (i := 64) rfl))) (mvT hZ (hw _ (List.mem_of_getElem? (i := 65) rfl))) (mvT hZ (hw _ (List.mem_of_getElem? (i := 62) rfl))) (mvT hZ (hw _ (List.mem_of_getElem? (i := 66) rfl))) (by decide) (backOf (W := 0) (rmCmp2 l Z a0 hw [] p0 b1 zc fm ks k1 c0 c1 h1 n0 f3 hSt f4 f2 V1 ne1_p0 ge1) hZ (hw _ (List.mem_of_getElem? (i := 66) rfl)) (hw _ (List.mem_of_getElem? (i := 62) rfl)) (by decide) (by decide)) (g := (mkF m 9 #[.val (.ref p0), .val (.int (0 : Int32)), .val (.int (2 : Int32)), .val (.ref b1), .unset, .unset] [(.int (2 : Int32)), (.int (0 : Int32)), (.ref b1), (.int (0 : Int32)), (.ref p0)])) rfl (by rw [hml]; rfl) (argsL := [(.ref p0), (.int (0 : Int32)), (.ref b1), (.int (0 : Int32)), (.int (2 : Int32))]) (rest := []) (lenOf pd___CI_BII_I rfl) rfl (by show 2 * 0 + _ ≤ _; exact Nat.le_of_eq rfl) (hb hby d12_9) (fun _ _ => ⟨rfl, e1, (by decide : 1 + 0 ≤ _), (by decide : 2 + 0 ≤ _)⟩)
  dsimp only [Pt.U, Pt.locs, Pt.cells, Pt.slots] at X5 l5 y5 z5 st5 hQ5
  subst l5 y5 z5
  obtain ⟨⟨rc, rfl, hD⟩, Nq5, K5⟩ := hQ5
  have N5 := Fr.app N0 Nq5
  have KK5 := K1.trans K5 (allS (Or.inr sz1) all0)
  have pre6 : ∀ t, Steps p.tables e below (T5.setTop (mkF m 12 #[.val (.ref p0), .val (.int (0 : Int32)), .val (.int (2 : Int32)), .val (.ref b1), .unset, .unset] [(.int rc)])) t → Steps p.tables e below (s₁.setTop (entryFrame m #[(.ref p0), (.int (0 : Int32)), (.int (2 : Int32))] 6)) t := fun t kt => pre0 t (by
    show Steps p.tables e below (s₁.setTop (mkF m 0 #[.val (.ref p0), .val (.int (0 : Int32)), .val (.int (2 : Int32)), .unset, .unset, .unset] [])) _
    refine XS.iloadN X0.here hx rfl (hb hby d12_0) rfl  ?_
    show Steps p.tables e below (s₁.setTop (mkF m 1 #[.val (.ref p0), .val (.int (0 : Int32)), .val (.int (2 : Int32)), .unset, .unset, .unset] [(.int (2 : Int32))])) _
    refine st1 _ ?_
    show Steps p.tables e below (T1.setTop (mkF m 3 #[.val (.ref p0), .val (.int (0 : Int32)), .val (.int (2 : Int32)), .unset, .unset, .unset] [(.ref b1)])) _
    refine XS.astoreN X1.here hx rfl (hb hby d12_3) rfl rfl (l' := #[.val (.ref p0), .val (.int (0 : Int32)), .val (.int (2 : Int32)), .val (.ref b1), .unset, .unset]) rfl ?_
    refine XS.aloadN X1.here hx rfl (hb hby d12_4) rfl rfl ?_
    refine XS.iloadN X1.here hx rfl (hb hby d12_5) rfl  ?_
    show Steps p.tables e below (T1.setTop (mkF m 6 #[.val (.ref p0), .val (.int (0 : Int32)), .val (.int (2 : Int32)), .val (.ref b1), .unset, .unset] [(.int (0 : Int32)), (.ref p0)])) _
    refine XS.aloadN X1.here hx rfl (hb hby d12_6) rfl rfl ?_
    refine XS.iconst X1.here hx rfl (hb hby d12_7) ?_
    refine XS.iloadN X1.here hx rfl (hb hby d12_8) rfl  ?_
    show Steps p.tables e below (T1.setTop (mkF m 9 #[.val (.ref p0), .val (.int (0 : Int32)), .val (.int (2 : Int32)), .val (.ref b1), .unset, .unset] [(.int (2 : Int32)), (.int (0 : Int32)), (.ref b1), (.int (0 : Int32)), (.ref p0)])) _
    refine st5 _ ?_
    exact kt)
  rcases hD with ⟨rfl, hle, Ad⟩ | ⟨j, rfl, hj, hgt⟩
  · obtain ⟨fs, hr, hrun, hended, hW, hsame⟩ := X5.leave (v := some (.ref b1)) (fun h => by rw [Bd.returns] at h; cases h)
    refine ⟨_, _, pre6 _ ?_, hrun, hended, _, _, rfl, ?_, ⟨_, rfl⟩, hW, hsame.mono (by decide) (by decide)⟩
    · show Steps p.tables e below (T5.setTop (mkF m 12 #[.val (.ref p0), .val (.int (0 : Int32)), .val (.int (2 : Int32)), .val (.ref b1), .unset, .unset] [(.int (2 : Int32))])) _
      refine XS.istore X5.here hx rfl (hb hby d12_12) rfl (l' := #[.val (.ref p0), .val (.int (0 : Int32)), .val (.int (2 : Int32)), .val (.ref b1), .val (.int (2 : Int32)), .unset]) rfl ?_
      refine XS.iload X5.here hx rfl (hb hby d12_14) rfl  ?_
      refine XS.iloadN X5.here hx rfl (hb hby d12_16) rfl  ?_
      show Steps p.tables e below (T5.setTop (mkF m 17 #[.val (.ref p0), .val (.int (0 : Int32)), .val (.int (2 : Int32)), .val (.ref b1), .val (.int (2 : Int32)), .unset] [(.int (2 : Int32)), (.int (2 : Int32))])) _
      refine XS.icmpYes X5.here hx rfl (pc0 := 17) (pc' := 57) rfl (hb hby d12_17) rfl (teq (by decide : (2 : Int32) = (2 : Int32))).1 (by decide) (by decide) ?_
      refine XS.aloadN X5.here hx rfl (hb hby d12_57) rfl rfl ?_
      show Steps p.tables e below (T5.setTop (mkF m 58 #[.val (.ref p0), .val (.int (0 : Int32)), .val (.int (2 : Int32)), .val (.ref b1), .val (.int (2 : Int32)), .unset] [(.ref b1)])) _
      jvm_step X5.here [X5.here.top, hx, (hb hby d12_58), X5.method', Bd.returns, Value.isRef, FieldType.isReference]
      first | (intro acts; rw [hr _ acts rfl rfl rfl]) | rw [hr _ _ rfl rfl rfl]
      exact Steps.refl _
    · show Q_rmComp2 Z p0 zc fm ks c0 c1 h0 n0 _ T5.heap _
      exact ⟨⟨_, _, rfl, ge1, sz1, Or.inl (⟨hle, Ad⟩)⟩, N5, KK5⟩
  · have f7 := (f2.keep K5 (ninS ne1_p0 nin0))
    have f8 := (Nat.le_trans f3 K5.1)
    have f9 := (f4.keep K5 (allS ge1 all0))
    obtain ⟨_, _, ⟨T10, L10, k10, n10⟩, -, X10, ⟨Lc10, hQ10, l10, y10, z10⟩, st10⟩ := Jvm.LawKit.callS X5 hx (y := (⟨"java/lang/StringUTF16", "toBytes", "([CII)[B"⟩ : MethodName)) hown (mvT hZ (hw _ (List.mem_of_getElem? (i := 67) rfl))) (mvT hZ (hw _ (List.mem_of_getElem? (i := 68) rfl))) (mvT hZ (hw _ (List.mem_of_getElem? (i := 62) rfl))) (mvT hZ (hw _ (List.mem_of_getElem? (i := 69) rfl))) (by decide) (backOf (W := 0) (rmToB2 l Z a0 hw [] p0 zc fm ks c0 c1 T5.heap n0 f8 hSt f9 f7) hZ (hw _ (List.mem_of_getElem? (i := 69) rfl)) (hw _ (List.mem_of_getElem? (i := 62) rfl)) (by decide) (by decide)) (g := (mkF m 23 #[.val (.ref p0), .val (.int (0 : Int32)), .val (.int (2 : Int32)), .val (.ref b1), .val (.int (Int32.ofNat j)), .unset] [(.int (2 : Int32)), (.int (0 : Int32)), (.ref p0)])) rfl (by rw [hml]; rfl) (argsL := [(.ref p0), (.int (0 : Int32)), (.int (2 : Int32))]) (rest := []) (lenOf pd___CII__B rfl) rfl (by show 2 * 0 + _ ≤ _; exact Nat.le_of_eq rfl) (hb hby d12_23) (fun _ _ => ⟨rfl, rfl, (by decide : 1 + 1 ≤ _), (by decide : 2 + 4 ≤ _)⟩)
    dsimp only [Pt.U, Pt.locs, Pt.cells, Pt.slots] at X10 l10 y10 z10 st10 hQ10
    subst l10 y10 z10
    obtain ⟨⟨tb10, kb10, rfl, gb10, sb10, Ab10⟩, Nq10, K10⟩ := hQ10
    have N10 := Fr.app N5 Nq10
    have KK10 := KK5.trans K10 all0
    have sz10 : h0.size ≤ tb10 := Nat.le_trans KK5.1 sb10
    have hin := own_jin (i := Int32.ofNat j) rfl (by omega)
    have hcm := hch _ (own_mem (cs := [c0, c1]) hj)
    have hsh := own_shl (n := 2) hin.1 (by rw [hin.2]; exact hj) (by decide)
    have f11 := (Nat.le_trans f8 K10.1)
    have f12 := (f9.keep K10 all0)
    obtain ⟨_, _, ⟨T13, L13, k13, n13⟩, -, X13, ⟨Lc13, hQ13, l13, y13, z13⟩, st13⟩ := Jvm.LawKit.callS X10 hx (y := (⟨"java/lang/StringUTF16", "getChar", "([BI)C"⟩ : MethodName)) hown (mvT hZ (hw _ (List.mem_of_getElem? (i := 83) rfl))) (mvT hZ (hw _ (List.mem_of_getElem? (i := 84) rfl))) (mvT hZ (hw _ (List.mem_of_getElem? (i := 62) rfl))) (mvT hZ (hw _ (List.mem_of_getElem? (i := 85) rfl))) (by decide) (backOf (W := 0) (rmGet l Z a0 hw [] tb10 (Int32.ofNat j) zc fm kb10 (4 : Int32) [(.int (own_wl c0)), (.int (own_wh c0)), (.int (own_wl c1)), (.int (own_wh c1))] (own_wl ([c0, c1].getD j 0)) (own_wh ([c0, c1].getD j 0)) ([c0, c1].getD j 0) T10.heap n0 f11 hSt f12 Ab10 hsh.2.2.1 hsh.2.2.2 (by rw [hsh.1, hin.2]; exact (own_getw [c0, c1] j hj).1) (by rw [hsh.2.1, hin.2]; exact (own_getw [c0, c1] j hj).2) (own_rec16 hcm.1 hcm.2).symm) hZ (hw _ (List.mem_of_getElem? (i := 85) rfl)) (hw _ (List.mem_of_getElem? (i := 62) rfl)) (by decide) (by decide)) (g := (mkF m 32 #[.val (.ref p0), .val (.int (0 : Int32)), .val (.int (2 : Int32)), .val (.ref b1), .val (.int (Int32.ofNat j)), .val (.ref tb10)] [(.int (Int32.ofNat j)), (.ref tb10)])) rfl (by rw [hml]; rfl) (argsL := [(.ref tb10), (.int (Int32.ofNat j))]) (rest := []) (lenOf pd___BI_C rfl) rfl (by show 2 * 0 + _ ≤ _; exact Nat.le_of_eq rfl) (hb hby d12_32) (fun _ _ => ⟨rfl, rfl, (by decide : 2 + 0 ≤ _), (by decide : 6 + 0 ≤ _)⟩)
    dsimp only [Pt.U, Pt.locs, Pt.cells, Pt.slots] at X13 l13 y13 z13 st13 hQ13
    subst l13 y13 z13
    obtain ⟨rfl, Nq13, e13⟩ := hQ13
    have N13 := Fr.app N10 Nq13
    obtain ⟨fs, hr, hrun, hended, hW, hsame⟩ := X13.leave (v := some (.ref tb10)) (fun h => by rw [Bd.returns] at h; cases h)
    refine ⟨_, _, pre6 _ ?_, hrun, hended, _, _, rfl, ?_, ⟨_, rfl⟩, hW, hsame.mono (by decide) (by decide)⟩
    · show Steps p.tables e below (T5.setTop (mkF m 12 #[.val (.ref p0), .val (.int (0 : Int32)), .val (.int (2 : Int32)), .val (.ref b1), .unset, .unset] [(.int (Int32.ofNat j))])) _
      refine XS.istore X5.here hx rfl (hb hby d12_12) rfl (l' := #[.val (.ref p0), .val (.int (0 : Int32)), .val (.int (2 : Int32)), .val (.ref b1), .val (.int (Int32.ofNat j)), .unset]) rfl ?_
      refine XS.iload X5.here hx rfl (hb hby d12_14) rfl  ?_
      refine XS.iloadN X5.here hx rfl (hb hby d12_16) rfl  ?_
      show Steps p.tables e below (T5.setTop (mkF m 17 #[.val (.ref p0), .val (.int (0 : Int32)), .val (.int (2 : Int32)), .val (.ref b1), .val (.int (Int32.ofNat j)), .unset] [(.int (2 : Int32)), (.int (Int32.ofNat j))])) _
      refine XS.icmpNo X5.here hx rfl (hb hby d12_17) rfl (feq (own_ofne hj (by decide))).1 ?_
      refine XS.aloadN X5.here hx rfl (hb hby d12_20) rfl rfl ?_
      refine XS.iloadN X5.here hx rfl (hb hby d12_21) rfl  ?_
      show Steps p.tables e below (T5.setTop (mkF m 22 #[.val (.ref p0), .val (.int (0 : Int32)), .val (.int (2 : Int32)), .val (.ref b1), .val (.int (Int32.ofNat j)), .unset] [(.int (0 : Int32)), (.ref p0)])) _
      refine XS.iloadN X5.here hx rfl (hb hby d12_22) rfl  ?_
      show Steps p.tables e below (T5.setTop (mkF m 23 #[.val (.ref p0), .val (.int (0 : Int32)), .val (.int (2 : Int32)), .val (.ref b1), .val (.int (Int32.ofNat j)), .unset] [(.int (2 : Int32)), (.int (0 : Int32)), (.ref p0)])) _
      refine st10 _ ?_
      show Steps p.tables e below (T10.setTop (mkF m 26 #[.val (.ref p0), .val (.int (0 : Int32)), .val (.int (2 : Int32)), .val (.ref b1), .val (.int (Int32.ofNat j)), .unset] [(.ref tb10)])) _
      refine XS.astore X10.here hx rfl (hb hby d12_26) rfl rfl (l' := #[.val (.ref p0), .val (.int (0 : Int32)), .val (.int (2 : Int32)), .val (.ref b1), .val (.int (Int32.ofNat j)), .val (.ref tb10)]) rfl ?_
      refine XS.aload X10.here hx rfl (hb hby d12_28) rfl rfl ?_
      refine XS.iload X10.here hx rfl (hb hby d12_30) rfl  ?_
      show Steps p.tables e below (T10.setTop (mkF m 32 #[.val (.ref p0), .val (.int (0 : Int32)), .val (.int (2 : Int32)), .val (.ref b1), .val (.int (Int32.ofNat j)), .val (.ref tb10)] [(.int (Int32.ofNat j)), (.ref tb10)])) _
      refine st13 _ ?_
      show Steps p.tables e below (T13.setTop (mkF m 35 #[.val (.ref p0), .val (.int (0 : Int32)), .val (.int (2 : Int32)), .val (.ref b1), .val (.int (Int32.ofNat j)), .val (.ref tb10)] [(.int ([c0, c1].getD j 0))])) _
      refine XS.sipush X13.here hx rfl (hb hby d12_35) ?_
      show Steps p.tables e below (T13.setTop (mkF m 38 #[.val (.ref p0), .val (.int (0 : Int32)), .val (.int (2 : Int32)), .val (.ref b1), .val (.int (Int32.ofNat j)), .val (.ref tb10)] [(.int (255 : Int32)), (.int ([c0, c1].getD j 0))])) _
      refine XS.icmpYes X13.here hx rfl (pc0 := 38) (pc' := 54) rfl (hb hby d12_38) rfl (tlt hgt).2.2.1 (by decide) (by decide) ?_
      refine XS.aload X13.here hx rfl (hb hby d12_54) rfl rfl ?_
      show Steps p.tables e below (T13.setTop (mkF m 56 #[.val (.ref p0), .val (.int (0 : Int32)), .val (.int (2 : Int32)), .val (.ref b1), .val (.int (Int32.ofNat j)), .val (.ref tb10)] [(.ref tb10)])) _
      jvm_step X13.here [X13.here.top, hx, (hb hby d12_56), X13.method', Bd.returns, Value.isRef, FieldType.isReference]
      first | (intro acts; rw [hr _ acts rfl rfl rfl]) | rw [hr _ _ rfl rfl rfl]
      exact Steps.refl _
    · show Q_rmComp2 Z p0 zc fm ks c0 c1 h0 n0 _ T13.heap _
      rw [e13]
      exact ⟨⟨_, _, rfl, gb10, sz10, Or.inr (Ab10)⟩, N13, KK10⟩
theorem ef_rmCFA (m : MethodId) (p0 : Addr) (p1 : Int32) : entryFrame m #[(.ref p0), (.int p1)] 2 = mkF m 0 #[.val (.ref p0), .val (.int p1)] [] := by first | (simp [entryFrame, mkF, argsToLocals, Value.category]; done) | rfl
theorem d19_0 : decode jdk_52_method_15_code 0 = .ok (.iload_n 1, 1) := by decide +kernel
theorem d19_1 : decode jdk_52_method_15_code 1 = .ok (.aload_n 0, 1) := by decide +kernel
theorem d19_2 : decode jdk_52_method_15_code 2 = .ok (.arraylength, 1) := by decide +kernel
theorem d19_3 : decode jdk_52_method_15_code 3 = .ok (.isub, 1) := by decide +kernel
theorem d19_4 : decode jdk_52_method_15_code 4 = .ok (.bipush 31, 2) := by decide +kernel
theorem d19_6 : decode jdk_52_method_15_code 6 = .ok (.iushr, 1) := by decide +kernel
theorem d19_7 : decode jdk_52_method_15_code 7 = .ok (.i2b, 1) := by decide +kernel
theorem d19_8 : decode jdk_52_method_15_code 8 = .ok (.ireturn, 1) := by decide +kernel
def Q_rmCFA (Z : State) (p0 : Addr) (p1 : Int32) (zc : Int32) (fm : Value) (k : ClassId) (z : Int32) (vs : List Value) (r : Int32) (h0 : Heap) (n0 : Nat) (v : Option Value) (h : Heap) (L : List Loc) : Prop := v = some (.int r) ∧ Fr n0 L ∧ h = h0
set_option maxRecDepth 65536 in
set_option maxHeartbeats 40000000 in
theorem rmCFA (l : Launch) (Z : State) (a0 : Array Value) (hw : ∀ d ∈ tables_1, d.before a0 Z = true) (ws : List Jvm.Cond) (p0 : Addr) (p1 : Int32) (zc : Int32) (fm : Value) (k : ClassId) (z : Int32) (vs : List Value) (r : Int32) (h0 : Heap) (n0 : Nat) (Z0 : n0 ≤ h0.size) (hSt : own_St Z zc fm) (Ol : Old Z n0 h0) (A0 : Arv Z h0 p0 k .byte z vs (.int (0 : Int32))) (hres : r = nar .byte ((p1 - z).toUInt32 >>> ((31 : Int32) &&& 31).toUInt32).toInt32.toInt8.toInt32) :
    MetFree l (⟨"java/lang/StringUTF16", "coderFromArrayLen", "([BI)B"⟩ : MethodName) (head1 (Jvm.Cond.code (⟨"java/lang/StringUTF16", "coderFromArrayLen", "([BI)B"⟩ : MethodName) jdk_52_method_15_code 2 (some .byte) :: ws) ({ frames := 0, cells := 0, slots := 0, locals := 0 } : Room)) (fun a U => a = #[(.ref p0), (.int p1)] ∧ Z.Warmed39 U.vm ∧ U.heap = h0) (fun _ _ _ _ _ => True) (fun _ U o U' => ∃ v L, o = .returned v ∧ Q_rmCFA Z p0 p1 zc fm k z vs r h0 n0 v U'.heap L ∧ FrameEnd U o U' L ({ frames := 0, cells := 0, slots := 0, locals := 0 } : Room).cells ({ frames := 0, cells := 0, slots := 0, locals := 0 } : Room).slots) := by
  refine MetFree.of_bodySF (plainFor_of_name pn_java_lang_StringUTF16) hisR ?_
  intro p e s m args below meth c s₁ Bd hml0 hP hK
  obtain ⟨rfl, hZ, hh⟩ := hP
  have hx := Bd.exec
  have hby := Bd.bytes
  have hml : c.maxLocals = 2 := hml0
  have hown : s.vm.findClass "java/lang/StringUTF16" = some m.cls := findClass_of_methodNamed Bd.named
  have hnm := (name_of_methodNamed Bd.named Bd.method).1
  have hZo := hZ
  have howno := hown
  have X0 : Stand p l e ({ frames := 0, cells := 0, slots := 0, locals := 0 } : Room) s m #[(.ref p0), (.int p1)] below meth c s₁ [] 0 0 := Stand.of_body Bd
  have e0 : s₁.heap = h0 := by rw [← hh, Bd.state]; rfl
  have N0 := Fr.nil n0
  have pre0 : ∀ t, Steps p.tables e below (s₁.setTop (mkF m 0 #[.val (.ref p0), .val (.int p1)] [])) t → Steps p.tables e below (s₁.setTop (entryFrame m #[(.ref p0), (.int p1)] 2)) t := fun t k => castTop (ef_rmCFA m p0 p1 ) k
  obtain ⟨cl1, Ar1, -, S1, N1, -, -⟩ := id A0
  obtain ⟨fs, hr, hrun, hended, hW, hsame⟩ := X0.leave (v := some (.int (nar .byte ((((p1 - z).toUInt32 >>> ((31 : Int32) &&& 31).toUInt32).toInt32).toInt8.toInt32)))) (fun h => by rw [Bd.returns] at h; cases h)
  refine ⟨_, _, pre0 _ ?_, hrun, hended, _, _, rfl, ?_, ⟨_, rfl⟩, hW, hsame.mono (by decide) (by decide)⟩
  · show Steps p.tables e below (s₁.setTop (mkF m 0 #[.val (.ref p0), .val (.int p1)] [])) _
    refine XS.iloadN X0.here hx rfl (hb hby d19_0) rfl  ?_
    refine XS.aloadN X0.here hx rfl (hb hby d19_1) rfl rfl ?_
    show Steps p.tables e below (s₁.setTop (mkF m 2 #[.val (.ref p0), .val (.int p1)] [(.ref p0), (.int p1)])) _
    refine X0.arraylength hx (by rw [e0]; exact Ar1.1) (State.isArrayOf_alike hZ.alike Ar1.2.1) (g := (mkF m 2 #[.val (.ref p0), .val (.int p1)] [(.ref p0), (.int p1)])) rfl rfl (hb hby d19_2) _ ?_
    rw [len_of S1 N1]
    show Steps p.tables e below (s₁.setTop (mkF m 3 #[.val (.ref p0), .val (.int p1)] [(.int z), (.int p1)])) _
    refine XS.isub X0.here hx rfl (hb hby d19_3) rfl ?_
    refine XS.bipush X0.here hx rfl (hb hby d19_4) ?_
    refine XS.iushr X0.here hx rfl (hb hby d19_6) rfl ?_
    show Steps p.tables e below (s₁.setTop (mkF m 7 #[.val (.ref p0), .val (.int p1)] [(.int (((p1 - z).toUInt32 >>> ((31 : Int32) &&& 31).toUInt32).toInt32))])) _
    refine XS.i2b X0.here hx rfl (hb hby d19_7) rfl ?_
    show Steps p.tables e below (s₁.setTop (mkF m 8 #[.val (.ref p0), .val (.int p1)] [(.int ((((p1 - z).toUInt32 >>> ((31 : Int32) &&& 31).toUInt32).toInt32).toInt8.toInt32))])) _
    exact retN X0 hx (t := .byte) Bd.returns (by simp) (hb hby d19_8) hr
  · show Q_rmCFA Z p0 p1 zc fm k z vs r h0 n0 _ s₁.heap _
    rw [e0]
    exact ⟨by rw [hres], N0, rfl⟩
theorem ef_rmNew4_2 (m : MethodId) (p0 : Addr) (p1 : Addr) : entryFrame m #[(.ref p0), (.ref p1), (.int (0 : Int32)), (.int (2 : Int32)), .null] 6 = mkF m 0 #[.val (.ref p0), .val (.ref p1), .val (.int (0 : Int32)), .val (.int (2 : Int32)), .val .null, .unset] [] := by first | (simp [entryFrame, mkF, argsToLocals, Value.category]; done) | rfl
theorem d2_0 : decode jdk_42_method_149_code 0 = .ok (.aload_n 0, 1) := by decide +kernel
theorem d2_1 : decode jdk_42_method_149_code 1 = .ok (.invokespecial 1, 3) := by decide +kernel
theorem d2_4 : decode jdk_42_method_149_code 4 = .ok (.iload_n 3, 1) := by decide +kernel
theorem d2_5 : decode jdk_42_method_149_code 5 = .ok (.ifCond .ne 22, 3) := by decide +kernel
theorem d2_27 : decode jdk_42_method_149_code 27 = .ok (.getstatic 38, 3) := by decide +kernel
theorem d2_30 : decode jdk_42_method_149_code 30 = .ok (.ifCond .eq 28, 3) := by decide +kernel
theorem d2_33 : decode jdk_42_method_149_code 33 = .ok (.aload_n 1, 1) := by decide +kernel
theorem d2_34 : decode jdk_42_method_149_code 34 = .ok (.iload_n 2, 1) := by decide +kernel
theorem d2_35 : decode jdk_42_method_149_code 35 = .ok (.iload_n 3, 1) := by decide +kernel
theorem d2_36 : decode jdk_42_method_149_code 36 = .ok (.invokestatic 177, 3) := by decide +kernel
theorem d2_39 : decode jdk_42_method_149_code 39 = .ok (.astore 5, 2) := by decide +kernel
theorem d2_41 : decode jdk_42_method_149_code 41 = .ok (.aload_n 0, 1) := by decide +kernel
theorem d2_42 : decode jdk_42_method_149_code 42 = .ok (.aload 5, 2) := by decide +kernel
theorem d2_44 : decode jdk_42_method_149_code 44 = .ok (.iload_n 3, 1) := by decide +kernel
theorem pd___BI_B : parseMethodDescriptor "([BI)B" = some ⟨[(.array .byte), .int], some .byte⟩ := by decide +kernel
theorem d2_45 : decode jdk_42_method_149_code 45 = .ok (.invokestatic 47, 3) := by decide +kernel
theorem d2_48 : decode jdk_42_method_149_code 48 = .ok (.putfield 15, 3) := by decide +kernel
theorem d2_51 : decode jdk_42_method_149_code 51 = .ok (.aload_n 0, 1) := by decide +kernel
theorem d2_52 : decode jdk_42_method_149_code 52 = .ok (.aload 5, 2) := by decide +kernel
theorem d2_54 : decode jdk_42_method_149_code 54 = .ok (.putfield 9, 3) := by decide +kernel
theorem d2_57 : decode jdk_42_method_149_code 57 = .ok (.return_, 1) := by decide +kernel
def Q_rmNew4_2 (Z : State) (p0 : Addr) (p1 : Addr) (zc : Int32) (fm : Value) (ks : ClassId) (c0 : Int32) (c1 : Int32) (h0 : Heap) (n0 : Nat) (v : Option Value) (h : Heap) (L : List Loc) : Prop := v = none ∧ Fr n0 L ∧ Keep h0 h [p0] ∧ own_Str Z h p0 [c0, c1]
set_option maxRecDepth 65536 in
set_option maxHeartbeats 40000000 in
theorem rmNew4_2 (l : Launch) (Z : State) (a0 : Array Value) (hw : ∀ d ∈ tables_1, d.before a0 Z = true) (ws : List Jvm.Cond) (p0 : Addr) (p1 : Addr) (zc : Int32) (fm : Value) (ks : ClassId) (c0 : Int32) (c1 : Int32) (h0 : Heap) (n0 : Nat) (Z0 : n0 ≤ h0.size) (hSt : own_St Z zc fm) (Ol : Old Z n0 h0) (E0 : Exa Z h0 p0 "java/lang/String") (Fv : Fld Z h0 p0 "java/lang/String" "value" "[B" .null) (Fc : Fld Z h0 p0 "java/lang/String" "coder" "B" (.int (0 : Int32))) (g0_ : n0 ≤ p0) (As : Arv Z h0 p1 ks .char (2 : Int32) [(.int c0), (.int c1)] (.int (0 : Int32))) (hch : ∀ c ∈ [c0, c1], ¬ c < (0 : Int32) ∧ ¬ (65535 : Int32) < c) :
    MetFree l (⟨"java/lang/String", "<init>", "([CIILjava/lang/Void;)V"⟩ : MethodName) (head1 (Jvm.Cond.code (⟨"java/lang/String", "<init>", "([CIILjava/lang/Void;)V"⟩ : MethodName) jdk_42_method_149_code 6 none :: ws) ({ frames := 4, cells := 2, slots := 6, locals := 57 } : Room)) (fun a U => a = #[(.ref p0), (.ref p1), (.int (0 : Int32)), (.int (2 : Int32)), .null] ∧ Z.Warmed39 U.vm ∧ U.heap = h0) (fun _ _ _ _ _ => True) (fun _ U o U' => ∃ v L, o = .returned v ∧ Q_rmNew4_2 Z p0 p1 zc fm ks c0 c1 h0 n0 v U'.heap L ∧ FrameEnd U o U' L ({ frames := 4, cells := 2, slots := 6, locals := 57 } : Room).cells ({ frames := 4, cells := 2, slots := 6, locals := 57 } : Room).slots) := by
  refine MetFree.of_bodySF (plainFor_of_name pn_java_lang_String) hisR ?_
  intro p e s m args below meth c s₁ Bd hml0 hP hK
  obtain ⟨rfl, hZ, hh⟩ := hP
  have hx := Bd.exec
  have hby := Bd.bytes
  have hml : c.maxLocals = 6 := hml0
  have hown : s.vm.findClass "java/lang/String" = some m.cls := findClass_of_methodNamed Bd.named
  have hnm := (name_of_methodNamed Bd.named Bd.method).1
  have hZo := hZ
  have howno := hown
  have X0 : Stand p l e ({ frames := 4, cells := 2, slots := 6, locals := 57 } : Room) s m #[(.ref p0), (.ref p1), (.int (0 : Int32)), (.int (2 : Int32)), .null] below meth c s₁ [] 0 0 := Stand.of_body Bd
  have e0 : s₁.heap = h0 := by rw [← hh, Bd.state]; rfl
  have N0 := Fr.nil n0
  have pre0 : ∀ t, Steps p.tables e below (s₁.setTop (mkF m 0 #[.val (.ref p0), .val (.ref p1), .val (.int (0 : Int32)), .val (.int (2 : Int32)), .val .null, .unset] [])) t → Steps p.tables e below (s₁.setTop (entryFrame m #[(.ref p0), (.ref p1), (.int (0 : Int32)), (.int (2 : Int32)), .null] 6)) t := fun t k => castTop (ef_rmNew4_2 m p0 p1 ) k
  obtain ⟨T1, X1, e1, st1⟩ := initO X0 hx hZ hown (hw _ (List.mem_of_getElem? (i := 11) rfl)) (hw _ (List.mem_of_getElem? (i := 12) rfl)) (hw _ (List.mem_of_getElem? (i := 13) rfl)) e0 (g := (mkF m 1 #[.val (.ref p0), .val (.ref p1), .val (.int (0 : Int32)), .val (.int (2 : Int32)), .val .null, .unset] [(.ref p0)])) rfl (by rw [hml]; rfl) rfl (hb hby d2_1) (by decide) (W := 0) (by show 2 * 0 + _ ≤ _; exact Nat.le_of_eq rfl) (by decide)
  obtain ⟨T2, X2, e2, st2⟩ := getS2 X1 hx hZ hown (host := "") (Or.inl (hw _ (List.mem_of_getElem? (i := 40) rfl))) Via.refl e1 (hSt.1.ext Ol.2) (g := (mkF m 27 #[.val (.ref p0), .val (.ref p1), .val (.int (0 : Int32)), .val (.int (2 : Int32)), .val .null, .unset] [])) rfl (hb hby d2_27)
  obtain ⟨_, _, ⟨T3, L3, k3, n3⟩, -, X3, ⟨Lc3, hQ3, l3, y3, z3⟩, st3⟩ := Jvm.LawKit.callS X2 hx (y := (⟨"java/lang/StringUTF16", "compress", "([CII)[B"⟩ : MethodName)) hown (mvT hZ (hw _ (List.mem_of_getElem? (i := 60) rfl))) (mvT hZ (hw _ (List.mem_of_getElem? (i := 61) rfl))) (mvT hZ (hw _ (List.mem_of_getElem? (i := 62) rfl))) (mvT hZ (hw _ (List.mem_of_getElem? (i := 63) rfl))) (by decide) (backOf (W := 0) (rmComp2 l Z a0 hw [] p1 zc fm ks c0 c1 h0 n0 Z0 hSt Ol As hch) hZ (hw _ (List.mem_of_getElem? (i := 63) rfl)) (hw _ (List.mem_of_getElem? (i := 62) rfl)) (by decide) (by decide)) (g := (mkF m 36 #[.val (.ref p0), .val (.ref p1), .val (.int (0 : Int32)), .val (.int (2 : Int32)), .val .null, .unset] [(.int (2 : Int32)), (.int (0 : Int32)), (.ref p1)])) rfl (by rw [hml]; rfl) (argsL := [(.ref p1), (.int (0 : Int32)), (.int (2 : Int32))]) (rest := []) (lenOf pd___CII__B rfl) rfl (by show 2 * 0 + _ ≤ _; exact Nat.le_of_eq rfl) (hb hby d2_36) (fun _ _ => ⟨rfl, e2, (by decide : 0 + 2 ≤ _), (by decide : 0 + 6 ≤ _)⟩)
  dsimp only [Pt.U, Pt.locs, Pt.cells, Pt.slots] at X3 l3 y3 z3 st3 hQ3
  subst l3 y3 z3
  obtain ⟨⟨vb3, kb3, rfl, gb3, sb3, hD⟩, Nq3, K3⟩ := hQ3
  have N3 := Fr.app N0 Nq3
  have KK3 := (Keep.refl h0 [p0]).trans K3 all0
  have ne_vb3 : p0 ≠ vb3 := Nat.ne_of_lt (Nat.lt_of_lt_of_le E0.lt sb3)
  have pre4 : ∀ t, Steps p.tables e below (T3.setTop (mkF m 39 #[.val (.ref p0), .val (.ref p1), .val (.int (0 : Int32)), .val (.int (2 : Int32)), .val .null, .unset] [(.ref vb3)])) t → Steps p.tables e below (s₁.setTop (entryFrame m #[(.ref p0), (.ref p1), (.int (0 : Int32)), (.int (2 : Int32)), .null] 6)) t := fun t kt => pre0 t (by
    show Steps p.tables e below (s₁.setTop (mkF m 0 #[.val (.ref p0), .val (.ref p1), .val (.int (0 : Int32)), .val (.int (2 : Int32)), .val .null, .unset] [])) _
    refine XS.aloadN X0.here hx rfl (hb hby d2_0) rfl rfl ?_
    show Steps p.tables e below (s₁.setTop (mkF m 1 #[.val (.ref p0), .val (.ref p1), .val (.int (0 : Int32)), .val (.int (2 : Int32)), .val .null, .unset] [(.ref p0)])) _
    refine st1 _ ?_
    show Steps p.tables e below (T1.setTop (mkF m 4 #[.val (.ref p0), .val (.ref p1), .val (.int (0 : Int32)), .val (.int (2 : Int32)), .val .null, .unset] [])) _
    refine XS.iloadN X1.here hx rfl (hb hby d2_4) rfl  ?_
    show Steps p.tables e below (T1.setTop (mkF m 5 #[.val (.ref p0), .val (.ref p1), .val (.int (0 : Int32)), .val (.int (2 : Int32)), .val .null, .unset] [(.int (2 : Int32))])) _
    refine XS.ifYes X1.here hx rfl (pc0 := 5) (pc' := 27) rfl (hb hby d2_5) rfl ((if0 _ _).trans (feq (by decide : ¬ ((2 : Int32) = (0 : Int32)))).2) (by decide) (by decide) ?_
    show Steps p.tables e below (T1.setTop (mkF m 27 #[.val (.ref p0), .val (.ref p1), .val (.int (0 : Int32)), .val (.int (2 : Int32)), .val .null, .unset] [])) _
    refine st2 _ ?_
    show Steps p.tables e below (T2.setTop (mkF m 30 #[.val (.ref p0), .val (.ref p1), .val (.int (0 : Int32)), .val (.int (2 : Int32)), .val .null, .unset] [(.int zc)])) _
    refine XS.ifNo X2.here hx rfl (hb hby d2_30) rfl ((if0 _ _).trans (feq hSt.2.1).1) ?_
    refine XS.aloadN X2.here hx rfl (hb hby d2_33) rfl rfl ?_
    refine XS.iloadN X2.here hx rfl (hb hby d2_34) rfl  ?_
    show Steps p.tables e below (T2.setTop (mkF m 35 #[.val (.ref p0), .val (.ref p1), .val (.int (0 : Int32)), .val (.int (2 : Int32)), .val .null, .unset] [(.int (0 : Int32)), (.ref p1)])) _
    refine XS.iloadN X2.here hx rfl (hb hby d2_35) rfl  ?_
    show Steps p.tables e below (T2.setTop (mkF m 36 #[.val (.ref p0), .val (.ref p1), .val (.int (0 : Int32)), .val (.int (2 : Int32)), .val .null, .unset] [(.int (2 : Int32)), (.int (0 : Int32)), (.ref p1)])) _
    refine st3 _ ?_
    exact kt)
  rcases hD with ⟨hle, Ad⟩ | Ad
  · have f5 := (Nat.le_trans Z0 K3.1)
    have f6 := (Ol.keep K3 all0)
    obtain ⟨_, _, ⟨T7, L7, k7, n7⟩, -, X7, ⟨Lc7, hQ7, l7, y7, z7⟩, st7⟩ := Jvm.LawKit.callS X3 hx (y := (⟨"java/lang/StringUTF16", "coderFromArrayLen", "([BI)B"⟩ : MethodName)) hown (mvT hZ (hw _ (List.mem_of_getElem? (i := 86) rfl))) (mvT hZ (hw _ (List.mem_of_getElem? (i := 87) rfl))) (mvT hZ (hw _ (List.mem_of_getElem? (i := 62) rfl))) (mvT hZ (hw _ (List.mem_of_getElem? (i := 88) rfl))) (by decide) (backOf (W := 1) (rmCFA l Z a0 hw [] vb3 (2 : Int32) zc fm kb3 (2 : Int32) [(.int (own_b c0)), (.int (own_b c1))] (0 : Int32) T3.heap n0 f5 hSt f6 Ad (by decide)) hZ (hw _ (List.mem_of_getElem? (i := 88) rfl)) (hw _ (List.mem_of_getElem? (i := 62) rfl)) (by decide) (by decide)) (g := (mkF m 45 #[.val (.ref p0), .val (.ref p1), .val (.int (0 : Int32)), .val (.int (2 : Int32)), .val .null, .val (.ref vb3)] [(.int (2 : Int32)), (.ref vb3), (.ref p0)])) rfl (by rw [hml]; rfl) (argsL := [(.ref vb3), (.int (2 : Int32))]) (rest := [(.ref p0)]) (lenOf pd___BI_B rfl) rfl (by show 2 * 0 + _ ≤ _; exact Nat.le_of_eq rfl) (hb hby d2_45) (fun _ _ => ⟨rfl, rfl, (by decide : 2 + 0 ≤ _), (by decide : 6 + 0 ≤ _)⟩)
    dsimp only [Pt.U, Pt.locs, Pt.cells, Pt.slots] at X7 l7 y7 z7 st7 hQ7
    subst l7 y7 z7
    obtain ⟨rfl, Nq7, e7⟩ := hQ7
    have N7 := Fr.app N3 Nq7
    have f8 := (E0.keep K3)
    have f9 := (Fc.keep K3 nin0)
    obtain ⟨T10, h10, X10, e10, W10, st10⟩ := putFN X7 hx hZ hown (hw _ (List.mem_of_getElem? (i := 21) rfl)) Via.refl e7 f9 f8 (Or.inr ⟨(hw _ (List.mem_of_getElem? (i := 17) rfl)), rfl, hnm⟩) (hw _ (List.mem_of_getElem? (i := 2) rfl)) (ty := .byte) (v' := (.int (0 : Int32))) (by decide) rfl (by decide) (g := (mkF m 48 #[.val (.ref p0), .val (.ref p1), .val (.int (0 : Int32)), .val (.int (2 : Int32)), .val .null, .val (.ref vb3)] [(.int (0 : Int32)), (.ref p0)])) rfl rfl (hb hby d2_48)
    have Fw10 := f9.same W10
    have N10 := Fr.snoc X10 N7 g0_
    have K10 := KK3.wr W10 (Or.inl (List.mem_of_getElem? (i := 0) rfl))
    have f11 := (f8.wr W10)
    have f12 := ((Fv.keep K3 nin0).other W10 (Or.inr (slot_ne (Or.inr (hw _ (List.mem_of_getElem? (i := 16) rfl))) (Or.inr (hw _ (List.mem_of_getElem? (i := 17) rfl))) (by decide) (t := (.array .byte)) (t' := .byte) (by decide) (by decide))))
    obtain ⟨T13, h13, X13, e13, W13, st13⟩ := putF X10 hx hZ hown (host := "") (Or.inl (hw _ (List.mem_of_getElem? (i := 20) rfl))) Via.refl e10 f12 f11 (Or.inr ⟨(hw _ (List.mem_of_getElem? (i := 16) rfl)), rfl, hnm⟩) (hw _ (List.mem_of_getElem? (i := 2) rfl)) (ty := (.array .byte)) (by decide) rfl rfl (g := (mkF m 54 #[.val (.ref p0), .val (.ref p1), .val (.int (0 : Int32)), .val (.int (2 : Int32)), .val .null, .val (.ref vb3)] [(.ref vb3), (.ref p0)])) rfl rfl (hb hby d2_54)
    have Fw13 := f12.same W13
    have N13 := Fr.snoc X13 N10 g0_
    have K13 := K10.wr W13 (Or.inl (List.mem_of_getElem? (i := 0) rfl))
    have f14 := (f11.wr W13)
    have f15 := (Fw10.other W13 (Or.inr (slot_ne (Or.inr (hw _ (List.mem_of_getElem? (i := 17) rfl))) (Or.inr (hw _ (List.mem_of_getElem? (i := 16) rfl))) (by decide) (t := .byte) (t' := (.array .byte)) (by decide) (by decide))))
    have f16 := ((Ad.other W10 (Ne.symm ne_vb3)).other W13 (Ne.symm ne_vb3))
    obtain ⟨fs, hr, hrun, hended, hW, hsame⟩ := X13.leave (v := none) (fun _ => rfl)
    refine ⟨_, _, pre4 _ ?_, hrun, hended, _, _, rfl, ?_, ⟨_, rfl⟩, hW, hsame.mono (by decide) (by decide)⟩
    · show Steps p.tables e below (T3.setTop (mkF m 39 #[.val (.ref p0), .val (.ref p1), .val (.int (0 : Int32)), .val (.int (2 : Int32)), .val .null, .unset] [(.ref vb3)])) _
      refine XS.astore X3.here hx rfl (hb hby d2_39) rfl rfl (l' := #[.val (.ref p0), .val (.ref p1), .val (.int (0 : Int32)), .val (.int (2 : Int32)), .val .null, .val (.ref vb3)]) rfl ?_
      refine XS.aloadN X3.here hx rfl (hb hby d2_41) rfl rfl ?_
      refine XS.aload X3.here hx rfl (hb hby d2_42) rfl rfl ?_
      show Steps p.tables e below (T3.setTop (mkF m 44 #[.val (.ref p0), .val (.ref p1), .val (.int (0 : Int32)), .val (.int (2 : Int32)), .val .null, .val (.ref vb3)] [(.ref vb3), (.ref p0)])) _
      refine XS.iloadN X3.here hx rfl (hb hby d2_44) rfl  ?_
      show Steps p.tables e below (T3.setTop (mkF m 45 #[.val (.ref p0), .val (.ref p1), .val (.int (0 : Int32)), .val (.int (2 : Int32)), .val .null, .val (.ref vb3)] [(.int (2 : Int32)), (.ref vb3), (.ref p0)])) _
      refine st7 _ ?_
      show Steps p.tables e below (T7.setTop (mkF m 48 #[.val (.ref p0), .val (.ref p1), .val (.int (0 : Int32)), .val (.int (2 : Int32)), .val .null, .val (.ref vb3)] [(.int (0 : Int32)), (.ref p0)])) _
      refine st10 _ ?_
      show Steps p.tables e below (T10.setTop (mkF m 51 #[.val (.ref p0), .val (.ref p1), .val (.int (0 : Int32)), .val (.int (2 : Int32)), .val .null, .val (.ref vb3)] [])) _
      refine XS.aloadN X10.here hx rfl (hb hby d2_51) rfl rfl ?_
      refine XS.aload X10.here hx rfl (hb hby d2_52) rfl rfl ?_
      show Steps p.tables e below (T10.setTop (mkF m 54 #[.val (.ref p0), .val (.ref p1), .val (.int (0 : Int32)), .val (.int (2 : Int32)), .val .null, .val (.ref vb3)] [(.ref vb3), (.ref p0)])) _
      refine st13 _ ?_
      show Steps p.tables e below (T13.setTop (mkF m 57 #[.val (.ref p0), .val (.ref p1), .val (.int (0 : Int32)), .val (.int (2 : Int32)), .val .null, .val (.ref vb3)] [])) _
      exact X13.returnOut hx Bd.returns (hb hby d2_57) hr
    · show Q_rmNew4_2 Z p0 p1 zc fm ks c0 c1 h0 n0 _ T13.heap _
      rw [e13]
      exact ⟨rfl, N13, K13, vb3, kb3, (0 : Int32), (2 : Int32), _, f14, Fw13, f15, f16, Or.inl ⟨rfl, rfl, rfl, (own_allc hle.1 (own_allc hle.2 (fun _ q => nomatch q)))⟩, hch, Nat.le_of_ble_eq_true rfl⟩
  · have f17 := (Nat.le_trans Z0 K3.1)
    have f18 := (Ol.keep K3 all0)
    obtain ⟨_, _, ⟨T19, L19, k19, n19⟩, -, X19, ⟨Lc19, hQ19, l19, y19, z19⟩, st19⟩ := Jvm.LawKit.callS X3 hx (y := (⟨"java/lang/StringUTF16", "coderFromArrayLen", "([BI)B"⟩ : MethodName)) hown (mvT hZ (hw _ (List.mem_of_getElem? (i := 86) rfl))) (mvT hZ (hw _ (List.mem_of_getElem? (i := 87) rfl))) (mvT hZ (hw _ (List.mem_of_getElem? (i := 62) rfl))) (mvT hZ (hw _ (List.mem_of_getElem? (i := 88) rfl))) (by decide) (backOf (W := 1) (rmCFA l Z a0 hw [] vb3 (2 : Int32) zc fm kb3 (4 : Int32) [(.int (own_wl c0)), (.int (own_wh c0)), (.int (own_wl c1)), (.int (own_wh c1))] (1 : Int32) T3.heap n0 f17 hSt f18 Ad (by decide)) hZ (hw _ (List.mem_of_getElem? (i := 88) rfl)) (hw _ (List.mem_of_getElem? (i := 62) rfl)) (by decide) (by decide)) (g := (mkF m 45 #[.val (.ref p0), .val (.ref p1), .val (.int (0 : Int32)), .val (.int (2 : Int32)), .val .null, .val (.ref vb3)] [(.int (2 : Int32)), (.ref vb3), (.ref p0)])) rfl (by rw [hml]; rfl) (argsL := [(.ref vb3), (.int (2 : Int32))]) (rest := [(.ref p0)]) (lenOf pd___BI_B rfl) rfl (by show 2 * 0 + _ ≤ _; exact Nat.le_of_eq rfl) (hb hby d2_45) (fun _ _ => ⟨rfl, rfl, (by decide : 2 + 0 ≤ _), (by decide : 6 + 0 ≤ _)⟩)
    dsimp only [Pt.U, Pt.locs, Pt.cells, Pt.slots] at X19 l19 y19 z19 st19 hQ19
    subst l19 y19 z19
    obtain ⟨rfl, Nq19, e19⟩ := hQ19
    have N19 := Fr.app N3 Nq19
    have f20 := (E0.keep K3)
    have f21 := (Fc.keep K3 nin0)
    obtain ⟨T22, h22, X22, e22, W22, st22⟩ := putFN X19 hx hZ hown (hw _ (List.mem_of_getElem? (i := 21) rfl)) Via.refl e19 f21 f20 (Or.inr ⟨(hw _ (List.mem_of_getElem? (i := 17) rfl)), rfl, hnm⟩) (hw _ (List.mem_of_getElem? (i := 2) rfl)) (ty := .byte) (v' := (.int (1 : Int32))) (by decide) rfl (by decide) (g := (mkF m 48 #[.val (.ref p0), .val (.ref p1), .val (.int (0 : Int32)), .val (.int (2 : Int32)), .val .null, .val (.ref vb3)] [(.int (1 : Int32)), (.ref p0)])) rfl rfl (hb hby d2_48)
    have Fw22 := f21.same W22
    have N22 := Fr.snoc X22 N19 g0_
    have K22 := KK3.wr W22 (Or.inl (List.mem_of_getElem? (i := 0) rfl))
    have f23 := (f20.wr W22)
    have f24 := ((Fv.keep K3 nin0).other W22 (Or.inr (slot_ne (Or.inr (hw _ (List.mem_of_getElem? (i := 16) rfl))) (Or.inr (hw _ (List.mem_of_getElem? (i := 17) rfl))) (by decide) (t := (.array .byte)) (t' := .byte) (by decide) (by decide))))
    obtain ⟨T25, h25, X25, e25, W25, st25⟩ := putF X22 hx hZ hown (host := "") (Or.inl (hw _ (List.mem_of_getElem? (i := 20) rfl))) Via.refl e22 f24 f23 (Or.inr ⟨(hw _ (List.mem_of_getElem? (i := 16) rfl)), rfl, hnm⟩) (hw _ (List.mem_of_getElem? (i := 2) rfl)) (ty := (.array .byte)) (by decide) rfl rfl (g := (mkF m 54 #[.val (.ref p0), .val (.ref p1), .val (.int (0 : Int32)), .val (.int (2 : Int32)), .val .null, .val (.ref vb3)] [(.ref vb3), (.ref p0)])) rfl rfl (hb hby d2_54)
    have Fw25 := f24.same W25
    have N25 := Fr.snoc X25 N22 g0_
    have K25 := K22.wr W25 (Or.inl (List.mem_of_getElem? (i := 0) rfl))
    have f26 := (f23.wr W25)
    have f27 := (Fw22.other W25 (Or.inr (slot_ne (Or.inr (hw _ (List.mem_of_getElem? (i := 17) rfl))) (Or.inr (hw _ (List.mem_of_getElem? (i := 16) rfl))) (by decide) (t := .byte) (t' := (.array .byte)) (by decide) (by decide))))
    have f28 := ((Ad.other W22 (Ne.symm ne_vb3)).other W25 (Ne.symm ne_vb3))
    obtain ⟨fs, hr, hrun, hended, hW, hsame⟩ := X25.leave (v := none) (fun _ => rfl)
    refine ⟨_, _, pre4 _ ?_, hrun, hended, _, _, rfl, ?_, ⟨_, rfl⟩, hW, hsame.mono (by decide) (by decide)⟩
    · show Steps p.tables e below (T3.setTop (mkF m 39 #[.val (.ref p0), .val (.ref p1), .val (.int (0 : Int32)), .val (.int (2 : Int32)), .val .null, .unset] [(.ref vb3)])) _
      refine XS.astore X3.here hx rfl (hb hby d2_39) rfl rfl (l' := #[.val (.ref p0), .val (.ref p1), .val (.int (0 : Int32)), .val (.int (2 : Int32)), .val .null, .val (.ref vb3)]) rfl ?_
      refine XS.aloadN X3.here hx rfl (hb hby d2_41) rfl rfl ?_
      refine XS.aload X3.here hx rfl (hb hby d2_42) rfl rfl ?_
      show Steps p.tables e below (T3.setTop (mkF m 44 #[.val (.ref p0), .val (.ref p1), .val (.int (0 : Int32)), .val (.int (2 : Int32)), .val .null, .val (.ref vb3)] [(.ref vb3), (.ref p0)])) _
      refine XS.iloadN X3.here hx rfl (hb hby d2_44) rfl  ?_
      show Steps p.tables e below (T3.setTop (mkF m 45 #[.val (.ref p0), .val (.ref p1), .val (.int (0 : Int32)), .val (.int (2 : Int32)), .val .null, .val (.ref vb3)] [(.int (2 : Int32)), (.ref vb3), (.ref p0)])) _
      refine st19 _ ?_
      show Steps p.tables e below (T19.setTop (mkF m 48 #[.val (.ref p0), .val (.ref p1), .val (.int (0 : Int32)), .val (.int (2 : Int32)), .val .null, .val (.ref vb3)] [(.int (1 : Int32)), (.ref p0)])) _
      refine st22 _ ?_
      show Steps p.tables e below (T22.setTop (mkF m 51 #[.val (.ref p0), .val (.ref p1), .val (.int (0 : Int32)), .val (.int (2 : Int32)), .val .null, .val (.ref vb3)] [])) _
      refine XS.aloadN X22.here hx rfl (hb hby d2_51) rfl rfl ?_
      refine XS.aload X22.here hx rfl (hb hby d2_52) rfl rfl ?_
      show Steps p.tables e below (T22.setTop (mkF m 54 #[.val (.ref p0), .val (.ref p1), .val (.int (0 : Int32)), .val (.int (2 : Int32)), .val .null, .val (.ref vb3)] [(.ref vb3), (.ref p0)])) _
      refine st25 _ ?_
      show Steps p.tables e below (T25.setTop (mkF m 57 #[.val (.ref p0), .val (.ref p1), .val (.int (0 : Int32)), .val (.int (2 : Int32)), .val .null, .val (.ref vb3)] [])) _
      exact X25.returnOut hx Bd.returns (hb hby d2_57) hr
    · show Q_rmNew4_2 Z p0 p1 zc fm ks c0 c1 h0 n0 _ T25.heap _
      rw [e25]
      exact ⟨rfl, N25, K25, vb3, kb3, (1 : Int32), (4 : Int32), _, f26, Fw25, f27, f28, Or.inr ⟨rfl, rfl, rfl⟩, hch, Nat.le_of_ble_eq_true rfl⟩
theorem ef_rmNew2 (m : MethodId) (p0 : Addr) (p1 : Addr) : entryFrame m #[(.ref p0), (.ref p1)] 2 = mkF m 0 #[.val (.ref p0), .val (.ref p1)] [] := by first | (simp [entryFrame, mkF, argsToLocals, Value.category]; done) | rfl
theorem d1_0 : decode jdk_42_method_3_code 0 = .ok (.aload_n 0, 1) := by decide +kernel
theorem d1_1 : decode jdk_42_method_3_code 1 = .ok (.aload_n 1, 1) := by decide +kernel
theorem d1_2 : decode jdk_42_method_3_code 2 = .ok (.iconst 0, 1) := by decide +kernel
theorem d1_3 : decode jdk_42_method_3_code 3 = .ok (.aload_n 1, 1) := by decide +kernel
theorem d1_4 : decode jdk_42_method_3_code 4 = .ok (.arraylength, 1) := by decide +kernel
theorem d1_5 : decode jdk_42_method_3_code 5 = .ok (.aconst_null, 1) := by decide +kernel
theorem pd___CIILjava_lang_Void__V : parseMethodDescriptor "([CIILjava/lang/Void;)V" = some ⟨[(.array .char), .int, .int, (.object "java/lang/Void")], none⟩ := by decide +kernel
theorem d1_6 : decode jdk_42_method_3_code 6 = .ok (.invokespecial 27, 3) := by decide +kernel
theorem d1_9 : decode jdk_42_method_3_code 9 = .ok (.return_, 1) := by decide +kernel
def Q_rmNew2 (Z : State) (p0 : Addr) (p1 : Addr) (zc : Int32) (fm : Value) (ks : ClassId) (c0 : Int32) (c1 : Int32) (h0 : Heap) (n0 : Nat) (v : Option Value) (h : Heap) (L : List Loc) : Prop := v = none ∧ Fr n0 L ∧ Keep h0 h [p0] ∧ own_Str Z h p0 [c0, c1]
set_option maxRecDepth 65536 in
set_option maxHeartbeats 40000000 in
theorem rmNew2 (l : Launch) (Z : State) (a0 : Array Value) (hw : ∀ d ∈ tables_1, d.before a0 Z = true) (ws : List Jvm.Cond) (p0 : Addr) (p1 : Addr) (zc : Int32) (fm : Value) (ks : ClassId) (c0 : Int32) (c1 : Int32) (h0 : Heap) (n0 : Nat) (Z0 : n0 ≤ h0.size) (hSt : own_St Z zc fm) (Ol : Old Z n0 h0) (E0 : Exa Z h0 p0 "java/lang/String") (Fv : Fld Z h0 p0 "java/lang/String" "value" "[B" .null) (Fc : Fld Z h0 p0 "java/lang/String" "coder" "B" (.int (0 : Int32))) (g0_ : n0 ≤ p0) (As : Arv Z h0 p1 ks .char (2 : Int32) [(.int c0), (.int c1)] (.int (0 : Int32))) (hch : ∀ c ∈ [c0, c1], ¬ c < (0 : Int32) ∧ ¬ (65535 : Int32) < c) :
    MetFree l (⟨"java/lang/String", "<init>", "([C)V"⟩ : MethodName) (head1 (Jvm.Cond.code (⟨"java/lang/String", "<init>", "([C)V"⟩ : MethodName) jdk_42_method_3_code 2 none :: ws) ({ frames := 5, cells := 2, slots := 6, locals := 74 } : Room)) (fun a U => a = #[(.ref p0), (.ref p1)] ∧ Z.Warmed39 U.vm ∧ U.heap = h0) (fun _ _ _ _ _ => True) (fun _ U o U' => ∃ v L, o = .returned v ∧ Q_rmNew2 Z p0 p1 zc fm ks c0 c1 h0 n0 v U'.heap L ∧ FrameEnd U o U' L ({ frames := 5, cells := 2, slots := 6, locals := 74 } : Room).cells ({ frames := 5, cells := 2, slots := 6, locals := 74 } : Room).slots) := by
  refine MetFree.of_bodySF (plainFor_of_name pn_java_lang_String) hisR ?_
  intro p e s m args below meth c s₁ Bd hml0 hP hK
  obtain ⟨rfl, hZ, hh⟩ := hP
  have hx := Bd.exec
  have hby := Bd.bytes
  have hml : c.maxLocals = 2 := hml0
  have hown : s.vm.findClass "java/lang/String" = some m.cls := findClass_of_methodNamed Bd.named
  have hnm := (name_of_methodNamed Bd.named Bd.method).1
  have hZo := hZ
  have howno := hown
  have X0 : Stand p l e ({ frames := 5, cells := 2, slots := 6, locals := 74 } : Room) s m #[(.ref p0), (.ref p1)] below meth c s₁ [] 0 0 := Stand.of_body Bd
  have e0 : s₁.heap = h0 := by rw [← hh, Bd.state]; rfl
  have N0 := Fr.nil n0
  have pre0 : ∀ t, Steps p.tables e below (s₁.setTop (mkF m 0 #[.val (.ref p0), .val (.ref p1)] [])) t → Steps p.tables e below (s₁.setTop (entryFrame m #[(.ref p0), (.ref p1)] 2)) t := fun t k => castTop (ef_rmNew2 m p0 p1 ) k
  obtain ⟨cl1, Ar1, -, S1, N1, -, -⟩ := id As
  obtain ⟨_, _, ⟨T2, L2, k2, n2⟩, -, X2, ⟨Lc2, hQ2, l2, y2, z2⟩, st2⟩ := X0.specialBack hx (y := (⟨"java/lang/String", "<init>", "([CIILjava/lang/Void;)V"⟩ : MethodName)) rfl hown (mvT hZ (hw _ (List.mem_of_getElem? (i := 7) rfl))) (mvT hZ (hw _ (List.mem_of_getElem? (i := 8) rfl))) (mvT hZ (hw _ (List.mem_of_getElem? (i := 10) rfl))) (by decide) (backOf (W := 0) (rmNew4_2 l Z a0 hw [] p0 p1 zc fm ks c0 c1 h0 n0 Z0 hSt Ol E0 Fv Fc g0_ As hch) hZ (hw _ (List.mem_of_getElem? (i := 10) rfl)) (hw _ (List.mem_of_getElem? (i := 3) rfl)) (by decide) (by decide)) (g := (mkF m 6 #[.val (.ref p0), .val (.ref p1)] [.null, (.int (2 : Int32)), (.int (0 : Int32)), (.ref p1), (.ref p0)])) rfl (by rw [hml]; rfl) (Steps.refl _) (a := p0) (argsL := [(.ref p1), (.int (0 : Int32)), (.int (2 : Int32)), .null]) (rest := []) (lenOf pd___CIILjava_lang_Void__V rfl) rfl (by show 2 * 0 + _ ≤ _; exact Nat.le_of_eq rfl) (hb hby d1_6) (fun _ _ => ⟨rfl, e0, (by decide : 0 + 2 ≤ _), (by decide : 0 + 6 ≤ _)⟩)
  dsimp only [Pt.U, Pt.locs, Pt.cells, Pt.slots] at X2 l2 y2 z2 st2 hQ2
  subst l2 y2 z2
  obtain ⟨rfl, Nq2, K2, hS⟩ := hQ2
  have N2 := Fr.app N0 Nq2
  have KK2 := (Keep.refl h0 [p0]).trans K2 (allS (Or.inl (List.mem_of_getElem? (i := 0) rfl)) all0)
  obtain ⟨fs, hr, hrun, hended, hW, hsame⟩ := X2.leave (v := none) (fun _ => rfl)
  refine ⟨_, _, pre0 _ ?_, hrun, hended, _, _, rfl, ?_, ⟨_, rfl⟩, hW, hsame.mono (by decide) (by decide)⟩
  · show Steps p.tables e below (s₁.setTop (mkF m 0 #[.val (.ref p0), .val (.ref p1)] [])) _
    refine XS.aloadN X0.here hx rfl (hb hby d1_0) rfl rfl ?_
    refine XS.aloadN X0.here hx rfl (hb hby d1_1) rfl rfl ?_
    refine XS.iconst X0.here hx rfl (hb hby d1_2) ?_
    show Steps p.tables e below (s₁.setTop (mkF m 3 #[.val (.ref p0), .val (.ref p1)] [(.int (0 : Int32)), (.ref p1), (.ref p0)])) _
    refine XS.aloadN X0.here hx rfl (hb hby d1_3) rfl rfl ?_
    show Steps p.tables e below (s₁.setTop (mkF m 4 #[.val (.ref p0), .val (.ref p1)] [(.ref p1), (.int (0 : Int32)), (.ref p1), (.ref p0)])) _
    refine X0.arraylength hx (by rw [e0]; exact Ar1.1) (State.isArrayOf_alike hZ.alike Ar1.2.1) (g := (mkF m 4 #[.val (.ref p0), .val (.ref p1)] [(.ref p1), (.int (0 : Int32)), (.ref p1), (.ref p0)])) rfl rfl (hb hby d1_4) _ ?_
    rw [len_of S1 N1]
    show Steps p.tables e below (s₁.setTop (mkF m 5 #[.val (.ref p0), .val (.ref p1)] [(.int (2 : Int32)), (.int (0 : Int32)), (.ref p1), (.ref p0)])) _
    refine XS.aconstNull X0.here hx rfl (hb hby d1_5) ?_
    show Steps p.tables e below (s₁.setTop (mkF m 6 #[.val (.ref p0), .val (.ref p1)] [.null, (.int (2 : Int32)), (.int (0 : Int32)), (.ref p1), (.ref p0)])) _
    refine st2.trans ?_
    show Steps p.tables e below (T2.setTop (mkF m 9 #[.val (.ref p0), .val (.ref p1)] [])) _
    exact X2.returnOut hx Bd.returns (hb hby d1_9) hr
  · show Q_rmNew2 Z p0 p1 zc fm ks c0 c1 h0 n0 _ T2.heap _
    exact ⟨rfl, N2, KK2, hS⟩
theorem ef_rmCmp4 (m : MethodId) (p0 : Addr) (p2 : Addr) : entryFrame m #[(.ref p0), (.int (0 : Int32)), (.ref p2), (.int (0 : Int32)), (.int (4 : Int32))] 7 = mkF m 0 #[.val (.ref p0), .val (.int (0 : Int32)), .val (.ref p2), .val (.int (0 : Int32)), .val (.int (4 : Int32)), .unset, .unset] [] := by first | (simp [entryFrame, mkF, argsToLocals, Value.category]; done) | rfl
def Q_rmCmp4 (Z : State) (p0 : Addr) (p2 : Addr) (zc : Int32) (fm : Value) (ks : ClassId) (kd : ClassId) (c0 : Int32) (c1 : Int32) (c2 : Int32) (c3 : Int32) (h0 : Heap) (n0 : Nat) (v : Option Value) (h : Heap) (L : List Loc) : Prop := (∃ r : Int32, v = some (.int r) ∧ ((r = (4 : Int32) ∧ (¬ (255 : Int32) < c0 ∧ ¬ (255 : Int32) < c1 ∧ ¬ (255 : Int32) < c2 ∧ ¬ (255 : Int32) < c3) ∧ Arv Z h p2 kd .byte (4 : Int32) [(.int (own_b c0)), (.int (own_b c1)), (.int (own_b c2)), (.int (own_b c3))] (.int (0 : Int32))) ∨ (∃ j : Nat, r = Int32.ofNat j ∧ j < 4 ∧ (255 : Int32) < [c0, c1, c2, c3].getD j 0))) ∧ Fr n0 L ∧ Keep h0 h [p2]
set_option maxRecDepth 65536 in
set_option maxHeartbeats 40000000 in
theorem rmCmp4 (l : Launch) (Z : State) (a0 : Array Value) (hw : ∀ d ∈ tables_1, d.before a0 Z = true) (ws : List Jvm.Cond) (p0 : Addr) (p2 : Addr) (zc : Int32) (fm : Value) (ks : ClassId) (kd : ClassId) (c0 : Int32) (c1 : Int32) (c2 : Int32) (c3 : Int32) (h0 : Heap) (n0 : Nat) (Z0 : n0 ≤ h0.size) (hSt : own_St Z zc fm) (Ol : Old Z n0 h0) (As : Arv Z h0 p0 ks .char (4 : Int32) [(.int c0), (.int c1), (.int c2), (.int c3)] (.int (0 : Int32))) (Ad : Arv Z h0 p2 kd .byte (4 : Int32) [(.int (0 : Int32)), (.int (0 : Int32)), (.int (0 : Int32)), (.int (0 : Int32))] (.int (0 : Int32))) (hne : p0 ≠ p2) (g2 : n0 ≤ p2) :
    MetFree l (⟨"java/lang/StringUTF16", "compress", "([CI[BII)I"⟩ : MethodName) (head1 (Jvm.Cond.code (⟨"java/lang/StringUTF16", "compress", "([CI[BII)I"⟩ : MethodName) jdk_52_method_21_code 7 (some .int) :: ws) ({ frames := 0, cells := 0, slots := 0, locals := 0 } : Room)) (fun a U => a = #[(.ref p0), (.int (0 : Int32)), (.ref p2), (.int (0 : Int32)), (.int (4 : Int32))] ∧ Z.Warmed39 U.vm ∧ U.heap = h0) (fun _ _ _ _ _ => True) (fun _ U o U' => ∃ v L, o = .returned v ∧ Q_rmCmp4 Z p0 p2 zc fm ks kd c0 c1 c2 c3 h0 n0 v U'.heap L ∧ FrameEnd U o U' L ({ frames := 0, cells := 0, slots := 0, locals := 0 } : Room).cells ({ frames := 0, cells := 0, slots := 0, locals := 0 } : Room).slots) := by
  refine MetFree.of_bodySF (plainFor_of_name pn_java_lang_StringUTF16) hisR ?_
  intro p e s m args below meth c s₁ Bd hml0 hP hK
  obtain ⟨rfl, hZ, hh⟩ := hP
  have hx := Bd.exec
  have hby := Bd.bytes
  have hml : c.maxLocals = 7 := hml0
  have hown : s.vm.findClass "java/lang/StringUTF16" = some m.cls := findClass_of_methodNamed Bd.named
  have hnm := (name_of_methodNamed Bd.named Bd.method).1
  have hZo := hZ
  have howno := hown
  have X0 : Stand p l e ({ frames := 0, cells := 0, slots := 0, locals := 0 } : Room) s m #[(.ref p0), (.int (0 : Int32)), (.ref p2), (.int (0 : Int32)), (.int (4 : Int32))] below meth c s₁ [] 0 0 := Stand.of_body Bd
  have e0 : s₁.heap = h0 := by rw [← hh, Bd.state]; rfl
  have N0 := Fr.nil n0
  have pre0 : ∀ t, Steps p.tables e below (s₁.setTop (mkF m 0 #[.val (.ref p0), .val (.int (0 : Int32)), .val (.ref p2), .val (.int (0 : Int32)), .val (.int (4 : Int32)), .unset, .unset] [])) t → Steps p.tables e below (s₁.setTop (entryFrame m #[(.ref p0), (.int (0 : Int32)), (.ref p2), (.int (0 : Int32)), (.int (4 : Int32))] 7)) t := fun t k => castTop (ef_rmCmp4 m p0 p2 ) k
  obtain ⟨cl1, Ar1, q1, S1, N1, H1, G1⟩ := id As
  have hin1 : ¬ ((0 : Int32) < 0 ∨ cl1.slots.size ≤ ((0 : Int32)).toNatClampNeg) := inb_of S1 ⟨by decide, by decide⟩
  have hat1 : cl1.slots[((0 : Int32)).toNatClampNeg]? = some (.int c0) := Has.at H1 hin1 rfl
  have pre3 : ∀ t, Steps p.tables e below (s₁.setTop (mkF m 20 #[.val (.ref p0), .val (.int (0 : Int32)), .val (.ref p2), .val (.int (0 : Int32)), .val (.int (4 : Int32)), .val (.int (0 : Int32)), .val (.int c0)] [(.int (255 : Int32)), (.int c0)])) t → Steps p.tables e below (s₁.setTop (entryFrame m #[(.ref p0), (.int (0 : Int32)), (.ref p2), (.int (0 : Int32)), (.int (4 : Int32))] 7)) t := fun t kt => pre0 t (by
    show Steps p.tables e below (s₁.setTop (mkF m 0 #[.val (.ref p0), .val (.int (0 : Int32)), .val (.ref p2), .val (.int (0 : Int32)), .val (.int (4 : Int32)), .unset, .unset] [])) _
    refine XS.iconst X0.here hx rfl (hb hby d13_0) ?_
    refine XS.istore X0.here hx rfl (hb hby d13_1) rfl (l' := #[.val (.ref p0), .val (.int (0 : Int32)), .val (.ref p2), .val (.int (0 : Int32)), .val (.int (4 : Int32)), .val (.int (0 : Int32)), .unset]) rfl ?_
    refine XS.iload X0.here hx rfl (hb hby d13_3) rfl  ?_
    show Steps p.tables e below (s₁.setTop (mkF m 5 #[.val (.ref p0), .val (.int (0 : Int32)), .val (.ref p2), .val (.int (0 : Int32)), .val (.int (4 : Int32)), .val (.int (0 : Int32)), .unset] [(.int (0 : Int32))])) _
    refine XS.iload X0.here hx rfl (hb hby d13_5) rfl  ?_
    show Steps p.tables e below (s₁.setTop (mkF m 7 #[.val (.ref p0), .val (.int (0 : Int32)), .val (.ref p2), .val (.int (0 : Int32)), .val (.int (4 : Int32)), .val (.int (0 : Int32)), .unset] [(.int (4 : Int32)), (.int (0 : Int32))])) _
    refine XS.icmpNo X0.here hx rfl (hb hby d13_7) rfl (tlt (by decide : (0 : Int32) < (4 : Int32))).2.1 ?_
    refine XS.aloadN X0.here hx rfl (hb hby d13_10) rfl rfl ?_
    refine XS.iloadN X0.here hx rfl (hb hby d13_11) rfl  ?_
    show Steps p.tables e below (s₁.setTop (mkF m 12 #[.val (.ref p0), .val (.int (0 : Int32)), .val (.ref p2), .val (.int (0 : Int32)), .val (.int (4 : Int32)), .val (.int (0 : Int32)), .unset] [(.int (0 : Int32)), (.ref p0)])) _
    refine X0.caload hx (j := (0 : Int32)) (v := (.int c0)) (by rw [e0]; exact Ar1.1) (State.isArrayOf_alike hZ.alike Ar1.2.1) Ar1.2.2 hin1 hat1 (g := (mkF m 12 #[.val (.ref p0), .val (.int (0 : Int32)), .val (.ref p2), .val (.int (0 : Int32)), .val (.int (4 : Int32)), .val (.int (0 : Int32)), .unset] [(.int (0 : Int32)), (.ref p0)])) rfl rfl (hb hby d13_12) _ ?_
    show Steps p.tables e below (s₁.setTop (mkF m 13 #[.val (.ref p0), .val (.int (0 : Int32)), .val (.ref p2), .val (.int (0 : Int32)), .val (.int (4 : Int32)), .val (.int (0 : Int32)), .unset] [(.int c0)])) _
    refine XS.istore X0.here hx rfl (hb hby d13_13) rfl (l' := #[.val (.ref p0), .val (.int (0 : Int32)), .val (.ref p2), .val (.int (0 : Int32)), .val (.int (4 : Int32)), .val (.int (0 : Int32)), .val (.int c0)]) rfl ?_
    refine XS.iload X0.here hx rfl (hb hby d13_15) rfl  ?_
    refine XS.sipush X0.here hx rfl (hb hby d13_17) ?_
    exact kt)
  by_cases hc20_2 : (255 : Int32) < c0
  · obtain ⟨fs, hr, hrun, hended, hW, hsame⟩ := X0.leave (v := some (.int (0 : Int32))) (fun h => by rw [Bd.returns] at h; cases h)
    refine ⟨_, _, pre3 _ ?_, hrun, hended, _, _, rfl, ?_, ⟨_, rfl⟩, hW, hsame.mono (by decide) (by decide)⟩
    · show Steps p.tables e below (s₁.setTop (mkF m 20 #[.val (.ref p0), .val (.int (0 : Int32)), .val (.ref p2), .val (.int (0 : Int32)), .val (.int (4 : Int32)), .val (.int (0 : Int32)), .val (.int c0)] [(.int (255 : Int32)), (.int c0)])) _
      refine XS.icmpNo X0.here hx rfl (hb hby d13_20) rfl (tlt hc20_2).2.2.2 ?_
      refine XS.iload X0.here hx rfl (hb hby d13_23) rfl  ?_
      show Steps p.tables e below (s₁.setTop (mkF m 25 #[.val (.ref p0), .val (.int (0 : Int32)), .val (.ref p2), .val (.int (0 : Int32)), .val (.int (4 : Int32)), .val (.int (0 : Int32)), .val (.int c0)] [(.int (0 : Int32))])) _
      exact retI X0 hx Bd.returns (hb hby d13_25) hr
    · show Q_rmCmp4 Z p0 p2 zc fm ks kd c0 c1 c2 c3 h0 n0 _ s₁.heap _
      rw [e0]
      exact ⟨⟨_, rfl, Or.inr ⟨0, rfl, Nat.le_of_ble_eq_true rfl, hc20_2⟩⟩, N0, (Keep.refl h0 [p2])⟩
  · obtain ⟨cl4, Ar4, q4, S4, N4, H4, G4⟩ := id Ad
    have hin4 : ¬ ((0 : Int32) < 0 ∨ cl4.slots.size ≤ ((0 : Int32)).toNatClampNeg) := inb_of S4 ⟨by decide, by decide⟩
    obtain ⟨T5, h5, X5, e5, W5, st5⟩ := stB X0 hx hZ e0 Ar4 (j := (0 : Int32)) hin4 (g := (mkF m 31 #[.val (.ref p0), .val (.int (0 : Int32)), .val (.ref p2), .val (.int (0 : Int32)), .val (.int (4 : Int32)), .val (.int (0 : Int32)), .val (.int c0)] [(.int (c0.toInt8.toInt32)), (.int (0 : Int32)), (.ref p2)])) rfl rfl (hb hby d13_31)
    have N5 := Fr.snoc X5 N0 g2
    have K5 := (Keep.refl h0 [p2]).wr W5 (Or.inl (List.mem_of_getElem? (i := 0) rfl))
    have V5 : Arv Z h5 p2 kd .byte (4 : Int32) [(.int (own_b c0)), (.int (0 : Int32)), (.int (0 : Int32)), (.int (0 : Int32))] (.int (0 : Int32)) := Arv.set Ar4 q4 S4 N4 H4 G4 (fits_nar_byte _) W5 0 rfl (Nat.le_of_ble_eq_true rfl)
    have f6 := (As.other W5 hne)
    obtain ⟨cl7, Ar7, q7, S7, N7, H7, G7⟩ := id f6
    have hin7 : ¬ ((1 : Int32) < 0 ∨ cl7.slots.size ≤ ((1 : Int32)).toNatClampNeg) := inb_of S7 ⟨by decide, by decide⟩
    have hat7 : cl7.slots[((1 : Int32)).toNatClampNeg]? = some (.int c1) := Has.at H7 hin7 rfl
    have pre9 : ∀ t, Steps p.tables e below (T5.setTop (mkF m 20 #[.val (.ref p0), .val (.int (1 : Int32)), .val (.ref p2), .val (.int (1 : Int32)), .val (.int (4 : Int32)), .val (.int (1 : Int32)), .val (.int c1)] [(.int (255 : Int32)), (.int c1)])) t → Steps p.tables e below (s₁.setTop (entryFrame m #[(.ref p0), (.int (0 : Int32)), (.ref p2), (.int (0 : Int32)), (.int (4 : Int32))] 7)) t := fun t kt => pre3 t (by
      show Steps p.tables e below (s₁.setTop (mkF m 20 #[.val (.ref p0), .val (.int (0 : Int32)), .val (.ref p2), .val (.int (0 : Int32)), .val (.int (4 : Int32)), .val (.int (0 : Int32)), .val (.int c0)] [(.int (255 : Int32)), (.int c0)])) _
      refine XS.icmpYes X0.here hx rfl (pc0 := 20) (pc' := 26) rfl (hb hby d13_20) rfl (flt hc20_2).2.2.2 (by decide) (by decide) ?_
      refine XS.aloadN X0.here hx rfl (hb hby d13_26) rfl rfl ?_
      refine XS.iloadN X0.here hx rfl (hb hby d13_27) rfl  ?_
      show Steps p.tables e below (s₁.setTop (mkF m 28 #[.val (.ref p0), .val (.int (0 : Int32)), .val (.ref p2), .val (.int (0 : Int32)), .val (.int (4 : Int32)), .val (.int (0 : Int32)), .val (.int c0)] [(.int (0 : Int32)), (.ref p2)])) _
      refine XS.iload X0.here hx rfl (hb hby d13_28) rfl  ?_
      refine XS.i2b X0.here hx rfl (hb hby d13_30) rfl ?_
      show Steps p.tables e below (s₁.setTop (mkF m 31 #[.val (.ref p0), .val (.int (0 : Int32)), .val (.ref p2), .val (.int (0 : Int32)), .val (.int (4 : Int32)), .val (.int (0 : Int32)), .val (.int c0)] [(.int (c0.toInt8.toInt32)), (.int (0 : Int32)), (.ref p2)])) _
      refine st5 _ ?_
      show Steps p.tables e below (T5.setTop (mkF m 32 #[.val (.ref p0), .val (.int (0 : Int32)), .val (.ref p2), .val (.int (0 : Int32)), .val (.int (4 : Int32)), .val (.int (0 : Int32)), .val (.int c0)] [])) _
      refine XS.iinc X5.here hx rfl (hb hby d13_32) rfl (l' := #[.val (.ref p0), .val (.int (1 : Int32)), .val (.ref p2), .val (.int (0 : Int32)), .val (.int (4 : Int32)), .val (.int (0 : Int32)), .val (.int c0)]) rfl ?_
      refine XS.iinc X5.here hx rfl (hb hby d13_35) rfl (l' := #[.val (.ref p0), .val (.int (1 : Int32)), .val (.ref p2), .val (.int (1 : Int32)), .val (.int (4 : Int32)), .val (.int (0 : Int32)), .val (.int c0)]) rfl ?_
      refine XS.iinc X5.here hx rfl (hb hby d13_38) rfl (l' := #[.val (.ref p0), .val (.int (1 : Int32)), .val (.ref p2), .val (.int (1 : Int32)), .val (.int (4 : Int32)), .val (.int (1 : Int32)), .val (.int c0)]) rfl ?_
      show Steps p.tables e below (T5.setTop (mkF m 41 #[.val (.ref p0), .val (.int (1 : Int32)), .val (.ref p2), .val (.int (1 : Int32)), .val (.int (4 : Int32)), .val (.int (1 : Int32)), .val (.int c0)] [])) _
      refine XS.goto X5.here hx rfl (pc0 := 41) (pc' := 3) rfl (hb hby d13_41) (by decide) (by decide) ?_
      refine XS.iload X5.here hx rfl (hb hby d13_3) rfl  ?_
      refine XS.iload X5.here hx rfl (hb hby d13_5) rfl  ?_
      show Steps p.tables e below (T5.setTop (mkF m 7 #[.val (.ref p0), .val (.int (1 : Int32)), .val (.ref p2), .val (.int (1 : Int32)), .val (.int (4 : Int32)), .val (.int (1 : Int32)), .val (.int c0)] [(.int (4 : Int32)), (.int (1 : Int32))])) _
      refine XS.icmpNo X5.here hx rfl (hb hby d13_7) rfl (tlt (by decide : (1 : Int32) < (4 : Int32))).2.1 ?_
      refine XS.aloadN X5.here hx rfl (hb hby d13_10) rfl rfl ?_
      refine XS.iloadN X5.here hx rfl (hb hby d13_11) rfl  ?_
      show Steps p.tables e below (T5.setTop (mkF m 12 #[.val (.ref p0), .val (.int (1 : Int32)), .val (.ref p2), .val (.int (1 : Int32)), .val (.int (4 : Int32)), .val (.int (1 : Int32)), .val (.int c0)] [(.int (1 : Int32)), (.ref p0)])) _
      refine X5.caload hx (j := (1 : Int32)) (v := (.int c1)) (by rw [e5]; exact Ar7.1) (State.isArrayOf_alike hZ.alike Ar7.2.1) Ar7.2.2 hin7 hat7 (g := (mkF m 12 #[.val (.ref p0), .val (.int (1 : Int32)), .val (.ref p2), .val (.int (1 : Int32)), .val (.int (4 : Int32)), .val (.int (1 : Int32)), .val (.int c0)] [(.int (1 : Int32)), (.ref p0)])) rfl rfl (hb hby d13_12) _ ?_
      show Steps p.tables e below (T5.setTop (mkF m 13 #[.val (.ref p0), .val (.int (1 : Int32)), .val (.ref p2), .val (.int (1 : Int32)), .val (.int (4 : Int32)), .val (.int (1 : Int32)), .val (.int c0)] [(.int c1)])) _
      refine XS.istore X5.here hx rfl (hb hby d13_13) rfl (l' := #[.val (.ref p0), .val (.int (1 : Int32)), .val (.ref p2), .val (.int (1 : Int32)), .val (.int (4 : Int32)), .val (.int (1 : Int32)), .val (.int c1)]) rfl ?_
      refine XS.iload X5.here hx rfl (hb hby d13_15) rfl  ?_
      refine XS.sipush X5.here hx rfl (hb hby d13_17) ?_
      exact kt)
    by_cases hc20_8 : (255 : Int32) < c1
    · obtain ⟨fs, hr, hrun, hended, hW, hsame⟩ := X5.leave (v := some (.int (1 : Int32))) (fun h => by rw [Bd.returns] at h; cases h)
      refine ⟨_, _, pre9 _ ?_, hrun, hended, _, _, rfl, ?_, ⟨_, rfl⟩, hW, hsame.mono (by decide) (by decide)⟩
      · show Steps p.tables e below (T5.setTop (mkF m 20 #[.val (.ref p0), .val (.int (1 : Int32)), .val (.ref p2), .val (.int (1 : Int32)), .val (.int (4 : Int32)), .val (.int (1 : Int32)), .val (.int c1)] [(.int (255 : Int32)), (.int c1)])) _
        refine XS.icmpNo X5.here hx rfl (hb hby d13_20) rfl (tlt hc20_8).2.2.2 ?_
        refine XS.iload X5.here hx rfl (hb hby d13_23) rfl  ?_
        show Steps p.tables e below (T5.setTop (mkF m 25 #[.val (.ref p0), .val (.int (1 : Int32)), .val (.ref p2), .val (.int (1 : Int32)), .val (.int (4 : Int32)), .val (.int (1 : Int32)), .val (.int c1)] [(.int (1 : Int32))])) _
        exact retI X5 hx Bd.returns (hb hby d13_25) hr
      · show Q_rmCmp4 Z p0 p2 zc fm ks kd c0 c1 c2 c3 h0 n0 _ T5.heap _
        rw [e5]
        exact ⟨⟨_, rfl, Or.inr ⟨1, rfl, Nat.le_of_ble_eq_true rfl, hc20_8⟩⟩, N5, K5⟩
    · obtain ⟨cl10, Ar10, q10, S10, N10, H10, G10⟩ := id V5
      have hin10 : ¬ ((1 : Int32) < 0 ∨ cl10.slots.size ≤ ((1 : Int32)).toNatClampNeg) := inb_of S10 ⟨by decide, by decide⟩
      obtain ⟨T11, h11, X11, e11, W11, st11⟩ := stB X5 hx hZ e5 Ar10 (j := (1 : Int32)) hin10 (g := (mkF m 31 #[.val (.ref p0), .val (.int (1 : Int32)), .val (.ref p2), .val (.int (1 : Int32)), .val (.int (4 : Int32)), .val (.int (1 : Int32)), .val (.int c1)] [(.int (c1.toInt8.toInt32)), (.int (1 : Int32)), (.ref p2)])) rfl rfl (hb hby d13_31)
      have N11 := Fr.snoc X11 N5 g2
      have K11 := K5.wr W11 (Or.inl (List.mem_of_getElem? (i := 0) rfl))
      have V11 : Arv Z h11 p2 kd .byte (4 : Int32) [(.int (own_b c0)), (.int (own_b c1)), (.int (0 : Int32)), (.int (0 : Int32))] (.int (0 : Int32)) := Arv.set Ar10 q10 S10 N10 H10 G10 (fits_nar_byte _) W11 1 rfl (Nat.le_of_ble_eq_true rfl)
      have f12 := (f6.other W11 hne)
      obtain ⟨cl13, Ar13, q13, S13, N13, H13, G13⟩ := id f12
      have hin13 : ¬ ((2 : Int32) < 0 ∨ cl13.slots.size ≤ ((2 : Int32)).toNatClampNeg) := inb_of S13 ⟨by decide, by decide⟩
      have hat13 : cl13.slots[((2 : Int32)).toNatClampNeg]? = some (.int c2) := Has.at H13 hin13 rfl
      have pre15 : ∀ t, Steps p.tables e below (T11.setTop (mkF m 20 #[.val (.ref p0), .val (.int (2 : Int32)), .val (.ref p2), .val (.int (2 : Int32)), .val (.int (4 : Int32)), .val (.int (2 : Int32)), .val (.int c2)] [(.int (255 : Int32)), (.int c2)])) t → Steps p.tables e below (s₁.setTop (entryFrame m #[(.ref p0), (.int (0 : Int32)), (.ref p2), (.int (0 : Int32)), (.int (4 : Int32))] 7)) t := fun t kt => pre9 t (by
        show Steps p.tables e below (T5.setTop (mkF m 20 #[.val (.ref p0), .val (.int (1 : Int32)), .val (.ref p2), .val (.int (1 : Int32)), .val (.int (4 : Int32)), .val (.int (1 : Int32)), .val (.int c1)] [(.int (255 : Int32)), (.int c1)])) _
        refine XS.icmpYes X5.here hx rfl (pc0 := 20) (pc' := 26) rfl (hb hby d13_20) rfl (flt hc20_8).2.2.2 (by decide) (by decide) ?_
        refine XS.aloadN X5.here hx rfl (hb hby d13_26) rfl rfl ?_
        refine XS.iloadN X5.here hx rfl (hb hby d13_27) rfl  ?_
        show Steps p.tables e below (T5.setTop (mkF m 28 #[.val (.ref p0), .val (.int (1 : Int32)), .val (.ref p2), .val (.int (1 : Int32)), .val (.int (4 : Int32)), .val (.int (1 : Int32)), .val (.int c1)] [(.int (1 : Int32)), (.ref p2)])) _
        refine XS.iload X5.here hx rfl (hb hby d13_28) rfl  ?_
        refine XS.i2b X5.here hx rfl (hb hby d13_30) rfl ?_
        show Steps p.tables e below (T5.setTop (mkF m 31 #[.val (.ref p0), .val (.int (1 : Int32)), .val (.ref p2), .val (.int (1 : Int32)), .val (.int (4 : Int32)), .val (.int (1 : Int32)), .val (.int c1)] [(.int (c1.toInt8.toInt32)), (.int (1 : Int32)), (.ref p2)])) _
        refine st11 _ ?_
        show Steps p.tables e below (T11.setTop (mkF m 32 #[.val (.ref p0), .val (.int (1 : Int32)), .val (.ref p2), .val (.int (1 : Int32)), .val (.int (4 : Int32)), .val (.int (1 : Int32)), .val (.int c1)] [])) _
        refine XS.iinc X11.here hx rfl (hb hby d13_32) rfl (l' := #[.val (.ref p0), .val (.int (2 : Int32)), .val (.ref p2), .val (.int (1 : Int32)), .val (.int (4 : Int32)), .val (.int (1 : Int32)), .val (.int c1)]) rfl ?_
        refine XS.iinc X11.here hx rfl (hb hby d13_35) rfl (l' := #[.val (.ref p0), .val (.int (2 : Int32)), .val (.ref p2), .val (.int (2 : Int32)), .val (.int (4 : Int32)), .val (.int (1 : Int32)), .val (.int c1)]) rfl ?_
        refine XS.iinc X11.here hx rfl (hb hby d13_38) rfl (l' := #[.val (.ref p0), .val (.int (2 : Int32)), .val (.ref p2), .val (.int (2 : Int32)), .val (.int (4 : Int32)), .val (.int (2 : Int32)), .val (.int c1)]) rfl ?_
        show Steps p.tables e below (T11.setTop (mkF m 41 #[.val (.ref p0), .val (.int (2 : Int32)), .val (.ref p2), .val (.int (2 : Int32)), .val (.int (4 : Int32)), .val (.int (2 : Int32)), .val (.int c1)] [])) _
        refine XS.goto X11.here hx rfl (pc0 := 41) (pc' := 3) rfl (hb hby d13_41) (by decide) (by decide) ?_
        refine XS.iload X11.here hx rfl (hb hby d13_3) rfl  ?_
        refine XS.iload X11.here hx rfl (hb hby d13_5) rfl  ?_
        show Steps p.tables e below (T11.setTop (mkF m 7 #[.val (.ref p0), .val (.int (2 : Int32)), .val (.ref p2), .val (.int (2 : Int32)), .val (.int (4 : Int32)), .val (.int (2 : Int32)), .val (.int c1)] [(.int (4 : Int32)), (.int (2 : Int32))])) _
        refine XS.icmpNo X11.here hx rfl (hb hby d13_7) rfl (tlt (by decide : (2 : Int32) < (4 : Int32))).2.1 ?_
        refine XS.aloadN X11.here hx rfl (hb hby d13_10) rfl rfl ?_
        refine XS.iloadN X11.here hx rfl (hb hby d13_11) rfl  ?_
        show Steps p.tables e below (T11.setTop (mkF m 12 #[.val (.ref p0), .val (.int (2 : Int32)), .val (.ref p2), .val (.int (2 : Int32)), .val (.int (4 : Int32)), .val (.int (2 : Int32)), .val (.int c1)] [(.int (2 : Int32)), (.ref p0)])) _
        refine X11.caload hx (j := (2 : Int32)) (v := (.int c2)) (by rw [e11]; exact Ar13.1) (State.isArrayOf_alike hZ.alike Ar13.2.1) Ar13.2.2 hin13 hat13 (g := (mkF m 12 #[.val (.ref p0), .val (.int (2 : Int32)), .val (.ref p2), .val (.int (2 : Int32)), .val (.int (4 : Int32)), .val (.int (2 : Int32)), .val (.int c1)] [(.int (2 : Int32)), (.ref p0)])) rfl rfl (hb hby d13_12) _ ?_
        show Steps p.tables e below (T11.setTop (mkF m 13 #[.val (.ref p0), .val (.int (2 : Int32)), .val (.ref p2), .val (.int (2 : Int32)), .val (.int (4 : Int32)), .val (.int (2 : Int32)), .val (.int c1)] [(.int c2)])) _
        refine XS.istore X11.here hx rfl (hb hby d13_13) rfl (l' := #[.val (.ref p0), .val (.int (2 : Int32)), .val (.ref p2), .val (.int (2 : Int32)), .val (.int (4 : Int32)), .val (.int (2 : Int32)), .val (.int c2)]) rfl ?_
        refine XS.iload X11.here hx rfl (hb hby d13_15) rfl  ?_
        refine XS.sipush X11.here hx rfl (hb hby d13_17) ?_
        exact kt)
      by_cases hc20_14 : (255 : Int32) < c2
      · obtain ⟨fs, hr, hrun, hended, hW, hsame⟩ := X11.leave (v := some (.int (2 : Int32))) (fun h => by rw [Bd.returns] at h; cases h)
        refine ⟨_, _, pre15 _ ?_, hrun, hended, _, _, rfl, ?_, ⟨_, rfl⟩, hW, hsame.mono (by decide) (by decide)⟩
        · show Steps p.tables e below (T11.setTop (mkF m 20 #[.val (.ref p0), .val (.int (2 : Int32)), .val (.ref p2), .val (.int (2 : Int32)), .val (.int (4 : Int32)), .val (.int (2 : Int32)), .val (.int c2)] [(.int (255 : Int32)), (.int c2)])) _
          refine XS.icmpNo X11.here hx rfl (hb hby d13_20) rfl (tlt hc20_14).2.2.2 ?_
          refine XS.iload X11.here hx rfl (hb hby d13_23) rfl  ?_
          show Steps p.tables e below (T11.setTop (mkF m 25 #[.val (.ref p0), .val (.int (2 : Int32)), .val (.ref p2), .val (.int (2 : Int32)), .val (.int (4 : Int32)), .val (.int (2 : Int32)), .val (.int c2)] [(.int (2 : Int32))])) _
          exact retI X11 hx Bd.returns (hb hby d13_25) hr
        · show Q_rmCmp4 Z p0 p2 zc fm ks kd c0 c1 c2 c3 h0 n0 _ T11.heap _
          rw [e11]
          exact ⟨⟨_, rfl, Or.inr ⟨2, rfl, Nat.le_of_ble_eq_true rfl, hc20_14⟩⟩, N11, K11⟩
      · obtain ⟨cl16, Ar16, q16, S16, N16, H16, G16⟩ := id V11
        have hin16 : ¬ ((2 : Int32) < 0 ∨ cl16.slots.size ≤ ((2 : Int32)).toNatClampNeg) := inb_of S16 ⟨by decide, by decide⟩
        obtain ⟨T17, h17, X17, e17, W17, st17⟩ := stB X11 hx hZ e11 Ar16 (j := (2 : Int32)) hin16 (g := (mkF m 31 #[.val (.ref p0), .val (.int (2 : Int32)), .val (.ref p2), .val (.int (2 : Int32)), .val (.int (4 : Int32)), .val (.int (2 : Int32)), .val (.int c2)] [(.int (c2.toInt8.toInt32)), (.int (2 : Int32)), (.ref p2)])) rfl rfl (hb hby d13_31)
        have N17 := Fr.snoc X17 N11 g2
        have K17 := K11.wr W17 (Or.inl (List.mem_of_getElem? (i := 0) rfl))
        have V17 : Arv Z h17 p2 kd .byte (4 : Int32) [(.int (own_b c0)), (.int (own_b c1)), (.int (own_b c2)), (.int (0 : Int32))] (.int (0 : Int32)) := Arv.set Ar16 q16 S16 N16 H16 G16 (fits_nar_byte _) W17 2 rfl (Nat.le_of_ble_eq_true rfl)
        have f18 := (f12.other W17 hne)
        obtain ⟨cl19, Ar19, q19, S19, N19, H19, G19⟩ := id f18
        have hin19 : ¬ ((3 : Int32) < 0 ∨ cl19.slots.size ≤ ((3 : Int32)).toNatClampNeg) := inb_of S19 ⟨by decide, by decide⟩
        have hat19 : cl19.slots[((3 : Int32)).toNatClampNeg]? = some (.int c3) := Has.at H19 hin19 rfl
        have pre21 : ∀ t, Steps p.tables e below (T17.setTop (mkF m 20 #[.val (.ref p0), .val (.int (3 : Int32)), .val (.ref p2), .val (.int (3 : Int32)), .val (.int (4 : Int32)), .val (.int (3 : Int32)), .val (.int c3)] [(.int (255 : Int32)), (.int c3)])) t → Steps p.tables e below (s₁.setTop (entryFrame m #[(.ref p0), (.int (0 : Int32)), (.ref p2), (.int (0 : Int32)), (.int (4 : Int32))] 7)) t := fun t kt => pre15 t (by
          show Steps p.tables e below (T11.setTop (mkF m 20 #[.val (.ref p0), .val (.int (2 : Int32)), .val (.ref p2), .val (.int (2 : Int32)), .val (.int (4 : Int32)), .val (.int (2 : Int32)), .val (.int c2)] [(.int (255 : Int32)), (.int c2)])) _
          refine XS.icmpYes X11.here hx rfl (pc0 := 20) (pc' := 26) rfl (hb hby d13_20) rfl (flt hc20_14).2.2.2 (by decide) (by decide) ?_
          refine XS.aloadN X11.here hx rfl (hb hby d13_26) rfl rfl ?_
          refine XS.iloadN X11.here hx rfl (hb hby d13_27) rfl  ?_
          show Steps p.tables e below (T11.setTop (mkF m 28 #[.val (.ref p0), .val (.int (2 : Int32)), .val (.ref p2), .val (.int (2 : Int32)), .val (.int (4 : Int32)), .val (.int (2 : Int32)), .val (.int c2)] [(.int (2 : Int32)), (.ref p2)])) _
          refine XS.iload X11.here hx rfl (hb hby d13_28) rfl  ?_
          refine XS.i2b X11.here hx rfl (hb hby d13_30) rfl ?_
          show Steps p.tables e below (T11.setTop (mkF m 31 #[.val (.ref p0), .val (.int (2 : Int32)), .val (.ref p2), .val (.int (2 : Int32)), .val (.int (4 : Int32)), .val (.int (2 : Int32)), .val (.int c2)] [(.int (c2.toInt8.toInt32)), (.int (2 : Int32)), (.ref p2)])) _
          refine st17 _ ?_
          show Steps p.tables e below (T17.setTop (mkF m 32 #[.val (.ref p0), .val (.int (2 : Int32)), .val (.ref p2), .val (.int (2 : Int32)), .val (.int (4 : Int32)), .val (.int (2 : Int32)), .val (.int c2)] [])) _
          refine XS.iinc X17.here hx rfl (hb hby d13_32) rfl (l' := #[.val (.ref p0), .val (.int (3 : Int32)), .val (.ref p2), .val (.int (2 : Int32)), .val (.int (4 : Int32)), .val (.int (2 : Int32)), .val (.int c2)]) rfl ?_
          refine XS.iinc X17.here hx rfl (hb hby d13_35) rfl (l' := #[.val (.ref p0), .val (.int (3 : Int32)), .val (.ref p2), .val (.int (3 : Int32)), .val (.int (4 : Int32)), .val (.int (2 : Int32)), .val (.int c2)]) rfl ?_
          refine XS.iinc X17.here hx rfl (hb hby d13_38) rfl (l' := #[.val (.ref p0), .val (.int (3 : Int32)), .val (.ref p2), .val (.int (3 : Int32)), .val (.int (4 : Int32)), .val (.int (3 : Int32)), .val (.int c2)]) rfl ?_
          show Steps p.tables e below (T17.setTop (mkF m 41 #[.val (.ref p0), .val (.int (3 : Int32)), .val (.ref p2), .val (.int (3 : Int32)), .val (.int (4 : Int32)), .val (.int (3 : Int32)), .val (.int c2)] [])) _
          refine XS.goto X17.here hx rfl (pc0 := 41) (pc' := 3) rfl (hb hby d13_41) (by decide) (by decide) ?_
          refine XS.iload X17.here hx rfl (hb hby d13_3) rfl  ?_
          refine XS.iload X17.here hx rfl (hb hby d13_5) rfl  ?_
          show Steps p.tables e below (T17.setTop (mkF m 7 #[.val (.ref p0), .val (.int (3 : Int32)), .val (.ref p2), .val (.int (3 : Int32)), .val (.int (4 : Int32)), .val (.int (3 : Int32)), .val (.int c2)] [(.int (4 : Int32)), (.int (3 : Int32))])) _
          refine XS.icmpNo X17.here hx rfl (hb hby d13_7) rfl (tlt (by decide : (3 : Int32) < (4 : Int32))).2.1 ?_
          refine XS.aloadN X17.here hx rfl (hb hby d13_10) rfl rfl ?_
          refine XS.iloadN X17.here hx rfl (hb hby d13_11) rfl  ?_
          show Steps p.tables e below (T17.setTop (mkF m 12 #[.val (.ref p0), .val (.int (3 : Int32)), .val (.ref p2), .val (.int (3 : Int32)), .val (.int (4 : Int32)), .val (.int (3 : Int32)), .val (.int c2)] [(.int (3 : Int32)), (.ref p0)])) _
          refine X17.caload hx (j := (3 : Int32)) (v := (.int c3)) (by rw [e17]; exact Ar19.1) (State.isArrayOf_alike hZ.alike Ar19.2.1) Ar19.2.2 hin19 hat19 (g := (mkF m 12 #[.val (.ref p0), .val (.int (3 : Int32)), .val (.ref p2), .val (.int (3 : Int32)), .val (.int (4 : Int32)), .val (.int (3 : Int32)), .val (.int c2)] [(.int (3 : Int32)), (.ref p0)])) rfl rfl (hb hby d13_12) _ ?_
          show Steps p.tables e below (T17.setTop (mkF m 13 #[.val (.ref p0), .val (.int (3 : Int32)), .val (.ref p2), .val (.int (3 : Int32)), .val (.int (4 : Int32)), .val (.int (3 : Int32)), .val (.int c2)] [(.int c3)])) _
          refine XS.istore X17.here hx rfl (hb hby d13_13) rfl (l' := #[.val (.ref p0), .val (.int (3 : Int32)), .val (.ref p2), .val (.int (3 : Int32)), .val (.int (4 : Int32)), .val (.int (3 : Int32)), .val (.int c3)]) rfl ?_
          refine XS.iload X17.here hx rfl (hb hby d13_15) rfl  ?_
          refine XS.sipush X17.here hx rfl (hb hby d13_17) ?_
          exact kt)
        by_cases hc20_20 : (255 : Int32) < c3
        · obtain ⟨fs, hr, hrun, hended, hW, hsame⟩ := X17.leave (v := some (.int (3 : Int32))) (fun h => by rw [Bd.returns] at h; cases h)
          refine ⟨_, _, pre21 _ ?_, hrun, hended, _, _, rfl, ?_, ⟨_, rfl⟩, hW, hsame.mono (by decide) (by decide)⟩
          · show Steps p.tables e below (T17.setTop (mkF m 20 #[.val (.ref p0), .val (.int (3 : Int32)), .val (.ref p2), .val (.int (3 : Int32)), .val (.int (4 : Int32)), .val (.int (3 : Int32)), .val (.int c3)] [(.int (255 : Int32)), (.int c3)])) _
            refine XS.icmpNo X17.here hx rfl (hb hby d13_20) rfl (tlt hc20_20).2.2.2 ?_
            refine XS.iload X17.here hx rfl (hb hby d13_23) rfl  ?_
            show Steps p.tables e below (T17.setTop (mkF m 25 #[.val (.ref p0), .val (.int (3 : Int32)), .val (.ref p2), .val (.int (3 : Int32)), .val (.int (4 : Int32)), .val (.int (3 : Int32)), .val (.int c3)] [(.int (3 : Int32))])) _
            exact retI X17 hx Bd.returns (hb hby d13_25) hr
          · show Q_rmCmp4 Z p0 p2 zc fm ks kd c0 c1 c2 c3 h0 n0 _ T17.heap _
            rw [e17]
            exact ⟨⟨_, rfl, Or.inr ⟨3, rfl, Nat.le_of_ble_eq_true rfl, hc20_20⟩⟩, N17, K17⟩
        · obtain ⟨cl22, Ar22, q22, S22, N22, H22, G22⟩ := id V17
          have hin22 : ¬ ((3 : Int32) < 0 ∨ cl22.slots.size ≤ ((3 : Int32)).toNatClampNeg) := inb_of S22 ⟨by decide, by decide⟩
          obtain ⟨T23, h23, X23, e23, W23, st23⟩ := stB X17 hx hZ e17 Ar22 (j := (3 : Int32)) hin22 (g := (mkF m 31 #[.val (.ref p0), .val (.int (3 : Int32)), .val (.ref p2), .val (.int (3 : Int32)), .val (.int (4 : Int32)), .val (.int (3 : Int32)), .val (.int c3)] [(.int (c3.toInt8.toInt32)), (.int (3 : Int32)), (.ref p2)])) rfl rfl (hb hby d13_31)
          have N23 := Fr.snoc X23 N17 g2
          have K23 := K17.wr W23 (Or.inl (List.mem_of_getElem? (i := 0) rfl))
          have V23 : Arv Z h23 p2 kd .byte (4 : Int32) [(.int (own_b c0)), (.int (own_b c1)), (.int (own_b c2)), (.int (own_b c3))] (.int (0 : Int32)) := Arv.set Ar22 q22 S22 N22 H22 G22 (fits_nar_byte _) W23 3 rfl (Nat.le_of_ble_eq_true rfl)
          obtain ⟨fs, hr, hrun, hended, hW, hsame⟩ := X23.leave (v := some (.int (4 : Int32))) (fun h => by rw [Bd.returns] at h; cases h)
          refine ⟨_, _, pre21 _ ?_, hrun, hended, _, _, rfl, ?_, ⟨_, rfl⟩, hW, hsame.mono (by decide) (by decide)⟩
          · show Steps p.tables e below (T17.setTop (mkF m 20 #[.val (.ref p0), .val (.int (3 : Int32)), .val (.ref p2), .val (.int (3 : Int32)), .val (.int (4 : Int32)), .val (.int (3 : Int32)), .val (.int c3)] [(.int (255 : Int32)), (.int c3)])) _
            refine XS.icmpYes X17.here hx rfl (pc0 := 20) (pc' := 26) rfl (hb hby d13_20) rfl (flt hc20_20).2.2.2 (by decide) (by decide) ?_
            refine XS.aloadN X17.here hx rfl (hb hby d13_26) rfl rfl ?_
            refine XS.iloadN X17.here hx rfl (hb hby d13_27) rfl  ?_
            show Steps p.tables e below (T17.setTop (mkF m 28 #[.val (.ref p0), .val (.int (3 : Int32)), .val (.ref p2), .val (.int (3 : Int32)), .val (.int (4 : Int32)), .val (.int (3 : Int32)), .val (.int c3)] [(.int (3 : Int32)), (.ref p2)])) _
            refine XS.iload X17.here hx rfl (hb hby d13_28) rfl  ?_
            refine XS.i2b X17.here hx rfl (hb hby d13_30) rfl ?_
            show Steps p.tables e below (T17.setTop (mkF m 31 #[.val (.ref p0), .val (.int (3 : Int32)), .val (.ref p2), .val (.int (3 : Int32)), .val (.int (4 : Int32)), .val (.int (3 : Int32)), .val (.int c3)] [(.int (c3.toInt8.toInt32)), (.int (3 : Int32)), (.ref p2)])) _
            refine st23 _ ?_
            show Steps p.tables e below (T23.setTop (mkF m 32 #[.val (.ref p0), .val (.int (3 : Int32)), .val (.ref p2), .val (.int (3 : Int32)), .val (.int (4 : Int32)), .val (.int (3 : Int32)), .val (.int c3)] [])) _
            refine XS.iinc X23.here hx rfl (hb hby d13_32) rfl (l' := #[.val (.ref p0), .val (.int (4 : Int32)), .val (.ref p2), .val (.int (3 : Int32)), .val (.int (4 : Int32)), .val (.int (3 : Int32)), .val (.int c3)]) rfl ?_
            refine XS.iinc X23.here hx rfl (hb hby d13_35) rfl (l' := #[.val (.ref p0), .val (.int (4 : Int32)), .val (.ref p2), .val (.int (4 : Int32)), .val (.int (4 : Int32)), .val (.int (3 : Int32)), .val (.int c3)]) rfl ?_
            refine XS.iinc X23.here hx rfl (hb hby d13_38) rfl (l' := #[.val (.ref p0), .val (.int (4 : Int32)), .val (.ref p2), .val (.int (4 : Int32)), .val (.int (4 : Int32)), .val (.int (4 : Int32)), .val (.int c3)]) rfl ?_
            show Steps p.tables e below (T23.setTop (mkF m 41 #[.val (.ref p0), .val (.int (4 : Int32)), .val (.ref p2), .val (.int (4 : Int32)), .val (.int (4 : Int32)), .val (.int (4 : Int32)), .val (.int c3)] [])) _
            refine XS.goto X23.here hx rfl (pc0 := 41) (pc' := 3) rfl (hb hby d13_41) (by decide) (by decide) ?_
            refine XS.iload X23.here hx rfl (hb hby d13_3) rfl  ?_
            refine XS.iload X23.here hx rfl (hb hby d13_5) rfl  ?_
            show Steps p.tables e below (T23.setTop (mkF m 7 #[.val (.ref p0), .val (.int (4 : Int32)), .val (.ref p2), .val (.int (4 : Int32)), .val (.int (4 : Int32)), .val (.int (4 : Int32)), .val (.int c3)] [(.int (4 : Int32)), (.int (4 : Int32))])) _
            refine XS.icmpYes X23.here hx rfl (pc0 := 7) (pc' := 44) rfl (hb hby d13_7) rfl (flt (by decide : ¬ ((4 : Int32) < (4 : Int32)))).2.1 (by decide) (by decide) ?_
            refine XS.iload X23.here hx rfl (hb hby d13_44) rfl  ?_
            show Steps p.tables e below (T23.setTop (mkF m 46 #[.val (.ref p0), .val (.int (4 : Int32)), .val (.ref p2), .val (.int (4 : Int32)), .val (.int (4 : Int32)), .val (.int (4 : Int32)), .val (.int c3)] [(.int (4 : Int32))])) _
            exact retI X23 hx Bd.returns (hb hby d13_46) hr
          · show Q_rmCmp4 Z p0 p2 zc fm ks kd c0 c1 c2 c3 h0 n0 _ T23.heap _
            rw [e23]
            exact ⟨⟨_, rfl, Or.inl ⟨rfl, ⟨hc20_2, hc20_8, hc20_14, hc20_20⟩, V23⟩⟩, N23, K23⟩
theorem ef_rmNBF4 (m : MethodId)  : entryFrame m #[(.int (4 : Int32))] 1 = mkF m 0 #[.val (.int (4 : Int32))] [] := by first | (simp [entryFrame, mkF, argsToLocals, Value.category]; done) | rfl
def Q_rmNBF4 (Z : State) (zc : Int32) (fm : Value) (h0 : Heap) (n0 : Nat) (v : Option Value) (h : Heap) (L : List Loc) : Prop := (∃ (b : Addr) (k : ClassId), v = some (.ref b) ∧ n0 ≤ b ∧ h0.size ≤ b ∧ Arv Z h b k .byte (8 : Int32) [(.int (0 : Int32)), (.int (0 : Int32)), (.int (0 : Int32)), (.int (0 : Int32)), (.int (0 : Int32)), (.int (0 : Int32)), (.int (0 : Int32)), (.int (0 : Int32))] (.int (0 : Int32))) ∧ Fr n0 L ∧ Keep h0 h []
set_option maxRecDepth 65536 in
set_option maxHeartbeats 40000000 in
theorem rmNBF4 (l : Launch) (Z : State) (a0 : Array Value) (hw : ∀ d ∈ tables_1, d.before a0 Z = true) (ws : List Jvm.Cond) (zc : Int32) (fm : Value) (h0 : Heap) (n0 : Nat) (Z0 : n0 ≤ h0.size) (hSt : own_St Z zc fm) (Ol : Old Z n0 h0) :
    MetFree l (⟨"java/lang/StringUTF16", "newBytesFor", "(I)[B"⟩ : MethodName) (head1 (Jvm.Cond.code (⟨"java/lang/StringUTF16", "newBytesFor", "(I)[B"⟩ : MethodName) jdk_52_method_2_code 1 (some (.array .byte)) :: ws) ({ frames := 1, cells := 1, slots := 8, locals := 12 } : Room)) (fun a U => a = #[(.int (4 : Int32))] ∧ Z.Warmed39 U.vm ∧ U.heap = h0) (fun _ _ _ _ _ => True) (fun _ U o U' => ∃ v L, o = .returned v ∧ Q_rmNBF4 Z zc fm h0 n0 v U'.heap L ∧ FrameEnd U o U' L ({ frames := 1, cells := 1, slots := 8, locals := 12 } : Room).cells ({ frames := 1, cells := 1, slots := 8, locals := 12 } : Room).slots) := by
  refine MetFree.of_bodySF (plainFor_of_name pn_java_lang_StringUTF16) hisR ?_
  intro p e s m args below meth c s₁ Bd hml0 hP hK
  obtain ⟨rfl, hZ, hh⟩ := hP
  have hx := Bd.exec
  have hby := Bd.bytes
  have hml : c.maxLocals = 1 := hml0
  have hown : s.vm.findClass "java/lang/StringUTF16" = some m.cls := findClass_of_methodNamed Bd.named
  have hnm := (name_of_methodNamed Bd.named Bd.method).1
  have hZo := hZ
  have howno := hown
  have X0 : Stand p l e ({ frames := 1, cells := 1, slots := 8, locals := 12 } : Room) s m #[(.int (4 : Int32))] below meth c s₁ [] 0 0 := Stand.of_body Bd
  have e0 : s₁.heap = h0 := by rw [← hh, Bd.state]; rfl
  have N0 := Fr.nil n0
  have pre0 : ∀ t, Steps p.tables e below (s₁.setTop (mkF m 0 #[.val (.int (4 : Int32))] [])) t → Steps p.tables e below (s₁.setTop (entryFrame m #[(.int (4 : Int32))] 1)) t := fun t k => castTop (ef_rmNBF4 m  ) k
  obtain ⟨_, _, ⟨T1, L1, k1, n1⟩, -, X1, ⟨Lc1, hQ1, l1, y1, z1⟩, st1⟩ := Jvm.LawKit.callS X0 hx (y := (⟨"java/lang/StringUTF16", "newBytesLength", "(I)I"⟩ : MethodName)) hown (mvT hZ (hw _ (List.mem_of_getElem? (i := 73) rfl))) (mvT hZ (hw _ (List.mem_of_getElem? (i := 74) rfl))) (mvT hZ (hw _ (List.mem_of_getElem? (i := 62) rfl))) (mvT hZ (hw _ (List.mem_of_getElem? (i := 75) rfl))) (by decide) (backOf (W := 0) (rmNBL l Z a0 hw [] (4 : Int32) zc fm (8 : Int32) h0 n0 Z0 hSt Ol (by decide) (by decide)) hZ (hw _ (List.mem_of_getElem? (i := 75) rfl)) (hw _ (List.mem_of_getElem? (i := 62) rfl)) (by decide) (by decide)) (g := (mkF m 1 #[.val (.int (4 : Int32))] [(.int (4 : Int32))])) rfl (by rw [hml]; rfl) (argsL := [(.int (4 : Int32))]) (rest := []) (lenOf pd__I_I rfl) rfl (by show 2 * 0 + _ ≤ _; exact Nat.le_of_eq rfl) (hb hby d15_1) (fun _ _ => ⟨rfl, e0, (by decide : 0 + 0 ≤ _), (by decide : 0 + 0 ≤ _)⟩)
  dsimp only [Pt.U, Pt.locs, Pt.cells, Pt.slots] at X1 l1 y1 z1 st1 hQ1
  subst l1 y1 z1
  obtain ⟨rfl, Nq1, e1⟩ := hQ1
  have N1 := Fr.app N0 Nq1
  obtain ⟨T2, h2, k2, X2, e2, E2, A2, st2⟩ := newP X1 hx hZ (hw _ (List.mem_of_getElem? (i := 15) rfl)) e1 (g := (mkF m 4 #[.val (.int (4 : Int32))] [(.int (8 : Int32))])) rfl (hb hby d15_4) rfl (by decide) (cap := 8) (by decide) (by decide) (by decide) (by decide)
  obtain ⟨b2, g2⟩ : ∃ z, z = h0.size := ⟨_, rfl⟩
  rw [← g2] at A2 st2
  have ge2 : n0 ≤ b2 := Nat.le_trans Z0 (Nat.le_of_eq g2.symm)
  have sz2 : h0.size ≤ b2 := Nat.le_trans (Keep.refl h0 []).1 (Nat.le_of_eq g2.symm)
  have K2 := (Keep.refl h0 []).ext E2
  have V2 : Arv Z h2 b2 k2 .byte (8 : Int32) [(.int (0 : Int32)), (.int (0 : Int32)), (.int (0 : Int32)), (.int (0 : Int32)), (.int (0 : Int32)), (.int (0 : Int32)), (.int (0 : Int32)), (.int (0 : Int32))] (.int (0 : Int32)) := (Arv.new A2 (by decide)).pad (pad_rep [] (.int (0 : Int32)) 8)
  obtain ⟨fs, hr, hrun, hended, hW, hsame⟩ := X2.leave (v := some (.ref b2)) (fun h => by rw [Bd.returns] at h; cases h)
  refine ⟨_, _, pre0 _ ?_, hrun, hended, _, _, rfl, ?_, ⟨_, rfl⟩, hW, hsame.mono (by decide) (by decide)⟩
  · show Steps p.tables e below (s₁.setTop (mkF m 0 #[.val (.int (4 : Int32))] [])) _
    refine XS.iloadN X0.here hx rfl (hb hby d15_0) rfl  ?_
    show Steps p.tables e below (s₁.setTop (mkF m 1 #[.val (.int (4 : Int32))] [(.int (4 : Int32))])) _
    refine st1 _ ?_
    show Steps p.tables e below (T1.setTop (mkF m 4 #[.val (.int (4 : Int32))] [(.int (8 : Int32))])) _
    refine st2 _ ?_
    show Steps p.tables e below (T2.setTop (mkF m 6 #[.val (.int (4 : Int32))] [(.ref b2)])) _
    jvm_step X2.here [X2.here.top, hx, (hb hby d15_6), X2.method', Bd.returns, Value.isRef, FieldType.isReference]
    first | (intro acts; rw [hr _ acts rfl rfl rfl]) | rw [hr _ _ rfl rfl rfl]
    exact Steps.refl _
  · show Q_rmNBF4 Z zc fm h0 n0 _ T2.heap _
    rw [e2]
    exact ⟨⟨_, _, rfl, ge2, sz2, V2⟩, N1, K2⟩
theorem ef_rmToB4 (m : MethodId) (p0 : Addr) : entryFrame m #[(.ref p0), (.int (0 : Int32)), (.int (4 : Int32))] 5 = mkF m 0 #[.val (.ref p0), .val (.int (0 : Int32)), .val (.int (4 : Int32)), .unset, .unset] [] := by first | (simp [entryFrame, mkF, argsToLocals, Value.category]; done) | rfl
def Q_rmToB4 (Z : State) (p0 : Addr) (zc : Int32) (fm : Value) (ks : ClassId) (c0 : Int32) (c1 : Int32) (c2 : Int32) (c3 : Int32) (h0 : Heap) (n0 : Nat) (v : Option Value) (h : Heap) (L : List Loc) : Prop := (∃ (b : Addr) (k : ClassId), v = some (.ref b) ∧ n0 ≤ b ∧ h0.size ≤ b ∧ Arv Z h b k .byte (8 : Int32) [(.int (own_wl c0)), (.int (own_wh c0)), (.int (own_wl c1)), (.int (own_wh c1)), (.int (own_wl c2)), (.int (own_wh c2)), (.int (own_wl c3)), (.int (own_wh c3))] (.int (0 : Int32))) ∧ Fr n0 L ∧ Keep h0 h []
set_option maxRecDepth 65536 in
set_option maxHeartbeats 40000000 in
theorem rmToB4 (l : Launch) (Z : State) (a0 : Array Value) (hw : ∀ d ∈ tables_1, d.before a0 Z = true) (ws : List Jvm.Cond) (p0 : Addr) (zc : Int32) (fm : Value) (ks : ClassId) (c0 : Int32) (c1 : Int32) (c2 : Int32) (c3 : Int32) (h0 : Heap) (n0 : Nat) (Z0 : n0 ≤ h0.size) (hSt : own_St Z zc fm) (Ol : Old Z n0 h0) (As : Arv Z h0 p0 ks .char (4 : Int32) [(.int c0), (.int c1), (.int c2), (.int c3)] (.int (0 : Int32))) :
    MetFree l (⟨"java/lang/StringUTF16", "toBytes", "([CII)[B"⟩ : MethodName) (head1 (Jvm.Cond.code (⟨"java/lang/StringUTF16", "toBytes", "([CII)[B"⟩ : MethodName) jdk_52_method_14_code 5 (some (.array .byte)) :: ws) ({ frames := 2, cells := 1, slots := 8, locals := 24 } : Room)) (fun a U => a = #[(.ref p0), (.int (0 : Int32)), (.int (4 : Int32))] ∧ Z.Warmed39 U.vm ∧ U.heap = h0) (fun _ _ _ _ _ => True) (fun _ U o U' => ∃ v L, o = .returned v ∧ Q_rmToB4 Z p0 zc fm ks c0 c1 c2 c3 h0 n0 v U'.heap L ∧ FrameEnd U o U' L ({ frames := 2, cells := 1, slots := 8, locals := 24 } : Room).cells ({ frames := 2, cells := 1, slots := 8, locals := 24 } : Room).slots) := by
  refine MetFree.of_bodySF (plainFor_of_name pn_java_lang_StringUTF16) hisR ?_
  intro p e s m args below meth c s₁ Bd hml0 hP hK
  obtain ⟨rfl, hZ, hh⟩ := hP
  have hx := Bd.exec
  have hby := Bd.bytes
  have hml : c.maxLocals = 5 := hml0
  have hown : s.vm.findClass "java/lang/StringUTF16" = some m.cls := findClass_of_methodNamed Bd.named
  have hnm := (name_of_methodNamed Bd.named Bd.method).1
  have hZo := hZ
  have howno := hown
  have X0 : Stand p l e ({ frames := 2, cells := 1, slots := 8, locals := 24 } : Room) s m #[(.ref p0), (.int (0 : Int32)), (.int (4 : Int32))] below meth c s₁ [] 0 0 := Stand.of_body Bd
  have e0 : s₁.heap = h0 := by rw [← hh, Bd.state]; rfl
  have N0 := Fr.nil n0
  have pre0 : ∀ t, Steps p.tables e below (s₁.setTop (mkF m 0 #[.val (.ref p0), .val (.int (0 : Int32)), .val (.int (4 : Int32)), .unset, .unset] [])) t → Steps p.tables e below (s₁.setTop (entryFrame m #[(.ref p0), (.int (0 : Int32)), (.int (4 : Int32))] 5)) t := fun t k => castTop (ef_rmToB4 m p0 ) k
  obtain ⟨_, _, ⟨T1, L1, k1, n1⟩, -, X1, ⟨Lc1, hQ1, l1, y1, z1⟩, st1⟩ := Jvm.LawKit.callS X0 hx (y := (⟨"java/lang/StringUTF16", "newBytesFor", "(I)[B"⟩ : MethodName)) hown (mvT hZ (hw _ (List.mem_of_getElem? (i := 70) rfl))) (mvT hZ (hw _ (List.mem_of_getElem? (i := 71) rfl))) (mvT hZ (hw _ (List.mem_of_getElem? (i := 62) rfl))) (mvT hZ (hw _ (List.mem_of_getElem? (i := 72) rfl))) (by decide) (backOf (W := 0) (rmNBF4 l Z a0 hw []  zc fm  h0 n0 Z0 hSt Ol ) hZ (hw _ (List.mem_of_getElem? (i := 72) rfl)) (hw _ (List.mem_of_getElem? (i := 62) rfl)) (by decide) (by decide)) (g := (mkF m 1 #[.val (.ref p0), .val (.int (0 : Int32)), .val (.int (4 : Int32)), .unset, .unset] [(.int (4 : Int32))])) rfl (by rw [hml]; rfl) (argsL := [(.int (4 : Int32))]) (rest := []) (lenOf pd__I__B rfl) rfl (by show 2 * 0 + _ ≤ _; exact Nat.le_of_eq rfl) (hb hby d14_1) (fun _ _ => ⟨rfl, e0, (by decide : 0 + 1 ≤ _), (by decide : 0 + 8 ≤ _)⟩)
  dsimp only [Pt.U, Pt.locs, Pt.cells, Pt.slots] at X1 l1 y1 z1 st1 hQ1
  subst l1 y1 z1
  obtain ⟨⟨nb1, kb1, rfl, gb1, sb1, Ab1⟩, Nq1, K1⟩ := hQ1
  have N1 := Fr.app N0 Nq1
  have KK1 := (Keep.refl h0 []).trans K1 all0
  have nb_ne : p0 ≠ nb1 := Nat.ne_of_lt (Nat.lt_of_lt_of_le As.lt sb1)
  have f2 := (As.keep K1 nin0)
  obtain ⟨cl3, Ar3, q3, S3, N3, H3, G3⟩ := id f2
  have hin3 : ¬ ((0 : Int32) < 0 ∨ cl3.slots.size ≤ ((0 : Int32)).toNatClampNeg) := inb_of S3 ⟨by decide, by decide⟩
  have hat3 : cl3.slots[((0 : Int32)).toNatClampNeg]? = some (.int c0) := Has.at H3 hin3 rfl
  have f4 := (Nat.le_trans Z0 K1.1)
  have f5 := (Ol.keep K1 all0)
  obtain ⟨_, _, ⟨T6, L6, k6, n6⟩, -, X6, ⟨Lc6, hQ6, l6, y6, z6⟩, st6⟩ := Jvm.LawKit.callS X1 hx (y := (⟨"java/lang/StringUTF16", "putChar", "([BII)V"⟩ : MethodName)) hown (mvT hZ (hw _ (List.mem_of_getElem? (i := 77) rfl))) (mvT hZ (hw _ (List.mem_of_getElem? (i := 78) rfl))) (mvT hZ (hw _ (List.mem_of_getElem? (i := 62) rfl))) (mvT hZ (hw _ (List.mem_of_getElem? (i := 79) rfl))) (by decide) (backOf (W := 0) (rmPut l Z a0 hw [] nb1 (0 : Int32) c0 zc fm kb1 (8 : Int32) [(.int (0 : Int32)), (.int (0 : Int32)), (.int (0 : Int32)), (.int (0 : Int32)), (.int (0 : Int32)), (.int (0 : Int32)), (.int (0 : Int32)), (.int (0 : Int32))] 0 1 T1.heap n0 f4 hSt f5 Ab1 (by decide) (by decide) (by decide) (by decide) (Nat.le_of_ble_eq_true rfl) (Nat.le_of_ble_eq_true rfl) gb1) hZ (hw _ (List.mem_of_getElem? (i := 79) rfl)) (hw _ (List.mem_of_getElem? (i := 62) rfl)) (by decide) (by decide)) (g := (mkF m 20 #[.val (.ref p0), .val (.int (0 : Int32)), .val (.int (4 : Int32)), .val (.ref nb1), .val (.int (0 : Int32))] [(.int c0), (.int (0 : Int32)), (.ref nb1)])) rfl (by rw [hml]; rfl) (argsL := [(.ref nb1), (.int (0 : Int32)), (.int c0)]) (rest := []) (lenOf pd___BII_V rfl) rfl (by show 2 * 0 + _ ≤ _; exact Nat.le_of_eq rfl) (hb hby d14_20) (fun _ _ => ⟨rfl, rfl, (by decide : 1 + 0 ≤ _), (by decide : 8 + 0 ≤ _)⟩)
  dsimp only [Pt.U, Pt.locs, Pt.cells, Pt.slots] at X6 l6 y6 z6 st6 hQ6
  subst l6 y6 z6
  obtain ⟨rfl, Nq6, K6, Vp6⟩ := hQ6
  have N6 := Fr.app N1 Nq6
  have KK6 := KK1.trans K6 (allS (Or.inr sb1) all0)
  have f7 := (f2.keep K6 (ninS nb_ne nin0))
  obtain ⟨cl8, Ar8, q8, S8, N8, H8, G8⟩ := id f7
  have hin8 : ¬ ((1 : Int32) < 0 ∨ cl8.slots.size ≤ ((1 : Int32)).toNatClampNeg) := inb_of S8 ⟨by decide, by decide⟩
  have hat8 : cl8.slots[((1 : Int32)).toNatClampNeg]? = some (.int c1) := Has.at H8 hin8 rfl
  have f9 := (Nat.le_trans f4 K6.1)
  have f10 := (f5.keep K6 (allS gb1 all0))
  obtain ⟨_, _, ⟨T11, L11, k11, n11⟩, -, X11, ⟨Lc11, hQ11, l11, y11, z11⟩, st11⟩ := Jvm.LawKit.callS X6 hx (y := (⟨"java/lang/StringUTF16", "putChar", "([BII)V"⟩ : MethodName)) hown (mvT hZ (hw _ (List.mem_of_getElem? (i := 77) rfl))) (mvT hZ (hw _ (List.mem_of_getElem? (i := 78) rfl))) (mvT hZ (hw _ (List.mem_of_getElem? (i := 62) rfl))) (mvT hZ (hw _ (List.mem_of_getElem? (i := 79) rfl))) (by decide) (backOf (W := 0) (rmPut l Z a0 hw [] nb1 (1 : Int32) c1 zc fm kb1 (8 : Int32) [(.int (own_wl c0)), (.int (own_wh c0)), (.int (0 : Int32)), (.int (0 : Int32)), (.int (0 : Int32)), (.int (0 : Int32)), (.int (0 : Int32)), (.int (0 : Int32))] 2 3 T6.heap n0 f9 hSt f10 Vp6 (by decide) (by decide) (by decide) (by decide) (Nat.le_of_ble_eq_true rfl) (Nat.le_of_ble_eq_true rfl) gb1) hZ (hw _ (List.mem_of_getElem? (i := 79) rfl)) (hw _ (List.mem_of_getElem? (i := 62) rfl)) (by decide) (by decide)) (g := (mkF m 20 #[.val (.ref p0), .val (.int (1 : Int32)), .val (.int (4 : Int32)), .val (.ref nb1), .val (.int (1 : Int32))] [(.int c1), (.int (1 : Int32)), (.ref nb1)])) rfl (by rw [hml]; rfl) (argsL := [(.ref nb1), (.int (1 : Int32)), (.int c1)]) (rest := []) (lenOf pd___BII_V rfl) rfl (by show 2 * 0 + _ ≤ _; exact Nat.le_of_eq rfl) (hb hby d14_20) (fun _ _ => ⟨rfl, rfl, (by decide : 1 + 0 ≤ _), (by decide : 8 + 0 ≤ _)⟩)
  dsimp only [Pt.U, Pt.locs, Pt.cells, Pt.slots] at X11 l11 y11 z11 st11 hQ11
  subst l11 y11 z11
  obtain ⟨rfl, Nq11, K11, Vp11⟩ := hQ11
  have N11 := Fr.app N6 Nq11
  have KK11 := KK6.trans K11 (allS (Or.inr sb1) all0)
  have f12 := (f7.keep K11 (ninS nb_ne nin0))
  obtain ⟨cl13, Ar13, q13, S13, N13, H13, G13⟩ := id f12
  have hin13 : ¬ ((2 : Int32) < 0 ∨ cl13.slots.size ≤ ((2 : Int32)).toNatClampNeg) := inb_of S13 ⟨by decide, by decide⟩
  have hat13 : cl13.slots[((2 : Int32)).toNatClampNeg]? = some (.int c2) := Has.at H13 hin13 rfl
  have f14 := (Nat.le_trans f9 K11.1)
  have f15 := (f10.keep K11 (allS gb1 all0))
  obtain ⟨_, _, ⟨T16, L16, k16, n16⟩, -, X16, ⟨Lc16, hQ16, l16, y16, z16⟩, st16⟩ := Jvm.LawKit.callS X11 hx (y := (⟨"java/lang/StringUTF16", "putChar", "([BII)V"⟩ : MethodName)) hown (mvT hZ (hw _ (List.mem_of_getElem? (i := 77) rfl))) (mvT hZ (hw _ (List.mem_of_getElem? (i := 78) rfl))) (mvT hZ (hw _ (List.mem_of_getElem? (i := 62) rfl))) (mvT hZ (hw _ (List.mem_of_getElem? (i := 79) rfl))) (by decide) (backOf (W := 0) (rmPut l Z a0 hw [] nb1 (2 : Int32) c2 zc fm kb1 (8 : Int32) [(.int (own_wl c0)), (.int (own_wh c0)), (.int (own_wl c1)), (.int (own_wh c1)), (.int (0 : Int32)), (.int (0 : Int32)), (.int (0 : Int32)), (.int (0 : Int32))] 4 5 T11.heap n0 f14 hSt f15 Vp11 (by decide) (by decide) (by decide) (by decide) (Nat.le_of_ble_eq_true rfl) (Nat.le_of_ble_eq_true rfl) gb1) hZ (hw _ (List.mem_of_getElem? (i := 79) rfl)) (hw _ (List.mem_of_getElem? (i := 62) rfl)) (by decide) (by decide)) (g := (mkF m 20 #[.val (.ref p0), .val (.int (2 : Int32)), .val (.int (4 : Int32)), .val (.ref nb1), .val (.int (2 : Int32))] [(.int c2), (.int (2 : Int32)), (.ref nb1)])) rfl (by rw [hml]; rfl) (argsL := [(.ref nb1), (.int (2 : Int32)), (.int c2)]) (rest := []) (lenOf pd___BII_V rfl) rfl (by show 2 * 0 + _ ≤ _; exact Nat.le_of_eq rfl) (hb hby d14_20) (fun _ _ => ⟨rfl, rfl, (by decide : 1 + 0 ≤ _), (by decide : 8 + 0 ≤ _)⟩)
  dsimp only [Pt.U, Pt.locs, Pt.cells, Pt.slots] at X16 l16 y16 z16 st16 hQ16
  subst l16 y16 z16
  obtain ⟨rfl, Nq16, K16, Vp16⟩ := hQ16
  have N16 := Fr.app N11 Nq16
  have KK16 := KK11.trans K16 (allS (Or.inr sb1) all0)
  have f17 := (f12.keep K16 (ninS nb_ne nin0))
  obtain ⟨cl18, Ar18, q18, S18, N18, H18, G18⟩ := id f17
  have hin18 : ¬ ((3 : Int32) < 0 ∨ cl18.slots.size ≤ ((3 : Int32)).toNatClampNeg) := inb_of S18 ⟨by decide, by decide⟩
  have hat18 : cl18.slots[((3 : Int32)).toNatClampNeg]? = some (.int c3) := Has.at H18 hin18 rfl
  have f19 := (Nat.le_trans f14 K16.1)
  have f20 := (f15.keep K16 (allS gb1 all0))
  obtain ⟨_, _, ⟨T21, L21, k21, n21⟩, -, X21, ⟨Lc21, hQ21, l21, y21, z21⟩, st21⟩ := Jvm.LawKit.callS X16 hx (y := (⟨"java/lang/StringUTF16", "putChar", "([BII)V"⟩ : MethodName)) hown (mvT hZ (hw _ (List.mem_of_getElem? (i := 77) rfl))) (mvT hZ (hw _ (List.mem_of_getElem? (i := 78) rfl))) (mvT hZ (hw _ (List.mem_of_getElem? (i := 62) rfl))) (mvT hZ (hw _ (List.mem_of_getElem? (i := 79) rfl))) (by decide) (backOf (W := 0) (rmPut l Z a0 hw [] nb1 (3 : Int32) c3 zc fm kb1 (8 : Int32) [(.int (own_wl c0)), (.int (own_wh c0)), (.int (own_wl c1)), (.int (own_wh c1)), (.int (own_wl c2)), (.int (own_wh c2)), (.int (0 : Int32)), (.int (0 : Int32))] 6 7 T16.heap n0 f19 hSt f20 Vp16 (by decide) (by decide) (by decide) (by decide) (Nat.le_of_ble_eq_true rfl) (Nat.le_of_ble_eq_true rfl) gb1) hZ (hw _ (List.mem_of_getElem? (i := 79) rfl)) (hw _ (List.mem_of_getElem? (i := 62) rfl)) (by decide) (by decide)) (g := (mkF m 20 #[.val (.ref p0), .val (.int (3 : Int32)), .val (.int (4 : Int32)), .val (.ref nb1), .val (.int (3 : Int32))] [(.int c3), (.int (3 : Int32)), (.ref nb1)])) rfl (by rw [hml]; rfl) (argsL := [(.ref nb1), (.int (3 : Int32)), (.int c3)]) (rest := []) (lenOf pd___BII_V rfl) rfl (by show 2 * 0 + _ ≤ _; exact Nat.le_of_eq rfl) (hb hby d14_20) (fun _ _ => ⟨rfl, rfl, (by decide : 1 + 0 ≤ _), (by decide : 8 + 0 ≤ _)⟩)
  dsimp only [Pt.U, Pt.locs, Pt.cells, Pt.slots] at X21 l21 y21 z21 st21 hQ21
  subst l21 y21 z21
  obtain ⟨rfl, Nq21, K21, Vp21⟩ := hQ21
  have N21 := Fr.app N16 Nq21
  have KK21 := KK16.trans K21 (allS (Or.inr sb1) all0)
  obtain ⟨fs, hr, hrun, hended, hW, hsame⟩ := X21.leave (v := some (.ref nb1)) (fun h => by rw [Bd.returns] at h; cases h)
  refine ⟨_, _, pre0 _ ?_, hrun, hended, _, _, rfl, ?_, ⟨_, rfl⟩, hW, hsame.mono (by decide) (by decide)⟩
  · show Steps p.tables e below (s₁.setTop (mkF m 0 #[.val (.ref p0), .val (.int (0 : Int32)), .val (.int (4 : Int32)), .unset, .unset] [])) _
    refine XS.iloadN X0.here hx rfl (hb hby d14_0) rfl  ?_
    show Steps p.tables e below (s₁.setTop (mkF m 1 #[.val (.ref p0), .val (.int (0 : Int32)), .val (.int (4 : Int32)), .unset, .unset] [(.int (4 : Int32))])) _
    refine st1 _ ?_
    show Steps p.tables e below (T1.setTop (mkF m 4 #[.val (.ref p0), .val (.int (0 : Int32)), .val (.int (4 : Int32)), .unset, .unset] [(.ref nb1)])) _
    refine XS.astoreN X1.here hx rfl (hb hby d14_4) rfl rfl (l' := #[.val (.ref p0), .val (.int (0 : Int32)), .val (.int (4 : Int32)), .val (.ref nb1), .unset]) rfl ?_
    refine XS.iconst X1.here hx rfl (hb hby d14_5) ?_
    refine XS.istore X1.here hx rfl (hb hby d14_6) rfl (l' := #[.val (.ref p0), .val (.int (0 : Int32)), .val (.int (4 : Int32)), .val (.ref nb1), .val (.int (0 : Int32))]) rfl ?_
    show Steps p.tables e below (T1.setTop (mkF m 8 #[.val (.ref p0), .val (.int (0 : Int32)), .val (.int (4 : Int32)), .val (.ref nb1), .val (.int (0 : Int32))] [])) _
    refine XS.iload X1.here hx rfl (hb hby d14_8) rfl  ?_
    refine XS.iloadN X1.here hx rfl (hb hby d14_10) rfl  ?_
    show Steps p.tables e below (T1.setTop (mkF m 11 #[.val (.ref p0), .val (.int (0 : Int32)), .val (.int (4 : Int32)), .val (.ref nb1), .val (.int (0 : Int32))] [(.int (4 : Int32)), (.int (0 : Int32))])) _
    refine XS.icmpNo X1.here hx rfl (hb hby d14_11) rfl (tlt (by decide : (0 : Int32) < (4 : Int32))).2.1 ?_
    refine XS.aloadN X1.here hx rfl (hb hby d14_14) rfl rfl ?_
    refine XS.iload X1.here hx rfl (hb hby d14_15) rfl  ?_
    show Steps p.tables e below (T1.setTop (mkF m 17 #[.val (.ref p0), .val (.int (0 : Int32)), .val (.int (4 : Int32)), .val (.ref nb1), .val (.int (0 : Int32))] [(.int (0 : Int32)), (.ref nb1)])) _
    refine XS.aloadN X1.here hx rfl (hb hby d14_17) rfl rfl ?_
    refine XS.iloadN X1.here hx rfl (hb hby d14_18) rfl  ?_
    show Steps p.tables e below (T1.setTop (mkF m 19 #[.val (.ref p0), .val (.int (0 : Int32)), .val (.int (4 : Int32)), .val (.ref nb1), .val (.int (0 : Int32))] [(.int (0 : Int32)), (.ref p0), (.int (0 : Int32)), (.ref nb1)])) _
    refine X1.caload hx (j := (0 : Int32)) (v := (.int c0)) Ar3.1 (State.isArrayOf_alike hZ.alike Ar3.2.1) Ar3.2.2 hin3 hat3 (g := (mkF m 19 #[.val (.ref p0), .val (.int (0 : Int32)), .val (.int (4 : Int32)), .val (.ref nb1), .val (.int (0 : Int32))] [(.int (0 : Int32)), (.ref p0), (.int (0 : Int32)), (.ref nb1)])) rfl rfl (hb hby d14_19) _ ?_
    show Steps p.tables e below (T1.setTop (mkF m 20 #[.val (.ref p0), .val (.int (0 : Int32)), .val (.int (4 : Int32)), .val (.ref nb1), .val (.int (0 : Int32))] [(.int c0), (.int (0 : Int32)), (.ref nb1)])) _
    refine st6 _ ?_
    show Steps p.tables e below (T6.setTop (mkF m 23 #[.val (.ref p0), .val (.int (0 : Int32)), .val (.int (4 : Int32)), .val (.ref nb1), .val (.int (0 : Int32))] [])) _
    refine XS.iinc X6.here hx rfl (hb hby d14_23) rfl (l' := #[.val (.ref p0), .val (.int (1 : Int32)), .val (.int (4 : Int32)), .val (.ref nb1), .val (.int (0 : Int32))]) rfl ?_
    refine XS.iinc X6.here hx rfl (hb hby d14_26) rfl (l' := #[.val (.ref p0), .val (.int (1 : Int32)), .val (.int (4 : Int32)), .val (.ref nb1), .val (.int (1 : Int32))]) rfl ?_
    refine XS.goto X6.here hx rfl (pc0 := 29) (pc' := 8) rfl (hb hby d14_29) (by decide) (by decide) ?_
    show Steps p.tables e below (T6.setTop (mkF m 8 #[.val (.ref p0), .val (.int (1 : Int32)), .val (.int (4 : Int32)), .val (.ref nb1), .val (.int (1 : Int32))] [])) _
    refine XS.iload X6.here hx rfl (hb hby d14_8) rfl  ?_
    refine XS.iloadN X6.here hx rfl (hb hby d14_10) rfl  ?_
    show Steps p.tables e below (T6.setTop (mkF m 11 #[.val (.ref p0), .val (.int (1 : Int32)), .val (.int (4 : Int32)), .val (.ref nb1), .val (.int (1 : Int32))] [(.int (4 : Int32)), (.int (1 : Int32))])) _
    refine XS.icmpNo X6.here hx rfl (hb hby d14_11) rfl (tlt (by decide : (1 : Int32) < (4 : Int32))).2.1 ?_
    refine XS.aloadN X6.here hx rfl (hb hby d14_14) rfl rfl ?_
    refine XS.iload X6.here hx rfl (hb hby d14_15) rfl  ?_
    show Steps p.tables e below (T6.setTop (mkF m 17 #[.val (.ref p0), .val (.int (1 : Int32)), .val (.int (4 : Int32)), .val (.ref nb1), .val (.int (1 : Int32))] [(.int (1 : Int32)), (.ref nb1)])) _
    refine XS.aloadN X6.here hx rfl (hb hby d14_17) rfl rfl ?_
    refine XS.iloadN X6.here hx rfl (hb hby d14_18) rfl  ?_
    show Steps p.tables e below (T6.setTop (mkF m 19 #[.val (.ref p0), .val (.int (1 : Int32)), .val (.int (4 : Int32)), .val (.ref nb1), .val (.int (1 : Int32))] [(.int (1 : Int32)), (.ref p0), (.int (1 : Int32)), (.ref nb1)])) _
    refine X6.caload hx (j := (1 : Int32)) (v := (.int c1)) Ar8.1 (State.isArrayOf_alike hZ.alike Ar8.2.1) Ar8.2.2 hin8 hat8 (g := (mkF m 19 #[.val (.ref p0), .val (.int (1 : Int32)), .val (.int (4 : Int32)), .val (.ref nb1), .val (.int (1 : Int32))] [(.int (1 : Int32)), (.ref p0), (.int (1 : Int32)), (.ref nb1)])) rfl rfl (hb hby d14_19) _ ?_
    show Steps p.tables e below (T6.setTop (mkF m 20 #[.val (.ref p0), .val (.int (1 : Int32)), .val (.int (4 : Int32)), .val (.ref nb1), .val (.int (1 : Int32))] [(.int c1), (.int (1 : Int32)), (.ref nb1)])) _
    refine st11 _ ?_
    show Steps p.tables e below (T11.setTop (mkF m 23 #[.val (.ref p0), .val (.int (1 : Int32)), .val (.int (4 : Int32)), .val (.ref nb1), .val (.int (1 : Int32))] [])) _
    refine XS.iinc X11.here hx rfl (hb hby d14_23) rfl (l' := #[.val (.ref p0), .val (.int (2 : Int32)), .val (.int (4 : Int32)), .val (.ref nb1), .val (.int (1 : Int32))]) rfl ?_
    refine XS.iinc X11.here hx rfl (hb hby d14_26) rfl (l' := #[.val (.ref p0), .val (.int (2 : Int32)), .val (.int (4 : Int32)), .val (.ref nb1), .val (.int (2 : Int32))]) rfl ?_
    refine XS.goto X11.here hx rfl (pc0 := 29) (pc' := 8) rfl (hb hby d14_29) (by decide) (by decide) ?_
    show Steps p.tables e below (T11.setTop (mkF m 8 #[.val (.ref p0), .val (.int (2 : Int32)), .val (.int (4 : Int32)), .val (.ref nb1), .val (.int (2 : Int32))] [])) _
    refine XS.iload X11.here hx rfl (hb hby d14_8) rfl  ?_
    refine XS.iloadN X11.here hx rfl (hb hby d14_10) rfl  ?_
    show Steps p.tables e below (T11.setTop (mkF m 11 #[.val (.ref p0), .val (.int (2 : Int32)), .val (.int (4 : Int32)), .val (.ref nb1), .val (.int (2 : Int32))] [(.int (4 : Int32)), (.int (2 : Int32))])) _
    refine XS.icmpNo X11.here hx rfl (hb hby d14_11) rfl (tlt (by decide : (2 : Int32) < (4 : Int32))).2.1 ?_
    refine XS.aloadN X11.here hx rfl (hb hby d14_14) rfl rfl ?_
    refine XS.iload X11.here hx rfl (hb hby d14_15) rfl  ?_
    show Steps p.tables e below (T11.setTop (mkF m 17 #[.val (.ref p0), .val (.int (2 : Int32)), .val (.int (4 : Int32)), .val (.ref nb1), .val (.int (2 : Int32))] [(.int (2 : Int32)), (.ref nb1)])) _
    refine XS.aloadN X11.here hx rfl (hb hby d14_17) rfl rfl ?_
    refine XS.iloadN X11.here hx rfl (hb hby d14_18) rfl  ?_
    show Steps p.tables e below (T11.setTop (mkF m 19 #[.val (.ref p0), .val (.int (2 : Int32)), .val (.int (4 : Int32)), .val (.ref nb1), .val (.int (2 : Int32))] [(.int (2 : Int32)), (.ref p0), (.int (2 : Int32)), (.ref nb1)])) _
    refine X11.caload hx (j := (2 : Int32)) (v := (.int c2)) Ar13.1 (State.isArrayOf_alike hZ.alike Ar13.2.1) Ar13.2.2 hin13 hat13 (g := (mkF m 19 #[.val (.ref p0), .val (.int (2 : Int32)), .val (.int (4 : Int32)), .val (.ref nb1), .val (.int (2 : Int32))] [(.int (2 : Int32)), (.ref p0), (.int (2 : Int32)), (.ref nb1)])) rfl rfl (hb hby d14_19) _ ?_
    show Steps p.tables e below (T11.setTop (mkF m 20 #[.val (.ref p0), .val (.int (2 : Int32)), .val (.int (4 : Int32)), .val (.ref nb1), .val (.int (2 : Int32))] [(.int c2), (.int (2 : Int32)), (.ref nb1)])) _
    refine st16 _ ?_
    show Steps p.tables e below (T16.setTop (mkF m 23 #[.val (.ref p0), .val (.int (2 : Int32)), .val (.int (4 : Int32)), .val (.ref nb1), .val (.int (2 : Int32))] [])) _
    refine XS.iinc X16.here hx rfl (hb hby d14_23) rfl (l' := #[.val (.ref p0), .val (.int (3 : Int32)), .val (.int (4 : Int32)), .val (.ref nb1), .val (.int (2 : Int32))]) rfl ?_
    refine XS.iinc X16.here hx rfl (hb hby d14_26) rfl (l' := #[.val (.ref p0), .val (.int (3 : Int32)), .val (.int (4 : Int32)), .val (.ref nb1), .val (.int (3 : Int32))]) rfl ?_
    refine XS.goto X16.here hx rfl (pc0 := 29) (pc' := 8) rfl (hb hby d14_29) (by decide) (by decide) ?_
    show Steps p.tables e below (T16.setTop (mkF m 8 #[.val (.ref p0), .val (.int (3 : Int32)), .val (.int (4 : Int32)), .val (.ref nb1), .val (.int (3 : Int32))] [])) _
    refine XS.iload X16.here hx rfl (hb hby d14_8) rfl  ?_
    refine XS.iloadN X16.here hx rfl (hb hby d14_10) rfl  ?_
    show Steps p.tables e below (T16.setTop (mkF m 11 #[.val (.ref p0), .val (.int (3 : Int32)), .val (.int (4 : Int32)), .val (.ref nb1), .val (.int (3 : Int32))] [(.int (4 : Int32)), (.int (3 : Int32))])) _
    refine XS.icmpNo X16.here hx rfl (hb hby d14_11) rfl (tlt (by decide : (3 : Int32) < (4 : Int32))).2.1 ?_
    refine XS.aloadN X16.here hx rfl (hb hby d14_14) rfl rfl ?_
    refine XS.iload X16.here hx rfl (hb hby d14_15) rfl  ?_
    show Steps p.tables e below (T16.setTop (mkF m 17 #[.val (.ref p0), .val (.int (3 : Int32)), .val (.int (4 : Int32)), .val (.ref nb1), .val (.int (3 : Int32))] [(.int (3 : Int32)), (.ref nb1)])) _
    refine XS.aloadN X16.here hx rfl (hb hby d14_17) rfl rfl ?_
    refine XS.iloadN X16.here hx rfl (hb hby d14_18) rfl  ?_
    show Steps p.tables e below (T16.setTop (mkF m 19 #[.val (.ref p0), .val (.int (3 : Int32)), .val (.int (4 : Int32)), .val (.ref nb1), .val (.int (3 : Int32))] [(.int (3 : Int32)), (.ref p0), (.int (3 : Int32)), (.ref nb1)])) _
    refine X16.caload hx (j := (3 : Int32)) (v := (.int c3)) Ar18.1 (State.isArrayOf_alike hZ.alike Ar18.2.1) Ar18.2.2 hin18 hat18 (g := (mkF m 19 #[.val (.ref p0), .val (.int (3 : Int32)), .val (.int (4 : Int32)), .val (.ref nb1), .val (.int (3 : Int32))] [(.int (3 : Int32)), (.ref p0), (.int (3 : Int32)), (.ref nb1)])) rfl rfl (hb hby d14_19) _ ?_
    show Steps p.tables e below (T16.setTop (mkF m 20 #[.val (.ref p0), .val (.int (3 : Int32)), .val (.int (4 : Int32)), .val (.ref nb1), .val (.int (3 : Int32))] [(.int c3), (.int (3 : Int32)), (.ref nb1)])) _
    refine st21 _ ?_
    show Steps p.tables e below (T21.setTop (mkF m 23 #[.val (.ref p0), .val (.int (3 : Int32)), .val (.int (4 : Int32)), .val (.ref nb1), .val (.int (3 : Int32))] [])) _
    refine XS.iinc X21.here hx rfl (hb hby d14_23) rfl (l' := #[.val (.ref p0), .val (.int (4 : Int32)), .val (.int (4 : Int32)), .val (.ref nb1), .val (.int (3 : Int32))]) rfl ?_
    refine XS.iinc X21.here hx rfl (hb hby d14_26) rfl (l' := #[.val (.ref p0), .val (.int (4 : Int32)), .val (.int (4 : Int32)), .val (.ref nb1), .val (.int (4 : Int32))]) rfl ?_
    refine XS.goto X21.here hx rfl (pc0 := 29) (pc' := 8) rfl (hb hby d14_29) (by decide) (by decide) ?_
    show Steps p.tables e below (T21.setTop (mkF m 8 #[.val (.ref p0), .val (.int (4 : Int32)), .val (.int (4 : Int32)), .val (.ref nb1), .val (.int (4 : Int32))] [])) _
    refine XS.iload X21.here hx rfl (hb hby d14_8) rfl  ?_
    refine XS.iloadN X21.here hx rfl (hb hby d14_10) rfl  ?_
    show Steps p.tables e below (T21.setTop (mkF m 11 #[.val (.ref p0), .val (.int (4 : Int32)), .val (.int (4 : Int32)), .val (.ref nb1), .val (.int (4 : Int32))] [(.int (4 : Int32)), (.int (4 : Int32))])) _
    refine XS.icmpYes X21.here hx rfl (pc0 := 11) (pc' := 32) rfl (hb hby d14_11) rfl (flt (by decide : ¬ ((4 : Int32) < (4 : Int32)))).2.1 (by decide) (by decide) ?_
    refine XS.aloadN X21.here hx rfl (hb hby d14_32) rfl rfl ?_
    show Steps p.tables e below (T21.setTop (mkF m 33 #[.val (.ref p0), .val (.int (4 : Int32)), .val (.int (4 : Int32)), .val (.ref nb1), .val (.int (4 : Int32))] [(.ref nb1)])) _
    jvm_step X21.here [X21.here.top, hx, (hb hby d14_33), X21.method', Bd.returns, Value.isRef, FieldType.isReference]
    first | (intro acts; rw [hr _ acts rfl rfl rfl]) | rw [hr _ _ rfl rfl rfl]
    exact Steps.refl _
  · show Q_rmToB4 Z p0 zc fm ks c0 c1 c2 c3 h0 n0 _ T21.heap _
    exact ⟨⟨_, _, rfl, gb1, sb1, Vp21⟩, N21, KK21⟩
theorem ef_rmComp4 (m : MethodId) (p0 : Addr) : entryFrame m #[(.ref p0), (.int (0 : Int32)), (.int (4 : Int32))] 6 = mkF m 0 #[.val (.ref p0), .val (.int (0 : Int32)), .val (.int (4 : Int32)), .unset, .unset, .unset] [] := by first | (simp [entryFrame, mkF, argsToLocals, Value.category]; done) | rfl
def Q_rmComp4 (Z : State) (p0 : Addr) (zc : Int32) (fm : Value) (ks : ClassId) (c0 : Int32) (c1 : Int32) (c2 : Int32) (c3 : Int32) (h0 : Heap) (n0 : Nat) (v : Option Value) (h : Heap) (L : List Loc) : Prop := (∃ (b : Addr) (k : ClassId), v = some (.ref b) ∧ n0 ≤ b ∧ h0.size ≤ b ∧ (((¬ (255 : Int32) < c0 ∧ ¬ (255 : Int32) < c1 ∧ ¬ (255 : Int32) < c2 ∧ ¬ (255 : Int32) < c3) ∧ Arv Z h b k .byte (4 : Int32) [(.int (own_b c0)), (.int (own_b c1)), (.int (own_b c2)), (.int (own_b c3))] (.int (0 : Int32))) ∨ Arv Z h b k .byte (8 : Int32) [(.int (own_wl c0)), (.int (own_wh c0)), (.int (own_wl c1)), (.int (own_wh c1)), (.int (own_wl c2)), (.int (own_wh c2)), (.int (own_wl c3)), (.int (own_wh c3))] (.int (0 : Int32)))) ∧ Fr n0 L ∧ Keep h0 h []
set_option maxRecDepth 65536 in
set_option maxHeartbeats 40000000 in
theorem rmComp4 (l : Launch) (Z : State) (a0 : Array Value) (hw : ∀ d ∈ tables_1, d.before a0 Z = true) (ws : List Jvm.Cond) (p0 : Addr) (zc : Int32) (fm : Value) (ks : ClassId) (c0 : Int32) (c1 : Int32) (c2 : Int32) (c3 : Int32) (h0 : Heap) (n0 : Nat) (Z0 : n0 ≤ h0.size) (hSt : own_St Z zc fm) (Ol : Old Z n0 h0) (As : Arv Z h0 p0 ks .char (4 : Int32) [(.int c0), (.int c1), (.int c2), (.int c3)] (.int (0 : Int32))) (hch : ∀ c ∈ [c0, c1, c2, c3], ¬ c < (0 : Int32) ∧ ¬ (65535 : Int32) < c) :
    MetFree l (⟨"java/lang/StringUTF16", "compress", "([CII)[B"⟩ : MethodName) (head1 (Jvm.Cond.code (⟨"java/lang/StringUTF16", "compress", "([CII)[B"⟩ : MethodName) jdk_52_method_16_code 6 (some (.array .byte)) :: ws) ({ frames := 3, cells := 2, slots := 12, locals := 40 } : Room)) (fun a U => a = #[(.ref p0), (.int (0 : Int32)), (.int (4 : Int32))] ∧ Z.Warmed39 U.vm ∧ U.heap = h0) (fun _ _ _ _ _ => True) (fun _ U o U' => ∃ v L, o = .returned v ∧ Q_rmComp4 Z p0 zc fm ks c0 c1 c2 c3 h0 n0 v U'.heap L ∧ FrameEnd U o U' L ({ frames := 3, cells := 2, slots := 12, locals := 40 } : Room).cells ({ frames := 3, cells := 2, slots := 12, locals := 40 } : Room).slots) := by
  refine MetFree.of_bodySF (plainFor_of_name pn_java_lang_StringUTF16) hisR ?_
  intro p e s m args below meth c s₁ Bd hml0 hP hK
  obtain ⟨rfl, hZ, hh⟩ := hP
  have hx := Bd.exec
  have hby := Bd.bytes
  have hml : c.maxLocals = 6 := hml0
  have hown : s.vm.findClass "java/lang/StringUTF16" = some m.cls := findClass_of_methodNamed Bd.named
  have hnm := (name_of_methodNamed Bd.named Bd.method).1
  have hZo := hZ
  have howno := hown
  have X0 : Stand p l e ({ frames := 3, cells := 2, slots := 12, locals := 40 } : Room) s m #[(.ref p0), (.int (0 : Int32)), (.int (4 : Int32))] below meth c s₁ [] 0 0 := Stand.of_body Bd
  have e0 : s₁.heap = h0 := by rw [← hh, Bd.state]; rfl
  have N0 := Fr.nil n0
  have pre0 : ∀ t, Steps p.tables e below (s₁.setTop (mkF m 0 #[.val (.ref p0), .val (.int (0 : Int32)), .val (.int (4 : Int32)), .unset, .unset, .unset] [])) t → Steps p.tables e below (s₁.setTop (entryFrame m #[(.ref p0), (.int (0 : Int32)), (.int (4 : Int32))] 6)) t := fun t k => castTop (ef_rmComp4 m p0 ) k
  obtain ⟨T1, h1, k1, X1, e1, E1, A1, st1⟩ := newP X0 hx hZ (hw _ (List.mem_of_getElem? (i := 15) rfl)) e0 (g := (mkF m 1 #[.val (.ref p0), .val (.int (0 : Int32)), .val (.int (4 : Int32)), .unset, .unset, .unset] [(.int (4 : Int32))])) rfl (hb hby d12_1) rfl (by decide) (cap := 4) (by decide) (by decide) (by decide) (by decide)
  obtain ⟨b1, g1⟩ : ∃ z, z = h0.size := ⟨_, rfl⟩
  rw [← g1] at A1 st1
  have ne1_p0 : p0 ≠ b1 := Nat.ne_of_lt (Nat.lt_of_lt_of_le As.lt (Nat.le_of_eq g1.symm))
  have ge1 : n0 ≤ b1 := Nat.le_trans Z0 (Nat.le_of_eq g1.symm)
  have sz1 : h0.size ≤ b1 := Nat.le_trans (Keep.refl h0 []).1 (Nat.le_of_eq g1.symm)
  have K1 := (Keep.refl h0 []).ext E1
  have V1 : Arv Z h1 b1 k1 .byte (4 : Int32) [(.int (0 : Int32)), (.int (0 : Int32)), (.int (0 : Int32)), (.int (0 : Int32))] (.int (0 : Int32)) := (Arv.new A1 (by decide)).pad (pad_rep [] (.int (0 : Int32)) 4)
  have f2 := (As.ext E1)
  have f3 := (Nat.le_trans Z0 E1.1)
  have f4 := (Ol.ext E1)
  obtain ⟨_, _, ⟨T5, L5, k5, n5⟩, -, X5, ⟨Lc5, hQ5, l5, y5, z5⟩, st5⟩ := Jvm.LawKit.callS X1 hx (y := (⟨"java/lang/StringUTF16", "compress", "([CI[BII)I"⟩ : MethodName)) hown (mvT hZ (hw _ (List.mem_of_getElem? (i := 64) rfl))) (mvT hZ (hw _ (List.mem_of_getElem? (i := 65) rfl))) (mvT hZ (hw _ (List.mem_of_getElem? (i := 62) rfl))) (mvT hZ (hw _ (List.mem_of_getElem? (i := 66) rfl))) (by decide) (backOf (W := 0) (rmCmp4 l Z a0 hw [] p0 b1 zc fm ks k1 c0 c1 c2 c3 h1 n0 f3 hSt f4 f2 V1 ne1_p0 ge1) hZ (hw _ (List.mem_of_getElem? (i := 66) rfl)) (hw _ (List.mem_of_getElem? (i := 62) rfl)) (by decide) (by decide)) (g := (mkF m 9 #[.val (.ref p0), .val (.int (0 : Int32)), .val (.int (4 : Int32)), .val (.ref b1), .unset, .unset] [(.int (4 : Int32)), (.int (0 : Int32)), (.ref b1), (.int (0 : Int32)), (.ref p0)])) rfl (by rw [hml]; rfl) (argsL := [(.ref p0), (.int (0 : Int32)), (.ref b1), (.int (0 : Int32)), (.int (4 : Int32))]) (rest := []) (lenOf pd___CI_BII_I rfl) rfl (by show 2 * 0 + _ ≤ _; exact Nat.le_of_eq rfl) (hb hby d12_9) (fun _ _ => ⟨rfl, e1, (by decide : 1 + 0 ≤ _), (by decide : 4 + 0 ≤ _)⟩)
  dsimp only [Pt.U, Pt.locs, Pt.cells, Pt.slots] at X5 l5 y5 z5 st5 hQ5
  subst l5 y5 z5
  obtain ⟨⟨rc, rfl, hD⟩, Nq5, K5⟩ := hQ5
  have N5 := Fr.app N0 Nq5
  have KK5 := K1.trans K5 (allS (Or.inr sz1) all0)
  have pre6 : ∀ t, Steps p.tables e below (T5.setTop (mkF m 12 #[.val (.ref p0), .val (.int (0 : Int32)), .val (.int (4 : Int32)), .val (.ref b1), .unset, .unset] [(.int rc)])) t → Steps p.tables e below (s₁.setTop (entryFrame m #[(.ref p0), (.int (0 : Int32)), (.int (4 : Int32))] 6)) t := fun t kt => pre0 t (by
    show Steps p.tables e below (s₁.setTop (mkF m 0 #[.val (.ref p0), .val (.int (0 : Int32)), .val (.int (4 : Int32)), .unset, .unset, .unset] [])) _
    refine XS.iloadN X0.here hx rfl (hb hby d12_0) rfl  ?_
    show Steps p.tables e below (s₁.setTop (mkF m 1 #[.val (.ref p0), .val (.int (0 : Int32)), .val (.int (4 : Int32)), .unset, .unset, .unset] [(.int (4 : Int32))])) _
    refine st1 _ ?_
    show Steps p.tables e below (T1.setTop (mkF m 3 #[.val (.ref p0), .val (.int (0 : Int32)), .val (.int (4 : Int32)), .unset, .unset, .unset] [(.ref b1)])) _
    refine XS.astoreN X1.here hx rfl (hb hby d12_3) rfl rfl (l' := #[.val (.ref p0), .val (.int (0 : Int32)), .val (.int (4 : Int32)), .val (.ref b1), .unset, .unset]) rfl ?_
    refine XS.aloadN X1.here hx rfl (hb hby d12_4) rfl rfl ?_
    refine XS.iloadN X1.here hx rfl (hb hby d12_5) rfl  ?_
    show Steps p.tables e below (T1.setTop (mkF m 6 #[.val (.ref p0), .val (.int (0 : Int32)), .val (.int (4 : Int32)), .val (.ref b1), .unset, .unset] [(.int (0 : Int32)), (.ref p0)])) _
    refine XS.aloadN X1.here hx rfl (hb hby d12_6) rfl rfl ?_
    refine XS.iconst X1.here hx rfl (hb hby d12_7) ?_
    refine XS.iloadN X1.here hx rfl (hb hby d12_8) rfl  ?_
    show Steps p.tables e below (T1.setTop (mkF m 9 #[.val (.ref p0), .val (.int (0 : Int32)), .val (.int (4 : Int32)), .val (.ref b1), .unset, .unset] [(.int (4 : Int32)), (.int (0 : Int32)), (.ref b1), (.int (0 : Int32)), (.ref p0)])) _
    refine st5 _ ?_
    exact kt)
  rcases hD with ⟨rfl, hle, Ad⟩ | ⟨j, rfl, hj, hgt⟩
  · obtain ⟨fs, hr, hrun, hended, hW, hsame⟩ := X5.leave (v := some (.ref b1)) (fun h => by rw [Bd.returns] at h; cases h)
    refine ⟨_, _, pre6 _ ?_, hrun, hended, _, _, rfl, ?_, ⟨_, rfl⟩, hW, hsame.mono (by decide) (by decide)⟩
    · show Steps p.tables e below (T5.setTop (mkF m 12 #[.val (.ref p0), .val (.int (0 : Int32)), .val (.int (4 : Int32)), .val (.ref b1), .unset, .unset] [(.int (4 : Int32))])) _
      refine XS.istore X5.here hx rfl (hb hby d12_12) rfl (l' := #[.val (.ref p0), .val (.int (0 : Int32)), .val (.int (4 : Int32)), .val (.ref b1), .val (.int (4 : Int32)), .unset]) rfl ?_
      refine XS.iload X5.here hx rfl (hb hby d12_14) rfl  ?_
      refine XS.iloadN X5.here hx rfl (hb hby d12_16) rfl  ?_
      show Steps p.tables e below (T5.setTop (mkF m 17 #[.val (.ref p0), .val (.int (0 : Int32)), .val (.int (4 : Int32)), .val (.ref b1), .val (.int (4 : Int32)), .unset] [(.int (4 : Int32)), (.int (4 : Int32))])) _
      refine XS.icmpYes X5.here hx rfl (pc0 := 17) (pc' := 57) rfl (hb hby d12_17) rfl (teq (by decide : (4 : Int32) = (4 : Int32))).1 (by decide) (by decide) ?_
      refine XS.aloadN X5.here hx rfl (hb hby d12_57) rfl rfl ?_
      show Steps p.tables e below (T5.setTop (mkF m 58 #[.val (.ref p0), .val (.int (0 : Int32)), .val (.int (4 : Int32)), .val (.ref b1), .val (.int (4 : Int32)), .unset] [(.ref b1)])) _
      jvm_step X5.here [X5.here.top, hx, (hb hby d12_58), X5.method', Bd.returns, Value.isRef, FieldType.isReference]
      first | (intro acts; rw [hr _ acts rfl rfl rfl]) | rw [hr _ _ rfl rfl rfl]
      exact Steps.refl _
    · show Q_rmComp4 Z p0 zc fm ks c0 c1 c2 c3 h0 n0 _ T5.heap _
      exact ⟨⟨_, _, rfl, ge1, sz1, Or.inl (⟨hle, Ad⟩)⟩, N5, KK5⟩
  · have f7 := (f2.keep K5 (ninS ne1_p0 nin0))
    have f8 := (Nat.le_trans f3 K5.1)
    have f9 := (f4.keep K5 (allS ge1 all0))
    obtain ⟨_, _, ⟨T10, L10, k10, n10⟩, -, X10, ⟨Lc10, hQ10, l10, y10, z10⟩, st10⟩ := Jvm.LawKit.callS X5 hx (y := (⟨"java/lang/StringUTF16", "toBytes", "([CII)[B"⟩ : MethodName)) hown (mvT hZ (hw _ (List.mem_of_getElem? (i := 67) rfl))) (mvT hZ (hw _ (List.mem_of_getElem? (i := 68) rfl))) (mvT hZ (hw _ (List.mem_of_getElem? (i := 62) rfl))) (mvT hZ (hw _ (List.mem_of_getElem? (i := 69) rfl))) (by decide) (backOf (W := 0) (rmToB4 l Z a0 hw [] p0 zc fm ks c0 c1 c2 c3 T5.heap n0 f8 hSt f9 f7) hZ (hw _ (List.mem_of_getElem? (i := 69) rfl)) (hw _ (List.mem_of_getElem? (i := 62) rfl)) (by decide) (by decide)) (g := (mkF m 23 #[.val (.ref p0), .val (.int (0 : Int32)), .val (.int (4 : Int32)), .val (.ref b1), .val (.int (Int32.ofNat j)), .unset] [(.int (4 : Int32)), (.int (0 : Int32)), (.ref p0)])) rfl (by rw [hml]; rfl) (argsL := [(.ref p0), (.int (0 : Int32)), (.int (4 : Int32))]) (rest := []) (lenOf pd___CII__B rfl) rfl (by show 2 * 0 + _ ≤ _; exact Nat.le_of_eq rfl) (hb hby d12_23) (fun _ _ => ⟨rfl, rfl, (by decide : 1 + 1 ≤ _), (by decide : 4 + 8 ≤ _)⟩)
    dsimp only [Pt.U, Pt.locs, Pt.cells, Pt.slots] at X10 l10 y10 z10 st10 hQ10
    subst l10 y10 z10
    obtain ⟨⟨tb10, kb10, rfl, gb10, sb10, Ab10⟩, Nq10, K10⟩ := hQ10
    have N10 := Fr.app N5 Nq10
    have KK10 := KK5.trans K10 all0
    have sz10 : h0.size ≤ tb10 := Nat.le_trans KK5.1 sb10
    have hin := own_jin (i := Int32.ofNat j) rfl (by omega)
    have hcm := hch _ (own_mem (cs := [c0, c1, c2, c3]) hj)
    have hsh := own_shl (n := 4) hin.1 (by rw [hin.2]; exact hj) (by decide)
    have f11 := (Nat.le_trans f8 K10.1)
    have f12 := (f9.keep K10 all0)
    obtain ⟨_, _, ⟨T13, L13, k13, n13⟩, -, X13, ⟨Lc13, hQ13, l13, y13, z13⟩, st13⟩ := Jvm.LawKit.callS X10 hx (y := (⟨"java/lang/StringUTF16", "getChar", "([BI)C"⟩ : MethodName)) hown (mvT hZ (hw _ (List.mem_of_getElem? (i := 83) rfl))) (mvT hZ (hw _ (List.mem_of_getElem? (i := 84) rfl))) (mvT hZ (hw _ (List.mem_of_getElem? (i := 62) rfl))) (mvT hZ (hw _ (List.mem_of_getElem? (i := 85) rfl))) (by decide) (backOf (W := 0) (rmGet l Z a0 hw [] tb10 (Int32.ofNat j) zc fm kb10 (8 : Int32) [(.int (own_wl c0)), (.int (own_wh c0)), (.int (own_wl c1)), (.int (own_wh c1)), (.int (own_wl c2)), (.int (own_wh c2)), (.int (own_wl c3)), (.int (own_wh c3))] (own_wl ([c0, c1, c2, c3].getD j 0)) (own_wh ([c0, c1, c2, c3].getD j 0)) ([c0, c1, c2, c3].getD j 0) T10.heap n0 f11 hSt f12 Ab10 hsh.2.2.1 hsh.2.2.2 (by rw [hsh.1, hin.2]; exact (own_getw [c0, c1, c2, c3] j hj).1) (by rw [hsh.2.1, hin.2]; exact (own_getw [c0, c1, c2, c3] j hj).2) (own_rec16 hcm.1 hcm.2).symm) hZ (hw _ (List.mem_of_getElem? (i := 85) rfl)) (hw _ (List.mem_of_getElem? (i := 62) rfl)) (by decide) (by decide)) (g := (mkF m 32 #[.val (.ref p0), .val (.int (0 : Int32)), .val (.int (4 : Int32)), .val (.ref b1), .val (.int (Int32.ofNat j)), .val (.ref tb10)] [(.int (Int32.ofNat j)), (.ref tb10)])) rfl (by rw [hml]; rfl) (argsL := [(.ref tb10), (.int (Int32.ofNat j))]) (rest := []) (lenOf pd___BI_C rfl) rfl (by show 2 * 0 + _ ≤ _; exact Nat.le_of_eq rfl) (hb hby d12_32) (fun _ _ => ⟨rfl, rfl, (by decide : 2 + 0 ≤ _), (by decide : 12 + 0 ≤ _)⟩)
    dsimp only [Pt.U, Pt.locs, Pt.cells, Pt.slots] at X13 l13 y13 z13 st13 hQ13
    subst l13 y13 z13
    obtain ⟨rfl, Nq13, e13⟩ := hQ13
    have N13 := Fr.app N10 Nq13
    obtain ⟨fs, hr, hrun, hended, hW, hsame⟩ := X13.leave (v := some (.ref tb10)) (fun h => by rw [Bd.returns] at h; cases h)
    refine ⟨_, _, pre6 _ ?_, hrun, hended, _, _, rfl, ?_, ⟨_, rfl⟩, hW, hsame.mono (by decide) (by decide)⟩
    · show Steps p.tables e below (T5.setTop (mkF m 12 #[.val (.ref p0), .val (.int (0 : Int32)), .val (.int (4 : Int32)), .val (.ref b1), .unset, .unset] [(.int (Int32.ofNat j))])) _
      refine XS.istore X5.here hx rfl (hb hby d12_12) rfl (l' := #[.val (.ref p0), .val (.int (0 : Int32)), .val (.int (4 : Int32)), .val (.ref b1), .val (.int (Int32.ofNat j)), .unset]) rfl ?_
      refine XS.iload X5.here hx rfl (hb hby d12_14) rfl  ?_
      refine XS.iloadN X5.here hx rfl (hb hby d12_16) rfl  ?_
      show Steps p.tables e below (T5.setTop (mkF m 17 #[.val (.ref p0), .val (.int (0 : Int32)), .val (.int (4 : Int32)), .val (.ref b1), .val (.int (Int32.ofNat j)), .unset] [(.int (4 : Int32)), (.int (Int32.ofNat j))])) _
      refine XS.icmpNo X5.here hx rfl (hb hby d12_17) rfl (feq (own_ofne hj (by decide))).1 ?_
      refine XS.aloadN X5.here hx rfl (hb hby d12_20) rfl rfl ?_
      refine XS.iloadN X5.here hx rfl (hb hby d12_21) rfl  ?_
      show Steps p.tables e below (T5.setTop (mkF m 22 #[.val (.ref p0), .val (.int (0 : Int32)), .val (.int (4 : Int32)), .val (.ref b1), .val (.int (Int32.ofNat j)), .unset] [(.int (0 : Int32)), (.ref p0)])) _
      refine XS.iloadN X5.here hx rfl (hb hby d12_22) rfl  ?_
      show Steps p.tables e below (T5.setTop (mkF m 23 #[.val (.ref p0), .val (.int (0 : Int32)), .val (.int (4 : Int32)), .val (.ref b1), .val (.int (Int32.ofNat j)), .unset] [(.int (4 : Int32)), (.int (0 : Int32)), (.ref p0)])) _
      refine st10 _ ?_
      show Steps p.tables e below (T10.setTop (mkF m 26 #[.val (.ref p0), .val (.int (0 : Int32)), .val (.int (4 : Int32)), .val (.ref b1), .val (.int (Int32.ofNat j)), .unset] [(.ref tb10)])) _
      refine XS.astore X10.here hx rfl (hb hby d12_26) rfl rfl (l' := #[.val (.ref p0), .val (.int (0 : Int32)), .val (.int (4 : Int32)), .val (.ref b1), .val (.int (Int32.ofNat j)), .val (.ref tb10)]) rfl ?_
      refine XS.aload X10.here hx rfl (hb hby d12_28) rfl rfl ?_
      refine XS.iload X10.here hx rfl (hb hby d12_30) rfl  ?_
      show Steps p.tables e below (T10.setTop (mkF m 32 #[.val (.ref p0), .val (.int (0 : Int32)), .val (.int (4 : Int32)), .val (.ref b1), .val (.int (Int32.ofNat j)), .val (.ref tb10)] [(.int (Int32.ofNat j)), (.ref tb10)])) _
      refine st13 _ ?_
      show Steps p.tables e below (T13.setTop (mkF m 35 #[.val (.ref p0), .val (.int (0 : Int32)), .val (.int (4 : Int32)), .val (.ref b1), .val (.int (Int32.ofNat j)), .val (.ref tb10)] [(.int ([c0, c1, c2, c3].getD j 0))])) _
      refine XS.sipush X13.here hx rfl (hb hby d12_35) ?_
      show Steps p.tables e below (T13.setTop (mkF m 38 #[.val (.ref p0), .val (.int (0 : Int32)), .val (.int (4 : Int32)), .val (.ref b1), .val (.int (Int32.ofNat j)), .val (.ref tb10)] [(.int (255 : Int32)), (.int ([c0, c1, c2, c3].getD j 0))])) _
      refine XS.icmpYes X13.here hx rfl (pc0 := 38) (pc' := 54) rfl (hb hby d12_38) rfl (tlt hgt).2.2.1 (by decide) (by decide) ?_
      refine XS.aload X13.here hx rfl (hb hby d12_54) rfl rfl ?_
      show Steps p.tables e below (T13.setTop (mkF m 56 #[.val (.ref p0), .val (.int (0 : Int32)), .val (.int (4 : Int32)), .val (.ref b1), .val (.int (Int32.ofNat j)), .val (.ref tb10)] [(.ref tb10)])) _
      jvm_step X13.here [X13.here.top, hx, (hb hby d12_56), X13.method', Bd.returns, Value.isRef, FieldType.isReference]
      first | (intro acts; rw [hr _ acts rfl rfl rfl]) | rw [hr _ _ rfl rfl rfl]
      exact Steps.refl _
    · show Q_rmComp4 Z p0 zc fm ks c0 c1 c2 c3 h0 n0 _ T13.heap _
      rw [e13]
      exact ⟨⟨_, _, rfl, gb10, sz10, Or.inr (Ab10)⟩, N13, KK10⟩
theorem ef_rmNew4_4 (m : MethodId) (p0 : Addr) (p1 : Addr) : entryFrame m #[(.ref p0), (.ref p1), (.int (0 : Int32)), (.int (4 : Int32)), .null] 6 = mkF m 0 #[.val (.ref p0), .val (.ref p1), .val (.int (0 : Int32)), .val (.int (4 : Int32)), .val .null, .unset] [] := by first | (simp [entryFrame, mkF, argsToLocals, Value.category]; done) | rfl
def Q_rmNew4_4 (Z : State) (p0 : Addr) (p1 : Addr) (zc : Int32) (fm : Value) (ks : ClassId) (c0 : Int32) (c1 : Int32) (c2 : Int32) (c3 : Int32) (h0 : Heap) (n0 : Nat) (v : Option Value) (h : Heap) (L : List Loc) : Prop := v = none ∧ Fr n0 L ∧ Keep h0 h [p0] ∧ own_Str Z h p0 [c0, c1, c2, c3]
set_option maxRecDepth 65536 in
set_option maxHeartbeats 40000000 in
theorem rmNew4_4 (l : Launch) (Z : State) (a0 : Array Value) (hw : ∀ d ∈ tables_1, d.before a0 Z = true) (ws : List Jvm.Cond) (p0 : Addr) (p1 : Addr) (zc : Int32) (fm : Value) (ks : ClassId) (c0 : Int32) (c1 : Int32) (c2 : Int32) (c3 : Int32) (h0 : Heap) (n0 : Nat) (Z0 : n0 ≤ h0.size) (hSt : own_St Z zc fm) (Ol : Old Z n0 h0) (E0 : Exa Z h0 p0 "java/lang/String") (Fv : Fld Z h0 p0 "java/lang/String" "value" "[B" .null) (Fc : Fld Z h0 p0 "java/lang/String" "coder" "B" (.int (0 : Int32))) (g0_ : n0 ≤ p0) (As : Arv Z h0 p1 ks .char (4 : Int32) [(.int c0), (.int c1), (.int c2), (.int c3)] (.int (0 : Int32))) (hch : ∀ c ∈ [c0, c1, c2, c3], ¬ c < (0 : Int32) ∧ ¬ (65535 : Int32) < c) :
    MetFree l (⟨"java/lang/String", "<init>", "([CIILjava/lang/Void;)V"⟩ : MethodName) (head1 (Jvm.Cond.code (⟨"java/lang/String", "<init>", "([CIILjava/lang/Void;)V"⟩ : MethodName) jdk_42_method_149_code 6 none :: ws) ({ frames := 4, cells := 2, slots := 12, locals := 57 } : Room)) (fun a U => a = #[(.ref p0), (.ref p1), (.int (0 : Int32)), (.int (4 : Int32)), .null] ∧ Z.Warmed39 U.vm ∧ U.heap = h0) (fun _ _ _ _ _ => True) (fun _ U o U' => ∃ v L, o = .returned v ∧ Q_rmNew4_4 Z p0 p1 zc fm ks c0 c1 c2 c3 h0 n0 v U'.heap L ∧ FrameEnd U o U' L ({ frames := 4, cells := 2, slots := 12, locals := 57 } : Room).cells ({ frames := 4, cells := 2, slots := 12, locals := 57 } : Room).slots) := by
  refine MetFree.of_bodySF (plainFor_of_name pn_java_lang_String) hisR ?_
  intro p e s m args below meth c s₁ Bd hml0 hP hK
  obtain ⟨rfl, hZ, hh⟩ := hP
  have hx := Bd.exec
  have hby := Bd.bytes
  have hml : c.maxLocals = 6 := hml0
  have hown : s.vm.findClass "java/lang/String" = some m.cls := findClass_of_methodNamed Bd.named
  have hnm := (name_of_methodNamed Bd.named Bd.method).1
  have hZo := hZ
  have howno := hown
  have X0 : Stand p l e ({ frames := 4, cells := 2, slots := 12, locals := 57 } : Room) s m #[(.ref p0), (.ref p1), (.int (0 : Int32)), (.int (4 : Int32)), .null] below meth c s₁ [] 0 0 := Stand.of_body Bd
  have e0 : s₁.heap = h0 := by rw [← hh, Bd.state]; rfl
  have N0 := Fr.nil n0
  have pre0 : ∀ t, Steps p.tables e below (s₁.setTop (mkF m 0 #[.val (.ref p0), .val (.ref p1), .val (.int (0 : Int32)), .val (.int (4 : Int32)), .val .null, .unset] [])) t → Steps p.tables e below (s₁.setTop (entryFrame m #[(.ref p0), (.ref p1), (.int (0 : Int32)), (.int (4 : Int32)), .null] 6)) t := fun t k => castTop (ef_rmNew4_4 m p0 p1 ) k
  obtain ⟨T1, X1, e1, st1⟩ := initO X0 hx hZ hown (hw _ (List.mem_of_getElem? (i := 11) rfl)) (hw _ (List.mem_of_getElem? (i := 12) rfl)) (hw _ (List.mem_of_getElem? (i := 13) rfl)) e0 (g := (mkF m 1 #[.val (.ref p0), .val (.ref p1), .val (.int (0 : Int32)), .val (.int (4 : Int32)), .val .null, .unset] [(.ref p0)])) rfl (by rw [hml]; rfl) rfl (hb hby d2_1) (by decide) (W := 0) (by show 2 * 0 + _ ≤ _; exact Nat.le_of_eq rfl) (by decide)
  obtain ⟨T2, X2, e2, st2⟩ := getS2 X1 hx hZ hown (host := "") (Or.inl (hw _ (List.mem_of_getElem? (i := 40) rfl))) Via.refl e1 (hSt.1.ext Ol.2) (g := (mkF m 27 #[.val (.ref p0), .val (.ref p1), .val (.int (0 : Int32)), .val (.int (4 : Int32)), .val .null, .unset] [])) rfl (hb hby d2_27)
  obtain ⟨_, _, ⟨T3, L3, k3, n3⟩, -, X3, ⟨Lc3, hQ3, l3, y3, z3⟩, st3⟩ := Jvm.LawKit.callS X2 hx (y := (⟨"java/lang/StringUTF16", "compress", "([CII)[B"⟩ : MethodName)) hown (mvT hZ (hw _ (List.mem_of_getElem? (i := 60) rfl))) (mvT hZ (hw _ (List.mem_of_getElem? (i := 61) rfl))) (mvT hZ (hw _ (List.mem_of_getElem? (i := 62) rfl))) (mvT hZ (hw _ (List.mem_of_getElem? (i := 63) rfl))) (by decide) (backOf (W := 0) (rmComp4 l Z a0 hw [] p1 zc fm ks c0 c1 c2 c3 h0 n0 Z0 hSt Ol As hch) hZ (hw _ (List.mem_of_getElem? (i := 63) rfl)) (hw _ (List.mem_of_getElem? (i := 62) rfl)) (by decide) (by decide)) (g := (mkF m 36 #[.val (.ref p0), .val (.ref p1), .val (.int (0 : Int32)), .val (.int (4 : Int32)), .val .null, .unset] [(.int (4 : Int32)), (.int (0 : Int32)), (.ref p1)])) rfl (by rw [hml]; rfl) (argsL := [(.ref p1), (.int (0 : Int32)), (.int (4 : Int32))]) (rest := []) (lenOf pd___CII__B rfl) rfl (by show 2 * 0 + _ ≤ _; exact Nat.le_of_eq rfl) (hb hby d2_36) (fun _ _ => ⟨rfl, e2, (by decide : 0 + 2 ≤ _), (by decide : 0 + 12 ≤ _)⟩)
  dsimp only [Pt.U, Pt.locs, Pt.cells, Pt.slots] at X3 l3 y3 z3 st3 hQ3
  subst l3 y3 z3
  obtain ⟨⟨vb3, kb3, rfl, gb3, sb3, hD⟩, Nq3, K3⟩ := hQ3
  have N3 := Fr.app N0 Nq3
  have KK3 := (Keep.refl h0 [p0]).trans K3 all0
  have ne_vb3 : p0 ≠ vb3 := Nat.ne_of_lt (Nat.lt_of_lt_of_le E0.lt sb3)
  have pre4 : ∀ t, Steps p.tables e below (T3.setTop (mkF m 39 #[.val (.ref p0), .val (.ref p1), .val (.int (0 : Int32)), .val (.int (4 : Int32)), .val .null, .unset] [(.ref vb3)])) t → Steps p.tables e below (s₁.setTop (entryFrame m #[(.ref p0), (.ref p1), (.int (0 : Int32)), (.int (4 : Int32)), .null] 6)) t := fun t kt => pre0 t (by
    show Steps p.tables e below (s₁.setTop (mkF m 0 #[.val (.ref p0), .val (.ref p1), .val (.int (0 : Int32)), .val (.int (4 : Int32)), .val .null, .unset] [])) _
    refine XS.aloadN X0.here hx rfl (hb hby d2_0) rfl rfl ?_
    show Steps p.tables e below (s₁.setTop (mkF m 1 #[.val (.ref p0), .val (.ref p1), .val (.int (0 : Int32)), .val (.int (4 : Int32)), .val .null, .unset] [(.ref p0)])) _
    refine st1 _ ?_
    show Steps p.tables e below (T1.setTop (mkF m 4 #[.val (.ref p0), .val (.ref p1), .val (.int (0 : Int32)), .val (.int (4 : Int32)), .val .null, .unset] [])) _
    refine XS.iloadN X1.here hx rfl (hb hby d2_4) rfl  ?_
    show Steps p.tables e below (T1.setTop (mkF m 5 #[.val (.ref p0), .val (.ref p1), .val (.int (0 : Int32)), .val (.int (4 : Int32)), .val .null, .unset] [(.int (4 : Int32))])) _
    refine XS.ifYes X1.here hx rfl (pc0 := 5) (pc' := 27) rfl (hb hby d2_5) rfl ((if0 _ _).trans (feq (by decide : ¬ ((4 : Int32) = (0 : Int32)))).2) (by decide) (by decide) ?_
    show Steps p.tables e below (T1.setTop (mkF m 27 #[.val (.ref p0), .val (.ref p1), .val (.int (0 : Int32)), .val (.int (4 : Int32)), .val .null, .unset] [])) _
    refine st2 _ ?_
    show Steps p.tables e below (T2.setTop (mkF m 30 #[.val (.ref p0), .val (.ref p1), .val (.int (0 : Int32)), .val (.int (4 : Int32)), .val .null, .unset] [(.int zc)])) _
    refine XS.ifNo X2.here hx rfl (hb hby d2_30) rfl ((if0 _ _).trans (feq hSt.2.1).1) ?_
    refine XS.aloadN X2.here hx rfl (hb hby d2_33) rfl rfl ?_
    refine XS.iloadN X2.here hx rfl (hb hby d2_34) rfl  ?_
    show Steps p.tables e below (T2.setTop (mkF m 35 #[.val (.ref p0), .val (.ref p1), .val (.int (0 : Int32)), .val (.int (4 : Int32)), .val .null, .unset] [(.int (0 : Int32)), (.ref p1)])) _
    refine XS.iloadN X2.here hx rfl (hb hby d2_35) rfl  ?_
    show Steps p.tables e below (T2.setTop (mkF m 36 #[.val (.ref p0), .val (.ref p1), .val (.int (0 : Int32)), .val (.int (4 : Int32)), .val .null, .unset] [(.int (4 : Int32)), (.int (0 : Int32)), (.ref p1)])) _
    refine st3 _ ?_
    exact kt)
  rcases hD with ⟨hle, Ad⟩ | Ad
  · have f5 := (Nat.le_trans Z0 K3.1)
    have f6 := (Ol.keep K3 all0)
    obtain ⟨_, _, ⟨T7, L7, k7, n7⟩, -, X7, ⟨Lc7, hQ7, l7, y7, z7⟩, st7⟩ := Jvm.LawKit.callS X3 hx (y := (⟨"java/lang/StringUTF16", "coderFromArrayLen", "([BI)B"⟩ : MethodName)) hown (mvT hZ (hw _ (List.mem_of_getElem? (i := 86) rfl))) (mvT hZ (hw _ (List.mem_of_getElem? (i := 87) rfl))) (mvT hZ (hw _ (List.mem_of_getElem? (i := 62) rfl))) (mvT hZ (hw _ (List.mem_of_getElem? (i := 88) rfl))) (by decide) (backOf (W := 1) (rmCFA l Z a0 hw [] vb3 (4 : Int32) zc fm kb3 (4 : Int32) [(.int (own_b c0)), (.int (own_b c1)), (.int (own_b c2)), (.int (own_b c3))] (0 : Int32) T3.heap n0 f5 hSt f6 Ad (by decide)) hZ (hw _ (List.mem_of_getElem? (i := 88) rfl)) (hw _ (List.mem_of_getElem? (i := 62) rfl)) (by decide) (by decide)) (g := (mkF m 45 #[.val (.ref p0), .val (.ref p1), .val (.int (0 : Int32)), .val (.int (4 : Int32)), .val .null, .val (.ref vb3)] [(.int (4 : Int32)), (.ref vb3), (.ref p0)])) rfl (by rw [hml]; rfl) (argsL := [(.ref vb3), (.int (4 : Int32))]) (rest := [(.ref p0)]) (lenOf pd___BI_B rfl) rfl (by show 2 * 0 + _ ≤ _; exact Nat.le_of_eq rfl) (hb hby d2_45) (fun _ _ => ⟨rfl, rfl, (by decide : 2 + 0 ≤ _), (by decide : 12 + 0 ≤ _)⟩)
    dsimp only [Pt.U, Pt.locs, Pt.cells, Pt.slots] at X7 l7 y7 z7 st7 hQ7
    subst l7 y7 z7
    obtain ⟨rfl, Nq7, e7⟩ := hQ7
    have N7 := Fr.app N3 Nq7
    have f8 := (E0.keep K3)
    have f9 := (Fc.keep K3 nin0)
    obtain ⟨T10, h10, X10, e10, W10, st10⟩ := putFN X7 hx hZ hown (hw _ (List.mem_of_getElem? (i := 21) rfl)) Via.refl e7 f9 f8 (Or.inr ⟨(hw _ (List.mem_of_getElem? (i := 17) rfl)), rfl, hnm⟩) (hw _ (List.mem_of_getElem? (i := 2) rfl)) (ty := .byte) (v' := (.int (0 : Int32))) (by decide) rfl (by decide) (g := (mkF m 48 #[.val (.ref p0), .val (.ref p1), .val (.int (0 : Int32)), .val (.int (4 : Int32)), .val .null, .val (.ref vb3)] [(.int (0 : Int32)), (.ref p0)])) rfl rfl (hb hby d2_48)
    have Fw10 := f9.same W10
    have N10 := Fr.snoc X10 N7 g0_
    have K10 := KK3.wr W10 (Or.inl (List.mem_of_getElem? (i := 0) rfl))
    have f11 := (f8.wr W10)
    have f12 := ((Fv.keep K3 nin0).other W10 (Or.inr (slot_ne (Or.inr (hw _ (List.mem_of_getElem? (i := 16) rfl))) (Or.inr (hw _ (List.mem_of_getElem? (i := 17) rfl))) (by decide) (t := (.array .byte)) (t' := .byte) (by decide) (by decide))))
    obtain ⟨T13, h13, X13, e13, W13, st13⟩ := putF X10 hx hZ hown (host := "") (Or.inl (hw _ (List.mem_of_getElem? (i := 20) rfl))) Via.refl e10 f12 f11 (Or.inr ⟨(hw _ (List.mem_of_getElem? (i := 16) rfl)), rfl, hnm⟩) (hw _ (List.mem_of_getElem? (i := 2) rfl)) (ty := (.array .byte)) (by decide) rfl rfl (g := (mkF m 54 #[.val (.ref p0), .val (.ref p1), .val (.int (0 : Int32)), .val (.int (4 : Int32)), .val .null, .val (.ref vb3)] [(.ref vb3), (.ref p0)])) rfl rfl (hb hby d2_54)
    have Fw13 := f12.same W13
    have N13 := Fr.snoc X13 N10 g0_
    have K13 := K10.wr W13 (Or.inl (List.mem_of_getElem? (i := 0) rfl))
    have f14 := (f11.wr W13)
    have f15 := (Fw10.other W13 (Or.inr (slot_ne (Or.inr (hw _ (List.mem_of_getElem? (i := 17) rfl))) (Or.inr (hw _ (List.mem_of_getElem? (i := 16) rfl))) (by decide) (t := .byte) (t' := (.array .byte)) (by decide) (by decide))))
    have f16 := ((Ad.other W10 (Ne.symm ne_vb3)).other W13 (Ne.symm ne_vb3))
    obtain ⟨fs, hr, hrun, hended, hW, hsame⟩ := X13.leave (v := none) (fun _ => rfl)
    refine ⟨_, _, pre4 _ ?_, hrun, hended, _, _, rfl, ?_, ⟨_, rfl⟩, hW, hsame.mono (by decide) (by decide)⟩
    · show Steps p.tables e below (T3.setTop (mkF m 39 #[.val (.ref p0), .val (.ref p1), .val (.int (0 : Int32)), .val (.int (4 : Int32)), .val .null, .unset] [(.ref vb3)])) _
      refine XS.astore X3.here hx rfl (hb hby d2_39) rfl rfl (l' := #[.val (.ref p0), .val (.ref p1), .val (.int (0 : Int32)), .val (.int (4 : Int32)), .val .null, .val (.ref vb3)]) rfl ?_
      refine XS.aloadN X3.here hx rfl (hb hby d2_41) rfl rfl ?_
      refine XS.aload X3.here hx rfl (hb hby d2_42) rfl rfl ?_
      show Steps p.tables e below (T3.setTop (mkF m 44 #[.val (.ref p0), .val (.ref p1), .val (.int (0 : Int32)), .val (.int (4 : Int32)), .val .null, .val (.ref vb3)] [(.ref vb3), (.ref p0)])) _
      refine XS.iloadN X3.here hx rfl (hb hby d2_44) rfl  ?_
      show Steps p.tables e below (T3.setTop (mkF m 45 #[.val (.ref p0), .val (.ref p1), .val (.int (0 : Int32)), .val (.int (4 : Int32)), .val .null, .val (.ref vb3)] [(.int (4 : Int32)), (.ref vb3), (.ref p0)])) _
      refine st7 _ ?_
      show Steps p.tables e below (T7.setTop (mkF m 48 #[.val (.ref p0), .val (.ref p1), .val (.int (0 : Int32)), .val (.int (4 : Int32)), .val .null, .val (.ref vb3)] [(.int (0 : Int32)), (.ref p0)])) _
      refine st10 _ ?_
      show Steps p.tables e below (T10.setTop (mkF m 51 #[.val (.ref p0), .val (.ref p1), .val (.int (0 : Int32)), .val (.int (4 : Int32)), .val .null, .val (.ref vb3)] [])) _
      refine XS.aloadN X10.here hx rfl (hb hby d2_51) rfl rfl ?_
      refine XS.aload X10.here hx rfl (hb hby d2_52) rfl rfl ?_
      show Steps p.tables e below (T10.setTop (mkF m 54 #[.val (.ref p0), .val (.ref p1), .val (.int (0 : Int32)), .val (.int (4 : Int32)), .val .null, .val (.ref vb3)] [(.ref vb3), (.ref p0)])) _
      refine st13 _ ?_
      show Steps p.tables e below (T13.setTop (mkF m 57 #[.val (.ref p0), .val (.ref p1), .val (.int (0 : Int32)), .val (.int (4 : Int32)), .val .null, .val (.ref vb3)] [])) _
      exact X13.returnOut hx Bd.returns (hb hby d2_57) hr
    · show Q_rmNew4_4 Z p0 p1 zc fm ks c0 c1 c2 c3 h0 n0 _ T13.heap _
      rw [e13]
      exact ⟨rfl, N13, K13, vb3, kb3, (0 : Int32), (4 : Int32), _, f14, Fw13, f15, f16, Or.inl ⟨rfl, rfl, rfl, (own_allc hle.1 (own_allc hle.2.1 (own_allc hle.2.2.1 (own_allc hle.2.2.2 (fun _ q => nomatch q)))))⟩, hch, Nat.le_of_ble_eq_true rfl⟩
  · have f17 := (Nat.le_trans Z0 K3.1)
    have f18 := (Ol.keep K3 all0)
    obtain ⟨_, _, ⟨T19, L19, k19, n19⟩, -, X19, ⟨Lc19, hQ19, l19, y19, z19⟩, st19⟩ := Jvm.LawKit.callS X3 hx (y := (⟨"java/lang/StringUTF16", "coderFromArrayLen", "([BI)B"⟩ : MethodName)) hown (mvT hZ (hw _ (List.mem_of_getElem? (i := 86) rfl))) (mvT hZ (hw _ (List.mem_of_getElem? (i := 87) rfl))) (mvT hZ (hw _ (List.mem_of_getElem? (i := 62) rfl))) (mvT hZ (hw _ (List.mem_of_getElem? (i := 88) rfl))) (by decide) (backOf (W := 1) (rmCFA l Z a0 hw [] vb3 (4 : Int32) zc fm kb3 (8 : Int32) [(.int (own_wl c0)), (.int (own_wh c0)), (.int (own_wl c1)), (.int (own_wh c1)), (.int (own_wl c2)), (.int (own_wh c2)), (.int (own_wl c3)), (.int (own_wh c3))] (1 : Int32) T3.heap n0 f17 hSt f18 Ad (by decide)) hZ (hw _ (List.mem_of_getElem? (i := 88) rfl)) (hw _ (List.mem_of_getElem? (i := 62) rfl)) (by decide) (by decide)) (g := (mkF m 45 #[.val (.ref p0), .val (.ref p1), .val (.int (0 : Int32)), .val (.int (4 : Int32)), .val .null, .val (.ref vb3)] [(.int (4 : Int32)), (.ref vb3), (.ref p0)])) rfl (by rw [hml]; rfl) (argsL := [(.ref vb3), (.int (4 : Int32))]) (rest := [(.ref p0)]) (lenOf pd___BI_B rfl) rfl (by show 2 * 0 + _ ≤ _; exact Nat.le_of_eq rfl) (hb hby d2_45) (fun _ _ => ⟨rfl, rfl, (by decide : 2 + 0 ≤ _), (by decide : 12 + 0 ≤ _)⟩)
    dsimp only [Pt.U, Pt.locs, Pt.cells, Pt.slots] at X19 l19 y19 z19 st19 hQ19
    subst l19 y19 z19
    obtain ⟨rfl, Nq19, e19⟩ := hQ19
    have N19 := Fr.app N3 Nq19
    have f20 := (E0.keep K3)
    have f21 := (Fc.keep K3 nin0)
    obtain ⟨T22, h22, X22, e22, W22, st22⟩ := putFN X19 hx hZ hown (hw _ (List.mem_of_getElem? (i := 21) rfl)) Via.refl e19 f21 f20 (Or.inr ⟨(hw _ (List.mem_of_getElem? (i := 17) rfl)), rfl, hnm⟩) (hw _ (List.mem_of_getElem? (i := 2) rfl)) (ty := .byte) (v' := (.int (1 : Int32))) (by decide) rfl (by decide) (g := (mkF m 48 #[.val (.ref p0), .val (.ref p1), .val (.int (0 : Int32)), .val (.int (4 : Int32)), .val .null, .val (.ref vb3)] [(.int (1 : Int32)), (.ref p0)])) rfl rfl (hb hby d2_48)
    have Fw22 := f21.same W22
    have N22 := Fr.snoc X22 N19 g0_
    have K22 := KK3.wr W22 (Or.inl (List.mem_of_getElem? (i := 0) rfl))
    have f23 := (f20.wr W22)
    have f24 := ((Fv.keep K3 nin0).other W22 (Or.inr (slot_ne (Or.inr (hw _ (List.mem_of_getElem? (i := 16) rfl))) (Or.inr (hw _ (List.mem_of_getElem? (i := 17) rfl))) (by decide) (t := (.array .byte)) (t' := .byte) (by decide) (by decide))))
    obtain ⟨T25, h25, X25, e25, W25, st25⟩ := putF X22 hx hZ hown (host := "") (Or.inl (hw _ (List.mem_of_getElem? (i := 20) rfl))) Via.refl e22 f24 f23 (Or.inr ⟨(hw _ (List.mem_of_getElem? (i := 16) rfl)), rfl, hnm⟩) (hw _ (List.mem_of_getElem? (i := 2) rfl)) (ty := (.array .byte)) (by decide) rfl rfl (g := (mkF m 54 #[.val (.ref p0), .val (.ref p1), .val (.int (0 : Int32)), .val (.int (4 : Int32)), .val .null, .val (.ref vb3)] [(.ref vb3), (.ref p0)])) rfl rfl (hb hby d2_54)
    have Fw25 := f24.same W25
    have N25 := Fr.snoc X25 N22 g0_
    have K25 := K22.wr W25 (Or.inl (List.mem_of_getElem? (i := 0) rfl))
    have f26 := (f23.wr W25)
    have f27 := (Fw22.other W25 (Or.inr (slot_ne (Or.inr (hw _ (List.mem_of_getElem? (i := 17) rfl))) (Or.inr (hw _ (List.mem_of_getElem? (i := 16) rfl))) (by decide) (t := .byte) (t' := (.array .byte)) (by decide) (by decide))))
    have f28 := ((Ad.other W22 (Ne.symm ne_vb3)).other W25 (Ne.symm ne_vb3))
    obtain ⟨fs, hr, hrun, hended, hW, hsame⟩ := X25.leave (v := none) (fun _ => rfl)
    refine ⟨_, _, pre4 _ ?_, hrun, hended, _, _, rfl, ?_, ⟨_, rfl⟩, hW, hsame.mono (by decide) (by decide)⟩
    · show Steps p.tables e below (T3.setTop (mkF m 39 #[.val (.ref p0), .val (.ref p1), .val (.int (0 : Int32)), .val (.int (4 : Int32)), .val .null, .unset] [(.ref vb3)])) _
      refine XS.astore X3.here hx rfl (hb hby d2_39) rfl rfl (l' := #[.val (.ref p0), .val (.ref p1), .val (.int (0 : Int32)), .val (.int (4 : Int32)), .val .null, .val (.ref vb3)]) rfl ?_
      refine XS.aloadN X3.here hx rfl (hb hby d2_41) rfl rfl ?_
      refine XS.aload X3.here hx rfl (hb hby d2_42) rfl rfl ?_
      show Steps p.tables e below (T3.setTop (mkF m 44 #[.val (.ref p0), .val (.ref p1), .val (.int (0 : Int32)), .val (.int (4 : Int32)), .val .null, .val (.ref vb3)] [(.ref vb3), (.ref p0)])) _
      refine XS.iloadN X3.here hx rfl (hb hby d2_44) rfl  ?_
      show Steps p.tables e below (T3.setTop (mkF m 45 #[.val (.ref p0), .val (.ref p1), .val (.int (0 : Int32)), .val (.int (4 : Int32)), .val .null, .val (.ref vb3)] [(.int (4 : Int32)), (.ref vb3), (.ref p0)])) _
      refine st19 _ ?_
      show Steps p.tables e below (T19.setTop (mkF m 48 #[.val (.ref p0), .val (.ref p1), .val (.int (0 : Int32)), .val (.int (4 : Int32)), .val .null, .val (.ref vb3)] [(.int (1 : Int32)), (.ref p0)])) _
      refine st22 _ ?_
      show Steps p.tables e below (T22.setTop (mkF m 51 #[.val (.ref p0), .val (.ref p1), .val (.int (0 : Int32)), .val (.int (4 : Int32)), .val .null, .val (.ref vb3)] [])) _
      refine XS.aloadN X22.here hx rfl (hb hby d2_51) rfl rfl ?_
      refine XS.aload X22.here hx rfl (hb hby d2_52) rfl rfl ?_
      show Steps p.tables e below (T22.setTop (mkF m 54 #[.val (.ref p0), .val (.ref p1), .val (.int (0 : Int32)), .val (.int (4 : Int32)), .val .null, .val (.ref vb3)] [(.ref vb3), (.ref p0)])) _
      refine st25 _ ?_
      show Steps p.tables e below (T25.setTop (mkF m 57 #[.val (.ref p0), .val (.ref p1), .val (.int (0 : Int32)), .val (.int (4 : Int32)), .val .null, .val (.ref vb3)] [])) _
      exact X25.returnOut hx Bd.returns (hb hby d2_57) hr
    · show Q_rmNew4_4 Z p0 p1 zc fm ks c0 c1 c2 c3 h0 n0 _ T25.heap _
      rw [e25]
      exact ⟨rfl, N25, K25, vb3, kb3, (1 : Int32), (8 : Int32), _, f26, Fw25, f27, f28, Or.inr ⟨rfl, rfl, rfl⟩, hch, Nat.le_of_ble_eq_true rfl⟩
theorem ef_rmNew4 (m : MethodId) (p0 : Addr) (p1 : Addr) : entryFrame m #[(.ref p0), (.ref p1)] 2 = mkF m 0 #[.val (.ref p0), .val (.ref p1)] [] := by first | (simp [entryFrame, mkF, argsToLocals, Value.category]; done) | rfl
def Q_rmNew4 (Z : State) (p0 : Addr) (p1 : Addr) (zc : Int32) (fm : Value) (ks : ClassId) (c0 : Int32) (c1 : Int32) (c2 : Int32) (c3 : Int32) (h0 : Heap) (n0 : Nat) (v : Option Value) (h : Heap) (L : List Loc) : Prop := v = none ∧ Fr n0 L ∧ Keep h0 h [p0] ∧ own_Str Z h p0 [c0, c1, c2, c3]
set_option maxRecDepth 65536 in
set_option maxHeartbeats 40000000 in
theorem rmNew4 (l : Launch) (Z : State) (a0 : Array Value) (hw : ∀ d ∈ tables_1, d.before a0 Z = true) (ws : List Jvm.Cond) (p0 : Addr) (p1 : Addr) (zc : Int32) (fm : Value) (ks : ClassId) (c0 : Int32) (c1 : Int32) (c2 : Int32) (c3 : Int32) (h0 : Heap) (n0 : Nat) (Z0 : n0 ≤ h0.size) (hSt : own_St Z zc fm) (Ol : Old Z n0 h0) (E0 : Exa Z h0 p0 "java/lang/String") (Fv : Fld Z h0 p0 "java/lang/String" "value" "[B" .null) (Fc : Fld Z h0 p0 "java/lang/String" "coder" "B" (.int (0 : Int32))) (g0_ : n0 ≤ p0) (As : Arv Z h0 p1 ks .char (4 : Int32) [(.int c0), (.int c1), (.int c2), (.int c3)] (.int (0 : Int32))) (hch : ∀ c ∈ [c0, c1, c2, c3], ¬ c < (0 : Int32) ∧ ¬ (65535 : Int32) < c) :
    MetFree l (⟨"java/lang/String", "<init>", "([C)V"⟩ : MethodName) (head1 (Jvm.Cond.code (⟨"java/lang/String", "<init>", "([C)V"⟩ : MethodName) jdk_42_method_3_code 2 none :: ws) ({ frames := 5, cells := 2, slots := 12, locals := 74 } : Room)) (fun a U => a = #[(.ref p0), (.ref p1)] ∧ Z.Warmed39 U.vm ∧ U.heap = h0) (fun _ _ _ _ _ => True) (fun _ U o U' => ∃ v L, o = .returned v ∧ Q_rmNew4 Z p0 p1 zc fm ks c0 c1 c2 c3 h0 n0 v U'.heap L ∧ FrameEnd U o U' L ({ frames := 5, cells := 2, slots := 12, locals := 74 } : Room).cells ({ frames := 5, cells := 2, slots := 12, locals := 74 } : Room).slots) := by
  refine MetFree.of_bodySF (plainFor_of_name pn_java_lang_String) hisR ?_
  intro p e s m args below meth c s₁ Bd hml0 hP hK
  obtain ⟨rfl, hZ, hh⟩ := hP
  have hx := Bd.exec
  have hby := Bd.bytes
  have hml : c.maxLocals = 2 := hml0
  have hown : s.vm.findClass "java/lang/String" = some m.cls := findClass_of_methodNamed Bd.named
  have hnm := (name_of_methodNamed Bd.named Bd.method).1
  have hZo := hZ
  have howno := hown
  have X0 : Stand p l e ({ frames := 5, cells := 2, slots := 12, locals := 74 } : Room) s m #[(.ref p0), (.ref p1)] below meth c s₁ [] 0 0 := Stand.of_body Bd
  have e0 : s₁.heap = h0 := by rw [← hh, Bd.state]; rfl
  have N0 := Fr.nil n0
  have pre0 : ∀ t, Steps p.tables e below (s₁.setTop (mkF m 0 #[.val (.ref p0), .val (.ref p1)] [])) t → Steps p.tables e below (s₁.setTop (entryFrame m #[(.ref p0), (.ref p1)] 2)) t := fun t k => castTop (ef_rmNew4 m p0 p1 ) k
  obtain ⟨cl1, Ar1, -, S1, N1, -, -⟩ := id As
  obtain ⟨_, _, ⟨T2, L2, k2, n2⟩, -, X2, ⟨Lc2, hQ2, l2, y2, z2⟩, st2⟩ := X0.specialBack hx (y := (⟨"java/lang/String", "<init>", "([CIILjava/lang/Void;)V"⟩ : MethodName)) rfl hown (mvT hZ (hw _ (List.mem_of_getElem? (i := 7) rfl))) (mvT hZ (hw _ (List.mem_of_getElem? (i := 8) rfl))) (mvT hZ (hw _ (List.mem_of_getElem? (i := 10) rfl))) (by decide) (backOf (W := 0) (rmNew4_4 l Z a0 hw [] p0 p1 zc fm ks c0 c1 c2 c3 h0 n0 Z0 hSt Ol E0 Fv Fc g0_ As hch) hZ (hw _ (List.mem_of_getElem? (i := 10) rfl)) (hw _ (List.mem_of_getElem? (i := 3) rfl)) (by decide) (by decide)) (g := (mkF m 6 #[.val (.ref p0), .val (.ref p1)] [.null, (.int (4 : Int32)), (.int (0 : Int32)), (.ref p1), (.ref p0)])) rfl (by rw [hml]; rfl) (Steps.refl _) (a := p0) (argsL := [(.ref p1), (.int (0 : Int32)), (.int (4 : Int32)), .null]) (rest := []) (lenOf pd___CIILjava_lang_Void__V rfl) rfl (by show 2 * 0 + _ ≤ _; exact Nat.le_of_eq rfl) (hb hby d1_6) (fun _ _ => ⟨rfl, e0, (by decide : 0 + 2 ≤ _), (by decide : 0 + 12 ≤ _)⟩)
  dsimp only [Pt.U, Pt.locs, Pt.cells, Pt.slots] at X2 l2 y2 z2 st2 hQ2
  subst l2 y2 z2
  obtain ⟨rfl, Nq2, K2, hS⟩ := hQ2
  have N2 := Fr.app N0 Nq2
  have KK2 := (Keep.refl h0 [p0]).trans K2 (allS (Or.inl (List.mem_of_getElem? (i := 0) rfl)) all0)
  obtain ⟨fs, hr, hrun, hended, hW, hsame⟩ := X2.leave (v := none) (fun _ => rfl)
  refine ⟨_, _, pre0 _ ?_, hrun, hended, _, _, rfl, ?_, ⟨_, rfl⟩, hW, hsame.mono (by decide) (by decide)⟩
  · show Steps p.tables e below (s₁.setTop (mkF m 0 #[.val (.ref p0), .val (.ref p1)] [])) _
    refine XS.aloadN X0.here hx rfl (hb hby d1_0) rfl rfl ?_
    refine XS.aloadN X0.here hx rfl (hb hby d1_1) rfl rfl ?_
    refine XS.iconst X0.here hx rfl (hb hby d1_2) ?_
    show Steps p.tables e below (s₁.setTop (mkF m 3 #[.val (.ref p0), .val (.ref p1)] [(.int (0 : Int32)), (.ref p1), (.ref p0)])) _
    refine XS.aloadN X0.here hx rfl (hb hby d1_3) rfl rfl ?_
    show Steps p.tables e below (s₁.setTop (mkF m 4 #[.val (.ref p0), .val (.ref p1)] [(.ref p1), (.int (0 : Int32)), (.ref p1), (.ref p0)])) _
    refine X0.arraylength hx (by rw [e0]; exact Ar1.1) (State.isArrayOf_alike hZ.alike Ar1.2.1) (g := (mkF m 4 #[.val (.ref p0), .val (.ref p1)] [(.ref p1), (.int (0 : Int32)), (.ref p1), (.ref p0)])) rfl rfl (hb hby d1_4) _ ?_
    rw [len_of S1 N1]
    show Steps p.tables e below (s₁.setTop (mkF m 5 #[.val (.ref p0), .val (.ref p1)] [(.int (4 : Int32)), (.int (0 : Int32)), (.ref p1), (.ref p0)])) _
    refine XS.aconstNull X0.here hx rfl (hb hby d1_5) ?_
    show Steps p.tables e below (s₁.setTop (mkF m 6 #[.val (.ref p0), .val (.ref p1)] [.null, (.int (4 : Int32)), (.int (0 : Int32)), (.ref p1), (.ref p0)])) _
    refine st2.trans ?_
    show Steps p.tables e below (T2.setTop (mkF m 9 #[.val (.ref p0), .val (.ref p1)] [])) _
    exact X2.returnOut hx Bd.returns (hb hby d1_9) hr
  · show Q_rmNew4 Z p0 p1 zc fm ks c0 c1 c2 c3 h0 n0 _ T2.heap _
    exact ⟨rfl, N2, KK2, hS⟩
theorem ef_rmCmp6 (m : MethodId) (p0 : Addr) (p2 : Addr) : entryFrame m #[(.ref p0), (.int (0 : Int32)), (.ref p2), (.int (0 : Int32)), (.int (6 : Int32))] 7 = mkF m 0 #[.val (.ref p0), .val (.int (0 : Int32)), .val (.ref p2), .val (.int (0 : Int32)), .val (.int (6 : Int32)), .unset, .unset] [] := by first | (simp [entryFrame, mkF, argsToLocals, Value.category]; done) | rfl
def Q_rmCmp6 (Z : State) (p0 : Addr) (p2 : Addr) (zc : Int32) (fm : Value) (ks : ClassId) (kd : ClassId) (c0 : Int32) (c1 : Int32) (c2 : Int32) (c3 : Int32) (c4 : Int32) (c5 : Int32) (h0 : Heap) (n0 : Nat) (v : Option Value) (h : Heap) (L : List Loc) : Prop := (∃ r : Int32, v = some (.int r) ∧ ((r = (6 : Int32) ∧ (¬ (255 : Int32) < c0 ∧ ¬ (255 : Int32) < c1 ∧ ¬ (255 : Int32) < c2 ∧ ¬ (255 : Int32) < c3 ∧ ¬ (255 : Int32) < c4 ∧ ¬ (255 : Int32) < c5) ∧ Arv Z h p2 kd .byte (6 : Int32) [(.int (own_b c0)), (.int (own_b c1)), (.int (own_b c2)), (.int (own_b c3)), (.int (own_b c4)), (.int (own_b c5))] (.int (0 : Int32))) ∨ (∃ j : Nat, r = Int32.ofNat j ∧ j < 6 ∧ (255 : Int32) < [c0, c1, c2, c3, c4, c5].getD j 0))) ∧ Fr n0 L ∧ Keep h0 h [p2]
set_option maxRecDepth 65536 in
set_option maxHeartbeats 40000000 in
theorem rmCmp6 (l : Launch) (Z : State) (a0 : Array Value) (hw : ∀ d ∈ tables_1, d.before a0 Z = true) (ws : List Jvm.Cond) (p0 : Addr) (p2 : Addr) (zc : Int32) (fm : Value) (ks : ClassId) (kd : ClassId) (c0 : Int32) (c1 : Int32) (c2 : Int32) (c3 : Int32) (c4 : Int32) (c5 : Int32) (h0 : Heap) (n0 : Nat) (Z0 : n0 ≤ h0.size) (hSt : own_St Z zc fm) (Ol : Old Z n0 h0) (As : Arv Z h0 p0 ks .char (6 : Int32) [(.int c0), (.int c1), (.int c2), (.int c3), (.int c4), (.int c5)] (.int (0 : Int32))) (Ad : Arv Z h0 p2 kd .byte (6 : Int32) [(.int (0 : Int32)), (.int (0 : Int32)), (.int (0 : Int32)), (.int (0 : Int32)), (.int (0 : Int32)), (.int (0 : Int32))] (.int (0 : Int32))) (hne : p0 ≠ p2) (g2 : n0 ≤ p2) :
    MetFree l (⟨"java/lang/StringUTF16", "compress", "([CI[BII)I"⟩ : MethodName) (head1 (Jvm.Cond.code (⟨"java/lang/StringUTF16", "compress", "([CI[BII)I"⟩ : MethodName) jdk_52_method_21_code 7 (some .int) :: ws) ({ frames := 0, cells := 0, slots := 0, locals := 0 } : Room)) (fun a U => a = #[(.ref p0), (.int (0 : Int32)), (.ref p2), (.int (0 : Int32)), (.int (6 : Int32))] ∧ Z.Warmed39 U.vm ∧ U.heap = h0) (fun _ _ _ _ _ => True) (fun _ U o U' => ∃ v L, o = .returned v ∧ Q_rmCmp6 Z p0 p2 zc fm ks kd c0 c1 c2 c3 c4 c5 h0 n0 v U'.heap L ∧ FrameEnd U o U' L ({ frames := 0, cells := 0, slots := 0, locals := 0 } : Room).cells ({ frames := 0, cells := 0, slots := 0, locals := 0 } : Room).slots) := by
  refine MetFree.of_bodySF (plainFor_of_name pn_java_lang_StringUTF16) hisR ?_
  intro p e s m args below meth c s₁ Bd hml0 hP hK
  obtain ⟨rfl, hZ, hh⟩ := hP
  have hx := Bd.exec
  have hby := Bd.bytes
  have hml : c.maxLocals = 7 := hml0
  have hown : s.vm.findClass "java/lang/StringUTF16" = some m.cls := findClass_of_methodNamed Bd.named
  have hnm := (name_of_methodNamed Bd.named Bd.method).1
  have hZo := hZ
  have howno := hown
  have X0 : Stand p l e ({ frames := 0, cells := 0, slots := 0, locals := 0 } : Room) s m #[(.ref p0), (.int (0 : Int32)), (.ref p2), (.int (0 : Int32)), (.int (6 : Int32))] below meth c s₁ [] 0 0 := Stand.of_body Bd
  have e0 : s₁.heap = h0 := by rw [← hh, Bd.state]; rfl
  have N0 := Fr.nil n0
  have pre0 : ∀ t, Steps p.tables e below (s₁.setTop (mkF m 0 #[.val (.ref p0), .val (.int (0 : Int32)), .val (.ref p2), .val (.int (0 : Int32)), .val (.int (6 : Int32)), .unset, .unset] [])) t → Steps p.tables e below (s₁.setTop (entryFrame m #[(.ref p0), (.int (0 : Int32)), (.ref p2), (.int (0 : Int32)), (.int (6 : Int32))] 7)) t := fun t k => castTop (ef_rmCmp6 m p0 p2 ) k
  obtain ⟨cl1, Ar1, q1, S1, N1, H1, G1⟩ := id As
  have hin1 : ¬ ((0 : Int32) < 0 ∨ cl1.slots.size ≤ ((0 : Int32)).toNatClampNeg) := inb_of S1 ⟨by decide, by decide⟩
  have hat1 : cl1.slots[((0 : Int32)).toNatClampNeg]? = some (.int c0) := Has.at H1 hin1 rfl
  have pre3 : ∀ t, Steps p.tables e below (s₁.setTop (mkF m 20 #[.val (.ref p0), .val (.int (0 : Int32)), .val (.ref p2), .val (.int (0 : Int32)), .val (.int (6 : Int32)), .val (.int (0 : Int32)), .val (.int c0)] [(.int (255 : Int32)), (.int c0)])) t → Steps p.tables e below (s₁.setTop (entryFrame m #[(.ref p0), (.int (0 : Int32)), (.ref p2), (.int (0 : Int32)), (.int (6 : Int32))] 7)) t := fun t kt => pre0 t (by
    show Steps p.tables e below (s₁.setTop (mkF m 0 #[.val (.ref p0), .val (.int (0 : Int32)), .val (.ref p2), .val (.int (0 : Int32)), .val (.int (6 : Int32)), .unset, .unset] [])) _
    refine XS.iconst X0.here hx rfl (hb hby d13_0) ?_
    refine XS.istore X0.here hx rfl (hb hby d13_1) rfl (l' := #[.val (.ref p0), .val (.int (0 : Int32)), .val (.ref p2), .val (.int (0 : Int32)), .val (.int (6 : Int32)), .val (.int (0 : Int32)), .unset]) rfl ?_
    refine XS.iload X0.here hx rfl (hb hby d13_3) rfl  ?_
    show Steps p.tables e below (s₁.setTop (mkF m 5 #[.val (.ref p0), .val (.int (0 : Int32)), .val (.ref p2), .val (.int (0 : Int32)), .val (.int (6 : Int32)), .val (.int (0 : Int32)), .unset] [(.int (0 : Int32))])) _
    refine XS.iload X0.here hx rfl (hb hby d13_5) rfl  ?_
    show Steps p.tables e below (s₁.setTop (mkF m 7 #[.val (.ref p0), .val (.int (0 : Int32)), .val (.ref p2), .val (.int (0 : Int32)), .val (.int (6 : Int32)), .val (.int (0 : Int32)), .unset] [(.int (6 : Int32)), (.int (0 : Int32))])) _
    refine XS.icmpNo X0.here hx rfl (hb hby d13_7) rfl (tlt (by decide : (0 : Int32) < (6 : Int32))).2.1 ?_
    refine XS.aloadN X0.here hx rfl (hb hby d13_10) rfl rfl ?_
    refine XS.iloadN X0.here hx rfl (hb hby d13_11) rfl  ?_
    show Steps p.tables e below (s₁.setTop (mkF m 12 #[.val (.ref p0), .val (.int (0 : Int32)), .val (.ref p2), .val (.int (0 : Int32)), .val (.int (6 : Int32)), .val (.int (0 : Int32)), .unset] [(.int (0 : Int32)), (.ref p0)])) _
    refine X0.caload hx (j := (0 : Int32)) (v := (.int c0)) (by rw [e0]; exact Ar1.1) (State.isArrayOf_alike hZ.alike Ar1.2.1) Ar1.2.2 hin1 hat1 (g := (mkF m 12 #[.val (.ref p0), .val (.int (0 : Int32)), .val (.ref p2), .val (.int (0 : Int32)), .val (.int (6 : Int32)), .val (.int (0 : Int32)), .unset] [(.int (0 : Int32)), (.ref p0)])) rfl rfl (hb hby d13_12) _ ?_
    show Steps p.tables e below (s₁.setTop (mkF m 13 #[.val (.ref p0), .val (.int (0 : Int32)), .val (.ref p2), .val (.int (0 : Int32)), .val (.int (6 : Int32)), .val (.int (0 : Int32)), .unset] [(.int c0)])) _
    refine XS.istore X0.here hx rfl (hb hby d13_13) rfl (l' := #[.val (.ref p0), .val (.int (0 : Int32)), .val (.ref p2), .val (.int (0 : Int32)), .val (.int (6 : Int32)), .val (.int (0 : Int32)), .val (.int c0)]) rfl ?_
    refine XS.iload X0.here hx rfl (hb hby d13_15) rfl  ?_
    refine XS.sipush X0.here hx rfl (hb hby d13_17) ?_
    exact kt)
  by_cases hc20_2 : (255 : Int32) < c0
  · obtain ⟨fs, hr, hrun, hended, hW, hsame⟩ := X0.leave (v := some (.int (0 : Int32))) (fun h => by rw [Bd.returns] at h; cases h)
    refine ⟨_, _, pre3 _ ?_, hrun, hended, _, _, rfl, ?_, ⟨_, rfl⟩, hW, hsame.mono (by decide) (by decide)⟩
    · show Steps p.tables e below (s₁.setTop (mkF m 20 #[.val (.ref p0), .val (.int (0 : Int32)), .val (.ref p2), .val (.int (0 : Int32)), .val (.int (6 : Int32)), .val (.int (0 : Int32)), .val (.int c0)] [(.int (255 : Int32)), (.int c0)])) _
      refine XS.icmpNo X0.here hx rfl (hb hby d13_20) rfl (tlt hc20_2).2.2.2 ?_
      refine XS.iload X0.here hx rfl (hb hby d13_23) rfl  ?_
      show Steps p.tables e below (s₁.setTop (mkF m 25 #[.val (.ref p0), .val (.int (0 : Int32)), .val (.ref p2), .val (.int (0 : Int32)), .val (.int (6 : Int32)), .val (.int (0 : Int32)), .val (.int c0)] [(.int (0 : Int32))])) _
      exact retI X0 hx Bd.returns (hb hby d13_25) hr
    · show Q_rmCmp6 Z p0 p2 zc fm ks kd c0 c1 c2 c3 c4 c5 h0 n0 _ s₁.heap _
      rw [e0]
      exact ⟨⟨_, rfl, Or.inr ⟨0, rfl, Nat.le_of_ble_eq_true rfl, hc20_2⟩⟩, N0, (Keep.refl h0 [p2])⟩
  · obtain ⟨cl4, Ar4, q4, S4, N4, H4, G4⟩ := id Ad
    have hin4 : ¬ ((0 : Int32) < 0 ∨ cl4.slots.size ≤ ((0 : Int32)).toNatClampNeg) := inb_of S4 ⟨by decide, by decide⟩
    obtain ⟨T5, h5, X5, e5, W5, st5⟩ := stB X0 hx hZ e0 Ar4 (j := (0 : Int32)) hin4 (g := (mkF m 31 #[.val (.ref p0), .val (.int (0 : Int32)), .val (.ref p2), .val (.int (0 : Int32)), .val (.int (6 : Int32)), .val (.int (0 : Int32)), .val (.int c0)] [(.int (c0.toInt8.toInt32)), (.int (0 : Int32)), (.ref p2)])) rfl rfl (hb hby d13_31)
    have N5 := Fr.snoc X5 N0 g2
    have K5 := (Keep.refl h0 [p2]).wr W5 (Or.inl (List.mem_of_getElem? (i := 0) rfl))
    have V5 : Arv Z h5 p2 kd .byte (6 : Int32) [(.int (own_b c0)), (.int (0 : Int32)), (.int (0 : Int32)), (.int (0 : Int32)), (.int (0 : Int32)), (.int (0 : Int32))] (.int (0 : Int32)) := Arv.set Ar4 q4 S4 N4 H4 G4 (fits_nar_byte _) W5 0 rfl (Nat.le_of_ble_eq_true rfl)
    have f6 := (As.other W5 hne)
    obtain ⟨cl7, Ar7, q7, S7, N7, H7, G7⟩ := id f6
    have hin7 : ¬ ((1 : Int32) < 0 ∨ cl7.slots.size ≤ ((1 : Int32)).toNatClampNeg) := inb_of S7 ⟨by decide, by decide⟩
    have hat7 : cl7.slots[((1 : Int32)).toNatClampNeg]? = some (.int c1) := Has.at H7 hin7 rfl
    have pre9 : ∀ t, Steps p.tables e below (T5.setTop (mkF m 20 #[.val (.ref p0), .val (.int (1 : Int32)), .val (.ref p2), .val (.int (1 : Int32)), .val (.int (6 : Int32)), .val (.int (1 : Int32)), .val (.int c1)] [(.int (255 : Int32)), (.int c1)])) t → Steps p.tables e below (s₁.setTop (entryFrame m #[(.ref p0), (.int (0 : Int32)), (.ref p2), (.int (0 : Int32)), (.int (6 : Int32))] 7)) t := fun t kt => pre3 t (by
      show Steps p.tables e below (s₁.setTop (mkF m 20 #[.val (.ref p0), .val (.int (0 : Int32)), .val (.ref p2), .val (.int (0 : Int32)), .val (.int (6 : Int32)), .val (.int (0 : Int32)), .val (.int c0)] [(.int (255 : Int32)), (.int c0)])) _
      refine XS.icmpYes X0.here hx rfl (pc0 := 20) (pc' := 26) rfl (hb hby d13_20) rfl (flt hc20_2).2.2.2 (by decide) (by decide) ?_
      refine XS.aloadN X0.here hx rfl (hb hby d13_26) rfl rfl ?_
      refine XS.iloadN X0.here hx rfl (hb hby d13_27) rfl  ?_
      show Steps p.tables e below (s₁.setTop (mkF m 28 #[.val (.ref p0), .val (.int (0 : Int32)), .val (.ref p2), .val (.int (0 : Int32)), .val (.int (6 : Int32)), .val (.int (0 : Int32)), .val (.int c0)] [(.int (0 : Int32)), (.ref p2)])) _
      refine XS.iload X0.here hx rfl (hb hby d13_28) rfl  ?_
      refine XS.i2b X0.here hx rfl (hb hby d13_30) rfl ?_
      show Steps p.tables e below (s₁.setTop (mkF m 31 #[.val (.ref p0), .val (.int (0 : Int32)), .val (.ref p2), .val (.int (0 : Int32)), .val (.int (6 : Int32)), .val (.int (0 : Int32)), .val (.int c0)] [(.int (c0.toInt8.toInt32)), (.int (0 : Int32)), (.ref p2)])) _
      refine st5 _ ?_
      show Steps p.tables e below (T5.setTop (mkF m 32 #[.val (.ref p0), .val (.int (0 : Int32)), .val (.ref p2), .val (.int (0 : Int32)), .val (.int (6 : Int32)), .val (.int (0 : Int32)), .val (.int c0)] [])) _
      refine XS.iinc X5.here hx rfl (hb hby d13_32) rfl (l' := #[.val (.ref p0), .val (.int (1 : Int32)), .val (.ref p2), .val (.int (0 : Int32)), .val (.int (6 : Int32)), .val (.int (0 : Int32)), .val (.int c0)]) rfl ?_
      refine XS.iinc X5.here hx rfl (hb hby d13_35) rfl (l' := #[.val (.ref p0), .val (.int (1 : Int32)), .val (.ref p2), .val (.int (1 : Int32)), .val (.int (6 : Int32)), .val (.int (0 : Int32)), .val (.int c0)]) rfl ?_
      refine XS.iinc X5.here hx rfl (hb hby d13_38) rfl (l' := #[.val (.ref p0), .val (.int (1 : Int32)), .val (.ref p2), .val (.int (1 : Int32)), .val (.int (6 : Int32)), .val (.int (1 : Int32)), .val (.int c0)]) rfl ?_
      show Steps p.tables e below (T5.setTop (mkF m 41 #[.val (.ref p0), .val (.int (1 : Int32)), .val (.ref p2), .val (.int (1 : Int32)), .val (.int (6 : Int32)), .val (.int (1 : Int32)), .val (.int c0)] [])) _
      refine XS.goto X5.here hx rfl (pc0 := 41) (pc' := 3) rfl (hb hby d13_41) (by decide) (by decide) ?_
      refine XS.iload X5.here hx rfl (hb hby d13_3) rfl  ?_
      refine XS.iload X5.here hx rfl (hb hby d13_5) rfl  ?_
      show Steps p.tables e below (T5.setTop (mkF m 7 #[.val (.ref p0), .val (.int (1 : Int32)), .val (.ref p2), .val (.int (1 : Int32)), .val (.int (6 : Int32)), .val (.int (1 : Int32)), .val (.int c0)] [(.int (6 : Int32)), (.int (1 : Int32))])) _
      refine XS.icmpNo X5.here hx rfl (hb hby d13_7) rfl (tlt (by decide : (1 : Int32) < (6 : Int32))).2.1 ?_
      refine XS.aloadN X5.here hx rfl (hb hby d13_10) rfl rfl ?_
      refine XS.iloadN X5.here hx rfl (hb hby d13_11) rfl  ?_
      show Steps p.tables e below (T5.setTop (mkF m 12 #[.val (.ref p0), .val (.int (1 : Int32)), .val (.ref p2), .val (.int (1 : Int32)), .val (.int (6 : Int32)), .val (.int (1 : Int32)), .val (.int c0)] [(.int (1 : Int32)), (.ref p0)])) _
      refine X5.caload hx (j := (1 : Int32)) (v := (.int c1)) (by rw [e5]; exact Ar7.1) (State.isArrayOf_alike hZ.alike Ar7.2.1) Ar7.2.2 hin7 hat7 (g := (mkF m 12 #[.val (.ref p0), .val (.int (1 : Int32)), .val (.ref p2), .val (.int (1 : Int32)), .val (.int (6 : Int32)), .val (.int (1 : Int32)), .val (.int c0)] [(.int (1 : Int32)), (.ref p0)])) rfl rfl (hb hby d13_12) _ ?_
      show Steps p.tables e below (T5.setTop (mkF m 13 #[.val (.ref p0), .val (.int (1 : Int32)), .val (.ref p2), .val (.int (1 : Int32)), .val (.int (6 : Int32)), .val (.int (1 : Int32)), .val (.int c0)] [(.int c1)])) _
      refine XS.istore X5.here hx rfl (hb hby d13_13) rfl (l' := #[.val (.ref p0), .val (.int (1 : Int32)), .val (.ref p2), .val (.int (1 : Int32)), .val (.int (6 : Int32)), .val (.int (1 : Int32)), .val (.int c1)]) rfl ?_
      refine XS.iload X5.here hx rfl (hb hby d13_15) rfl  ?_
      refine XS.sipush X5.here hx rfl (hb hby d13_17) ?_
      exact kt)
    by_cases hc20_8 : (255 : Int32) < c1
    · obtain ⟨fs, hr, hrun, hended, hW, hsame⟩ := X5.leave (v := some (.int (1 : Int32))) (fun h => by rw [Bd.returns] at h; cases h)
      refine ⟨_, _, pre9 _ ?_, hrun, hended, _, _, rfl, ?_, ⟨_, rfl⟩, hW, hsame.mono (by decide) (by decide)⟩
      · show Steps p.tables e below (T5.setTop (mkF m 20 #[.val (.ref p0), .val (.int (1 : Int32)), .val (.ref p2), .val (.int (1 : Int32)), .val (.int (6 : Int32)), .val (.int (1 : Int32)), .val (.int c1)] [(.int (255 : Int32)), (.int c1)])) _
        refine XS.icmpNo X5.here hx rfl (hb hby d13_20) rfl (tlt hc20_8).2.2.2 ?_
        refine XS.iload X5.here hx rfl (hb hby d13_23) rfl  ?_
        show Steps p.tables e below (T5.setTop (mkF m 25 #[.val (.ref p0), .val (.int (1 : Int32)), .val (.ref p2), .val (.int (1 : Int32)), .val (.int (6 : Int32)), .val (.int (1 : Int32)), .val (.int c1)] [(.int (1 : Int32))])) _
        exact retI X5 hx Bd.returns (hb hby d13_25) hr
      · show Q_rmCmp6 Z p0 p2 zc fm ks kd c0 c1 c2 c3 c4 c5 h0 n0 _ T5.heap _
        rw [e5]
        exact ⟨⟨_, rfl, Or.inr ⟨1, rfl, Nat.le_of_ble_eq_true rfl, hc20_8⟩⟩, N5, K5⟩
    · obtain ⟨cl10, Ar10, q10, S10, N10, H10, G10⟩ := id V5
      have hin10 : ¬ ((1 : Int32) < 0 ∨ cl10.slots.size ≤ ((1 : Int32)).toNatClampNeg) := inb_of S10 ⟨by decide, by decide⟩
      obtain ⟨T11, h11, X11, e11, W11, st11⟩ := stB X5 hx hZ e5 Ar10 (j := (1 : Int32)) hin10 (g := (mkF m 31 #[.val (.ref p0), .val (.int (1 : Int32)), .val (.ref p2), .val (.int (1 : Int32)), .val (.int (6 : Int32)), .val (.int (1 : Int32)), .val (.int c1)] [(.int (c1.toInt8.toInt32)), (.int (1 : Int32)), (.ref p2)])) rfl rfl (hb hby d13_31)
      have N11 := Fr.snoc X11 N5 g2
      have K11 := K5.wr W11 (Or.inl (List.mem_of_getElem? (i := 0) rfl))
      have V11 : Arv Z h11 p2 kd .byte (6 : Int32) [(.int (own_b c0)), (.int (own_b c1)), (.int (0 : Int32)), (.int (0 : Int32)), (.int (0 : Int32)), (.int (0 : Int32))] (.int (0 : Int32)) := Arv.set Ar10 q10 S10 N10 H10 G10 (fits_nar_byte _) W11 1 rfl (Nat.le_of_ble_eq_true rfl)
      have f12 := (f6.other W11 hne)
      obtain ⟨cl13, Ar13, q13, S13, N13, H13, G13⟩ := id f12
      have hin13 : ¬ ((2 : Int32) < 0 ∨ cl13.slots.size ≤ ((2 : Int32)).toNatClampNeg) := inb_of S13 ⟨by decide, by decide⟩
      have hat13 : cl13.slots[((2 : Int32)).toNatClampNeg]? = some (.int c2) := Has.at H13 hin13 rfl
      have pre15 : ∀ t, Steps p.tables e below (T11.setTop (mkF m 20 #[.val (.ref p0), .val (.int (2 : Int32)), .val (.ref p2), .val (.int (2 : Int32)), .val (.int (6 : Int32)), .val (.int (2 : Int32)), .val (.int c2)] [(.int (255 : Int32)), (.int c2)])) t → Steps p.tables e below (s₁.setTop (entryFrame m #[(.ref p0), (.int (0 : Int32)), (.ref p2), (.int (0 : Int32)), (.int (6 : Int32))] 7)) t := fun t kt => pre9 t (by
        show Steps p.tables e below (T5.setTop (mkF m 20 #[.val (.ref p0), .val (.int (1 : Int32)), .val (.ref p2), .val (.int (1 : Int32)), .val (.int (6 : Int32)), .val (.int (1 : Int32)), .val (.int c1)] [(.int (255 : Int32)), (.int c1)])) _
        refine XS.icmpYes X5.here hx rfl (pc0 := 20) (pc' := 26) rfl (hb hby d13_20) rfl (flt hc20_8).2.2.2 (by decide) (by decide) ?_
        refine XS.aloadN X5.here hx rfl (hb hby d13_26) rfl rfl ?_
        refine XS.iloadN X5.here hx rfl (hb hby d13_27) rfl  ?_
        show Steps p.tables e below (T5.setTop (mkF m 28 #[.val (.ref p0), .val (.int (1 : Int32)), .val (.ref p2), .val (.int (1 : Int32)), .val (.int (6 : Int32)), .val (.int (1 : Int32)), .val (.int c1)] [(.int (1 : Int32)), (.ref p2)])) _
        refine XS.iload X5.here hx rfl (hb hby d13_28) rfl  ?_
        refine XS.i2b X5.here hx rfl (hb hby d13_30) rfl ?_
        show Steps p.tables e below (T5.setTop (mkF m 31 #[.val (.ref p0), .val (.int (1 : Int32)), .val (.ref p2), .val (.int (1 : Int32)), .val (.int (6 : Int32)), .val (.int (1 : Int32)), .val (.int c1)] [(.int (c1.toInt8.toInt32)), (.int (1 : Int32)), (.ref p2)])) _
        refine st11 _ ?_
        show Steps p.tables e below (T11.setTop (mkF m 32 #[.val (.ref p0), .val (.int (1 : Int32)), .val (.ref p2), .val (.int (1 : Int32)), .val (.int (6 : Int32)), .val (.int (1 : Int32)), .val (.int c1)] [])) _
        refine XS.iinc X11.here hx rfl (hb hby d13_32) rfl (l' := #[.val (.ref p0), .val (.int (2 : Int32)), .val (.ref p2), .val (.int (1 : Int32)), .val (.int (6 : Int32)), .val (.int (1 : Int32)), .val (.int c1)]) rfl ?_
        refine XS.iinc X11.here hx rfl (hb hby d13_35) rfl (l' := #[.val (.ref p0), .val (.int (2 : Int32)), .val (.ref p2), .val (.int (2 : Int32)), .val (.int (6 : Int32)), .val (.int (1 : Int32)), .val (.int c1)]) rfl ?_
        refine XS.iinc X11.here hx rfl (hb hby d13_38) rfl (l' := #[.val (.ref p0), .val (.int (2 : Int32)), .val (.ref p2), .val (.int (2 : Int32)), .val (.int (6 : Int32)), .val (.int (2 : Int32)), .val (.int c1)]) rfl ?_
        show Steps p.tables e below (T11.setTop (mkF m 41 #[.val (.ref p0), .val (.int (2 : Int32)), .val (.ref p2), .val (.int (2 : Int32)), .val (.int (6 : Int32)), .val (.int (2 : Int32)), .val (.int c1)] [])) _
        refine XS.goto X11.here hx rfl (pc0 := 41) (pc' := 3) rfl (hb hby d13_41) (by decide) (by decide) ?_
        refine XS.iload X11.here hx rfl (hb hby d13_3) rfl  ?_
        refine XS.iload X11.here hx rfl (hb hby d13_5) rfl  ?_
        show Steps p.tables e below (T11.setTop (mkF m 7 #[.val (.ref p0), .val (.int (2 : Int32)), .val (.ref p2), .val (.int (2 : Int32)), .val (.int (6 : Int32)), .val (.int (2 : Int32)), .val (.int c1)] [(.int (6 : Int32)), (.int (2 : Int32))])) _
        refine XS.icmpNo X11.here hx rfl (hb hby d13_7) rfl (tlt (by decide : (2 : Int32) < (6 : Int32))).2.1 ?_
        refine XS.aloadN X11.here hx rfl (hb hby d13_10) rfl rfl ?_
        refine XS.iloadN X11.here hx rfl (hb hby d13_11) rfl  ?_
        show Steps p.tables e below (T11.setTop (mkF m 12 #[.val (.ref p0), .val (.int (2 : Int32)), .val (.ref p2), .val (.int (2 : Int32)), .val (.int (6 : Int32)), .val (.int (2 : Int32)), .val (.int c1)] [(.int (2 : Int32)), (.ref p0)])) _
        refine X11.caload hx (j := (2 : Int32)) (v := (.int c2)) (by rw [e11]; exact Ar13.1) (State.isArrayOf_alike hZ.alike Ar13.2.1) Ar13.2.2 hin13 hat13 (g := (mkF m 12 #[.val (.ref p0), .val (.int (2 : Int32)), .val (.ref p2), .val (.int (2 : Int32)), .val (.int (6 : Int32)), .val (.int (2 : Int32)), .val (.int c1)] [(.int (2 : Int32)), (.ref p0)])) rfl rfl (hb hby d13_12) _ ?_
        show Steps p.tables e below (T11.setTop (mkF m 13 #[.val (.ref p0), .val (.int (2 : Int32)), .val (.ref p2), .val (.int (2 : Int32)), .val (.int (6 : Int32)), .val (.int (2 : Int32)), .val (.int c1)] [(.int c2)])) _
        refine XS.istore X11.here hx rfl (hb hby d13_13) rfl (l' := #[.val (.ref p0), .val (.int (2 : Int32)), .val (.ref p2), .val (.int (2 : Int32)), .val (.int (6 : Int32)), .val (.int (2 : Int32)), .val (.int c2)]) rfl ?_
        refine XS.iload X11.here hx rfl (hb hby d13_15) rfl  ?_
        refine XS.sipush X11.here hx rfl (hb hby d13_17) ?_
        exact kt)
      by_cases hc20_14 : (255 : Int32) < c2
      · obtain ⟨fs, hr, hrun, hended, hW, hsame⟩ := X11.leave (v := some (.int (2 : Int32))) (fun h => by rw [Bd.returns] at h; cases h)
        refine ⟨_, _, pre15 _ ?_, hrun, hended, _, _, rfl, ?_, ⟨_, rfl⟩, hW, hsame.mono (by decide) (by decide)⟩
        · show Steps p.tables e below (T11.setTop (mkF m 20 #[.val (.ref p0), .val (.int (2 : Int32)), .val (.ref p2), .val (.int (2 : Int32)), .val (.int (6 : Int32)), .val (.int (2 : Int32)), .val (.int c2)] [(.int (255 : Int32)), (.int c2)])) _
          refine XS.icmpNo X11.here hx rfl (hb hby d13_20) rfl (tlt hc20_14).2.2.2 ?_
          refine XS.iload X11.here hx rfl (hb hby d13_23) rfl  ?_
          show Steps p.tables e below (T11.setTop (mkF m 25 #[.val (.ref p0), .val (.int (2 : Int32)), .val (.ref p2), .val (.int (2 : Int32)), .val (.int (6 : Int32)), .val (.int (2 : Int32)), .val (.int c2)] [(.int (2 : Int32))])) _
          exact retI X11 hx Bd.returns (hb hby d13_25) hr
        · show Q_rmCmp6 Z p0 p2 zc fm ks kd c0 c1 c2 c3 c4 c5 h0 n0 _ T11.heap _
          rw [e11]
          exact ⟨⟨_, rfl, Or.inr ⟨2, rfl, Nat.le_of_ble_eq_true rfl, hc20_14⟩⟩, N11, K11⟩
      · obtain ⟨cl16, Ar16, q16, S16, N16, H16, G16⟩ := id V11
        have hin16 : ¬ ((2 : Int32) < 0 ∨ cl16.slots.size ≤ ((2 : Int32)).toNatClampNeg) := inb_of S16 ⟨by decide, by decide⟩
        obtain ⟨T17, h17, X17, e17, W17, st17⟩ := stB X11 hx hZ e11 Ar16 (j := (2 : Int32)) hin16 (g := (mkF m 31 #[.val (.ref p0), .val (.int (2 : Int32)), .val (.ref p2), .val (.int (2 : Int32)), .val (.int (6 : Int32)), .val (.int (2 : Int32)), .val (.int c2)] [(.int (c2.toInt8.toInt32)), (.int (2 : Int32)), (.ref p2)])) rfl rfl (hb hby d13_31)
        have N17 := Fr.snoc X17 N11 g2
        have K17 := K11.wr W17 (Or.inl (List.mem_of_getElem? (i := 0) rfl))
        have V17 : Arv Z h17 p2 kd .byte (6 : Int32) [(.int (own_b c0)), (.int (own_b c1)), (.int (own_b c2)), (.int (0 : Int32)), (.int (0 : Int32)), (.int (0 : Int32))] (.int (0 : Int32)) := Arv.set Ar16 q16 S16 N16 H16 G16 (fits_nar_byte _) W17 2 rfl (Nat.le_of_ble_eq_true rfl)
        have f18 := (f12.other W17 hne)
        obtain ⟨cl19, Ar19, q19, S19, N19, H19, G19⟩ := id f18
        have hin19 : ¬ ((3 : Int32) < 0 ∨ cl19.slots.size ≤ ((3 : Int32)).toNatClampNeg) := inb_of S19 ⟨by decide, by decide⟩
        have hat19 : cl19.slots[((3 : Int32)).toNatClampNeg]? = some (.int c3) := Has.at H19 hin19 rfl
        have pre21 : ∀ t, Steps p.tables e below (T17.setTop (mkF m 20 #[.val (.ref p0), .val (.int (3 : Int32)), .val (.ref p2), .val (.int (3 : Int32)), .val (.int (6 : Int32)), .val (.int (3 : Int32)), .val (.int c3)] [(.int (255 : Int32)), (.int c3)])) t → Steps p.tables e below (s₁.setTop (entryFrame m #[(.ref p0), (.int (0 : Int32)), (.ref p2), (.int (0 : Int32)), (.int (6 : Int32))] 7)) t := fun t kt => pre15 t (by
          show Steps p.tables e below (T11.setTop (mkF m 20 #[.val (.ref p0), .val (.int (2 : Int32)), .val (.ref p2), .val (.int (2 : Int32)), .val (.int (6 : Int32)), .val (.int (2 : Int32)), .val (.int c2)] [(.int (255 : Int32)), (.int c2)])) _
          refine XS.icmpYes X11.here hx rfl (pc0 := 20) (pc' := 26) rfl (hb hby d13_20) rfl (flt hc20_14).2.2.2 (by decide) (by decide) ?_
          refine XS.aloadN X11.here hx rfl (hb hby d13_26) rfl rfl ?_
          refine XS.iloadN X11.here hx rfl (hb hby d13_27) rfl  ?_
          show Steps p.tables e below (T11.setTop (mkF m 28 #[.val (.ref p0), .val (.int (2 : Int32)), .val (.ref p2), .val (.int (2 : Int32)), .val (.int (6 : Int32)), .val (.int (2 : Int32)), .val (.int c2)] [(.int (2 : Int32)), (.ref p2)])) _
          refine XS.iload X11.here hx rfl (hb hby d13_28) rfl  ?_
          refine XS.i2b X11.here hx rfl (hb hby d13_30) rfl ?_
          show Steps p.tables e below (T11.setTop (mkF m 31 #[.val (.ref p0), .val (.int (2 : Int32)), .val (.ref p2), .val (.int (2 : Int32)), .val (.int (6 : Int32)), .val (.int (2 : Int32)), .val (.int c2)] [(.int (c2.toInt8.toInt32)), (.int (2 : Int32)), (.ref p2)])) _
          refine st17 _ ?_
          show Steps p.tables e below (T17.setTop (mkF m 32 #[.val (.ref p0), .val (.int (2 : Int32)), .val (.ref p2), .val (.int (2 : Int32)), .val (.int (6 : Int32)), .val (.int (2 : Int32)), .val (.int c2)] [])) _
          refine XS.iinc X17.here hx rfl (hb hby d13_32) rfl (l' := #[.val (.ref p0), .val (.int (3 : Int32)), .val (.ref p2), .val (.int (2 : Int32)), .val (.int (6 : Int32)), .val (.int (2 : Int32)), .val (.int c2)]) rfl ?_
          refine XS.iinc X17.here hx rfl (hb hby d13_35) rfl (l' := #[.val (.ref p0), .val (.int (3 : Int32)), .val (.ref p2), .val (.int (3 : Int32)), .val (.int (6 : Int32)), .val (.int (2 : Int32)), .val (.int c2)]) rfl ?_
          refine XS.iinc X17.here hx rfl (hb hby d13_38) rfl (l' := #[.val (.ref p0), .val (.int (3 : Int32)), .val (.ref p2), .val (.int (3 : Int32)), .val (.int (6 : Int32)), .val (.int (3 : Int32)), .val (.int c2)]) rfl ?_
          show Steps p.tables e below (T17.setTop (mkF m 41 #[.val (.ref p0), .val (.int (3 : Int32)), .val (.ref p2), .val (.int (3 : Int32)), .val (.int (6 : Int32)), .val (.int (3 : Int32)), .val (.int c2)] [])) _
          refine XS.goto X17.here hx rfl (pc0 := 41) (pc' := 3) rfl (hb hby d13_41) (by decide) (by decide) ?_
          refine XS.iload X17.here hx rfl (hb hby d13_3) rfl  ?_
          refine XS.iload X17.here hx rfl (hb hby d13_5) rfl  ?_
          show Steps p.tables e below (T17.setTop (mkF m 7 #[.val (.ref p0), .val (.int (3 : Int32)), .val (.ref p2), .val (.int (3 : Int32)), .val (.int (6 : Int32)), .val (.int (3 : Int32)), .val (.int c2)] [(.int (6 : Int32)), (.int (3 : Int32))])) _
          refine XS.icmpNo X17.here hx rfl (hb hby d13_7) rfl (tlt (by decide : (3 : Int32) < (6 : Int32))).2.1 ?_
          refine XS.aloadN X17.here hx rfl (hb hby d13_10) rfl rfl ?_
          refine XS.iloadN X17.here hx rfl (hb hby d13_11) rfl  ?_
          show Steps p.tables e below (T17.setTop (mkF m 12 #[.val (.ref p0), .val (.int (3 : Int32)), .val (.ref p2), .val (.int (3 : Int32)), .val (.int (6 : Int32)), .val (.int (3 : Int32)), .val (.int c2)] [(.int (3 : Int32)), (.ref p0)])) _
          refine X17.caload hx (j := (3 : Int32)) (v := (.int c3)) (by rw [e17]; exact Ar19.1) (State.isArrayOf_alike hZ.alike Ar19.2.1) Ar19.2.2 hin19 hat19 (g := (mkF m 12 #[.val (.ref p0), .val (.int (3 : Int32)), .val (.ref p2), .val (.int (3 : Int32)), .val (.int (6 : Int32)), .val (.int (3 : Int32)), .val (.int c2)] [(.int (3 : Int32)), (.ref p0)])) rfl rfl (hb hby d13_12) _ ?_
          show Steps p.tables e below (T17.setTop (mkF m 13 #[.val (.ref p0), .val (.int (3 : Int32)), .val (.ref p2), .val (.int (3 : Int32)), .val (.int (6 : Int32)), .val (.int (3 : Int32)), .val (.int c2)] [(.int c3)])) _
          refine XS.istore X17.here hx rfl (hb hby d13_13) rfl (l' := #[.val (.ref p0), .val (.int (3 : Int32)), .val (.ref p2), .val (.int (3 : Int32)), .val (.int (6 : Int32)), .val (.int (3 : Int32)), .val (.int c3)]) rfl ?_
          refine XS.iload X17.here hx rfl (hb hby d13_15) rfl  ?_
          refine XS.sipush X17.here hx rfl (hb hby d13_17) ?_
          exact kt)
        by_cases hc20_20 : (255 : Int32) < c3
        · obtain ⟨fs, hr, hrun, hended, hW, hsame⟩ := X17.leave (v := some (.int (3 : Int32))) (fun h => by rw [Bd.returns] at h; cases h)
          refine ⟨_, _, pre21 _ ?_, hrun, hended, _, _, rfl, ?_, ⟨_, rfl⟩, hW, hsame.mono (by decide) (by decide)⟩
          · show Steps p.tables e below (T17.setTop (mkF m 20 #[.val (.ref p0), .val (.int (3 : Int32)), .val (.ref p2), .val (.int (3 : Int32)), .val (.int (6 : Int32)), .val (.int (3 : Int32)), .val (.int c3)] [(.int (255 : Int32)), (.int c3)])) _
            refine XS.icmpNo X17.here hx rfl (hb hby d13_20) rfl (tlt hc20_20).2.2.2 ?_
            refine XS.iload X17.here hx rfl (hb hby d13_23) rfl  ?_
            show Steps p.tables e below (T17.setTop (mkF m 25 #[.val (.ref p0), .val (.int (3 : Int32)), .val (.ref p2), .val (.int (3 : Int32)), .val (.int (6 : Int32)), .val (.int (3 : Int32)), .val (.int c3)] [(.int (3 : Int32))])) _
            exact retI X17 hx Bd.returns (hb hby d13_25) hr
          · show Q_rmCmp6 Z p0 p2 zc fm ks kd c0 c1 c2 c3 c4 c5 h0 n0 _ T17.heap _
            rw [e17]
            exact ⟨⟨_, rfl, Or.inr ⟨3, rfl, Nat.le_of_ble_eq_true rfl, hc20_20⟩⟩, N17, K17⟩
        · obtain ⟨cl22, Ar22, q22, S22, N22, H22, G22⟩ := id V17
          have hin22 : ¬ ((3 : Int32) < 0 ∨ cl22.slots.size ≤ ((3 : Int32)).toNatClampNeg) := inb_of S22 ⟨by decide, by decide⟩
          obtain ⟨T23, h23, X23, e23, W23, st23⟩ := stB X17 hx hZ e17 Ar22 (j := (3 : Int32)) hin22 (g := (mkF m 31 #[.val (.ref p0), .val (.int (3 : Int32)), .val (.ref p2), .val (.int (3 : Int32)), .val (.int (6 : Int32)), .val (.int (3 : Int32)), .val (.int c3)] [(.int (c3.toInt8.toInt32)), (.int (3 : Int32)), (.ref p2)])) rfl rfl (hb hby d13_31)
          have N23 := Fr.snoc X23 N17 g2
          have K23 := K17.wr W23 (Or.inl (List.mem_of_getElem? (i := 0) rfl))
          have V23 : Arv Z h23 p2 kd .byte (6 : Int32) [(.int (own_b c0)), (.int (own_b c1)), (.int (own_b c2)), (.int (own_b c3)), (.int (0 : Int32)), (.int (0 : Int32))] (.int (0 : Int32)) := Arv.set Ar22 q22 S22 N22 H22 G22 (fits_nar_byte _) W23 3 rfl (Nat.le_of_ble_eq_true rfl)
          have f24 := (f18.other W23 hne)
          obtain ⟨cl25, Ar25, q25, S25, N25, H25, G25⟩ := id f24
          have hin25 : ¬ ((4 : Int32) < 0 ∨ cl25.slots.size ≤ ((4 : Int32)).toNatClampNeg) := inb_of S25 ⟨by decide, by decide⟩
          have hat25 : cl25.slots[((4 : Int32)).toNatClampNeg]? = some (.int c4) := Has.at H25 hin25 rfl
          have pre27 : ∀ t, Steps p.tables e below (T23.setTop (mkF m 20 #[.val (.ref p0), .val (.int (4 : Int32)), .val (.ref p2), .val (.int (4 : Int32)), .val (.int (6 : Int32)), .val (.int (4 : Int32)), .val (.int c4)] [(.int (255 : Int32)), (.int c4)])) t → Steps p.tables e below (s₁.setTop (entryFrame m #[(.ref p0), (.int (0 : Int32)), (.ref p2), (.int (0 : Int32)), (.int (6 : Int32))] 7)) t := fun t kt => pre21 t (by
            show Steps p.tables e below (T17.setTop (mkF m 20 #[.val (.ref p0), .val (.int (3 : Int32)), .val (.ref p2), .val (.int (3 : Int32)), .val (.int (6 : Int32)), .val (.int (3 : Int32)), .val (.int c3)] [(.int (255 : Int32)), (.int c3)])) _
            refine XS.icmpYes X17.here hx rfl (pc0 := 20) (pc' := 26) rfl (hb hby d13_20) rfl (flt hc20_20).2.2.2 (by decide) (by decide) ?_
            refine XS.aloadN X17.here hx rfl (hb hby d13_26) rfl rfl ?_
            refine XS.iloadN X17.here hx rfl (hb hby d13_27) rfl  ?_
            show Steps p.tables e below (T17.setTop (mkF m 28 #[.val (.ref p0), .val (.int (3 : Int32)), .val (.ref p2), .val (.int (3 : Int32)), .val (.int (6 : Int32)), .val (.int (3 : Int32)), .val (.int c3)] [(.int (3 : Int32)), (.ref p2)])) _
            refine XS.iload X17.here hx rfl (hb hby d13_28) rfl  ?_
            refine XS.i2b X17.here hx rfl (hb hby d13_30) rfl ?_
            show Steps p.tables e below (T17.setTop (mkF m 31 #[.val (.ref p0), .val (.int (3 : Int32)), .val (.ref p2), .val (.int (3 : Int32)), .val (.int (6 : Int32)), .val (.int (3 : Int32)), .val (.int c3)] [(.int (c3.toInt8.toInt32)), (.int (3 : Int32)), (.ref p2)])) _
            refine st23 _ ?_
            show Steps p.tables e below (T23.setTop (mkF m 32 #[.val (.ref p0), .val (.int (3 : Int32)), .val (.ref p2), .val (.int (3 : Int32)), .val (.int (6 : Int32)), .val (.int (3 : Int32)), .val (.int c3)] [])) _
            refine XS.iinc X23.here hx rfl (hb hby d13_32) rfl (l' := #[.val (.ref p0), .val (.int (4 : Int32)), .val (.ref p2), .val (.int (3 : Int32)), .val (.int (6 : Int32)), .val (.int (3 : Int32)), .val (.int c3)]) rfl ?_
            refine XS.iinc X23.here hx rfl (hb hby d13_35) rfl (l' := #[.val (.ref p0), .val (.int (4 : Int32)), .val (.ref p2), .val (.int (4 : Int32)), .val (.int (6 : Int32)), .val (.int (3 : Int32)), .val (.int c3)]) rfl ?_
            refine XS.iinc X23.here hx rfl (hb hby d13_38) rfl (l' := #[.val (.ref p0), .val (.int (4 : Int32)), .val (.ref p2), .val (.int (4 : Int32)), .val (.int (6 : Int32)), .val (.int (4 : Int32)), .val (.int c3)]) rfl ?_
            show Steps p.tables e below (T23.setTop (mkF m 41 #[.val (.ref p0), .val (.int (4 : Int32)), .val (.ref p2), .val (.int (4 : Int32)), .val (.int (6 : Int32)), .val (.int (4 : Int32)), .val (.int c3)] [])) _
            refine XS.goto X23.here hx rfl (pc0 := 41) (pc' := 3) rfl (hb hby d13_41) (by decide) (by decide) ?_
            refine XS.iload X23.here hx rfl (hb hby d13_3) rfl  ?_
            refine XS.iload X23.here hx rfl (hb hby d13_5) rfl  ?_
            show Steps p.tables e below (T23.setTop (mkF m 7 #[.val (.ref p0), .val (.int (4 : Int32)), .val (.ref p2), .val (.int (4 : Int32)), .val (.int (6 : Int32)), .val (.int (4 : Int32)), .val (.int c3)] [(.int (6 : Int32)), (.int (4 : Int32))])) _
            refine XS.icmpNo X23.here hx rfl (hb hby d13_7) rfl (tlt (by decide : (4 : Int32) < (6 : Int32))).2.1 ?_
            refine XS.aloadN X23.here hx rfl (hb hby d13_10) rfl rfl ?_
            refine XS.iloadN X23.here hx rfl (hb hby d13_11) rfl  ?_
            show Steps p.tables e below (T23.setTop (mkF m 12 #[.val (.ref p0), .val (.int (4 : Int32)), .val (.ref p2), .val (.int (4 : Int32)), .val (.int (6 : Int32)), .val (.int (4 : Int32)), .val (.int c3)] [(.int (4 : Int32)), (.ref p0)])) _
            refine X23.caload hx (j := (4 : Int32)) (v := (.int c4)) (by rw [e23]; exact Ar25.1) (State.isArrayOf_alike hZ.alike Ar25.2.1) Ar25.2.2 hin25 hat25 (g := (mkF m 12 #[.val (.ref p0), .val (.int (4 : Int32)), .val (.ref p2), .val (.int (4 : Int32)), .val (.int (6 : Int32)), .val (.int (4 : Int32)), .val (.int c3)] [(.int (4 : Int32)), (.ref p0)])) rfl rfl (hb hby d13_12) _ ?_
            show Steps p.tables e below (T23.setTop (mkF m 13 #[.val (.ref p0), .val (.int (4 : Int32)), .val (.ref p2), .val (.int (4 : Int32)), .val (.int (6 : Int32)), .val (.int (4 : Int32)), .val (.int c3)] [(.int c4)])) _
            refine XS.istore X23.here hx rfl (hb hby d13_13) rfl (l' := #[.val (.ref p0), .val (.int (4 : Int32)), .val (.ref p2), .val (.int (4 : Int32)), .val (.int (6 : Int32)), .val (.int (4 : Int32)), .val (.int c4)]) rfl ?_
            refine XS.iload X23.here hx rfl (hb hby d13_15) rfl  ?_
            refine XS.sipush X23.here hx rfl (hb hby d13_17) ?_
            exact kt)
          by_cases hc20_26 : (255 : Int32) < c4
          · obtain ⟨fs, hr, hrun, hended, hW, hsame⟩ := X23.leave (v := some (.int (4 : Int32))) (fun h => by rw [Bd.returns] at h; cases h)
            refine ⟨_, _, pre27 _ ?_, hrun, hended, _, _, rfl, ?_, ⟨_, rfl⟩, hW, hsame.mono (by decide) (by decide)⟩
            · show Steps p.tables e below (T23.setTop (mkF m 20 #[.val (.ref p0), .val (.int (4 : Int32)), .val (.ref p2), .val (.int (4 : Int32)), .val (.int (6 : Int32)), .val (.int (4 : Int32)), .val (.int c4)] [(.int (255 : Int32)), (.int c4)])) _
              refine XS.icmpNo X23.here hx rfl (hb hby d13_20) rfl (tlt hc20_26).2.2.2 ?_
              refine XS.iload X23.here hx rfl (hb hby d13_23) rfl  ?_
              show Steps p.tables e below (T23.setTop (mkF m 25 #[.val (.ref p0), .val (.int (4 : Int32)), .val (.ref p2), .val (.int (4 : Int32)), .val (.int (6 : Int32)), .val (.int (4 : Int32)), .val (.int c4)] [(.int (4 : Int32))])) _
              exact retI X23 hx Bd.returns (hb hby d13_25) hr
            · show Q_rmCmp6 Z p0 p2 zc fm ks kd c0 c1 c2 c3 c4 c5 h0 n0 _ T23.heap _
              rw [e23]
              exact ⟨⟨_, rfl, Or.inr ⟨4, rfl, Nat.le_of_ble_eq_true rfl, hc20_26⟩⟩, N23, K23⟩
          · obtain ⟨cl28, Ar28, q28, S28, N28, H28, G28⟩ := id V23
            have hin28 : ¬ ((4 : Int32) < 0 ∨ cl28.slots.size ≤ ((4 : Int32)).toNatClampNeg) := inb_of S28 ⟨by decide, by decide⟩
            obtain ⟨T29, h29, X29, e29, W29, st29⟩ := stB X23 hx hZ e23 Ar28 (j := (4 : Int32)) hin28 (g := (mkF m 31 #[.val (.ref p0), .val (.int (4 : Int32)), .val (.ref p2), .val (.int (4 : Int32)), .val (.int (6 : Int32)), .val (.int (4 : Int32)), .val (.int c4)] [(.int (c4.toInt8.toInt32)), (.int (4 : Int32)), (.ref p2)])) rfl rfl (hb hby d13_31)
            have N29 := Fr.snoc X29 N23 g2
            have K29 := K23.wr W29 (Or.inl (List.mem_of_getElem? (i := 0) rfl))
            have V29 : Arv Z h29 p2 kd .byte (6 : Int32) [(.int (own_b c0)), (.int (own_b c1)), (.int (own_b c2)), (.int (own_b c3)), (.int (own_b c4)), (.int (0 : Int32))] (.int (0 : Int32)) := Arv.set Ar28 q28 S28 N28 H28 G28 (fits_nar_byte _) W29 4 rfl (Nat.le_of_ble_eq_true rfl)
            have f30 := (f24.other W29 hne)
            obtain ⟨cl31, Ar31, q31, S31, N31, H31, G31⟩ := id f30
            have hin31 : ¬ ((5 : Int32) < 0 ∨ cl31.slots.size ≤ ((5 : Int32)).toNatClampNeg) := inb_of S31 ⟨by decide, by decide⟩
            have hat31 : cl31.slots[((5 : Int32)).toNatClampNeg]? = some (.int c5) := Has.at H31 hin31 rfl
            have pre33 : ∀ t, Steps p.tables e below (T29.setTop (mkF m 20 #[.val (.ref p0), .val (.int (5 : Int32)), .val (.ref p2), .val (.int (5 : Int32)), .val (.int (6 : Int32)), .val (.int (5 : Int32)), .val (.int c5)] [(.int (255 : Int32)), (.int c5)])) t → Steps p.tables e below (s₁.setTop (entryFrame m #[(.ref p0), (.int (0 : Int32)), (.ref p2), (.int (0 : Int32)), (.int (6 : Int32))] 7)) t := fun t kt => pre27 t (by
              show Steps p.tables e below (T23.setTop (mkF m 20 #[.val (.ref p0), .val (.int (4 : Int32)), .val (.ref p2), .val (.int (4 : Int32)), .val (.int (6 : Int32)), .val (.int (4 : Int32)), .val (.int c4)] [(.int (255 : Int32)), (.int c4)])) _
              refine XS.icmpYes X23.here hx rfl (pc0 := 20) (pc' := 26) rfl (hb hby d13_20) rfl (flt hc20_26).2.2.2 (by decide) (by decide) ?_
              refine XS.aloadN X23.here hx rfl (hb hby d13_26) rfl rfl ?_
              refine XS.iloadN X23.here hx rfl (hb hby d13_27) rfl  ?_
              show Steps p.tables e below (T23.setTop (mkF m 28 #[.val (.ref p0), .val (.int (4 : Int32)), .val (.ref p2), .val (.int (4 : Int32)), .val (.int (6 : Int32)), .val (.int (4 : Int32)), .val (.int c4)] [(.int (4 : Int32)), (.ref p2)])) _
              refine XS.iload X23.here hx rfl (hb hby d13_28) rfl  ?_
              refine XS.i2b X23.here hx rfl (hb hby d13_30) rfl ?_
              show Steps p.tables e below (T23.setTop (mkF m 31 #[.val (.ref p0), .val (.int (4 : Int32)), .val (.ref p2), .val (.int (4 : Int32)), .val (.int (6 : Int32)), .val (.int (4 : Int32)), .val (.int c4)] [(.int (c4.toInt8.toInt32)), (.int (4 : Int32)), (.ref p2)])) _
              refine st29 _ ?_
              show Steps p.tables e below (T29.setTop (mkF m 32 #[.val (.ref p0), .val (.int (4 : Int32)), .val (.ref p2), .val (.int (4 : Int32)), .val (.int (6 : Int32)), .val (.int (4 : Int32)), .val (.int c4)] [])) _
              refine XS.iinc X29.here hx rfl (hb hby d13_32) rfl (l' := #[.val (.ref p0), .val (.int (5 : Int32)), .val (.ref p2), .val (.int (4 : Int32)), .val (.int (6 : Int32)), .val (.int (4 : Int32)), .val (.int c4)]) rfl ?_
              refine XS.iinc X29.here hx rfl (hb hby d13_35) rfl (l' := #[.val (.ref p0), .val (.int (5 : Int32)), .val (.ref p2), .val (.int (5 : Int32)), .val (.int (6 : Int32)), .val (.int (4 : Int32)), .val (.int c4)]) rfl ?_
              refine XS.iinc X29.here hx rfl (hb hby d13_38) rfl (l' := #[.val (.ref p0), .val (.int (5 : Int32)), .val (.ref p2), .val (.int (5 : Int32)), .val (.int (6 : Int32)), .val (.int (5 : Int32)), .val (.int c4)]) rfl ?_
              show Steps p.tables e below (T29.setTop (mkF m 41 #[.val (.ref p0), .val (.int (5 : Int32)), .val (.ref p2), .val (.int (5 : Int32)), .val (.int (6 : Int32)), .val (.int (5 : Int32)), .val (.int c4)] [])) _
              refine XS.goto X29.here hx rfl (pc0 := 41) (pc' := 3) rfl (hb hby d13_41) (by decide) (by decide) ?_
              refine XS.iload X29.here hx rfl (hb hby d13_3) rfl  ?_
              refine XS.iload X29.here hx rfl (hb hby d13_5) rfl  ?_
              show Steps p.tables e below (T29.setTop (mkF m 7 #[.val (.ref p0), .val (.int (5 : Int32)), .val (.ref p2), .val (.int (5 : Int32)), .val (.int (6 : Int32)), .val (.int (5 : Int32)), .val (.int c4)] [(.int (6 : Int32)), (.int (5 : Int32))])) _
              refine XS.icmpNo X29.here hx rfl (hb hby d13_7) rfl (tlt (by decide : (5 : Int32) < (6 : Int32))).2.1 ?_
              refine XS.aloadN X29.here hx rfl (hb hby d13_10) rfl rfl ?_
              refine XS.iloadN X29.here hx rfl (hb hby d13_11) rfl  ?_
              show Steps p.tables e below (T29.setTop (mkF m 12 #[.val (.ref p0), .val (.int (5 : Int32)), .val (.ref p2), .val (.int (5 : Int32)), .val (.int (6 : Int32)), .val (.int (5 : Int32)), .val (.int c4)] [(.int (5 : Int32)), (.ref p0)])) _
              refine X29.caload hx (j := (5 : Int32)) (v := (.int c5)) (by rw [e29]; exact Ar31.1) (State.isArrayOf_alike hZ.alike Ar31.2.1) Ar31.2.2 hin31 hat31 (g := (mkF m 12 #[.val (.ref p0), .val (.int (5 : Int32)), .val (.ref p2), .val (.int (5 : Int32)), .val (.int (6 : Int32)), .val (.int (5 : Int32)), .val (.int c4)] [(.int (5 : Int32)), (.ref p0)])) rfl rfl (hb hby d13_12) _ ?_
              show Steps p.tables e below (T29.setTop (mkF m 13 #[.val (.ref p0), .val (.int (5 : Int32)), .val (.ref p2), .val (.int (5 : Int32)), .val (.int (6 : Int32)), .val (.int (5 : Int32)), .val (.int c4)] [(.int c5)])) _
              refine XS.istore X29.here hx rfl (hb hby d13_13) rfl (l' := #[.val (.ref p0), .val (.int (5 : Int32)), .val (.ref p2), .val (.int (5 : Int32)), .val (.int (6 : Int32)), .val (.int (5 : Int32)), .val (.int c5)]) rfl ?_
              refine XS.iload X29.here hx rfl (hb hby d13_15) rfl  ?_
              refine XS.sipush X29.here hx rfl (hb hby d13_17) ?_
              exact kt)
            by_cases hc20_32 : (255 : Int32) < c5
            · obtain ⟨fs, hr, hrun, hended, hW, hsame⟩ := X29.leave (v := some (.int (5 : Int32))) (fun h => by rw [Bd.returns] at h; cases h)
              refine ⟨_, _, pre33 _ ?_, hrun, hended, _, _, rfl, ?_, ⟨_, rfl⟩, hW, hsame.mono (by decide) (by decide)⟩
              · show Steps p.tables e below (T29.setTop (mkF m 20 #[.val (.ref p0), .val (.int (5 : Int32)), .val (.ref p2), .val (.int (5 : Int32)), .val (.int (6 : Int32)), .val (.int (5 : Int32)), .val (.int c5)] [(.int (255 : Int32)), (.int c5)])) _
                refine XS.icmpNo X29.here hx rfl (hb hby d13_20) rfl (tlt hc20_32).2.2.2 ?_
                refine XS.iload X29.here hx rfl (hb hby d13_23) rfl  ?_
                show Steps p.tables e below (T29.setTop (mkF m 25 #[.val (.ref p0), .val (.int (5 : Int32)), .val (.ref p2), .val (.int (5 : Int32)), .val (.int (6 : Int32)), .val (.int (5 : Int32)), .val (.int c5)] [(.int (5 : Int32))])) _
                exact retI X29 hx Bd.returns (hb hby d13_25) hr
              · show Q_rmCmp6 Z p0 p2 zc fm ks kd c0 c1 c2 c3 c4 c5 h0 n0 _ T29.heap _
                rw [e29]
                exact ⟨⟨_, rfl, Or.inr ⟨5, rfl, Nat.le_of_ble_eq_true rfl, hc20_32⟩⟩, N29, K29⟩
            · obtain ⟨cl34, Ar34, q34, S34, N34, H34, G34⟩ := id V29
              have hin34 : ¬ ((5 : Int32) < 0 ∨ cl34.slots.size ≤ ((5 : Int32)).toNatClampNeg) := inb_of S34 ⟨by decide, by decide⟩
              obtain ⟨T35, h35, X35, e35, W35, st35⟩ := stB X29 hx hZ e29 Ar34 (j := (5 : Int32)) hin34 (g := (mkF m 31 #[.val (.ref p0), .val (.int (5 : Int32)), .val (.ref p2), .val (.int (5 : Int32)), .val (.int (6 : Int32)), .val (.int (5 : Int32)), .val (.int c5)] [(.int (c5.toInt8.toInt32)), (.int (5 : Int32)), (.ref p2)])) rfl rfl (hb hby d13_31)
              have N35 := Fr.snoc X35 N29 g2
              have K35 := K29.wr W35 (Or.inl (List.mem_of_getElem? (i := 0) rfl))
              have V35 : Arv Z h35 p2 kd .byte (6 : Int32) [(.int (own_b c0)), (.int (own_b c1)), (.int (own_b c2)), (.int (own_b c3)), (.int (own_b c4)), (.int (own_b c5))] (.int (0 : Int32)) := Arv.set Ar34 q34 S34 N34 H34 G34 (fits_nar_byte _) W35 5 rfl (Nat.le_of_ble_eq_true rfl)
              obtain ⟨fs, hr, hrun, hended, hW, hsame⟩ := X35.leave (v := some (.int (6 : Int32))) (fun h => by rw [Bd.returns] at h; cases h)
              refine ⟨_, _, pre33 _ ?_, hrun, hended, _, _, rfl, ?_, ⟨_, rfl⟩, hW, hsame.mono (by decide) (by decide)⟩
              · show Steps p.tables e below (T29.setTop (mkF m 20 #[.val (.ref p0), .val (.int (5 : Int32)), .val (.ref p2), .val (.int (5 : Int32)), .val (.int (6 : Int32)), .val (.int (5 : Int32)), .val (.int c5)] [(.int (255 : Int32)), (.int c5)])) _
                refine XS.icmpYes X29.here hx rfl (pc0 := 20) (pc' := 26) rfl (hb hby d13_20) rfl (flt hc20_32).2.2.2 (by decide) (by decide) ?_
                refine XS.aloadN X29.here hx rfl (hb hby d13_26) rfl rfl ?_
                refine XS.iloadN X29.here hx rfl (hb hby d13_27) rfl  ?_
                show Steps p.tables e below (T29.setTop (mkF m 28 #[.val (.ref p0), .val (.int (5 : Int32)), .val (.ref p2), .val (.int (5 : Int32)), .val (.int (6 : Int32)), .val (.int (5 : Int32)), .val (.int c5)] [(.int (5 : Int32)), (.ref p2)])) _
                refine XS.iload X29.here hx rfl (hb hby d13_28) rfl  ?_
                refine XS.i2b X29.here hx rfl (hb hby d13_30) rfl ?_
                show Steps p.tables e below (T29.setTop (mkF m 31 #[.val (.ref p0), .val (.int (5 : Int32)), .val (.ref p2), .val (.int (5 : Int32)), .val (.int (6 : Int32)), .val (.int (5 : Int32)), .val (.int c5)] [(.int (c5.toInt8.toInt32)), (.int (5 : Int32)), (.ref p2)])) _
                refine st35 _ ?_
                show Steps p.tables e below (T35.setTop (mkF m 32 #[.val (.ref p0), .val (.int (5 : Int32)), .val (.ref p2), .val (.int (5 : Int32)), .val (.int (6 : Int32)), .val (.int (5 : Int32)), .val (.int c5)] [])) _
                refine XS.iinc X35.here hx rfl (hb hby d13_32) rfl (l' := #[.val (.ref p0), .val (.int (6 : Int32)), .val (.ref p2), .val (.int (5 : Int32)), .val (.int (6 : Int32)), .val (.int (5 : Int32)), .val (.int c5)]) rfl ?_
                refine XS.iinc X35.here hx rfl (hb hby d13_35) rfl (l' := #[.val (.ref p0), .val (.int (6 : Int32)), .val (.ref p2), .val (.int (6 : Int32)), .val (.int (6 : Int32)), .val (.int (5 : Int32)), .val (.int c5)]) rfl ?_
                refine XS.iinc X35.here hx rfl (hb hby d13_38) rfl (l' := #[.val (.ref p0), .val (.int (6 : Int32)), .val (.ref p2), .val (.int (6 : Int32)), .val (.int (6 : Int32)), .val (.int (6 : Int32)), .val (.int c5)]) rfl ?_
                show Steps p.tables e below (T35.setTop (mkF m 41 #[.val (.ref p0), .val (.int (6 : Int32)), .val (.ref p2), .val (.int (6 : Int32)), .val (.int (6 : Int32)), .val (.int (6 : Int32)), .val (.int c5)] [])) _
                refine XS.goto X35.here hx rfl (pc0 := 41) (pc' := 3) rfl (hb hby d13_41) (by decide) (by decide) ?_
                refine XS.iload X35.here hx rfl (hb hby d13_3) rfl  ?_
                refine XS.iload X35.here hx rfl (hb hby d13_5) rfl  ?_
                show Steps p.tables e below (T35.setTop (mkF m 7 #[.val (.ref p0), .val (.int (6 : Int32)), .val (.ref p2), .val (.int (6 : Int32)), .val (.int (6 : Int32)), .val (.int (6 : Int32)), .val (.int c5)] [(.int (6 : Int32)), (.int (6 : Int32))])) _
                refine XS.icmpYes X35.here hx rfl (pc0 := 7) (pc' := 44) rfl (hb hby d13_7) rfl (flt (by decide : ¬ ((6 : Int32) < (6 : Int32)))).2.1 (by decide) (by decide) ?_
                refine XS.iload X35.here hx rfl (hb hby d13_44) rfl  ?_
                show Steps p.tables e below (T35.setTop (mkF m 46 #[.val (.ref p0), .val (.int (6 : Int32)), .val (.ref p2), .val (.int (6 : Int32)), .val (.int (6 : Int32)), .val (.int (6 : Int32)), .val (.int c5)] [(.int (6 : Int32))])) _
                exact retI X35 hx Bd.returns (hb hby d13_46) hr
              · show Q_rmCmp6 Z p0 p2 zc fm ks kd c0 c1 c2 c3 c4 c5 h0 n0 _ T35.heap _
                rw [e35]
                exact ⟨⟨_, rfl, Or.inl ⟨rfl, ⟨hc20_2, hc20_8, hc20_14, hc20_20, hc20_26, hc20_32⟩, V35⟩⟩, N35, K35⟩
theorem ef_rmNBF6 (m : MethodId)  : entryFrame m #[(.int (6 : Int32))] 1 = mkF m 0 #[.val (.int (6 : Int32))] [] := by first | (simp [entryFrame, mkF, argsToLocals, Value.category]; done) | rfl
def Q_rmNBF6 (Z : State) (zc : Int32) (fm : Value) (h0 : Heap) (n0 : Nat) (v : Option Value) (h : Heap) (L : List Loc) : Prop := (∃ (b : Addr) (k : ClassId), v = some (.ref b) ∧ n0 ≤ b ∧ h0.size ≤ b ∧ Arv Z h b k .byte (12 : Int32) [(.int (0 : Int32)), (.int (0 : Int32)), (.int (0 : Int32)), (.int (0 : Int32)), (.int (0 : Int32)), (.int (0 : Int32)), (.int (0 : Int32)), (.int (0 : Int32)), (.int (0 : Int32)), (.int (0 : Int32)), (.int (0 : Int32)), (.int (0 : Int32))] (.int (0 : Int32))) ∧ Fr n0 L ∧ Keep h0 h []
set_option maxRecDepth 65536 in
set_option maxHeartbeats 40000000 in
theorem rmNBF6 (l : Launch) (Z : State) (a0 : Array Value) (hw : ∀ d ∈ tables_1, d.before a0 Z = true) (ws : List Jvm.Cond) (zc : Int32) (fm : Value) (h0 : Heap) (n0 : Nat) (Z0 : n0 ≤ h0.size) (hSt : own_St Z zc fm) (Ol : Old Z n0 h0) :
    MetFree l (⟨"java/lang/StringUTF16", "newBytesFor", "(I)[B"⟩ : MethodName) (head1 (Jvm.Cond.code (⟨"java/lang/StringUTF16", "newBytesFor", "(I)[B"⟩ : MethodName) jdk_52_method_2_code 1 (some (.array .byte)) :: ws) ({ frames := 1, cells := 1, slots := 12, locals := 12 } : Room)) (fun a U => a = #[(.int (6 : Int32))] ∧ Z.Warmed39 U.vm ∧ U.heap = h0) (fun _ _ _ _ _ => True) (fun _ U o U' => ∃ v L, o = .returned v ∧ Q_rmNBF6 Z zc fm h0 n0 v U'.heap L ∧ FrameEnd U o U' L ({ frames := 1, cells := 1, slots := 12, locals := 12 } : Room).cells ({ frames := 1, cells := 1, slots := 12, locals := 12 } : Room).slots) := by
  refine MetFree.of_bodySF (plainFor_of_name pn_java_lang_StringUTF16) hisR ?_
  intro p e s m args below meth c s₁ Bd hml0 hP hK
  obtain ⟨rfl, hZ, hh⟩ := hP
  have hx := Bd.exec
  have hby := Bd.bytes
  have hml : c.maxLocals = 1 := hml0
  have hown : s.vm.findClass "java/lang/StringUTF16" = some m.cls := findClass_of_methodNamed Bd.named
  have hnm := (name_of_methodNamed Bd.named Bd.method).1
  have hZo := hZ
  have howno := hown
  have X0 : Stand p l e ({ frames := 1, cells := 1, slots := 12, locals := 12 } : Room) s m #[(.int (6 : Int32))] below meth c s₁ [] 0 0 := Stand.of_body Bd
  have e0 : s₁.heap = h0 := by rw [← hh, Bd.state]; rfl
  have N0 := Fr.nil n0
  have pre0 : ∀ t, Steps p.tables e below (s₁.setTop (mkF m 0 #[.val (.int (6 : Int32))] [])) t → Steps p.tables e below (s₁.setTop (entryFrame m #[(.int (6 : Int32))] 1)) t := fun t k => castTop (ef_rmNBF6 m  ) k
  obtain ⟨_, _, ⟨T1, L1, k1, n1⟩, -, X1, ⟨Lc1, hQ1, l1, y1, z1⟩, st1⟩ := Jvm.LawKit.callS X0 hx (y := (⟨"java/lang/StringUTF16", "newBytesLength", "(I)I"⟩ : MethodName)) hown (mvT hZ (hw _ (List.mem_of_getElem? (i := 73) rfl))) (mvT hZ (hw _ (List.mem_of_getElem? (i := 74) rfl))) (mvT hZ (hw _ (List.mem_of_getElem? (i := 62) rfl))) (mvT hZ (hw _ (List.mem_of_getElem? (i := 75) rfl))) (by decide) (backOf (W := 0) (rmNBL l Z a0 hw [] (6 : Int32) zc fm (12 : Int32) h0 n0 Z0 hSt Ol (by decide) (by decide)) hZ (hw _ (List.mem_of_getElem? (i := 75) rfl)) (hw _ (List.mem_of_getElem? (i := 62) rfl)) (by decide) (by decide)) (g := (mkF m 1 #[.val (.int (6 : Int32))] [(.int (6 : Int32))])) rfl (by rw [hml]; rfl) (argsL := [(.int (6 : Int32))]) (rest := []) (lenOf pd__I_I rfl) rfl (by show 2 * 0 + _ ≤ _; exact Nat.le_of_eq rfl) (hb hby d15_1) (fun _ _ => ⟨rfl, e0, (by decide : 0 + 0 ≤ _), (by decide : 0 + 0 ≤ _)⟩)
  dsimp only [Pt.U, Pt.locs, Pt.cells, Pt.slots] at X1 l1 y1 z1 st1 hQ1
  subst l1 y1 z1
  obtain ⟨rfl, Nq1, e1⟩ := hQ1
  have N1 := Fr.app N0 Nq1
  obtain ⟨T2, h2, k2, X2, e2, E2, A2, st2⟩ := newP X1 hx hZ (hw _ (List.mem_of_getElem? (i := 15) rfl)) e1 (g := (mkF m 4 #[.val (.int (6 : Int32))] [(.int (12 : Int32))])) rfl (hb hby d15_4) rfl (by decide) (cap := 12) (by decide) (by decide) (by decide) (by decide)
  obtain ⟨b2, g2⟩ : ∃ z, z = h0.size := ⟨_, rfl⟩
  rw [← g2] at A2 st2
  have ge2 : n0 ≤ b2 := Nat.le_trans Z0 (Nat.le_of_eq g2.symm)
  have sz2 : h0.size ≤ b2 := Nat.le_trans (Keep.refl h0 []).1 (Nat.le_of_eq g2.symm)
  have K2 := (Keep.refl h0 []).ext E2
  have V2 : Arv Z h2 b2 k2 .byte (12 : Int32) [(.int (0 : Int32)), (.int (0 : Int32)), (.int (0 : Int32)), (.int (0 : Int32)), (.int (0 : Int32)), (.int (0 : Int32)), (.int (0 : Int32)), (.int (0 : Int32)), (.int (0 : Int32)), (.int (0 : Int32)), (.int (0 : Int32)), (.int (0 : Int32))] (.int (0 : Int32)) := (Arv.new A2 (by decide)).pad (pad_rep [] (.int (0 : Int32)) 12)
  obtain ⟨fs, hr, hrun, hended, hW, hsame⟩ := X2.leave (v := some (.ref b2)) (fun h => by rw [Bd.returns] at h; cases h)
  refine ⟨_, _, pre0 _ ?_, hrun, hended, _, _, rfl, ?_, ⟨_, rfl⟩, hW, hsame.mono (by decide) (by decide)⟩
  · show Steps p.tables e below (s₁.setTop (mkF m 0 #[.val (.int (6 : Int32))] [])) _
    refine XS.iloadN X0.here hx rfl (hb hby d15_0) rfl  ?_
    show Steps p.tables e below (s₁.setTop (mkF m 1 #[.val (.int (6 : Int32))] [(.int (6 : Int32))])) _
    refine st1 _ ?_
    show Steps p.tables e below (T1.setTop (mkF m 4 #[.val (.int (6 : Int32))] [(.int (12 : Int32))])) _
    refine st2 _ ?_
    show Steps p.tables e below (T2.setTop (mkF m 6 #[.val (.int (6 : Int32))] [(.ref b2)])) _
    jvm_step X2.here [X2.here.top, hx, (hb hby d15_6), X2.method', Bd.returns, Value.isRef, FieldType.isReference]
    first | (intro acts; rw [hr _ acts rfl rfl rfl]) | rw [hr _ _ rfl rfl rfl]
    exact Steps.refl _
  · show Q_rmNBF6 Z zc fm h0 n0 _ T2.heap _
    rw [e2]
    exact ⟨⟨_, _, rfl, ge2, sz2, V2⟩, N1, K2⟩
theorem ef_rmToB6 (m : MethodId) (p0 : Addr) : entryFrame m #[(.ref p0), (.int (0 : Int32)), (.int (6 : Int32))] 5 = mkF m 0 #[.val (.ref p0), .val (.int (0 : Int32)), .val (.int (6 : Int32)), .unset, .unset] [] := by first | (simp [entryFrame, mkF, argsToLocals, Value.category]; done) | rfl
def Q_rmToB6 (Z : State) (p0 : Addr) (zc : Int32) (fm : Value) (ks : ClassId) (c0 : Int32) (c1 : Int32) (c2 : Int32) (c3 : Int32) (c4 : Int32) (c5 : Int32) (h0 : Heap) (n0 : Nat) (v : Option Value) (h : Heap) (L : List Loc) : Prop := (∃ (b : Addr) (k : ClassId), v = some (.ref b) ∧ n0 ≤ b ∧ h0.size ≤ b ∧ Arv Z h b k .byte (12 : Int32) [(.int (own_wl c0)), (.int (own_wh c0)), (.int (own_wl c1)), (.int (own_wh c1)), (.int (own_wl c2)), (.int (own_wh c2)), (.int (own_wl c3)), (.int (own_wh c3)), (.int (own_wl c4)), (.int (own_wh c4)), (.int (own_wl c5)), (.int (own_wh c5))] (.int (0 : Int32))) ∧ Fr n0 L ∧ Keep h0 h []
set_option maxRecDepth 65536 in
set_option maxHeartbeats 40000000 in
theorem rmToB6 (l : Launch) (Z : State) (a0 : Array Value) (hw : ∀ d ∈ tables_1, d.before a0 Z = true) (ws : List Jvm.Cond) (p0 : Addr) (zc : Int32) (fm : Value) (ks : ClassId) (c0 : Int32) (c1 : Int32) (c2 : Int32) (c3 : Int32) (c4 : Int32) (c5 : Int32) (h0 : Heap) (n0 : Nat) (Z0 : n0 ≤ h0.size) (hSt : own_St Z zc fm) (Ol : Old Z n0 h0) (As : Arv Z h0 p0 ks .char (6 : Int32) [(.int c0), (.int c1), (.int c2), (.int c3), (.int c4), (.int c5)] (.int (0 : Int32))) :
    MetFree l (⟨"java/lang/StringUTF16", "toBytes", "([CII)[B"⟩ : MethodName) (head1 (Jvm.Cond.code (⟨"java/lang/StringUTF16", "toBytes", "([CII)[B"⟩ : MethodName) jdk_52_method_14_code 5 (some (.array .byte)) :: ws) ({ frames := 2, cells := 1, slots := 12, locals := 24 } : Room)) (fun a U => a = #[(.ref p0), (.int (0 : Int32)), (.int (6 : Int32))] ∧ Z.Warmed39 U.vm ∧ U.heap = h0) (fun _ _ _ _ _ => True) (fun _ U o U' => ∃ v L, o = .returned v ∧ Q_rmToB6 Z p0 zc fm ks c0 c1 c2 c3 c4 c5 h0 n0 v U'.heap L ∧ FrameEnd U o U' L ({ frames := 2, cells := 1, slots := 12, locals := 24 } : Room).cells ({ frames := 2, cells := 1, slots := 12, locals := 24 } : Room).slots) := by
  refine MetFree.of_bodySF (plainFor_of_name pn_java_lang_StringUTF16) hisR ?_
  intro p e s m args below meth c s₁ Bd hml0 hP hK
  obtain ⟨rfl, hZ, hh⟩ := hP
  have hx := Bd.exec
  have hby := Bd.bytes
  have hml : c.maxLocals = 5 := hml0
  have hown : s.vm.findClass "java/lang/StringUTF16" = some m.cls := findClass_of_methodNamed Bd.named
  have hnm := (name_of_methodNamed Bd.named Bd.method).1
  have hZo := hZ
  have howno := hown
  have X0 : Stand p l e ({ frames := 2, cells := 1, slots := 12, locals := 24 } : Room) s m #[(.ref p0), (.int (0 : Int32)), (.int (6 : Int32))] below meth c s₁ [] 0 0 := Stand.of_body Bd
  have e0 : s₁.heap = h0 := by rw [← hh, Bd.state]; rfl
  have N0 := Fr.nil n0
  have pre0 : ∀ t, Steps p.tables e below (s₁.setTop (mkF m 0 #[.val (.ref p0), .val (.int (0 : Int32)), .val (.int (6 : Int32)), .unset, .unset] [])) t → Steps p.tables e below (s₁.setTop (entryFrame m #[(.ref p0), (.int (0 : Int32)), (.int (6 : Int32))] 5)) t := fun t k => castTop (ef_rmToB6 m p0 ) k
  obtain ⟨_, _, ⟨T1, L1, k1, n1⟩, -, X1, ⟨Lc1, hQ1, l1, y1, z1⟩, st1⟩ := Jvm.LawKit.callS X0 hx (y := (⟨"java/lang/StringUTF16", "newBytesFor", "(I)[B"⟩ : MethodName)) hown (mvT hZ (hw _ (List.mem_of_getElem? (i := 70) rfl))) (mvT hZ (hw _ (List.mem_of_getElem? (i := 71) rfl))) (mvT hZ (hw _ (List.mem_of_getElem? (i := 62) rfl))) (mvT hZ (hw _ (List.mem_of_getElem? (i := 72) rfl))) (by decide) (backOf (W := 0) (rmNBF6 l Z a0 hw []  zc fm  h0 n0 Z0 hSt Ol ) hZ (hw _ (List.mem_of_getElem? (i := 72) rfl)) (hw _ (List.mem_of_getElem? (i := 62) rfl)) (by decide) (by decide)) (g := (mkF m 1 #[.val (.ref p0), .val (.int (0 : Int32)), .val (.int (6 : Int32)), .unset, .unset] [(.int (6 : Int32))])) rfl (by rw [hml]; rfl) (argsL := [(.int (6 : Int32))]) (rest := []) (lenOf pd__I__B rfl) rfl (by show 2 * 0 + _ ≤ _; exact Nat.le_of_eq rfl) (hb hby d14_1) (fun _ _ => ⟨rfl, e0, (by decide : 0 + 1 ≤ _), (by decide : 0 + 12 ≤ _)⟩)
  dsimp only [Pt.U, Pt.locs, Pt.cells, Pt.slots] at X1 l1 y1 z1 st1 hQ1
  subst l1 y1 z1
  obtain ⟨⟨nb1, kb1, rfl, gb1, sb1, Ab1⟩, Nq1, K1⟩ := hQ1
  have N1 := Fr.app N0 Nq1
  have KK1 := (Keep.refl h0 []).trans K1 all0
  have nb_ne : p0 ≠ nb1 := Nat.ne_of_lt (Nat.lt_of_lt_of_le As.lt sb1)
  have f2 := (As.keep K1 nin0)
  obtain ⟨cl3, Ar3, q3, S3, N3, H3, G3⟩ := id f2
  have hin3 : ¬ ((0 : Int32) < 0 ∨ cl3.slots.size ≤ ((0 : Int32)).toNatClampNeg) := inb_of S3 ⟨by decide, by decide⟩
  have hat3 : cl3.slots[((0 : Int32)).toNatClampNeg]? = some (.int c0) := Has.at H3 hin3 rfl
  have f4 := (Nat.le_trans Z0 K1.1)
  have f5 := (Ol.keep K1 all0)
  obtain ⟨_, _, ⟨T6, L6, k6, n6⟩, -, X6, ⟨Lc6, hQ6, l6, y6, z6⟩, st6⟩ := Jvm.LawKit.callS X1 hx (y := (⟨"java/lang/StringUTF16", "putChar", "([BII)V"⟩ : MethodName)) hown (mvT hZ (hw _ (List.mem_of_getElem? (i := 77) rfl))) (mvT hZ (hw _ (List.mem_of_getElem? (i := 78) rfl))) (mvT hZ (hw _ (List.mem_of_getElem? (i := 62) rfl))) (mvT hZ (hw _ (List.mem_of_getElem? (i := 79) rfl))) (by decide) (backOf (W := 0) (rmPut l Z a0 hw [] nb1 (0 : Int32) c0 zc fm kb1 (12 : Int32) [(.int (0 : Int32)), (.int (0 : Int32)), (.int (0 : Int32)), (.int (0 : Int32)), (.int (0 : Int32)), (.int (0 : Int32)), (.int (0 : Int32)), (.int (0 : Int32)), (.int (0 : Int32)), (.int (0 : Int32)), (.int (0 : Int32)), (.int (0 : Int32))] 0 1 T1.heap n0 f4 hSt f5 Ab1 (by decide) (by decide) (by decide) (by decide) (Nat.le_of_ble_eq_true rfl) (Nat.le_of_ble_eq_true rfl) gb1) hZ (hw _ (List.mem_of_getElem? (i := 79) rfl)) (hw _ (List.mem_of_getElem? (i := 62) rfl)) (by decide) (by decide)) (g := (mkF m 20 #[.val (.ref p0), .val (.int (0 : Int32)), .val (.int (6 : Int32)), .val (.ref nb1), .val (.int (0 : Int32))] [(.int c0), (.int (0 : Int32)), (.ref nb1)])) rfl (by rw [hml]; rfl) (argsL := [(.ref nb1), (.int (0 : Int32)), (.int c0)]) (rest := []) (lenOf pd___BII_V rfl) rfl (by show 2 * 0 + _ ≤ _; exact Nat.le_of_eq rfl) (hb hby d14_20) (fun _ _ => ⟨rfl, rfl, (by decide : 1 + 0 ≤ _), (by decide : 12 + 0 ≤ _)⟩)
  dsimp only [Pt.U, Pt.locs, Pt.cells, Pt.slots] at X6 l6 y6 z6 st6 hQ6
  subst l6 y6 z6
  obtain ⟨rfl, Nq6, K6, Vp6⟩ := hQ6
  have N6 := Fr.app N1 Nq6
  have KK6 := KK1.trans K6 (allS (Or.inr sb1) all0)
  have f7 := (f2.keep K6 (ninS nb_ne nin0))
  obtain ⟨cl8, Ar8, q8, S8, N8, H8, G8⟩ := id f7
  have hin8 : ¬ ((1 : Int32) < 0 ∨ cl8.slots.size ≤ ((1 : Int32)).toNatClampNeg) := inb_of S8 ⟨by decide, by decide⟩
  have hat8 : cl8.slots[((1 : Int32)).toNatClampNeg]? = some (.int c1) := Has.at H8 hin8 rfl
  have f9 := (Nat.le_trans f4 K6.1)
  have f10 := (f5.keep K6 (allS gb1 all0))
  obtain ⟨_, _, ⟨T11, L11, k11, n11⟩, -, X11, ⟨Lc11, hQ11, l11, y11, z11⟩, st11⟩ := Jvm.LawKit.callS X6 hx (y := (⟨"java/lang/StringUTF16", "putChar", "([BII)V"⟩ : MethodName)) hown (mvT hZ (hw _ (List.mem_of_getElem? (i := 77) rfl))) (mvT hZ (hw _ (List.mem_of_getElem? (i := 78) rfl))) (mvT hZ (hw _ (List.mem_of_getElem? (i := 62) rfl))) (mvT hZ (hw _ (List.mem_of_getElem? (i := 79) rfl))) (by decide) (backOf (W := 0) (rmPut l Z a0 hw [] nb1 (1 : Int32) c1 zc fm kb1 (12 : Int32) [(.int (own_wl c0)), (.int (own_wh c0)), (.int (0 : Int32)), (.int (0 : Int32)), (.int (0 : Int32)), (.int (0 : Int32)), (.int (0 : Int32)), (.int (0 : Int32)), (.int (0 : Int32)), (.int (0 : Int32)), (.int (0 : Int32)), (.int (0 : Int32))] 2 3 T6.heap n0 f9 hSt f10 Vp6 (by decide) (by decide) (by decide) (by decide) (Nat.le_of_ble_eq_true rfl) (Nat.le_of_ble_eq_true rfl) gb1) hZ (hw _ (List.mem_of_getElem? (i := 79) rfl)) (hw _ (List.mem_of_getElem? (i := 62) rfl)) (by decide) (by decide)) (g := (mkF m 20 #[.val (.ref p0), .val (.int (1 : Int32)), .val (.int (6 : Int32)), .val (.ref nb1), .val (.int (1 : Int32))] [(.int c1), (.int (1 : Int32)), (.ref nb1)])) rfl (by rw [hml]; rfl) (argsL := [(.ref nb1), (.int (1 : Int32)), (.int c1)]) (rest := []) (lenOf pd___BII_V rfl) rfl (by show 2 * 0 + _ ≤ _; exact Nat.le_of_eq rfl) (hb hby d14_20) (fun _ _ => ⟨rfl, rfl, (by decide : 1 + 0 ≤ _), (by decide : 12 + 0 ≤ _)⟩)
  dsimp only [Pt.U, Pt.locs, Pt.cells, Pt.slots] at X11 l11 y11 z11 st11 hQ11
  subst l11 y11 z11
  obtain ⟨rfl, Nq11, K11, Vp11⟩ := hQ11
  have N11 := Fr.app N6 Nq11
  have KK11 := KK6.trans K11 (allS (Or.inr sb1) all0)
  have f12 := (f7.keep K11 (ninS nb_ne nin0))
  obtain ⟨cl13, Ar13, q13, S13, N13, H13, G13⟩ := id f12
  have hin13 : ¬ ((2 : Int32) < 0 ∨ cl13.slots.size ≤ ((2 : Int32)).toNatClampNeg) := inb_of S13 ⟨by decide, by decide⟩
  have hat13 : cl13.slots[((2 : Int32)).toNatClampNeg]? = some (.int c2) := Has.at H13 hin13 rfl
  have f14 := (Nat.le_trans f9 K11.1)
  have f15 := (f10.keep K11 (allS gb1 all0))
  obtain ⟨_, _, ⟨T16, L16, k16, n16⟩, -, X16, ⟨Lc16, hQ16, l16, y16, z16⟩, st16⟩ := Jvm.LawKit.callS X11 hx (y := (⟨"java/lang/StringUTF16", "putChar", "([BII)V"⟩ : MethodName)) hown (mvT hZ (hw _ (List.mem_of_getElem? (i := 77) rfl))) (mvT hZ (hw _ (List.mem_of_getElem? (i := 78) rfl))) (mvT hZ (hw _ (List.mem_of_getElem? (i := 62) rfl))) (mvT hZ (hw _ (List.mem_of_getElem? (i := 79) rfl))) (by decide) (backOf (W := 0) (rmPut l Z a0 hw [] nb1 (2 : Int32) c2 zc fm kb1 (12 : Int32) [(.int (own_wl c0)), (.int (own_wh c0)), (.int (own_wl c1)), (.int (own_wh c1)), (.int (0 : Int32)), (.int (0 : Int32)), (.int (0 : Int32)), (.int (0 : Int32)), (.int (0 : Int32)), (.int (0 : Int32)), (.int (0 : Int32)), (.int (0 : Int32))] 4 5 T11.heap n0 f14 hSt f15 Vp11 (by decide) (by decide) (by decide) (by decide) (Nat.le_of_ble_eq_true rfl) (Nat.le_of_ble_eq_true rfl) gb1) hZ (hw _ (List.mem_of_getElem? (i := 79) rfl)) (hw _ (List.mem_of_getElem? (i := 62) rfl)) (by decide) (by decide)) (g := (mkF m 20 #[.val (.ref p0), .val (.int (2 : Int32)), .val (.int (6 : Int32)), .val (.ref nb1), .val (.int (2 : Int32))] [(.int c2), (.int (2 : Int32)), (.ref nb1)])) rfl (by rw [hml]; rfl) (argsL := [(.ref nb1), (.int (2 : Int32)), (.int c2)]) (rest := []) (lenOf pd___BII_V rfl) rfl (by show 2 * 0 + _ ≤ _; exact Nat.le_of_eq rfl) (hb hby d14_20) (fun _ _ => ⟨rfl, rfl, (by decide : 1 + 0 ≤ _), (by decide : 12 + 0 ≤ _)⟩)
  dsimp only [Pt.U, Pt.locs, Pt.cells, Pt.slots] at X16 l16 y16 z16 st16 hQ16
  subst l16 y16 z16
  obtain ⟨rfl, Nq16, K16, Vp16⟩ := hQ16
  have N16 := Fr.app N11 Nq16
  have KK16 := KK11.trans K16 (allS (Or.inr sb1) all0)
  have f17 := (f12.keep K16 (ninS nb_ne nin0))
  obtain ⟨cl18, Ar18, q18, S18, N18, H18, G18⟩ := id f17
  have hin18 : ¬ ((3 : Int32) < 0 ∨ cl18.slots.size ≤ ((3 : Int32)).toNatClampNeg) := inb_of S18 ⟨by decide, by decide⟩
  have hat18 : cl18.slots[((3 : Int32)).toNatClampNeg]? = some (.int c3) := Has.at H18 hin18 rfl
  have f19 := (Nat.le_trans f14 K16.1)
  have f20 := (f15.keep K16 (allS gb1 all0))
  obtain ⟨_, _, ⟨T21, L21, k21, n21⟩, -, X21, ⟨Lc21, hQ21, l21, y21, z21⟩, st21⟩ := Jvm.LawKit.callS X16 hx (y := (⟨"java/lang/StringUTF16", "putChar", "([BII)V"⟩ : MethodName)) hown (mvT hZ (hw _ (List.mem_of_getElem? (i := 77) rfl))) (mvT hZ (hw _ (List.mem_of_getElem? (i := 78) rfl))) (mvT hZ (hw _ (List.mem_of_getElem? (i := 62) rfl))) (mvT hZ (hw _ (List.mem_of_getElem? (i := 79) rfl))) (by decide) (backOf (W := 0) (rmPut l Z a0 hw [] nb1 (3 : Int32) c3 zc fm kb1 (12 : Int32) [(.int (own_wl c0)), (.int (own_wh c0)), (.int (own_wl c1)), (.int (own_wh c1)), (.int (own_wl c2)), (.int (own_wh c2)), (.int (0 : Int32)), (.int (0 : Int32)), (.int (0 : Int32)), (.int (0 : Int32)), (.int (0 : Int32)), (.int (0 : Int32))] 6 7 T16.heap n0 f19 hSt f20 Vp16 (by decide) (by decide) (by decide) (by decide) (Nat.le_of_ble_eq_true rfl) (Nat.le_of_ble_eq_true rfl) gb1) hZ (hw _ (List.mem_of_getElem? (i := 79) rfl)) (hw _ (List.mem_of_getElem? (i := 62) rfl)) (by decide) (by decide)) (g := (mkF m 20 #[.val (.ref p0), .val (.int (3 : Int32)), .val (.int (6 : Int32)), .val (.ref nb1), .val (.int (3 : Int32))] [(.int c3), (.int (3 : Int32)), (.ref nb1)])) rfl (by rw [hml]; rfl) (argsL := [(.ref nb1), (.int (3 : Int32)), (.int c3)]) (rest := []) (lenOf pd___BII_V rfl) rfl (by show 2 * 0 + _ ≤ _; exact Nat.le_of_eq rfl) (hb hby d14_20) (fun _ _ => ⟨rfl, rfl, (by decide : 1 + 0 ≤ _), (by decide : 12 + 0 ≤ _)⟩)
  dsimp only [Pt.U, Pt.locs, Pt.cells, Pt.slots] at X21 l21 y21 z21 st21 hQ21
  subst l21 y21 z21
  obtain ⟨rfl, Nq21, K21, Vp21⟩ := hQ21
  have N21 := Fr.app N16 Nq21
  have KK21 := KK16.trans K21 (allS (Or.inr sb1) all0)
  have f22 := (f17.keep K21 (ninS nb_ne nin0))
  obtain ⟨cl23, Ar23, q23, S23, N23, H23, G23⟩ := id f22
  have hin23 : ¬ ((4 : Int32) < 0 ∨ cl23.slots.size ≤ ((4 : Int32)).toNatClampNeg) := inb_of S23 ⟨by decide, by decide⟩
  have hat23 : cl23.slots[((4 : Int32)).toNatClampNeg]? = some (.int c4) := Has.at H23 hin23 rfl
  have f24 := (Nat.le_trans f19 K21.1)
  have f25 := (f20.keep K21 (allS gb1 all0))
  obtain ⟨_, _, ⟨T26, L26, k26, n26⟩, -, X26, ⟨Lc26, hQ26, l26, y26, z26⟩, st26⟩ := Jvm.LawKit.callS X21 hx (y := (⟨"java/lang/StringUTF16", "putChar", "([BII)V"⟩ : MethodName)) hown (mvT hZ (hw _ (List.mem_of_getElem? (i := 77) rfl))) (mvT hZ (hw _ (List.mem_of_getElem? (i := 78) rfl))) (mvT hZ (hw _ (List.mem_of_getElem? (i := 62) rfl))) (mvT hZ (hw _ (List.mem_of_getElem? (i := 79) rfl))) (by decide) (backOf (W := 0) (rmPut l Z a0 hw [] nb1 (4 : Int32) c4 zc fm kb1 (12 : Int32) [(.int (own_wl c0)), (.int (own_wh c0)), (.int (own_wl c1)), (.int (own_wh c1)), (.int (own_wl c2)), (.int (own_wh c2)), (.int (own_wl c3)), (.int (own_wh c3)), (.int (0 : Int32)), (.int (0 : Int32)), (.int (0 : Int32)), (.int (0 : Int32))] 8 9 T21.heap n0 f24 hSt f25 Vp21 (by decide) (by decide) (by decide) (by decide) (Nat.le_of_ble_eq_true rfl) (Nat.le_of_ble_eq_true rfl) gb1) hZ (hw _ (List.mem_of_getElem? (i := 79) rfl)) (hw _ (List.mem_of_getElem? (i := 62) rfl)) (by decide) (by decide)) (g := (mkF m 20 #[.val (.ref p0), .val (.int (4 : Int32)), .val (.int (6 : Int32)), .val (.ref nb1), .val (.int (4 : Int32))] [(.int c4), (.int (4 : Int32)), (.ref nb1)])) rfl (by rw [hml]; rfl) (argsL := [(.ref nb1), (.int (4 : Int32)), (.int c4)]) (rest := []) (lenOf pd___BII_V rfl) rfl (by show 2 * 0 + _ ≤ _; exact Nat.le_of_eq rfl) (hb hby d14_20) (fun _ _ => ⟨rfl, rfl, (by decide : 1 + 0 ≤ _), (by decide : 12 + 0 ≤ _)⟩)
  dsimp only [Pt.U, Pt.locs, Pt.cells, Pt.slots] at X26 l26 y26 z26 st26 hQ26
  subst l26 y26 z26
  obtain ⟨rfl, Nq26, K26, Vp26⟩ := hQ26
  have N26 := Fr.app N21 Nq26
  have KK26 := KK21.trans K26 (allS (Or.inr sb1) all0)
  have f27 := (f22.keep K26 (ninS nb_ne nin0))
  obtain ⟨cl28, Ar28, q28, S28, N28, H28, G28⟩ := id f27
  have hin28 : ¬ ((5 : Int32) < 0 ∨ cl28.slots.size ≤ ((5 : Int32)).toNatClampNeg) := inb_of S28 ⟨by decide, by decide⟩
  have hat28 : cl28.slots[((5 : Int32)).toNatClampNeg]? = some (.int c5) := Has.at H28 hin28 rfl
  have f29 := (Nat.le_trans f24 K26.1)
  have f30 := (f25.keep K26 (allS gb1 all0))
  obtain ⟨_, _, ⟨T31, L31, k31, n31⟩, -, X31, ⟨Lc31, hQ31, l31, y31, z31⟩, st31⟩ := Jvm.LawKit.callS X26 hx (y := (⟨"java/lang/StringUTF16", "putChar", "([BII)V"⟩ : MethodName)) hown (mvT hZ (hw _ (List.mem_of_getElem? (i := 77) rfl))) (mvT hZ (hw _ (List.mem_of_getElem? (i := 78) rfl))) (mvT hZ (hw _ (List.mem_of_getElem? (i := 62) rfl))) (mvT hZ (hw _ (List.mem_of_getElem? (i := 79) rfl))) (by decide) (backOf (W := 0) (rmPut l Z a0 hw [] nb1 (5 : Int32) c5 zc fm kb1 (12 : Int32) [(.int (own_wl c0)), (.int (own_wh c0)), (.int (own_wl c1)), (.int (own_wh c1)), (.int (own_wl c2)), (.int (own_wh c2)), (.int (own_wl c3)), (.int (own_wh c3)), (.int (own_wl c4)), (.int (own_wh c4)), (.int (0 : Int32)), (.int (0 : Int32))] 10 11 T26.heap n0 f29 hSt f30 Vp26 (by decide) (by decide) (by decide) (by decide) (Nat.le_of_ble_eq_true rfl) (Nat.le_of_ble_eq_true rfl) gb1) hZ (hw _ (List.mem_of_getElem? (i := 79) rfl)) (hw _ (List.mem_of_getElem? (i := 62) rfl)) (by decide) (by decide)) (g := (mkF m 20 #[.val (.ref p0), .val (.int (5 : Int32)), .val (.int (6 : Int32)), .val (.ref nb1), .val (.int (5 : Int32))] [(.int c5), (.int (5 : Int32)), (.ref nb1)])) rfl (by rw [hml]; rfl) (argsL := [(.ref nb1), (.int (5 : Int32)), (.int c5)]) (rest := []) (lenOf pd___BII_V rfl) rfl (by show 2 * 0 + _ ≤ _; exact Nat.le_of_eq rfl) (hb hby d14_20) (fun _ _ => ⟨rfl, rfl, (by decide : 1 + 0 ≤ _), (by decide : 12 + 0 ≤ _)⟩)
  dsimp only [Pt.U, Pt.locs, Pt.cells, Pt.slots] at X31 l31 y31 z31 st31 hQ31
  subst l31 y31 z31
  obtain ⟨rfl, Nq31, K31, Vp31⟩ := hQ31
  have N31 := Fr.app N26 Nq31
  have KK31 := KK26.trans K31 (allS (Or.inr sb1) all0)
  obtain ⟨fs, hr, hrun, hended, hW, hsame⟩ := X31.leave (v := some (.ref nb1)) (fun h => by rw [Bd.returns] at h; cases h)
  refine ⟨_, _, pre0 _ ?_, hrun, hended, _, _, rfl, ?_, ⟨_, rfl⟩, hW, hsame.mono (by decide) (by decide)⟩
  · show Steps p.tables e below (s₁.setTop (mkF m 0 #[.val (.ref p0), .val (.int (0 : Int32)), .val (.int (6 : Int32)), .unset, .unset] [])) _
    refine XS.iloadN X0.here hx rfl (hb hby d14_0) rfl  ?_
    show Steps p.tables e below (s₁.setTop (mkF m 1 #[.val (.ref p0), .val (.int (0 : Int32)), .val (.int (6 : Int32)), .unset, .unset] [(.int (6 : Int32))])) _
    refine st1 _ ?_
    show Steps p.tables e below (T1.setTop (mkF m 4 #[.val (.ref p0), .val (.int (0 : Int32)), .val (.int (6 : Int32)), .unset, .unset] [(.ref nb1)])) _
    refine XS.astoreN X1.here hx rfl (hb hby d14_4) rfl rfl (l' := #[.val (.ref p0), .val (.int (0 : Int32)), .val (.int (6 : Int32)), .val (.ref nb1), .unset]) rfl ?_
    refine XS.iconst X1.here hx rfl (hb hby d14_5) ?_
    refine XS.istore X1.here hx rfl (hb hby d14_6) rfl (l' := #[.val (.ref p0), .val (.int (0 : Int32)), .val (.int (6 : Int32)), .val (.ref nb1), .val (.int (0 : Int32))]) rfl ?_
    show Steps p.tables e below (T1.setTop (mkF m 8 #[.val (.ref p0), .val (.int (0 : Int32)), .val (.int (6 : Int32)), .val (.ref nb1), .val (.int (0 : Int32))] [])) _
    refine XS.iload X1.here hx rfl (hb hby d14_8) rfl  ?_
    refine XS.iloadN X1.here hx rfl (hb hby d14_10) rfl  ?_
    show Steps p.tables e below (T1.setTop (mkF m 11 #[.val (.ref p0), .val (.int (0 : Int32)), .val (.int (6 : Int32)), .val (.ref nb1), .val (.int (0 : Int32))] [(.int (6 : Int32)), (.int (0 : Int32))])) _
    refine XS.icmpNo X1.here hx rfl (hb hby d14_11) rfl (tlt (by decide : (0 : Int32) < (6 : Int32))).2.1 ?_
    refine XS.aloadN X1.here hx rfl (hb hby d14_14) rfl rfl ?_
    refine XS.iload X1.here hx rfl (hb hby d14_15) rfl  ?_
    show Steps p.tables e below (T1.setTop (mkF m 17 #[.val (.ref p0), .val (.int (0 : Int32)), .val (.int (6 : Int32)), .val (.ref nb1), .val (.int (0 : Int32))] [(.int (0 : Int32)), (.ref nb1)])) _
    refine XS.aloadN X1.here hx rfl (hb hby d14_17) rfl rfl ?_
    refine XS.iloadN X1.here hx rfl (hb hby d14_18) rfl  ?_
    show Steps p.tables e below (T1.setTop (mkF m 19 #[.val (.ref p0), .val (.int (0 : Int32)), .val (.int (6 : Int32)), .val (.ref nb1), .val (.int (0 : Int32))] [(.int (0 : Int32)), (.ref p0), (.int (0 : Int32)), (.ref nb1)])) _
    refine X1.caload hx (j := (0 : Int32)) (v := (.int c0)) Ar3.1 (State.isArrayOf_alike hZ.alike Ar3.2.1) Ar3.2.2 hin3 hat3 (g := (mkF m 19 #[.val (.ref p0), .val (.int (0 : Int32)), .val (.int (6 : Int32)), .val (.ref nb1), .val (.int (0 : Int32))] [(.int (0 : Int32)), (.ref p0), (.int (0 : Int32)), (.ref nb1)])) rfl rfl (hb hby d14_19) _ ?_
    show Steps p.tables e below (T1.setTop (mkF m 20 #[.val (.ref p0), .val (.int (0 : Int32)), .val (.int (6 : Int32)), .val (.ref nb1), .val (.int (0 : Int32))] [(.int c0), (.int (0 : Int32)), (.ref nb1)])) _
    refine st6 _ ?_
    show Steps p.tables e below (T6.setTop (mkF m 23 #[.val (.ref p0), .val (.int (0 : Int32)), .val (.int (6 : Int32)), .val (.ref nb1), .val (.int (0 : Int32))] [])) _
    refine XS.iinc X6.here hx rfl (hb hby d14_23) rfl (l' := #[.val (.ref p0), .val (.int (1 : Int32)), .val (.int (6 : Int32)), .val (.ref nb1), .val (.int (0 : Int32))]) rfl ?_
    refine XS.iinc X6.here hx rfl (hb hby d14_26) rfl (l' := #[.val (.ref p0), .val (.int (1 : Int32)), .val (.int (6 : Int32)), .val (.ref nb1), .val (.int (1 : Int32))]) rfl ?_
    refine XS.goto X6.here hx rfl (pc0 := 29) (pc' := 8) rfl (hb hby d14_29) (by decide) (by decide) ?_
    show Steps p.tables e below (T6.setTop (mkF m 8 #[.val (.ref p0), .val (.int (1 : Int32)), .val (.int (6 : Int32)), .val (.ref nb1), .val (.int (1 : Int32))] [])) _
    refine XS.iload X6.here hx rfl (hb hby d14_8) rfl  ?_
    refine XS.iloadN X6.here hx rfl (hb hby d14_10) rfl  ?_
    show Steps p.tables e below (T6.setTop (mkF m 11 #[.val (.ref p0), .val (.int (1 : Int32)), .val (.int (6 : Int32)), .val (.ref nb1), .val (.int (1 : Int32))] [(.int (6 : Int32)), (.int (1 : Int32))])) _
    refine XS.icmpNo X6.here hx rfl (hb hby d14_11) rfl (tlt (by decide : (1 : Int32) < (6 : Int32))).2.1 ?_
    refine XS.aloadN X6.here hx rfl (hb hby d14_14) rfl rfl ?_
    refine XS.iload X6.here hx rfl (hb hby d14_15) rfl  ?_
    show Steps p.tables e below (T6.setTop (mkF m 17 #[.val (.ref p0), .val (.int (1 : Int32)), .val (.int (6 : Int32)), .val (.ref nb1), .val (.int (1 : Int32))] [(.int (1 : Int32)), (.ref nb1)])) _
    refine XS.aloadN X6.here hx rfl (hb hby d14_17) rfl rfl ?_
    refine XS.iloadN X6.here hx rfl (hb hby d14_18) rfl  ?_
    show Steps p.tables e below (T6.setTop (mkF m 19 #[.val (.ref p0), .val (.int (1 : Int32)), .val (.int (6 : Int32)), .val (.ref nb1), .val (.int (1 : Int32))] [(.int (1 : Int32)), (.ref p0), (.int (1 : Int32)), (.ref nb1)])) _
    refine X6.caload hx (j := (1 : Int32)) (v := (.int c1)) Ar8.1 (State.isArrayOf_alike hZ.alike Ar8.2.1) Ar8.2.2 hin8 hat8 (g := (mkF m 19 #[.val (.ref p0), .val (.int (1 : Int32)), .val (.int (6 : Int32)), .val (.ref nb1), .val (.int (1 : Int32))] [(.int (1 : Int32)), (.ref p0), (.int (1 : Int32)), (.ref nb1)])) rfl rfl (hb hby d14_19) _ ?_
    show Steps p.tables e below (T6.setTop (mkF m 20 #[.val (.ref p0), .val (.int (1 : Int32)), .val (.int (6 : Int32)), .val (.ref nb1), .val (.int (1 : Int32))] [(.int c1), (.int (1 : Int32)), (.ref nb1)])) _
    refine st11 _ ?_
    show Steps p.tables e below (T11.setTop (mkF m 23 #[.val (.ref p0), .val (.int (1 : Int32)), .val (.int (6 : Int32)), .val (.ref nb1), .val (.int (1 : Int32))] [])) _
    refine XS.iinc X11.here hx rfl (hb hby d14_23) rfl (l' := #[.val (.ref p0), .val (.int (2 : Int32)), .val (.int (6 : Int32)), .val (.ref nb1), .val (.int (1 : Int32))]) rfl ?_
    refine XS.iinc X11.here hx rfl (hb hby d14_26) rfl (l' := #[.val (.ref p0), .val (.int (2 : Int32)), .val (.int (6 : Int32)), .val (.ref nb1), .val (.int (2 : Int32))]) rfl ?_
    refine XS.goto X11.here hx rfl (pc0 := 29) (pc' := 8) rfl (hb hby d14_29) (by decide) (by decide) ?_
    show Steps p.tables e below (T11.setTop (mkF m 8 #[.val (.ref p0), .val (.int (2 : Int32)), .val (.int (6 : Int32)), .val (.ref nb1), .val (.int (2 : Int32))] [])) _
    refine XS.iload X11.here hx rfl (hb hby d14_8) rfl  ?_
    refine XS.iloadN X11.here hx rfl (hb hby d14_10) rfl  ?_
    show Steps p.tables e below (T11.setTop (mkF m 11 #[.val (.ref p0), .val (.int (2 : Int32)), .val (.int (6 : Int32)), .val (.ref nb1), .val (.int (2 : Int32))] [(.int (6 : Int32)), (.int (2 : Int32))])) _
    refine XS.icmpNo X11.here hx rfl (hb hby d14_11) rfl (tlt (by decide : (2 : Int32) < (6 : Int32))).2.1 ?_
    refine XS.aloadN X11.here hx rfl (hb hby d14_14) rfl rfl ?_
    refine XS.iload X11.here hx rfl (hb hby d14_15) rfl  ?_
    show Steps p.tables e below (T11.setTop (mkF m 17 #[.val (.ref p0), .val (.int (2 : Int32)), .val (.int (6 : Int32)), .val (.ref nb1), .val (.int (2 : Int32))] [(.int (2 : Int32)), (.ref nb1)])) _
    refine XS.aloadN X11.here hx rfl (hb hby d14_17) rfl rfl ?_
    refine XS.iloadN X11.here hx rfl (hb hby d14_18) rfl  ?_
    show Steps p.tables e below (T11.setTop (mkF m 19 #[.val (.ref p0), .val (.int (2 : Int32)), .val (.int (6 : Int32)), .val (.ref nb1), .val (.int (2 : Int32))] [(.int (2 : Int32)), (.ref p0), (.int (2 : Int32)), (.ref nb1)])) _
    refine X11.caload hx (j := (2 : Int32)) (v := (.int c2)) Ar13.1 (State.isArrayOf_alike hZ.alike Ar13.2.1) Ar13.2.2 hin13 hat13 (g := (mkF m 19 #[.val (.ref p0), .val (.int (2 : Int32)), .val (.int (6 : Int32)), .val (.ref nb1), .val (.int (2 : Int32))] [(.int (2 : Int32)), (.ref p0), (.int (2 : Int32)), (.ref nb1)])) rfl rfl (hb hby d14_19) _ ?_
    show Steps p.tables e below (T11.setTop (mkF m 20 #[.val (.ref p0), .val (.int (2 : Int32)), .val (.int (6 : Int32)), .val (.ref nb1), .val (.int (2 : Int32))] [(.int c2), (.int (2 : Int32)), (.ref nb1)])) _
    refine st16 _ ?_
    show Steps p.tables e below (T16.setTop (mkF m 23 #[.val (.ref p0), .val (.int (2 : Int32)), .val (.int (6 : Int32)), .val (.ref nb1), .val (.int (2 : Int32))] [])) _
    refine XS.iinc X16.here hx rfl (hb hby d14_23) rfl (l' := #[.val (.ref p0), .val (.int (3 : Int32)), .val (.int (6 : Int32)), .val (.ref nb1), .val (.int (2 : Int32))]) rfl ?_
    refine XS.iinc X16.here hx rfl (hb hby d14_26) rfl (l' := #[.val (.ref p0), .val (.int (3 : Int32)), .val (.int (6 : Int32)), .val (.ref nb1), .val (.int (3 : Int32))]) rfl ?_
    refine XS.goto X16.here hx rfl (pc0 := 29) (pc' := 8) rfl (hb hby d14_29) (by decide) (by decide) ?_
    show Steps p.tables e below (T16.setTop (mkF m 8 #[.val (.ref p0), .val (.int (3 : Int32)), .val (.int (6 : Int32)), .val (.ref nb1), .val (.int (3 : Int32))] [])) _
    refine XS.iload X16.here hx rfl (hb hby d14_8) rfl  ?_
    refine XS.iloadN X16.here hx rfl (hb hby d14_10) rfl  ?_
    show Steps p.tables e below (T16.setTop (mkF m 11 #[.val (.ref p0), .val (.int (3 : Int32)), .val (.int (6 : Int32)), .val (.ref nb1), .val (.int (3 : Int32))] [(.int (6 : Int32)), (.int (3 : Int32))])) _
    refine XS.icmpNo X16.here hx rfl (hb hby d14_11) rfl (tlt (by decide : (3 : Int32) < (6 : Int32))).2.1 ?_
    refine XS.aloadN X16.here hx rfl (hb hby d14_14) rfl rfl ?_
    refine XS.iload X16.here hx rfl (hb hby d14_15) rfl  ?_
    show Steps p.tables e below (T16.setTop (mkF m 17 #[.val (.ref p0), .val (.int (3 : Int32)), .val (.int (6 : Int32)), .val (.ref nb1), .val (.int (3 : Int32))] [(.int (3 : Int32)), (.ref nb1)])) _
    refine XS.aloadN X16.here hx rfl (hb hby d14_17) rfl rfl ?_
    refine XS.iloadN X16.here hx rfl (hb hby d14_18) rfl  ?_
    show Steps p.tables e below (T16.setTop (mkF m 19 #[.val (.ref p0), .val (.int (3 : Int32)), .val (.int (6 : Int32)), .val (.ref nb1), .val (.int (3 : Int32))] [(.int (3 : Int32)), (.ref p0), (.int (3 : Int32)), (.ref nb1)])) _
    refine X16.caload hx (j := (3 : Int32)) (v := (.int c3)) Ar18.1 (State.isArrayOf_alike hZ.alike Ar18.2.1) Ar18.2.2 hin18 hat18 (g := (mkF m 19 #[.val (.ref p0), .val (.int (3 : Int32)), .val (.int (6 : Int32)), .val (.ref nb1), .val (.int (3 : Int32))] [(.int (3 : Int32)), (.ref p0), (.int (3 : Int32)), (.ref nb1)])) rfl rfl (hb hby d14_19) _ ?_
    show Steps p.tables e below (T16.setTop (mkF m 20 #[.val (.ref p0), .val (.int (3 : Int32)), .val (.int (6 : Int32)), .val (.ref nb1), .val (.int (3 : Int32))] [(.int c3), (.int (3 : Int32)), (.ref nb1)])) _
    refine st21 _ ?_
    show Steps p.tables e below (T21.setTop (mkF m 23 #[.val (.ref p0), .val (.int (3 : Int32)), .val (.int (6 : Int32)), .val (.ref nb1), .val (.int (3 : Int32))] [])) _
    refine XS.iinc X21.here hx rfl (hb hby d14_23) rfl (l' := #[.val (.ref p0), .val (.int (4 : Int32)), .val (.int (6 : Int32)), .val (.ref nb1), .val (.int (3 : Int32))]) rfl ?_
    refine XS.iinc X21.here hx rfl (hb hby d14_26) rfl (l' := #[.val (.ref p0), .val (.int (4 : Int32)), .val (.int (6 : Int32)), .val (.ref nb1), .val (.int (4 : Int32))]) rfl ?_
    refine XS.goto X21.here hx rfl (pc0 := 29) (pc' := 8) rfl (hb hby d14_29) (by decide) (by decide) ?_
    show Steps p.tables e below (T21.setTop (mkF m 8 #[.val (.ref p0), .val (.int (4 : Int32)), .val (.int (6 : Int32)), .val (.ref nb1), .val (.int (4 : Int32))] [])) _
    refine XS.iload X21.here hx rfl (hb hby d14_8) rfl  ?_
    refine XS.iloadN X21.here hx rfl (hb hby d14_10) rfl  ?_
    show Steps p.tables e below (T21.setTop (mkF m 11 #[.val (.ref p0), .val (.int (4 : Int32)), .val (.int (6 : Int32)), .val (.ref nb1), .val (.int (4 : Int32))] [(.int (6 : Int32)), (.int (4 : Int32))])) _
    refine XS.icmpNo X21.here hx rfl (hb hby d14_11) rfl (tlt (by decide : (4 : Int32) < (6 : Int32))).2.1 ?_
    refine XS.aloadN X21.here hx rfl (hb hby d14_14) rfl rfl ?_
    refine XS.iload X21.here hx rfl (hb hby d14_15) rfl  ?_
    show Steps p.tables e below (T21.setTop (mkF m 17 #[.val (.ref p0), .val (.int (4 : Int32)), .val (.int (6 : Int32)), .val (.ref nb1), .val (.int (4 : Int32))] [(.int (4 : Int32)), (.ref nb1)])) _
    refine XS.aloadN X21.here hx rfl (hb hby d14_17) rfl rfl ?_
    refine XS.iloadN X21.here hx rfl (hb hby d14_18) rfl  ?_
    show Steps p.tables e below (T21.setTop (mkF m 19 #[.val (.ref p0), .val (.int (4 : Int32)), .val (.int (6 : Int32)), .val (.ref nb1), .val (.int (4 : Int32))] [(.int (4 : Int32)), (.ref p0), (.int (4 : Int32)), (.ref nb1)])) _
    refine X21.caload hx (j := (4 : Int32)) (v := (.int c4)) Ar23.1 (State.isArrayOf_alike hZ.alike Ar23.2.1) Ar23.2.2 hin23 hat23 (g := (mkF m 19 #[.val (.ref p0), .val (.int (4 : Int32)), .val (.int (6 : Int32)), .val (.ref nb1), .val (.int (4 : Int32))] [(.int (4 : Int32)), (.ref p0), (.int (4 : Int32)), (.ref nb1)])) rfl rfl (hb hby d14_19) _ ?_
    show Steps p.tables e below (T21.setTop (mkF m 20 #[.val (.ref p0), .val (.int (4 : Int32)), .val (.int (6 : Int32)), .val (.ref nb1), .val (.int (4 : Int32))] [(.int c4), (.int (4 : Int32)), (.ref nb1)])) _
    refine st26 _ ?_
    show Steps p.tables e below (T26.setTop (mkF m 23 #[.val (.ref p0), .val (.int (4 : Int32)), .val (.int (6 : Int32)), .val (.ref nb1), .val (.int (4 : Int32))] [])) _
    refine XS.iinc X26.here hx rfl (hb hby d14_23) rfl (l' := #[.val (.ref p0), .val (.int (5 : Int32)), .val (.int (6 : Int32)), .val (.ref nb1), .val (.int (4 : Int32))]) rfl ?_
    refine XS.iinc X26.here hx rfl (hb hby d14_26) rfl (l' := #[.val (.ref p0), .val (.int (5 : Int32)), .val (.int (6 : Int32)), .val (.ref nb1), .val (.int (5 : Int32))]) rfl ?_
    refine XS.goto X26.here hx rfl (pc0 := 29) (pc' := 8) rfl (hb hby d14_29) (by decide) (by decide) ?_
    show Steps p.tables e below (T26.setTop (mkF m 8 #[.val (.ref p0), .val (.int (5 : Int32)), .val (.int (6 : Int32)), .val (.ref nb1), .val (.int (5 : Int32))] [])) _
    refine XS.iload X26.here hx rfl (hb hby d14_8) rfl  ?_
    refine XS.iloadN X26.here hx rfl (hb hby d14_10) rfl  ?_
    show Steps p.tables e below (T26.setTop (mkF m 11 #[.val (.ref p0), .val (.int (5 : Int32)), .val (.int (6 : Int32)), .val (.ref nb1), .val (.int (5 : Int32))] [(.int (6 : Int32)), (.int (5 : Int32))])) _
    refine XS.icmpNo X26.here hx rfl (hb hby d14_11) rfl (tlt (by decide : (5 : Int32) < (6 : Int32))).2.1 ?_
    refine XS.aloadN X26.here hx rfl (hb hby d14_14) rfl rfl ?_
    refine XS.iload X26.here hx rfl (hb hby d14_15) rfl  ?_
    show Steps p.tables e below (T26.setTop (mkF m 17 #[.val (.ref p0), .val (.int (5 : Int32)), .val (.int (6 : Int32)), .val (.ref nb1), .val (.int (5 : Int32))] [(.int (5 : Int32)), (.ref nb1)])) _
    refine XS.aloadN X26.here hx rfl (hb hby d14_17) rfl rfl ?_
    refine XS.iloadN X26.here hx rfl (hb hby d14_18) rfl  ?_
    show Steps p.tables e below (T26.setTop (mkF m 19 #[.val (.ref p0), .val (.int (5 : Int32)), .val (.int (6 : Int32)), .val (.ref nb1), .val (.int (5 : Int32))] [(.int (5 : Int32)), (.ref p0), (.int (5 : Int32)), (.ref nb1)])) _
    refine X26.caload hx (j := (5 : Int32)) (v := (.int c5)) Ar28.1 (State.isArrayOf_alike hZ.alike Ar28.2.1) Ar28.2.2 hin28 hat28 (g := (mkF m 19 #[.val (.ref p0), .val (.int (5 : Int32)), .val (.int (6 : Int32)), .val (.ref nb1), .val (.int (5 : Int32))] [(.int (5 : Int32)), (.ref p0), (.int (5 : Int32)), (.ref nb1)])) rfl rfl (hb hby d14_19) _ ?_
    show Steps p.tables e below (T26.setTop (mkF m 20 #[.val (.ref p0), .val (.int (5 : Int32)), .val (.int (6 : Int32)), .val (.ref nb1), .val (.int (5 : Int32))] [(.int c5), (.int (5 : Int32)), (.ref nb1)])) _
    refine st31 _ ?_
    show Steps p.tables e below (T31.setTop (mkF m 23 #[.val (.ref p0), .val (.int (5 : Int32)), .val (.int (6 : Int32)), .val (.ref nb1), .val (.int (5 : Int32))] [])) _
    refine XS.iinc X31.here hx rfl (hb hby d14_23) rfl (l' := #[.val (.ref p0), .val (.int (6 : Int32)), .val (.int (6 : Int32)), .val (.ref nb1), .val (.int (5 : Int32))]) rfl ?_
    refine XS.iinc X31.here hx rfl (hb hby d14_26) rfl (l' := #[.val (.ref p0), .val (.int (6 : Int32)), .val (.int (6 : Int32)), .val (.ref nb1), .val (.int (6 : Int32))]) rfl ?_
    refine XS.goto X31.here hx rfl (pc0 := 29) (pc' := 8) rfl (hb hby d14_29) (by decide) (by decide) ?_
    show Steps p.tables e below (T31.setTop (mkF m 8 #[.val (.ref p0), .val (.int (6 : Int32)), .val (.int (6 : Int32)), .val (.ref nb1), .val (.int (6 : Int32))] [])) _
    refine XS.iload X31.here hx rfl (hb hby d14_8) rfl  ?_
    refine XS.iloadN X31.here hx rfl (hb hby d14_10) rfl  ?_
    show Steps p.tables e below (T31.setTop (mkF m 11 #[.val (.ref p0), .val (.int (6 : Int32)), .val (.int (6 : Int32)), .val (.ref nb1), .val (.int (6 : Int32))] [(.int (6 : Int32)), (.int (6 : Int32))])) _
    refine XS.icmpYes X31.here hx rfl (pc0 := 11) (pc' := 32) rfl (hb hby d14_11) rfl (flt (by decide : ¬ ((6 : Int32) < (6 : Int32)))).2.1 (by decide) (by decide) ?_
    refine XS.aloadN X31.here hx rfl (hb hby d14_32) rfl rfl ?_
    show Steps p.tables e below (T31.setTop (mkF m 33 #[.val (.ref p0), .val (.int (6 : Int32)), .val (.int (6 : Int32)), .val (.ref nb1), .val (.int (6 : Int32))] [(.ref nb1)])) _
    jvm_step X31.here [X31.here.top, hx, (hb hby d14_33), X31.method', Bd.returns, Value.isRef, FieldType.isReference]
    first | (intro acts; rw [hr _ acts rfl rfl rfl]) | rw [hr _ _ rfl rfl rfl]
    exact Steps.refl _
  · show Q_rmToB6 Z p0 zc fm ks c0 c1 c2 c3 c4 c5 h0 n0 _ T31.heap _
    exact ⟨⟨_, _, rfl, gb1, sb1, Vp31⟩, N31, KK31⟩
theorem ef_rmComp6 (m : MethodId) (p0 : Addr) : entryFrame m #[(.ref p0), (.int (0 : Int32)), (.int (6 : Int32))] 6 = mkF m 0 #[.val (.ref p0), .val (.int (0 : Int32)), .val (.int (6 : Int32)), .unset, .unset, .unset] [] := by first | (simp [entryFrame, mkF, argsToLocals, Value.category]; done) | rfl
def Q_rmComp6 (Z : State) (p0 : Addr) (zc : Int32) (fm : Value) (ks : ClassId) (c0 : Int32) (c1 : Int32) (c2 : Int32) (c3 : Int32) (c4 : Int32) (c5 : Int32) (h0 : Heap) (n0 : Nat) (v : Option Value) (h : Heap) (L : List Loc) : Prop := (∃ (b : Addr) (k : ClassId), v = some (.ref b) ∧ n0 ≤ b ∧ h0.size ≤ b ∧ (((¬ (255 : Int32) < c0 ∧ ¬ (255 : Int32) < c1 ∧ ¬ (255 : Int32) < c2 ∧ ¬ (255 : Int32) < c3 ∧ ¬ (255 : Int32) < c4 ∧ ¬ (255 : Int32) < c5) ∧ Arv Z h b k .byte (6 : Int32) [(.int (own_b c0)), (.int (own_b c1)), (.int (own_b c2)), (.int (own_b c3)), (.int (own_b c4)), (.int (own_b c5))] (.int (0 : Int32))) ∨ Arv Z h b k .byte (12 : Int32) [(.int (own_wl c0)), (.int (own_wh c0)), (.int (own_wl c1)), (.int (own_wh c1)), (.int (own_wl c2)), (.int (own_wh c2)), (.int (own_wl c3)), (.int (own_wh c3)), (.int (own_wl c4)), (.int (own_wh c4)), (.int (own_wl c5)), (.int (own_wh c5))] (.int (0 : Int32)))) ∧ Fr n0 L ∧ Keep h0 h []
set_option maxRecDepth 65536 in
set_option maxHeartbeats 40000000 in
theorem rmComp6 (l : Launch) (Z : State) (a0 : Array Value) (hw : ∀ d ∈ tables_1, d.before a0 Z = true) (ws : List Jvm.Cond) (p0 : Addr) (zc : Int32) (fm : Value) (ks : ClassId) (c0 : Int32) (c1 : Int32) (c2 : Int32) (c3 : Int32) (c4 : Int32) (c5 : Int32) (h0 : Heap) (n0 : Nat) (Z0 : n0 ≤ h0.size) (hSt : own_St Z zc fm) (Ol : Old Z n0 h0) (As : Arv Z h0 p0 ks .char (6 : Int32) [(.int c0), (.int c1), (.int c2), (.int c3), (.int c4), (.int c5)] (.int (0 : Int32))) (hch : ∀ c ∈ [c0, c1, c2, c3, c4, c5], ¬ c < (0 : Int32) ∧ ¬ (65535 : Int32) < c) :
    MetFree l (⟨"java/lang/StringUTF16", "compress", "([CII)[B"⟩ : MethodName) (head1 (Jvm.Cond.code (⟨"java/lang/StringUTF16", "compress", "([CII)[B"⟩ : MethodName) jdk_52_method_16_code 6 (some (.array .byte)) :: ws) ({ frames := 3, cells := 2, slots := 18, locals := 40 } : Room)) (fun a U => a = #[(.ref p0), (.int (0 : Int32)), (.int (6 : Int32))] ∧ Z.Warmed39 U.vm ∧ U.heap = h0) (fun _ _ _ _ _ => True) (fun _ U o U' => ∃ v L, o = .returned v ∧ Q_rmComp6 Z p0 zc fm ks c0 c1 c2 c3 c4 c5 h0 n0 v U'.heap L ∧ FrameEnd U o U' L ({ frames := 3, cells := 2, slots := 18, locals := 40 } : Room).cells ({ frames := 3, cells := 2, slots := 18, locals := 40 } : Room).slots) := by
  refine MetFree.of_bodySF (plainFor_of_name pn_java_lang_StringUTF16) hisR ?_
  intro p e s m args below meth c s₁ Bd hml0 hP hK
  obtain ⟨rfl, hZ, hh⟩ := hP
  have hx := Bd.exec
  have hby := Bd.bytes
  have hml : c.maxLocals = 6 := hml0
  have hown : s.vm.findClass "java/lang/StringUTF16" = some m.cls := findClass_of_methodNamed Bd.named
  have hnm := (name_of_methodNamed Bd.named Bd.method).1
  have hZo := hZ
  have howno := hown
  have X0 : Stand p l e ({ frames := 3, cells := 2, slots := 18, locals := 40 } : Room) s m #[(.ref p0), (.int (0 : Int32)), (.int (6 : Int32))] below meth c s₁ [] 0 0 := Stand.of_body Bd
  have e0 : s₁.heap = h0 := by rw [← hh, Bd.state]; rfl
  have N0 := Fr.nil n0
  have pre0 : ∀ t, Steps p.tables e below (s₁.setTop (mkF m 0 #[.val (.ref p0), .val (.int (0 : Int32)), .val (.int (6 : Int32)), .unset, .unset, .unset] [])) t → Steps p.tables e below (s₁.setTop (entryFrame m #[(.ref p0), (.int (0 : Int32)), (.int (6 : Int32))] 6)) t := fun t k => castTop (ef_rmComp6 m p0 ) k
  obtain ⟨T1, h1, k1, X1, e1, E1, A1, st1⟩ := newP X0 hx hZ (hw _ (List.mem_of_getElem? (i := 15) rfl)) e0 (g := (mkF m 1 #[.val (.ref p0), .val (.int (0 : Int32)), .val (.int (6 : Int32)), .unset, .unset, .unset] [(.int (6 : Int32))])) rfl (hb hby d12_1) rfl (by decide) (cap := 6) (by decide) (by decide) (by decide) (by decide)
  obtain ⟨b1, g1⟩ : ∃ z, z = h0.size := ⟨_, rfl⟩
  rw [← g1] at A1 st1
  have ne1_p0 : p0 ≠ b1 := Nat.ne_of_lt (Nat.lt_of_lt_of_le As.lt (Nat.le_of_eq g1.symm))
  have ge1 : n0 ≤ b1 := Nat.le_trans Z0 (Nat.le_of_eq g1.symm)
  have sz1 : h0.size ≤ b1 := Nat.le_trans (Keep.refl h0 []).1 (Nat.le_of_eq g1.symm)
  have K1 := (Keep.refl h0 []).ext E1
  have V1 : Arv Z h1 b1 k1 .byte (6 : Int32) [(.int (0 : Int32)), (.int (0 : Int32)), (.int (0 : Int32)), (.int (0 : Int32)), (.int (0 : Int32)), (.int (0 : Int32))] (.int (0 : Int32)) := (Arv.new A1 (by decide)).pad (pad_rep [] (.int (0 : Int32)) 6)
  have f2 := (As.ext E1)
  have f3 := (Nat.le_trans Z0 E1.1)
  have f4 := (Ol.ext E1)
  obtain ⟨_, _, ⟨T5, L5, k5, n5⟩, -, X5, ⟨Lc5, hQ5, l5, y5, z5⟩, st5⟩ := Jvm.LawKit.callS X1 hx (y := (⟨"java/lang/StringUTF16", "compress", "([CI[BII)I"⟩ : MethodName)) hown (mvT hZ (hw _ (List.mem_of_getElem? (i := 64) rfl))) (mvT hZ (hw _ (List.mem_of_getElem? (i := 65) rfl))) (mvT hZ (hw _ (List.mem_of_getElem? (i := 62) rfl))) (mvT hZ (hw _ (List.mem_of_getElem? (i := 66) rfl))) (by decide) (backOf (W := 0) (rmCmp6 l Z a0 hw [] p0 b1 zc fm ks k1 c0 c1 c2 c3 c4 c5 h1 n0 f3 hSt f4 f2 V1 ne1_p0 ge1) hZ (hw _ (List.mem_of_getElem? (i := 66) rfl)) (hw _ (List.mem_of_getElem? (i := 62) rfl)) (by decide) (by decide)) (g := (mkF m 9 #[.val (.ref p0), .val (.int (0 : Int32)), .val (.int (6 : Int32)), .val (.ref b1), .unset, .unset] [(.int (6 : Int32)), (.int (0 : Int32)), (.ref b1), (.int (0 : Int32)), (.ref p0)])) rfl (by rw [hml]; rfl) (argsL := [(.ref p0), (.int (0 : Int32)), (.ref b1), (.int (0 : Int32)), (.int (6 : Int32))]) (rest := []) (lenOf pd___CI_BII_I rfl) rfl (by show 2 * 0 + _ ≤ _; exact Nat.le_of_eq rfl) (hb hby d12_9) (fun _ _ => ⟨rfl, e1, (by decide : 1 + 0 ≤ _), (by decide : 6 + 0 ≤ _)⟩)
  dsimp only [Pt.U, Pt.locs, Pt.cells, Pt.slots] at X5 l5 y5 z5 st5 hQ5
  subst l5 y5 z5
  obtain ⟨⟨rc, rfl, hD⟩, Nq5, K5⟩ := hQ5
  have N5 := Fr.app N0 Nq5
  have KK5 := K1.trans K5 (allS (Or.inr sz1) all0)
  have pre6 : ∀ t, Steps p.tables e below (T5.setTop (mkF m 12 #[.val (.ref p0), .val (.int (0 : Int32)), .val (.int (6 : Int32)), .val (.ref b1), .unset, .unset] [(.int rc)])) t → Steps p.tables e below (s₁.setTop (entryFrame m #[(.ref p0), (.int (0 : Int32)), (.int (6 : Int32))] 6)) t := fun t kt => pre0 t (by
    show Steps p.tables e below (s₁.setTop (mkF m 0 #[.val (.ref p0), .val (.int (0 : Int32)), .val (.int (6 : Int32)), .unset, .unset, .unset] [])) _
    refine XS.iloadN X0.here hx rfl (hb hby d12_0) rfl  ?_
    show Steps p.tables e below (s₁.setTop (mkF m 1 #[.val (.ref p0), .val (.int (0 : Int32)), .val (.int (6 : Int32)), .unset, .unset, .unset] [(.int (6 : Int32))])) _
    refine st1 _ ?_
    show Steps p.tables e below (T1.setTop (mkF m 3 #[.val (.ref p0), .val (.int (0 : Int32)), .val (.int (6 : Int32)), .unset, .unset, .unset] [(.ref b1)])) _
    refine XS.astoreN X1.here hx rfl (hb hby d12_3) rfl rfl (l' := #[.val (.ref p0), .val (.int (0 : Int32)), .val (.int (6 : Int32)), .val (.ref b1), .unset, .unset]) rfl ?_
    refine XS.aloadN X1.here hx rfl (hb hby d12_4) rfl rfl ?_
    refine XS.iloadN X1.here hx rfl (hb hby d12_5) rfl  ?_
    show Steps p.tables e below (T1.setTop (mkF m 6 #[.val (.ref p0), .val (.int (0 : Int32)), .val (.int (6 : Int32)), .val (.ref b1), .unset, .unset] [(.int (0 : Int32)), (.ref p0)])) _
    refine XS.aloadN X1.here hx rfl (hb hby d12_6) rfl rfl ?_
    refine XS.iconst X1.here hx rfl (hb hby d12_7) ?_
    refine XS.iloadN X1.here hx rfl (hb hby d12_8) rfl  ?_
    show Steps p.tables e below (T1.setTop (mkF m 9 #[.val (.ref p0), .val (.int (0 : Int32)), .val (.int (6 : Int32)), .val (.ref b1), .unset, .unset] [(.int (6 : Int32)), (.int (0 : Int32)), (.ref b1), (.int (0 : Int32)), (.ref p0)])) _
    refine st5 _ ?_
    exact kt)
  rcases hD with ⟨rfl, hle, Ad⟩ | ⟨j, rfl, hj, hgt⟩
  · obtain ⟨fs, hr, hrun, hended, hW, hsame⟩ := X5.leave (v := some (.ref b1)) (fun h => by rw [Bd.returns] at h; cases h)
    refine ⟨_, _, pre6 _ ?_, hrun, hended, _, _, rfl, ?_, ⟨_, rfl⟩, hW, hsame.mono (by decide) (by decide)⟩
    · show Steps p.tables e below (T5.setTop (mkF m 12 #[.val (.ref p0), .val (.int (0 : Int32)), .val (.int (6 : Int32)), .val (.ref b1), .unset, .unset] [(.int (6 : Int32))])) _
      refine XS.istore X5.here hx rfl (hb hby d12_12) rfl (l' := #[.val (.ref p0), .val (.int (0 : Int32)), .val (.int (6 : Int32)), .val (.ref b1), .val (.int (6 : Int32)), .unset]) rfl ?_
      refine XS.iload X5.here hx rfl (hb hby d12_14) rfl  ?_
      refine XS.iloadN X5.here hx rfl (hb hby d12_16) rfl  ?_
      show Steps p.tables e below (T5.setTop (mkF m 17 #[.val (.ref p0), .val (.int (0 : Int32)), .val (.int (6 : Int32)), .val (.ref b1), .val (.int (6 : Int32)), .unset] [(.int (6 : Int32)), (.int (6 : Int32))])) _
      refine XS.icmpYes X5.here hx rfl (pc0 := 17) (pc' := 57) rfl (hb hby d12_17) rfl (teq (by decide : (6 : Int32) = (6 : Int32))).1 (by decide) (by decide) ?_
      refine XS.aloadN X5.here hx rfl (hb hby d12_57) rfl rfl ?_
      show Steps p.tables e below (T5.setTop (mkF m 58 #[.val (.ref p0), .val (.int (0 : Int32)), .val (.int (6 : Int32)), .val (.ref b1), .val (.int (6 : Int32)), .unset] [(.ref b1)])) _
      jvm_step X5.here [X5.here.top, hx, (hb hby d12_58), X5.method', Bd.returns, Value.isRef, FieldType.isReference]
      first | (intro acts; rw [hr _ acts rfl rfl rfl]) | rw [hr _ _ rfl rfl rfl]
      exact Steps.refl _
    · show Q_rmComp6 Z p0 zc fm ks c0 c1 c2 c3 c4 c5 h0 n0 _ T5.heap _
      exact ⟨⟨_, _, rfl, ge1, sz1, Or.inl (⟨hle, Ad⟩)⟩, N5, KK5⟩
  · have f7 := (f2.keep K5 (ninS ne1_p0 nin0))
    have f8 := (Nat.le_trans f3 K5.1)
    have f9 := (f4.keep K5 (allS ge1 all0))
    obtain ⟨_, _, ⟨T10, L10, k10, n10⟩, -, X10, ⟨Lc10, hQ10, l10, y10, z10⟩, st10⟩ := Jvm.LawKit.callS X5 hx (y := (⟨"java/lang/StringUTF16", "toBytes", "([CII)[B"⟩ : MethodName)) hown (mvT hZ (hw _ (List.mem_of_getElem? (i := 67) rfl))) (mvT hZ (hw _ (List.mem_of_getElem? (i := 68) rfl))) (mvT hZ (hw _ (List.mem_of_getElem? (i := 62) rfl))) (mvT hZ (hw _ (List.mem_of_getElem? (i := 69) rfl))) (by decide) (backOf (W := 0) (rmToB6 l Z a0 hw [] p0 zc fm ks c0 c1 c2 c3 c4 c5 T5.heap n0 f8 hSt f9 f7) hZ (hw _ (List.mem_of_getElem? (i := 69) rfl)) (hw _ (List.mem_of_getElem? (i := 62) rfl)) (by decide) (by decide)) (g := (mkF m 23 #[.val (.ref p0), .val (.int (0 : Int32)), .val (.int (6 : Int32)), .val (.ref b1), .val (.int (Int32.ofNat j)), .unset] [(.int (6 : Int32)), (.int (0 : Int32)), (.ref p0)])) rfl (by rw [hml]; rfl) (argsL := [(.ref p0), (.int (0 : Int32)), (.int (6 : Int32))]) (rest := []) (lenOf pd___CII__B rfl) rfl (by show 2 * 0 + _ ≤ _; exact Nat.le_of_eq rfl) (hb hby d12_23) (fun _ _ => ⟨rfl, rfl, (by decide : 1 + 1 ≤ _), (by decide : 6 + 12 ≤ _)⟩)
    dsimp only [Pt.U, Pt.locs, Pt.cells, Pt.slots] at X10 l10 y10 z10 st10 hQ10
    subst l10 y10 z10
    obtain ⟨⟨tb10, kb10, rfl, gb10, sb10, Ab10⟩, Nq10, K10⟩ := hQ10
    have N10 := Fr.app N5 Nq10
    have KK10 := KK5.trans K10 all0
    have sz10 : h0.size ≤ tb10 := Nat.le_trans KK5.1 sb10
    have hin := own_jin (i := Int32.ofNat j) rfl (by omega)
    have hcm := hch _ (own_mem (cs := [c0, c1, c2, c3, c4, c5]) hj)
    have hsh := own_shl (n := 6) hin.1 (by rw [hin.2]; exact hj) (by decide)
    have f11 := (Nat.le_trans f8 K10.1)
    have f12 := (f9.keep K10 all0)
    obtain ⟨_, _, ⟨T13, L13, k13, n13⟩, -, X13, ⟨Lc13, hQ13, l13, y13, z13⟩, st13⟩ := Jvm.LawKit.callS X10 hx (y := (⟨"java/lang/StringUTF16", "getChar", "([BI)C"⟩ : MethodName)) hown (mvT hZ (hw _ (List.mem_of_getElem? (i := 83) rfl))) (mvT hZ (hw _ (List.mem_of_getElem? (i := 84) rfl))) (mvT hZ (hw _ (List.mem_of_getElem? (i := 62) rfl))) (mvT hZ (hw _ (List.mem_of_getElem? (i := 85) rfl))) (by decide) (backOf (W := 0) (rmGet l Z a0 hw [] tb10 (Int32.ofNat j) zc fm kb10 (12 : Int32) [(.int (own_wl c0)), (.int (own_wh c0)), (.int (own_wl c1)), (.int (own_wh c1)), (.int (own_wl c2)), (.int (own_wh c2)), (.int (own_wl c3)), (.int (own_wh c3)), (.int (own_wl c4)), (.int (own_wh c4)), (.int (own_wl c5)), (.int (own_wh c5))] (own_wl ([c0, c1, c2, c3, c4, c5].getD j 0)) (own_wh ([c0, c1, c2, c3, c4, c5].getD j 0)) ([c0, c1, c2, c3, c4, c5].getD j 0) T10.heap n0 f11 hSt f12 Ab10 hsh.2.2.1 hsh.2.2.2 (by rw [hsh.1, hin.2]; exact (own_getw [c0, c1, c2, c3, c4, c5] j hj).1) (by rw [hsh.2.1, hin.2]; exact (own_getw [c0, c1, c2, c3, c4, c5] j hj).2) (own_rec16 hcm.1 hcm.2).symm) hZ (hw _ (List.mem_of_getElem? (i := 85) rfl)) (hw _ (List.mem_of_getElem? (i := 62) rfl)) (by decide) (by decide)) (g := (mkF m 32 #[.val (.ref p0), .val (.int (0 : Int32)), .val (.int (6 : Int32)), .val (.ref b1), .val (.int (Int32.ofNat j)), .val (.ref tb10)] [(.int (Int32.ofNat j)), (.ref tb10)])) rfl (by rw [hml]; rfl) (argsL := [(.ref tb10), (.int (Int32.ofNat j))]) (rest := []) (lenOf pd___BI_C rfl) rfl (by show 2 * 0 + _ ≤ _; exact Nat.le_of_eq rfl) (hb hby d12_32) (fun _ _ => ⟨rfl, rfl, (by decide : 2 + 0 ≤ _), (by decide : 18 + 0 ≤ _)⟩)
    dsimp only [Pt.U, Pt.locs, Pt.cells, Pt.slots] at X13 l13 y13 z13 st13 hQ13
    subst l13 y13 z13
    obtain ⟨rfl, Nq13, e13⟩ := hQ13
    have N13 := Fr.app N10 Nq13
    obtain ⟨fs, hr, hrun, hended, hW, hsame⟩ := X13.leave (v := some (.ref tb10)) (fun h => by rw [Bd.returns] at h; cases h)
    refine ⟨_, _, pre6 _ ?_, hrun, hended, _, _, rfl, ?_, ⟨_, rfl⟩, hW, hsame.mono (by decide) (by decide)⟩
    · show Steps p.tables e below (T5.setTop (mkF m 12 #[.val (.ref p0), .val (.int (0 : Int32)), .val (.int (6 : Int32)), .val (.ref b1), .unset, .unset] [(.int (Int32.ofNat j))])) _
      refine XS.istore X5.here hx rfl (hb hby d12_12) rfl (l' := #[.val (.ref p0), .val (.int (0 : Int32)), .val (.int (6 : Int32)), .val (.ref b1), .val (.int (Int32.ofNat j)), .unset]) rfl ?_
      refine XS.iload X5.here hx rfl (hb hby d12_14) rfl  ?_
      refine XS.iloadN X5.here hx rfl (hb hby d12_16) rfl  ?_
      show Steps p.tables e below (T5.setTop (mkF m 17 #[.val (.ref p0), .val (.int (0 : Int32)), .val (.int (6 : Int32)), .val (.ref b1), .val (.int (Int32.ofNat j)), .unset] [(.int (6 : Int32)), (.int (Int32.ofNat j))])) _
      refine XS.icmpNo X5.here hx rfl (hb hby d12_17) rfl (feq (own_ofne hj (by decide))).1 ?_
      refine XS.aloadN X5.here hx rfl (hb hby d12_20) rfl rfl ?_
      refine XS.iloadN X5.here hx rfl (hb hby d12_21) rfl  ?_
      show Steps p.tables e below (T5.setTop (mkF m 22 #[.val (.ref p0), .val (.int (0 : Int32)), .val (.int (6 : Int32)), .val (.ref b1), .val (.int (Int32.ofNat j)), .unset] [(.int (0 : Int32)), (.ref p0)])) _
      refine XS.iloadN X5.here hx rfl (hb hby d12_22) rfl  ?_
      show Steps p.tables e below (T5.setTop (mkF m 23 #[.val (.ref p0), .val (.int (0 : Int32)), .val (.int (6 : Int32)), .val (.ref b1), .val (.int (Int32.ofNat j)), .unset] [(.int (6 : Int32)), (.int (0 : Int32)), (.ref p0)])) _
      refine st10 _ ?_
      show Steps p.tables e below (T10.setTop (mkF m 26 #[.val (.ref p0), .val (.int (0 : Int32)), .val (.int (6 : Int32)), .val (.ref b1), .val (.int (Int32.ofNat j)), .unset] [(.ref tb10)])) _
      refine XS.astore X10.here hx rfl (hb hby d12_26) rfl rfl (l' := #[.val (.ref p0), .val (.int (0 : Int32)), .val (.int (6 : Int32)), .val (.ref b1), .val (.int (Int32.ofNat j)), .val (.ref tb10)]) rfl ?_
      refine XS.aload X10.here hx rfl (hb hby d12_28) rfl rfl ?_
      refine XS.iload X10.here hx rfl (hb hby d12_30) rfl  ?_
      show Steps p.tables e below (T10.setTop (mkF m 32 #[.val (.ref p0), .val (.int (0 : Int32)), .val (.int (6 : Int32)), .val (.ref b1), .val (.int (Int32.ofNat j)), .val (.ref tb10)] [(.int (Int32.ofNat j)), (.ref tb10)])) _
      refine st13 _ ?_
      show Steps p.tables e below (T13.setTop (mkF m 35 #[.val (.ref p0), .val (.int (0 : Int32)), .val (.int (6 : Int32)), .val (.ref b1), .val (.int (Int32.ofNat j)), .val (.ref tb10)] [(.int ([c0, c1, c2, c3, c4, c5].getD j 0))])) _
      refine XS.sipush X13.here hx rfl (hb hby d12_35) ?_
      show Steps p.tables e below (T13.setTop (mkF m 38 #[.val (.ref p0), .val (.int (0 : Int32)), .val (.int (6 : Int32)), .val (.ref b1), .val (.int (Int32.ofNat j)), .val (.ref tb10)] [(.int (255 : Int32)), (.int ([c0, c1, c2, c3, c4, c5].getD j 0))])) _
      refine XS.icmpYes X13.here hx rfl (pc0 := 38) (pc' := 54) rfl (hb hby d12_38) rfl (tlt hgt).2.2.1 (by decide) (by decide) ?_
      refine XS.aload X13.here hx rfl (hb hby d12_54) rfl rfl ?_
      show Steps p.tables e below (T13.setTop (mkF m 56 #[.val (.ref p0), .val (.int (0 : Int32)), .val (.int (6 : Int32)), .val (.ref b1), .val (.int (Int32.ofNat j)), .val (.ref tb10)] [(.ref tb10)])) _
      jvm_step X13.here [X13.here.top, hx, (hb hby d12_56), X13.method', Bd.returns, Value.isRef, FieldType.isReference]
      first | (intro acts; rw [hr _ acts rfl rfl rfl]) | rw [hr _ _ rfl rfl rfl]
      exact Steps.refl _
    · show Q_rmComp6 Z p0 zc fm ks c0 c1 c2 c3 c4 c5 h0 n0 _ T13.heap _
      rw [e13]
      exact ⟨⟨_, _, rfl, gb10, sz10, Or.inr (Ab10)⟩, N13, KK10⟩
theorem ef_rmNew4_6 (m : MethodId) (p0 : Addr) (p1 : Addr) : entryFrame m #[(.ref p0), (.ref p1), (.int (0 : Int32)), (.int (6 : Int32)), .null] 6 = mkF m 0 #[.val (.ref p0), .val (.ref p1), .val (.int (0 : Int32)), .val (.int (6 : Int32)), .val .null, .unset] [] := by first | (simp [entryFrame, mkF, argsToLocals, Value.category]; done) | rfl
def Q_rmNew4_6 (Z : State) (p0 : Addr) (p1 : Addr) (zc : Int32) (fm : Value) (ks : ClassId) (c0 : Int32) (c1 : Int32) (c2 : Int32) (c3 : Int32) (c4 : Int32) (c5 : Int32) (h0 : Heap) (n0 : Nat) (v : Option Value) (h : Heap) (L : List Loc) : Prop := v = none ∧ Fr n0 L ∧ Keep h0 h [p0] ∧ own_Str Z h p0 [c0, c1, c2, c3, c4, c5]
set_option maxRecDepth 65536 in
set_option maxHeartbeats 40000000 in
theorem rmNew4_6 (l : Launch) (Z : State) (a0 : Array Value) (hw : ∀ d ∈ tables_1, d.before a0 Z = true) (ws : List Jvm.Cond) (p0 : Addr) (p1 : Addr) (zc : Int32) (fm : Value) (ks : ClassId) (c0 : Int32) (c1 : Int32) (c2 : Int32) (c3 : Int32) (c4 : Int32) (c5 : Int32) (h0 : Heap) (n0 : Nat) (Z0 : n0 ≤ h0.size) (hSt : own_St Z zc fm) (Ol : Old Z n0 h0) (E0 : Exa Z h0 p0 "java/lang/String") (Fv : Fld Z h0 p0 "java/lang/String" "value" "[B" .null) (Fc : Fld Z h0 p0 "java/lang/String" "coder" "B" (.int (0 : Int32))) (g0_ : n0 ≤ p0) (As : Arv Z h0 p1 ks .char (6 : Int32) [(.int c0), (.int c1), (.int c2), (.int c3), (.int c4), (.int c5)] (.int (0 : Int32))) (hch : ∀ c ∈ [c0, c1, c2, c3, c4, c5], ¬ c < (0 : Int32) ∧ ¬ (65535 : Int32) < c) :
    MetFree l (⟨"java/lang/String", "<init>", "([CIILjava/lang/Void;)V"⟩ : MethodName) (head1 (Jvm.Cond.code (⟨"java/lang/String", "<init>", "([CIILjava/lang/Void;)V"⟩ : MethodName) jdk_42_method_149_code 6 none :: ws) ({ frames := 4, cells := 2, slots := 18, locals := 57 } : Room)) (fun a U => a = #[(.ref p0), (.ref p1), (.int (0 : Int32)), (.int (6 : Int32)), .null] ∧ Z.Warmed39 U.vm ∧ U.heap = h0) (fun _ _ _ _ _ => True) (fun _ U o U' => ∃ v L, o = .returned v ∧ Q_rmNew4_6 Z p0 p1 zc fm ks c0 c1 c2 c3 c4 c5 h0 n0 v U'.heap L ∧ FrameEnd U o U' L ({ frames := 4, cells := 2, slots := 18, locals := 57 } : Room).cells ({ frames := 4, cells := 2, slots := 18, locals := 57 } : Room).slots) := by
  refine MetFree.of_bodySF (plainFor_of_name pn_java_lang_String) hisR ?_
  intro p e s m args below meth c s₁ Bd hml0 hP hK
  obtain ⟨rfl, hZ, hh⟩ := hP
  have hx := Bd.exec
  have hby := Bd.bytes
  have hml : c.maxLocals = 6 := hml0
  have hown : s.vm.findClass "java/lang/String" = some m.cls := findClass_of_methodNamed Bd.named
  have hnm := (name_of_methodNamed Bd.named Bd.method).1
  have hZo := hZ
  have howno := hown
  have X0 : Stand p l e ({ frames := 4, cells := 2, slots := 18, locals := 57 } : Room) s m #[(.ref p0), (.ref p1), (.int (0 : Int32)), (.int (6 : Int32)), .null] below meth c s₁ [] 0 0 := Stand.of_body Bd
  have e0 : s₁.heap = h0 := by rw [← hh, Bd.state]; rfl
  have N0 := Fr.nil n0
  have pre0 : ∀ t, Steps p.tables e below (s₁.setTop (mkF m 0 #[.val (.ref p0), .val (.ref p1), .val (.int (0 : Int32)), .val (.int (6 : Int32)), .val .null, .unset] [])) t → Steps p.tables e below (s₁.setTop (entryFrame m #[(.ref p0), (.ref p1), (.int (0 : Int32)), (.int (6 : Int32)), .null] 6)) t := fun t k => castTop (ef_rmNew4_6 m p0 p1 ) k
  obtain ⟨T1, X1, e1, st1⟩ := initO X0 hx hZ hown (hw _ (List.mem_of_getElem? (i := 11) rfl)) (hw _ (List.mem_of_getElem? (i := 12) rfl)) (hw _ (List.mem_of_getElem? (i := 13) rfl)) e0 (g := (mkF m 1 #[.val (.ref p0), .val (.ref p1), .val (.int (0 : Int32)), .val (.int (6 : Int32)), .val .null, .unset] [(.ref p0)])) rfl (by rw [hml]; rfl) rfl (hb hby d2_1) (by decide) (W := 0) (by show 2 * 0 + _ ≤ _; exact Nat.le_of_eq rfl) (by decide)
  obtain ⟨T2, X2, e2, st2⟩ := getS2 X1 hx hZ hown (host := "") (Or.inl (hw _ (List.mem_of_getElem? (i := 40) rfl))) Via.refl e1 (hSt.1.ext Ol.2) (g := (mkF m 27 #[.val (.ref p0), .val (.ref p1), .val (.int (0 : Int32)), .val (.int (6 : Int32)), .val .null, .unset] [])) rfl (hb hby d2_27)
  obtain ⟨_, _, ⟨T3, L3, k3, n3⟩, -, X3, ⟨Lc3, hQ3, l3, y3, z3⟩, st3⟩ := Jvm.LawKit.callS X2 hx (y := (⟨"java/lang/StringUTF16", "compress", "([CII)[B"⟩ : MethodName)) hown (mvT hZ (hw _ (List.mem_of_getElem? (i := 60) rfl))) (mvT hZ (hw _ (List.mem_of_getElem? (i := 61) rfl))) (mvT hZ (hw _ (List.mem_of_getElem? (i := 62) rfl))) (mvT hZ (hw _ (List.mem_of_getElem? (i := 63) rfl))) (by decide) (backOf (W := 0) (rmComp6 l Z a0 hw [] p1 zc fm ks c0 c1 c2 c3 c4 c5 h0 n0 Z0 hSt Ol As hch) hZ (hw _ (List.mem_of_getElem? (i := 63) rfl)) (hw _ (List.mem_of_getElem? (i := 62) rfl)) (by decide) (by decide)) (g := (mkF m 36 #[.val (.ref p0), .val (.ref p1), .val (.int (0 : Int32)), .val (.int (6 : Int32)), .val .null, .unset] [(.int (6 : Int32)), (.int (0 : Int32)), (.ref p1)])) rfl (by rw [hml]; rfl) (argsL := [(.ref p1), (.int (0 : Int32)), (.int (6 : Int32))]) (rest := []) (lenOf pd___CII__B rfl) rfl (by show 2 * 0 + _ ≤ _; exact Nat.le_of_eq rfl) (hb hby d2_36) (fun _ _ => ⟨rfl, e2, (by decide : 0 + 2 ≤ _), (by decide : 0 + 18 ≤ _)⟩)
  dsimp only [Pt.U, Pt.locs, Pt.cells, Pt.slots] at X3 l3 y3 z3 st3 hQ3
  subst l3 y3 z3
  obtain ⟨⟨vb3, kb3, rfl, gb3, sb3, hD⟩, Nq3, K3⟩ := hQ3
  have N3 := Fr.app N0 Nq3
  have KK3 := (Keep.refl h0 [p0]).trans K3 all0
  have ne_vb3 : p0 ≠ vb3 := Nat.ne_of_lt (Nat.lt_of_lt_of_le E0.lt sb3)
  have pre4 : ∀ t, Steps p.tables e below (T3.setTop (mkF m 39 #[.val (.ref p0), .val (.ref p1), .val (.int (0 : Int32)), .val (.int (6 : Int32)), .val .null, .unset] [(.ref vb3)])) t → Steps p.tables e below (s₁.setTop (entryFrame m #[(.ref p0), (.ref p1), (.int (0 : Int32)), (.int (6 : Int32)), .null] 6)) t := fun t kt => pre0 t (by
    show Steps p.tables e below (s₁.setTop (mkF m 0 #[.val (.ref p0), .val (.ref p1), .val (.int (0 : Int32)), .val (.int (6 : Int32)), .val .null, .unset] [])) _
    refine XS.aloadN X0.here hx rfl (hb hby d2_0) rfl rfl ?_
    show Steps p.tables e below (s₁.setTop (mkF m 1 #[.val (.ref p0), .val (.ref p1), .val (.int (0 : Int32)), .val (.int (6 : Int32)), .val .null, .unset] [(.ref p0)])) _
    refine st1 _ ?_
    show Steps p.tables e below (T1.setTop (mkF m 4 #[.val (.ref p0), .val (.ref p1), .val (.int (0 : Int32)), .val (.int (6 : Int32)), .val .null, .unset] [])) _
    refine XS.iloadN X1.here hx rfl (hb hby d2_4) rfl  ?_
    show Steps p.tables e below (T1.setTop (mkF m 5 #[.val (.ref p0), .val (.ref p1), .val (.int (0 : Int32)), .val (.int (6 : Int32)), .val .null, .unset] [(.int (6 : Int32))])) _
    refine XS.ifYes X1.here hx rfl (pc0 := 5) (pc' := 27) rfl (hb hby d2_5) rfl ((if0 _ _).trans (feq (by decide : ¬ ((6 : Int32) = (0 : Int32)))).2) (by decide) (by decide) ?_
    show Steps p.tables e below (T1.setTop (mkF m 27 #[.val (.ref p0), .val (.ref p1), .val (.int (0 : Int32)), .val (.int (6 : Int32)), .val .null, .unset] [])) _
    refine st2 _ ?_
    show Steps p.tables e below (T2.setTop (mkF m 30 #[.val (.ref p0), .val (.ref p1), .val (.int (0 : Int32)), .val (.int (6 : Int32)), .val .null, .unset] [(.int zc)])) _
    refine XS.ifNo X2.here hx rfl (hb hby d2_30) rfl ((if0 _ _).trans (feq hSt.2.1).1) ?_
    refine XS.aloadN X2.here hx rfl (hb hby d2_33) rfl rfl ?_
    refine XS.iloadN X2.here hx rfl (hb hby d2_34) rfl  ?_
    show Steps p.tables e below (T2.setTop (mkF m 35 #[.val (.ref p0), .val (.ref p1), .val (.int (0 : Int32)), .val (.int (6 : Int32)), .val .null, .unset] [(.int (0 : Int32)), (.ref p1)])) _
    refine XS.iloadN X2.here hx rfl (hb hby d2_35) rfl  ?_
    show Steps p.tables e below (T2.setTop (mkF m 36 #[.val (.ref p0), .val (.ref p1), .val (.int (0 : Int32)), .val (.int (6 : Int32)), .val .null, .unset] [(.int (6 : Int32)), (.int (0 : Int32)), (.ref p1)])) _
    refine st3 _ ?_
    exact kt)
  rcases hD with ⟨hle, Ad⟩ | Ad
  · have f5 := (Nat.le_trans Z0 K3.1)
    have f6 := (Ol.keep K3 all0)
    obtain ⟨_, _, ⟨T7, L7, k7, n7⟩, -, X7, ⟨Lc7, hQ7, l7, y7, z7⟩, st7⟩ := Jvm.LawKit.callS X3 hx (y := (⟨"java/lang/StringUTF16", "coderFromArrayLen", "([BI)B"⟩ : MethodName)) hown (mvT hZ (hw _ (List.mem_of_getElem? (i := 86) rfl))) (mvT hZ (hw _ (List.mem_of_getElem? (i := 87) rfl))) (mvT hZ (hw _ (List.mem_of_getElem? (i := 62) rfl))) (mvT hZ (hw _ (List.mem_of_getElem? (i := 88) rfl))) (by decide) (backOf (W := 1) (rmCFA l Z a0 hw [] vb3 (6 : Int32) zc fm kb3 (6 : Int32) [(.int (own_b c0)), (.int (own_b c1)), (.int (own_b c2)), (.int (own_b c3)), (.int (own_b c4)), (.int (own_b c5))] (0 : Int32) T3.heap n0 f5 hSt f6 Ad (by decide)) hZ (hw _ (List.mem_of_getElem? (i := 88) rfl)) (hw _ (List.mem_of_getElem? (i := 62) rfl)) (by decide) (by decide)) (g := (mkF m 45 #[.val (.ref p0), .val (.ref p1), .val (.int (0 : Int32)), .val (.int (6 : Int32)), .val .null, .val (.ref vb3)] [(.int (6 : Int32)), (.ref vb3), (.ref p0)])) rfl (by rw [hml]; rfl) (argsL := [(.ref vb3), (.int (6 : Int32))]) (rest := [(.ref p0)]) (lenOf pd___BI_B rfl) rfl (by show 2 * 0 + _ ≤ _; exact Nat.le_of_eq rfl) (hb hby d2_45) (fun _ _ => ⟨rfl, rfl, (by decide : 2 + 0 ≤ _), (by decide : 18 + 0 ≤ _)⟩)
    dsimp only [Pt.U, Pt.locs, Pt.cells, Pt.slots] at X7 l7 y7 z7 st7 hQ7
    subst l7 y7 z7
    obtain ⟨rfl, Nq7, e7⟩ := hQ7
    have N7 := Fr.app N3 Nq7
    have f8 := (E0.keep K3)
    have f9 := (Fc.keep K3 nin0)
    obtain ⟨T10, h10, X10, e10, W10, st10⟩ := putFN X7 hx hZ hown (hw _ (List.mem_of_getElem? (i := 21) rfl)) Via.refl e7 f9 f8 (Or.inr ⟨(hw _ (List.mem_of_getElem? (i := 17) rfl)), rfl, hnm⟩) (hw _ (List.mem_of_getElem? (i := 2) rfl)) (ty := .byte) (v' := (.int (0 : Int32))) (by decide) rfl (by decide) (g := (mkF m 48 #[.val (.ref p0), .val (.ref p1), .val (.int (0 : Int32)), .val (.int (6 : Int32)), .val .null, .val (.ref vb3)] [(.int (0 : Int32)), (.ref p0)])) rfl rfl (hb hby d2_48)
    have Fw10 := f9.same W10
    have N10 := Fr.snoc X10 N7 g0_
    have K10 := KK3.wr W10 (Or.inl (List.mem_of_getElem? (i := 0) rfl))
    have f11 := (f8.wr W10)
    have f12 := ((Fv.keep K3 nin0).other W10 (Or.inr (slot_ne (Or.inr (hw _ (List.mem_of_getElem? (i := 16) rfl))) (Or.inr (hw _ (List.mem_of_getElem? (i := 17) rfl))) (by decide) (t := (.array .byte)) (t' := .byte) (by decide) (by decide))))
    obtain ⟨T13, h13, X13, e13, W13, st13⟩ := putF X10 hx hZ hown (host := "") (Or.inl (hw _ (List.mem_of_getElem? (i := 20) rfl))) Via.refl e10 f12 f11 (Or.inr ⟨(hw _ (List.mem_of_getElem? (i := 16) rfl)), rfl, hnm⟩) (hw _ (List.mem_of_getElem? (i := 2) rfl)) (ty := (.array .byte)) (by decide) rfl rfl (g := (mkF m 54 #[.val (.ref p0), .val (.ref p1), .val (.int (0 : Int32)), .val (.int (6 : Int32)), .val .null, .val (.ref vb3)] [(.ref vb3), (.ref p0)])) rfl rfl (hb hby d2_54)
    have Fw13 := f12.same W13
    have N13 := Fr.snoc X13 N10 g0_
    have K13 := K10.wr W13 (Or.inl (List.mem_of_getElem? (i := 0) rfl))
    have f14 := (f11.wr W13)
    have f15 := (Fw10.other W13 (Or.inr (slot_ne (Or.inr (hw _ (List.mem_of_getElem? (i := 17) rfl))) (Or.inr (hw _ (List.mem_of_getElem? (i := 16) rfl))) (by decide) (t := .byte) (t' := (.array .byte)) (by decide) (by decide))))
    have f16 := ((Ad.other W10 (Ne.symm ne_vb3)).other W13 (Ne.symm ne_vb3))
    obtain ⟨fs, hr, hrun, hended, hW, hsame⟩ := X13.leave (v := none) (fun _ => rfl)
    refine ⟨_, _, pre4 _ ?_, hrun, hended, _, _, rfl, ?_, ⟨_, rfl⟩, hW, hsame.mono (by decide) (by decide)⟩
    · show Steps p.tables e below (T3.setTop (mkF m 39 #[.val (.ref p0), .val (.ref p1), .val (.int (0 : Int32)), .val (.int (6 : Int32)), .val .null, .unset] [(.ref vb3)])) _
      refine XS.astore X3.here hx rfl (hb hby d2_39) rfl rfl (l' := #[.val (.ref p0), .val (.ref p1), .val (.int (0 : Int32)), .val (.int (6 : Int32)), .val .null, .val (.ref vb3)]) rfl ?_
      refine XS.aloadN X3.here hx rfl (hb hby d2_41) rfl rfl ?_
      refine XS.aload X3.here hx rfl (hb hby d2_42) rfl rfl ?_
      show Steps p.tables e below (T3.setTop (mkF m 44 #[.val (.ref p0), .val (.ref p1), .val (.int (0 : Int32)), .val (.int (6 : Int32)), .val .null, .val (.ref vb3)] [(.ref vb3), (.ref p0)])) _
      refine XS.iloadN X3.here hx rfl (hb hby d2_44) rfl  ?_
      show Steps p.tables e below (T3.setTop (mkF m 45 #[.val (.ref p0), .val (.ref p1), .val (.int (0 : Int32)), .val (.int (6 : Int32)), .val .null, .val (.ref vb3)] [(.int (6 : Int32)), (.ref vb3), (.ref p0)])) _
      refine st7 _ ?_
      show Steps p.tables e below (T7.setTop (mkF m 48 #[.val (.ref p0), .val (.ref p1), .val (.int (0 : Int32)), .val (.int (6 : Int32)), .val .null, .val (.ref vb3)] [(.int (0 : Int32)), (.ref p0)])) _
      refine st10 _ ?_
      show Steps p.tables e below (T10.setTop (mkF m 51 #[.val (.ref p0), .val (.ref p1), .val (.int (0 : Int32)), .val (.int (6 : Int32)), .val .null, .val (.ref vb3)] [])) _
      refine XS.aloadN X10.here hx rfl (hb hby d2_51) rfl rfl ?_
      refine XS.aload X10.here hx rfl (hb hby d2_52) rfl rfl ?_
      show Steps p.tables e below (T10.setTop (mkF m 54 #[.val (.ref p0), .val (.ref p1), .val (.int (0 : Int32)), .val (.int (6 : Int32)), .val .null, .val (.ref vb3)] [(.ref vb3), (.ref p0)])) _
      refine st13 _ ?_
      show Steps p.tables e below (T13.setTop (mkF m 57 #[.val (.ref p0), .val (.ref p1), .val (.int (0 : Int32)), .val (.int (6 : Int32)), .val .null, .val (.ref vb3)] [])) _
      exact X13.returnOut hx Bd.returns (hb hby d2_57) hr
    · show Q_rmNew4_6 Z p0 p1 zc fm ks c0 c1 c2 c3 c4 c5 h0 n0 _ T13.heap _
      rw [e13]
      exact ⟨rfl, N13, K13, vb3, kb3, (0 : Int32), (6 : Int32), _, f14, Fw13, f15, f16, Or.inl ⟨rfl, rfl, rfl, (own_allc hle.1 (own_allc hle.2.1 (own_allc hle.2.2.1 (own_allc hle.2.2.2.1 (own_allc hle.2.2.2.2.1 (own_allc hle.2.2.2.2.2 (fun _ q => nomatch q)))))))⟩, hch, Nat.le_of_ble_eq_true rfl⟩
  · have f17 := (Nat.le_trans Z0 K3.1)
    have f18 := (Ol.keep K3 all0)
    obtain ⟨_, _, ⟨T19, L19, k19, n19⟩, -, X19, ⟨Lc19, hQ19, l19, y19, z19⟩, st19⟩ := Jvm.LawKit.callS X3 hx (y := (⟨"java/lang/StringUTF16", "coderFromArrayLen", "([BI)B"⟩ : MethodName)) hown (mvT hZ (hw _ (List.mem_of_getElem? (i := 86) rfl))) (mvT hZ (hw _ (List.mem_of_getElem? (i := 87) rfl))) (mvT hZ (hw _ (List.mem_of_getElem? (i := 62) rfl))) (mvT hZ (hw _ (List.mem_of_getElem? (i := 88) rfl))) (by decide) (backOf (W := 1) (rmCFA l Z a0 hw [] vb3 (6 : Int32) zc fm kb3 (12 : Int32) [(.int (own_wl c0)), (.int (own_wh c0)), (.int (own_wl c1)), (.int (own_wh c1)), (.int (own_wl c2)), (.int (own_wh c2)), (.int (own_wl c3)), (.int (own_wh c3)), (.int (own_wl c4)), (.int (own_wh c4)), (.int (own_wl c5)), (.int (own_wh c5))] (1 : Int32) T3.heap n0 f17 hSt f18 Ad (by decide)) hZ (hw _ (List.mem_of_getElem? (i := 88) rfl)) (hw _ (List.mem_of_getElem? (i := 62) rfl)) (by decide) (by decide)) (g := (mkF m 45 #[.val (.ref p0), .val (.ref p1), .val (.int (0 : Int32)), .val (.int (6 : Int32)), .val .null, .val (.ref vb3)] [(.int (6 : Int32)), (.ref vb3), (.ref p0)])) rfl (by rw [hml]; rfl) (argsL := [(.ref vb3), (.int (6 : Int32))]) (rest := [(.ref p0)]) (lenOf pd___BI_B rfl) rfl (by show 2 * 0 + _ ≤ _; exact Nat.le_of_eq rfl) (hb hby d2_45) (fun _ _ => ⟨rfl, rfl, (by decide : 2 + 0 ≤ _), (by decide : 18 + 0 ≤ _)⟩)
    dsimp only [Pt.U, Pt.locs, Pt.cells, Pt.slots] at X19 l19 y19 z19 st19 hQ19
    subst l19 y19 z19
    obtain ⟨rfl, Nq19, e19⟩ := hQ19
    have N19 := Fr.app N3 Nq19
    have f20 := (E0.keep K3)
    have f21 := (Fc.keep K3 nin0)
    obtain ⟨T22, h22, X22, e22, W22, st22⟩ := putFN X19 hx hZ hown (hw _ (List.mem_of_getElem? (i := 21) rfl)) Via.refl e19 f21 f20 (Or.inr ⟨(hw _ (List.mem_of_getElem? (i := 17) rfl)), rfl, hnm⟩) (hw _ (List.mem_of_getElem? (i := 2) rfl)) (ty := .byte) (v' := (.int (1 : Int32))) (by decide) rfl (by decide) (g := (mkF m 48 #[.val (.ref p0), .val (.ref p1), .val (.int (0 : Int32)), .val (.int (6 : Int32)), .val .null, .val (.ref vb3)] [(.int (1 : Int32)), (.ref p0)])) rfl rfl (hb hby d2_48)
    have Fw22 := f21.same W22
    have N22 := Fr.snoc X22 N19 g0_
    have K22 := KK3.wr W22 (Or.inl (List.mem_of_getElem? (i := 0) rfl))
    have f23 := (f20.wr W22)
    have f24 := ((Fv.keep K3 nin0).other W22 (Or.inr (slot_ne (Or.inr (hw _ (List.mem_of_getElem? (i := 16) rfl))) (Or.inr (hw _ (List.mem_of_getElem? (i := 17) rfl))) (by decide) (t := (.array .byte)) (t' := .byte) (by decide) (by decide))))
    obtain ⟨T25, h25, X25, e25, W25, st25⟩ := putF X22 hx hZ hown (host := "") (Or.inl (hw _ (List.mem_of_getElem? (i := 20) rfl))) Via.refl e22 f24 f23 (Or.inr ⟨(hw _ (List.mem_of_getElem? (i := 16) rfl)), rfl, hnm⟩) (hw _ (List.mem_of_getElem? (i := 2) rfl)) (ty := (.array .byte)) (by decide) rfl rfl (g := (mkF m 54 #[.val (.ref p0), .val (.ref p1), .val (.int (0 : Int32)), .val (.int (6 : Int32)), .val .null, .val (.ref vb3)] [(.ref vb3), (.ref p0)])) rfl rfl (hb hby d2_54)
    have Fw25 := f24.same W25
    have N25 := Fr.snoc X25 N22 g0_
    have K25 := K22.wr W25 (Or.inl (List.mem_of_getElem? (i := 0) rfl))
    have f26 := (f23.wr W25)
    have f27 := (Fw22.other W25 (Or.inr (slot_ne (Or.inr (hw _ (List.mem_of_getElem? (i := 17) rfl))) (Or.inr (hw _ (List.mem_of_getElem? (i := 16) rfl))) (by decide) (t := .byte) (t' := (.array .byte)) (by decide) (by decide))))
    have f28 := ((Ad.other W22 (Ne.symm ne_vb3)).other W25 (Ne.symm ne_vb3))
    obtain ⟨fs, hr, hrun, hended, hW, hsame⟩ := X25.leave (v := none) (fun _ => rfl)
    refine ⟨_, _, pre4 _ ?_, hrun, hended, _, _, rfl, ?_, ⟨_, rfl⟩, hW, hsame.mono (by decide) (by decide)⟩
    · show Steps p.tables e below (T3.setTop (mkF m 39 #[.val (.ref p0), .val (.ref p1), .val (.int (0 : Int32)), .val (.int (6 : Int32)), .val .null, .unset] [(.ref vb3)])) _
      refine XS.astore X3.here hx rfl (hb hby d2_39) rfl rfl (l' := #[.val (.ref p0), .val (.ref p1), .val (.int (0 : Int32)), .val (.int (6 : Int32)), .val .null, .val (.ref vb3)]) rfl ?_
      refine XS.aloadN X3.here hx rfl (hb hby d2_41) rfl rfl ?_
      refine XS.aload X3.here hx rfl (hb hby d2_42) rfl rfl ?_
      show Steps p.tables e below (T3.setTop (mkF m 44 #[.val (.ref p0), .val (.ref p1), .val (.int (0 : Int32)), .val (.int (6 : Int32)), .val .null, .val (.ref vb3)] [(.ref vb3), (.ref p0)])) _
      refine XS.iloadN X3.here hx rfl (hb hby d2_44) rfl  ?_
      show Steps p.tables e below (T3.setTop (mkF m 45 #[.val (.ref p0), .val (.ref p1), .val (.int (0 : Int32)), .val (.int (6 : Int32)), .val .null, .val (.ref vb3)] [(.int (6 : Int32)), (.ref vb3), (.ref p0)])) _
      refine st19 _ ?_
      show Steps p.tables e below (T19.setTop (mkF m 48 #[.val (.ref p0), .val (.ref p1), .val (.int (0 : Int32)), .val (.int (6 : Int32)), .val .null, .val (.ref vb3)] [(.int (1 : Int32)), (.ref p0)])) _
      refine st22 _ ?_
      show Steps p.tables e below (T22.setTop (mkF m 51 #[.val (.ref p0), .val (.ref p1), .val (.int (0 : Int32)), .val (.int (6 : Int32)), .val .null, .val (.ref vb3)] [])) _
      refine XS.aloadN X22.here hx rfl (hb hby d2_51) rfl rfl ?_
      refine XS.aload X22.here hx rfl (hb hby d2_52) rfl rfl ?_
      show Steps p.tables e below (T22.setTop (mkF m 54 #[.val (.ref p0), .val (.ref p1), .val (.int (0 : Int32)), .val (.int (6 : Int32)), .val .null, .val (.ref vb3)] [(.ref vb3), (.ref p0)])) _
      refine st25 _ ?_
      show Steps p.tables e below (T25.setTop (mkF m 57 #[.val (.ref p0), .val (.ref p1), .val (.int (0 : Int32)), .val (.int (6 : Int32)), .val .null, .val (.ref vb3)] [])) _
      exact X25.returnOut hx Bd.returns (hb hby d2_57) hr
    · show Q_rmNew4_6 Z p0 p1 zc fm ks c0 c1 c2 c3 c4 c5 h0 n0 _ T25.heap _
      rw [e25]
      exact ⟨rfl, N25, K25, vb3, kb3, (1 : Int32), (12 : Int32), _, f26, Fw25, f27, f28, Or.inr ⟨rfl, rfl, rfl⟩, hch, Nat.le_of_ble_eq_true rfl⟩
theorem ef_rmNew6 (m : MethodId) (p0 : Addr) (p1 : Addr) : entryFrame m #[(.ref p0), (.ref p1)] 2 = mkF m 0 #[.val (.ref p0), .val (.ref p1)] [] := by first | (simp [entryFrame, mkF, argsToLocals, Value.category]; done) | rfl
def Q_rmNew6 (Z : State) (p0 : Addr) (p1 : Addr) (zc : Int32) (fm : Value) (ks : ClassId) (c0 : Int32) (c1 : Int32) (c2 : Int32) (c3 : Int32) (c4 : Int32) (c5 : Int32) (h0 : Heap) (n0 : Nat) (v : Option Value) (h : Heap) (L : List Loc) : Prop := v = none ∧ Fr n0 L ∧ Keep h0 h [p0] ∧ own_Str Z h p0 [c0, c1, c2, c3, c4, c5]
set_option maxRecDepth 65536 in
set_option maxHeartbeats 40000000 in
theorem rmNew6 (l : Launch) (Z : State) (a0 : Array Value) (hw : ∀ d ∈ tables_1, d.before a0 Z = true) (ws : List Jvm.Cond) (p0 : Addr) (p1 : Addr) (zc : Int32) (fm : Value) (ks : ClassId) (c0 : Int32) (c1 : Int32) (c2 : Int32) (c3 : Int32) (c4 : Int32) (c5 : Int32) (h0 : Heap) (n0 : Nat) (Z0 : n0 ≤ h0.size) (hSt : own_St Z zc fm) (Ol : Old Z n0 h0) (E0 : Exa Z h0 p0 "java/lang/String") (Fv : Fld Z h0 p0 "java/lang/String" "value" "[B" .null) (Fc : Fld Z h0 p0 "java/lang/String" "coder" "B" (.int (0 : Int32))) (g0_ : n0 ≤ p0) (As : Arv Z h0 p1 ks .char (6 : Int32) [(.int c0), (.int c1), (.int c2), (.int c3), (.int c4), (.int c5)] (.int (0 : Int32))) (hch : ∀ c ∈ [c0, c1, c2, c3, c4, c5], ¬ c < (0 : Int32) ∧ ¬ (65535 : Int32) < c) :
    MetFree l (⟨"java/lang/String", "<init>", "([C)V"⟩ : MethodName) (head1 (Jvm.Cond.code (⟨"java/lang/String", "<init>", "([C)V"⟩ : MethodName) jdk_42_method_3_code 2 none :: ws) ({ frames := 5, cells := 2, slots := 18, locals := 74 } : Room)) (fun a U => a = #[(.ref p0), (.ref p1)] ∧ Z.Warmed39 U.vm ∧ U.heap = h0) (fun _ _ _ _ _ => True) (fun _ U o U' => ∃ v L, o = .returned v ∧ Q_rmNew6 Z p0 p1 zc fm ks c0 c1 c2 c3 c4 c5 h0 n0 v U'.heap L ∧ FrameEnd U o U' L ({ frames := 5, cells := 2, slots := 18, locals := 74 } : Room).cells ({ frames := 5, cells := 2, slots := 18, locals := 74 } : Room).slots) := by
  refine MetFree.of_bodySF (plainFor_of_name pn_java_lang_String) hisR ?_
  intro p e s m args below meth c s₁ Bd hml0 hP hK
  obtain ⟨rfl, hZ, hh⟩ := hP
  have hx := Bd.exec
  have hby := Bd.bytes
  have hml : c.maxLocals = 2 := hml0
  have hown : s.vm.findClass "java/lang/String" = some m.cls := findClass_of_methodNamed Bd.named
  have hnm := (name_of_methodNamed Bd.named Bd.method).1
  have hZo := hZ
  have howno := hown
  have X0 : Stand p l e ({ frames := 5, cells := 2, slots := 18, locals := 74 } : Room) s m #[(.ref p0), (.ref p1)] below meth c s₁ [] 0 0 := Stand.of_body Bd
  have e0 : s₁.heap = h0 := by rw [← hh, Bd.state]; rfl
  have N0 := Fr.nil n0
  have pre0 : ∀ t, Steps p.tables e below (s₁.setTop (mkF m 0 #[.val (.ref p0), .val (.ref p1)] [])) t → Steps p.tables e below (s₁.setTop (entryFrame m #[(.ref p0), (.ref p1)] 2)) t := fun t k => castTop (ef_rmNew6 m p0 p1 ) k
  obtain ⟨cl1, Ar1, -, S1, N1, -, -⟩ := id As
  obtain ⟨_, _, ⟨T2, L2, k2, n2⟩, -, X2, ⟨Lc2, hQ2, l2, y2, z2⟩, st2⟩ := X0.specialBack hx (y := (⟨"java/lang/String", "<init>", "([CIILjava/lang/Void;)V"⟩ : MethodName)) rfl hown (mvT hZ (hw _ (List.mem_of_getElem? (i := 7) rfl))) (mvT hZ (hw _ (List.mem_of_getElem? (i := 8) rfl))) (mvT hZ (hw _ (List.mem_of_getElem? (i := 10) rfl))) (by decide) (backOf (W := 0) (rmNew4_6 l Z a0 hw [] p0 p1 zc fm ks c0 c1 c2 c3 c4 c5 h0 n0 Z0 hSt Ol E0 Fv Fc g0_ As hch) hZ (hw _ (List.mem_of_getElem? (i := 10) rfl)) (hw _ (List.mem_of_getElem? (i := 3) rfl)) (by decide) (by decide)) (g := (mkF m 6 #[.val (.ref p0), .val (.ref p1)] [.null, (.int (6 : Int32)), (.int (0 : Int32)), (.ref p1), (.ref p0)])) rfl (by rw [hml]; rfl) (Steps.refl _) (a := p0) (argsL := [(.ref p1), (.int (0 : Int32)), (.int (6 : Int32)), .null]) (rest := []) (lenOf pd___CIILjava_lang_Void__V rfl) rfl (by show 2 * 0 + _ ≤ _; exact Nat.le_of_eq rfl) (hb hby d1_6) (fun _ _ => ⟨rfl, e0, (by decide : 0 + 2 ≤ _), (by decide : 0 + 18 ≤ _)⟩)
  dsimp only [Pt.U, Pt.locs, Pt.cells, Pt.slots] at X2 l2 y2 z2 st2 hQ2
  subst l2 y2 z2
  obtain ⟨rfl, Nq2, K2, hS⟩ := hQ2
  have N2 := Fr.app N0 Nq2
  have KK2 := (Keep.refl h0 [p0]).trans K2 (allS (Or.inl (List.mem_of_getElem? (i := 0) rfl)) all0)
  obtain ⟨fs, hr, hrun, hended, hW, hsame⟩ := X2.leave (v := none) (fun _ => rfl)
  refine ⟨_, _, pre0 _ ?_, hrun, hended, _, _, rfl, ?_, ⟨_, rfl⟩, hW, hsame.mono (by decide) (by decide)⟩
  · show Steps p.tables e below (s₁.setTop (mkF m 0 #[.val (.ref p0), .val (.ref p1)] [])) _
    refine XS.aloadN X0.here hx rfl (hb hby d1_0) rfl rfl ?_
    refine XS.aloadN X0.here hx rfl (hb hby d1_1) rfl rfl ?_
    refine XS.iconst X0.here hx rfl (hb hby d1_2) ?_
    show Steps p.tables e below (s₁.setTop (mkF m 3 #[.val (.ref p0), .val (.ref p1)] [(.int (0 : Int32)), (.ref p1), (.ref p0)])) _
    refine XS.aloadN X0.here hx rfl (hb hby d1_3) rfl rfl ?_
    show Steps p.tables e below (s₁.setTop (mkF m 4 #[.val (.ref p0), .val (.ref p1)] [(.ref p1), (.int (0 : Int32)), (.ref p1), (.ref p0)])) _
    refine X0.arraylength hx (by rw [e0]; exact Ar1.1) (State.isArrayOf_alike hZ.alike Ar1.2.1) (g := (mkF m 4 #[.val (.ref p0), .val (.ref p1)] [(.ref p1), (.int (0 : Int32)), (.ref p1), (.ref p0)])) rfl rfl (hb hby d1_4) _ ?_
    rw [len_of S1 N1]
    show Steps p.tables e below (s₁.setTop (mkF m 5 #[.val (.ref p0), .val (.ref p1)] [(.int (6 : Int32)), (.int (0 : Int32)), (.ref p1), (.ref p0)])) _
    refine XS.aconstNull X0.here hx rfl (hb hby d1_5) ?_
    show Steps p.tables e below (s₁.setTop (mkF m 6 #[.val (.ref p0), .val (.ref p1)] [.null, (.int (6 : Int32)), (.int (0 : Int32)), (.ref p1), (.ref p0)])) _
    refine st2.trans ?_
    show Steps p.tables e below (T2.setTop (mkF m 9 #[.val (.ref p0), .val (.ref p1)] [])) _
    exact X2.returnOut hx Bd.returns (hb hby d1_9) hr
  · show Q_rmNew6 Z p0 p1 zc fm ks c0 c1 c2 c3 c4 c5 h0 n0 _ T2.heap _
    exact ⟨rfl, N2, KK2, hS⟩
theorem ef_rmNew4_0 (m : MethodId) (p0 : Addr) (p1 : Addr) : entryFrame m #[(.ref p0), (.ref p1), (.int (0 : Int32)), (.int (0 : Int32)), .null] 6 = mkF m 0 #[.val (.ref p0), .val (.ref p1), .val (.int (0 : Int32)), .val (.int (0 : Int32)), .val .null, .unset] [] := by first | (simp [entryFrame, mkF, argsToLocals, Value.category]; done) | rfl
theorem d2_8 : decode jdk_42_method_149_code 8 = .ok (.aload_n 0, 1) := by decide +kernel
theorem d2_9 : decode jdk_42_method_149_code 9 = .ok (.ldc 7, 2) := by decide +kernel
theorem d2_11 : decode jdk_42_method_149_code 11 = .ok (.getfield 9, 3) := by decide +kernel
theorem d2_14 : decode jdk_42_method_149_code 14 = .ok (.putfield 9, 3) := by decide +kernel
theorem d2_17 : decode jdk_42_method_149_code 17 = .ok (.aload_n 0, 1) := by decide +kernel
theorem d2_18 : decode jdk_42_method_149_code 18 = .ok (.ldc 7, 2) := by decide +kernel
theorem d2_20 : decode jdk_42_method_149_code 20 = .ok (.getfield 15, 3) := by decide +kernel
theorem d2_23 : decode jdk_42_method_149_code 23 = .ok (.putfield 15, 3) := by decide +kernel
theorem d2_26 : decode jdk_42_method_149_code 26 = .ok (.return_, 1) := by decide +kernel
def Q_rmNew4_0 (Z : State) (p0 : Addr) (p1 : Addr) (zc : Int32) (fm : Value) (h0 : Heap) (n0 : Nat) (v : Option Value) (h : Heap) (L : List Loc) : Prop := v = none ∧ Fr n0 L ∧ Keep h0 h [p0] ∧ own_Str Z h p0 []
set_option maxRecDepth 65536 in
set_option maxHeartbeats 40000000 in
theorem rmNew4_0 (l : Launch) (Z : State) (a0 : Array Value) (hw : ∀ d ∈ tables_1, d.before a0 Z = true) (ws : List Jvm.Cond) (p0 : Addr) (p1 : Addr) (zc : Int32) (fm : Value) (h0 : Heap) (n0 : Nat) (Z0 : n0 ≤ h0.size) (hSt : own_St Z zc fm) (Ol : Old Z n0 h0) (E0 : Exa Z h0 p0 "java/lang/String") (Fv : Fld Z h0 p0 "java/lang/String" "value" "[B" .null) (Fc : Fld Z h0 p0 "java/lang/String" "coder" "B" (.int (0 : Int32))) (g0_ : n0 ≤ p0) (hheld : Jvm.Lit.constHeld Z "java/lang/String" 7) (hcw : Jvm.Lit.compactW.before a0 Z = true) :
    MetFree l (⟨"java/lang/String", "<init>", "([CIILjava/lang/Void;)V"⟩ : MethodName) (head1 (Jvm.Cond.code (⟨"java/lang/String", "<init>", "([CIILjava/lang/Void;)V"⟩ : MethodName) jdk_42_method_149_code 6 none :: ws) ({ frames := 1, cells := 2, slots := 4, locals := 12 } : Room)) (fun a U => a = #[(.ref p0), (.ref p1), (.int (0 : Int32)), (.int (0 : Int32)), .null] ∧ Z.Warmed39 U.vm ∧ U.heap = h0 ∧ U.vm.interned = Z.vm.interned) (fun _ _ _ _ _ => True) (fun _ U o U' => ∃ v L, o = .returned v ∧ Q_rmNew4_0 Z p0 p1 zc fm h0 n0 v U'.heap L ∧ ReturnedEndW U o U' L ({ frames := 1, cells := 2, slots := 4, locals := 12 } : Room).cells ({ frames := 1, cells := 2, slots := 4, locals := 12 } : Room).slots) := by
  refine MetFree.of_bodySF (plainFor_of_name pn_java_lang_String) hisR ?_
  intro p e s m args below meth c s₁ Bd hml0 hP hK
  obtain ⟨rfl, hZ, hh, hI⟩ := hP
  have hx := Bd.exec
  have hby := Bd.bytes
  have hml : c.maxLocals = 6 := hml0
  have hown : s.vm.findClass "java/lang/String" = some m.cls := findClass_of_methodNamed Bd.named
  have hnm := (name_of_methodNamed Bd.named Bd.method).1
  have hZo := hZ
  have howno := hown
  have X0 : Stand p l e ({ frames := 1, cells := 2, slots := 4, locals := 12 } : Room) s m #[(.ref p0), (.ref p1), (.int (0 : Int32)), (.int (0 : Int32)), .null] below meth c s₁ [] 0 0 := Stand.of_body Bd
  have e0 : s₁.heap = h0 := by rw [← hh, Bd.state]; rfl
  have N0 := Fr.nil n0
  have pre0 : ∀ t, Steps p.tables e below (s₁.setTop (mkF m 0 #[.val (.ref p0), .val (.ref p1), .val (.int (0 : Int32)), .val (.int (0 : Int32)), .val .null, .unset] [])) t → Steps p.tables e below (s₁.setTop (entryFrame m #[(.ref p0), (.ref p1), (.int (0 : Int32)), (.int (0 : Int32)), .null] 6)) t := fun t k => castTop (ef_rmNew4_0 m p0 p1 ) k
  obtain ⟨T1, X1, e1, st1⟩ := initO X0 hx hZ hown (hw _ (List.mem_of_getElem? (i := 11) rfl)) (hw _ (List.mem_of_getElem? (i := 12) rfl)) (hw _ (List.mem_of_getElem? (i := 13) rfl)) e0 (g := (mkF m 1 #[.val (.ref p0), .val (.ref p1), .val (.int (0 : Int32)), .val (.int (0 : Int32)), .val .null, .unset] [(.ref p0)])) rfl (by rw [hml]; rfl) rfl (hb hby d2_1) (by decide) (W := 0) (by show 2 * 0 + _ ≤ _; exact Nat.le_of_eq rfl) (by decide)
  have pre2 : ∀ t, Steps p.tables e below (T1.setTop (mkF m 9 #[.val (.ref p0), .val (.ref p1), .val (.int (0 : Int32)), .val (.int (0 : Int32)), .val .null, .unset] [(.ref p0)])) t → Steps p.tables e below (s₁.setTop (entryFrame m #[(.ref p0), (.ref p1), (.int (0 : Int32)), (.int (0 : Int32)), .null] 6)) t := fun t kt => pre0 t (by
    show Steps p.tables e below (s₁.setTop (mkF m 0 #[.val (.ref p0), .val (.ref p1), .val (.int (0 : Int32)), .val (.int (0 : Int32)), .val .null, .unset] [])) _
    refine XS.aloadN X0.here hx rfl (hb hby d2_0) rfl rfl ?_
    show Steps p.tables e below (s₁.setTop (mkF m 1 #[.val (.ref p0), .val (.ref p1), .val (.int (0 : Int32)), .val (.int (0 : Int32)), .val .null, .unset] [(.ref p0)])) _
    refine st1 _ ?_
    show Steps p.tables e below (T1.setTop (mkF m 4 #[.val (.ref p0), .val (.ref p1), .val (.int (0 : Int32)), .val (.int (0 : Int32)), .val .null, .unset] [])) _
    refine XS.iloadN X1.here hx rfl (hb hby d2_4) rfl  ?_
    show Steps p.tables e below (T1.setTop (mkF m 5 #[.val (.ref p0), .val (.ref p1), .val (.int (0 : Int32)), .val (.int (0 : Int32)), .val .null, .unset] [(.int (0 : Int32))])) _
    refine XS.ifNo X1.here hx rfl (hb hby d2_5) rfl ((if0 _ _).trans (teq (by decide : (0 : Int32) = (0 : Int32))).2) ?_
    refine XS.aloadN X1.here hx rfl (hb hby d2_8) rfl rfl ?_
    show Steps p.tables e below (T1.setTop (mkF m 9 #[.val (.ref p0), .val (.ref p1), .val (.int (0 : Int32)), .val (.int (0 : Int32)), .val .null, .unset] [(.ref p0)])) _
    exact kt)
  have hWr := X1.warmed
  have hS3 : s.Since T1.vm h0.size := X1.warmed.since _
  have hZ3 : Z.Warmed39 (s.setVm T1.vm).vm := State.Warmed39.trans hZ X1.warmed.wide
  have hown3 : (s.setVm T1.vm).vm.findClass "java/lang/String" = some m.cls := (X1.warmed.wide.alike.findClass _ _).trans hown
  have X3 := X1.retabled X1.warmed.wide
  have hk3 : h0.size ≤ h0.size := Nat.le_refl _
  obtain ⟨a4, T4, h4, k4, b4, kk4, X4, e4, E4, hS4, hk4, hZ4, hown4, Ex4, Fc4, Fv4, Av4, -, -, -, Lt, st4⟩ := ldcSVL X3 hx hZ3 hown3 (hw _ (List.mem_of_getElem? (i := 14) rfl)) (own_wS hw) e1 hS3 hk3 (Fr.nil _) (fun b cl q => by rw [hh]; exact Ol.2.2 b cl q) (own_IB hI hWr) (fun q => nomatch q) hheld hcw (vs := []) (z := (0 : Int32)) ⟨(fun c q => nomatch q), rfl⟩ (by decide) rfl (g := (mkF m 9 #[.val (.ref p0), .val (.ref p1), .val (.int (0 : Int32)), .val (.int (0 : Int32)), .val .null, .unset] [(.ref p0)])) rfl (hb hby d2_9) (n := 0) (by decide) (by decide) (by decide) (by decide)
  have K4 := (Keep.refl h0 [p0]).ext E4
  have f5 := (Fv.ext E4)
  have ne_a : a4 ≠ p0 := Fld.ne Fv4 f5 nofun
  have f6 := (E0.ext E4)
  have ne_b : p0 ≠ b4 := Exa.neArv f6 Av4 (hw _ (List.mem_of_getElem? (i := 2) rfl))
  obtain ⟨T7, X7, e7, st7⟩ := getF X4 hx hZ4 hown4 (host := "") (Or.inl (hw _ (List.mem_of_getElem? (i := 20) rfl))) Via.refl e4 Fv4 (g := (mkF m 11 #[.val (.ref p0), .val (.ref p1), .val (.int (0 : Int32)), .val (.int (0 : Int32)), .val .null, .unset] [(.ref a4), (.ref p0)])) rfl rfl (hb hby d2_11)
  obtain ⟨T8, h8, X8, e8, W8, st8⟩ := putF X7 hx hZ4 hown4 (host := "") (Or.inl (hw _ (List.mem_of_getElem? (i := 20) rfl))) Via.refl e7 f5 f6 (Or.inr ⟨(hw _ (List.mem_of_getElem? (i := 16) rfl)), rfl, hnm⟩) (hw _ (List.mem_of_getElem? (i := 2) rfl)) (ty := (.array .byte)) (by decide) rfl rfl (g := (mkF m 14 #[.val (.ref p0), .val (.ref p1), .val (.int (0 : Int32)), .val (.int (0 : Int32)), .val .null, .unset] [(.ref b4), (.ref p0)])) rfl rfl (hb hby d2_14)
  have Fw8 := f5.same W8
  have N8 := Fr.snoc X8 N0 g0_
  have K8 := K4.wr W8 (Or.inl (List.mem_of_getElem? (i := 0) rfl))
  have f9 := (Fc4.other W8 (Or.inl ne_a))
  obtain ⟨T10, X10, e10, st10⟩ := getF X8 hx hZ4 hown4 (host := "") (Or.inl (hw _ (List.mem_of_getElem? (i := 21) rfl))) Via.refl e8 f9 (g := (mkF m 20 #[.val (.ref p0), .val (.ref p1), .val (.int (0 : Int32)), .val (.int (0 : Int32)), .val .null, .unset] [(.ref a4), (.ref p0)])) rfl rfl (hb hby d2_20)
  have f11 := (f6.wr W8)
  have f12 := ((Fc.ext E4).other W8 (Or.inr (slot_ne (Or.inr (hw _ (List.mem_of_getElem? (i := 17) rfl))) (Or.inr (hw _ (List.mem_of_getElem? (i := 16) rfl))) (by decide) (t := .byte) (t' := (.array .byte)) (by decide) (by decide))))
  obtain ⟨T13, h13, X13, e13, W13, st13⟩ := putFN X10 hx hZ4 hown4 (hw _ (List.mem_of_getElem? (i := 21) rfl)) Via.refl e10 f12 f11 (Or.inr ⟨(hw _ (List.mem_of_getElem? (i := 17) rfl)), rfl, hnm⟩) (hw _ (List.mem_of_getElem? (i := 2) rfl)) (ty := .byte) (v' := (.int (0 : Int32))) (by decide) rfl (by decide) (g := (mkF m 23 #[.val (.ref p0), .val (.ref p1), .val (.int (0 : Int32)), .val (.int (0 : Int32)), .val .null, .unset] [(.int (0 : Int32)), (.ref p0)])) rfl rfl (hb hby d2_23)
  have Fw13 := f12.same W13
  have N13 := Fr.snoc X13 N8 g0_
  have K13 := K8.wr W13 (Or.inl (List.mem_of_getElem? (i := 0) rfl))
  have f14 := (f11.wr W13)
  have f15 := (Fw8.other W13 (Or.inr (slot_ne (Or.inr (hw _ (List.mem_of_getElem? (i := 16) rfl))) (Or.inr (hw _ (List.mem_of_getElem? (i := 17) rfl))) (by decide) (t := (.array .byte)) (t' := .byte) (by decide) (by decide))))
  have f16 := ((Av4.other W8 (Ne.symm ne_b)).other W13 (Ne.symm ne_b))
  have f17 := (Nat.le_trans (Nat.le_trans hk4 (Keep.of_wr W8).1) (Keep.of_wr W13).1)
  obtain ⟨fs, hr, hrun, hended, hEnd⟩ := X13.leaveW hS4 (by rw [e13]; exact f17) (v := none) (fun _ => rfl)
  refine ⟨_, _, pre2 _ ?_, hrun, hended, _, _, rfl, ?_, hEnd.1, hEnd.2.1, hEnd.2.2.1, hEnd.2.2.2.mono (by decide) (by decide)⟩
  · show Steps p.tables e below (T1.setTop (mkF m 9 #[.val (.ref p0), .val (.ref p1), .val (.int (0 : Int32)), .val (.int (0 : Int32)), .val .null, .unset] [(.ref p0)])) _
    refine st4 _ ?_
    show Steps p.tables e below (T4.setTop (mkF m 11 #[.val (.ref p0), .val (.ref p1), .val (.int (0 : Int32)), .val (.int (0 : Int32)), .val .null, .unset] [(.ref a4), (.ref p0)])) _
    refine st7 _ ?_
    show Steps p.tables e below (T7.setTop (mkF m 14 #[.val (.ref p0), .val (.ref p1), .val (.int (0 : Int32)), .val (.int (0 : Int32)), .val .null, .unset] [(.ref b4), (.ref p0)])) _
    refine st8 _ ?_
    show Steps p.tables e below (T8.setTop (mkF m 17 #[.val (.ref p0), .val (.ref p1), .val (.int (0 : Int32)), .val (.int (0 : Int32)), .val .null, .unset] [])) _
    refine XS.aloadN X8.here hx rfl (hb hby d2_17) rfl rfl ?_
    show Steps p.tables e below (T8.setTop (mkF m 18 #[.val (.ref p0), .val (.ref p1), .val (.int (0 : Int32)), .val (.int (0 : Int32)), .val .null, .unset] [(.ref p0)])) _
    refine ldcAgain X8 hx hZ4 hown4 (hw _ (List.mem_of_getElem? (i := 14) rfl)) Lt (g := (mkF m 18 #[.val (.ref p0), .val (.ref p1), .val (.int (0 : Int32)), .val (.int (0 : Int32)), .val .null, .unset] [(.ref p0)])) rfl (hb hby d2_18) _ ?_
    show Steps p.tables e below (T8.setTop (mkF m 20 #[.val (.ref p0), .val (.ref p1), .val (.int (0 : Int32)), .val (.int (0 : Int32)), .val .null, .unset] [(.ref a4), (.ref p0)])) _
    refine st10 _ ?_
    show Steps p.tables e below (T10.setTop (mkF m 23 #[.val (.ref p0), .val (.ref p1), .val (.int (0 : Int32)), .val (.int (0 : Int32)), .val .null, .unset] [(.int (0 : Int32)), (.ref p0)])) _
    refine st13 _ ?_
    show Steps p.tables e below (T13.setTop (mkF m 26 #[.val (.ref p0), .val (.ref p1), .val (.int (0 : Int32)), .val (.int (0 : Int32)), .val .null, .unset] [])) _
    exact X13.returnOut hx Bd.returns (hb hby d2_26) hr
  · show Q_rmNew4_0 Z p0 p1 zc fm h0 n0 _ T13.heap _
    rw [e13]
    exact ⟨rfl, N13, K13, b4, kk4, (0 : Int32), (0 : Int32), [], f14, f15, Fw13, f16, Or.inl ⟨rfl, rfl, rfl, (fun _ q => nomatch q)⟩, (fun _ q => nomatch q), by decide⟩
theorem ef_rmNew0 (m : MethodId) (p0 : Addr) (p1 : Addr) : entryFrame m #[(.ref p0), (.ref p1)] 2 = mkF m 0 #[.val (.ref p0), .val (.ref p1)] [] := by first | (simp [entryFrame, mkF, argsToLocals, Value.category]; done) | rfl
def Q_rmNew0 (Z : State) (p0 : Addr) (p1 : Addr) (zc : Int32) (fm : Value) (ks : ClassId) (h0 : Heap) (n0 : Nat) (v : Option Value) (h : Heap) (L : List Loc) : Prop := v = none ∧ Fr n0 L ∧ Keep h0 h [p0] ∧ own_Str Z h p0 []
set_option maxRecDepth 65536 in
set_option maxHeartbeats 40000000 in
theorem rmNew0 (l : Launch) (Z : State) (a0 : Array Value) (hw : ∀ d ∈ tables_1, d.before a0 Z = true) (ws : List Jvm.Cond) (p0 : Addr) (p1 : Addr) (zc : Int32) (fm : Value) (ks : ClassId) (h0 : Heap) (n0 : Nat) (Z0 : n0 ≤ h0.size) (hSt : own_St Z zc fm) (Ol : Old Z n0 h0) (E0 : Exa Z h0 p0 "java/lang/String") (Fv : Fld Z h0 p0 "java/lang/String" "value" "[B" .null) (Fc : Fld Z h0 p0 "java/lang/String" "coder" "B" (.int (0 : Int32))) (g0_ : n0 ≤ p0) (hheld : Jvm.Lit.constHeld Z "java/lang/String" 7) (hcw : Jvm.Lit.compactW.before a0 Z = true) (As : Arv Z h0 p1 ks .char (0 : Int32) [] (.int (0 : Int32))) :
    MetFree l (⟨"java/lang/String", "<init>", "([C)V"⟩ : MethodName) (head1 (Jvm.Cond.code (⟨"java/lang/String", "<init>", "([C)V"⟩ : MethodName) jdk_42_method_3_code 2 none :: ws) ({ frames := 2, cells := 2, slots := 4, locals := 29 } : Room)) (fun a U => a = #[(.ref p0), (.ref p1)] ∧ Z.Warmed39 U.vm ∧ U.heap = h0 ∧ U.vm.interned = Z.vm.interned) (fun _ _ _ _ _ => True) (fun _ U o U' => ∃ v L, o = .returned v ∧ Q_rmNew0 Z p0 p1 zc fm ks h0 n0 v U'.heap L ∧ ReturnedEndW U o U' L ({ frames := 2, cells := 2, slots := 4, locals := 29 } : Room).cells ({ frames := 2, cells := 2, slots := 4, locals := 29 } : Room).slots) := by
  refine MetFree.of_bodySF (plainFor_of_name pn_java_lang_String) hisR ?_
  intro p e s m args below meth c s₁ Bd hml0 hP hK
  obtain ⟨rfl, hZ, hh, hI⟩ := hP
  have hx := Bd.exec
  have hby := Bd.bytes
  have hml : c.maxLocals = 2 := hml0
  have hown : s.vm.findClass "java/lang/String" = some m.cls := findClass_of_methodNamed Bd.named
  have hnm := (name_of_methodNamed Bd.named Bd.method).1
  have hZo := hZ
  have howno := hown
  have X0 : Stand p l e ({ frames := 2, cells := 2, slots := 4, locals := 29 } : Room) s m #[(.ref p0), (.ref p1)] below meth c s₁ [] 0 0 := Stand.of_body Bd
  have e0 : s₁.heap = h0 := by rw [← hh, Bd.state]; rfl
  have N0 := Fr.nil n0
  have pre0 : ∀ t, Steps p.tables e below (s₁.setTop (mkF m 0 #[.val (.ref p0), .val (.ref p1)] [])) t → Steps p.tables e below (s₁.setTop (entryFrame m #[(.ref p0), (.ref p1)] 2)) t := fun t k => castTop (ef_rmNew0 m p0 p1 ) k
  obtain ⟨cl1, Ar1, -, S1, N1, -, -⟩ := id As
  obtain ⟨_, _, ⟨T2, L2, k2, n2⟩, -, X2, hS2, hgr2, ⟨Lc2, hQ2, l2, y2, z2⟩, st2⟩ := X0.specialBackS hx (y := (⟨"java/lang/String", "<init>", "([CIILjava/lang/Void;)V"⟩ : MethodName)) rfl hown (mvT hZ (hw _ (List.mem_of_getElem? (i := 7) rfl))) (mvT hZ (hw _ (List.mem_of_getElem? (i := 8) rfl))) (mvT hZ (hw _ (List.mem_of_getElem? (i := 10) rfl))) (by decide) (own_backI (W := 0) (rmNew4_0 l Z a0 hw [] p0 p1 zc fm  h0 n0 Z0 hSt Ol E0 Fv Fc g0_ hheld hcw) hI hZ (hw _ (List.mem_of_getElem? (i := 10) rfl)) (hw _ (List.mem_of_getElem? (i := 3) rfl)) (by decide) (by decide)) (g := (mkF m 6 #[.val (.ref p0), .val (.ref p1)] [.null, (.int (0 : Int32)), (.int (0 : Int32)), (.ref p1), (.ref p0)])) rfl (by rw [hml]; rfl) (Steps.refl _) (a := p0) (argsL := [(.ref p1), (.int (0 : Int32)), (.int (0 : Int32)), .null]) (rest := []) (lenOf pd___CIILjava_lang_Void__V rfl) rfl (by show 2 * 0 + _ ≤ _; exact Nat.le_of_eq rfl) (hb hby d1_6) (fun _ _ => ⟨rfl, e0, (by decide : 0 + 2 ≤ _), (by decide : 0 + 4 ≤ _)⟩)
  dsimp only [Pt.U, Pt.locs, Pt.cells, Pt.slots] at X2 l2 y2 z2 st2 hQ2 hS2 hgr2
  subst l2 y2 z2
  have hZ2 : Z.Warmed39 (s.setVm T2.vm).vm := State.Warmed39.trans hZ hS2.1
  have hown2 : (s.setVm T2.vm).vm.findClass "java/lang/String" = some m.cls := (hS2.1.alike.findClass _ _).trans hown
  obtain ⟨rfl, Nq2, K2, hS⟩ := hQ2
  have N2 := Fr.app N0 Nq2
  have KK2 := (Keep.refl h0 [p0]).trans K2 (allS (Or.inl (List.mem_of_getElem? (i := 0) rfl)) all0)
  have hk2 : T2.heap.size ≤ T2.heap.size := Nat.le_refl _
  obtain ⟨fs, hr, hrun, hended, hEnd⟩ := X2.leaveW hS2 hk2 (v := none) (fun _ => rfl)
  refine ⟨_, _, pre0 _ ?_, hrun, hended, _, _, rfl, ?_, hEnd.1, hEnd.2.1, hEnd.2.2.1, hEnd.2.2.2.mono (by decide) (by decide)⟩
  · show Steps p.tables e below (s₁.setTop (mkF m 0 #[.val (.ref p0), .val (.ref p1)] [])) _
    refine XS.aloadN X0.here hx rfl (hb hby d1_0) rfl rfl ?_
    refine XS.aloadN X0.here hx rfl (hb hby d1_1) rfl rfl ?_
    refine XS.iconst X0.here hx rfl (hb hby d1_2) ?_
    show Steps p.tables e below (s₁.setTop (mkF m 3 #[.val (.ref p0), .val (.ref p1)] [(.int (0 : Int32)), (.ref p1), (.ref p0)])) _
    refine XS.aloadN X0.here hx rfl (hb hby d1_3) rfl rfl ?_
    show Steps p.tables e below (s₁.setTop (mkF m 4 #[.val (.ref p0), .val (.ref p1)] [(.ref p1), (.int (0 : Int32)), (.ref p1), (.ref p0)])) _
    refine X0.arraylength hx (by rw [e0]; exact Ar1.1) (State.isArrayOf_alike hZo.alike Ar1.2.1) (g := (mkF m 4 #[.val (.ref p0), .val (.ref p1)] [(.ref p1), (.int (0 : Int32)), (.ref p1), (.ref p0)])) rfl rfl (hb hby d1_4) _ ?_
    rw [len_of S1 N1]
    show Steps p.tables e below (s₁.setTop (mkF m 5 #[.val (.ref p0), .val (.ref p1)] [(.int (0 : Int32)), (.int (0 : Int32)), (.ref p1), (.ref p0)])) _
    refine XS.aconstNull X0.here hx rfl (hb hby d1_5) ?_
    show Steps p.tables e below (s₁.setTop (mkF m 6 #[.val (.ref p0), .val (.ref p1)] [.null, (.int (0 : Int32)), (.int (0 : Int32)), (.ref p1), (.ref p0)])) _
    refine st2.trans ?_
    show Steps p.tables e below (T2.setTop (mkF m 9 #[.val (.ref p0), .val (.ref p1)] [])) _
    exact X2.returnOut hx Bd.returns (hb hby d1_9) hr
  · show Q_rmNew0 Z p0 p1 zc fm ks h0 n0 _ T2.heap _
    exact ⟨rfl, N2, KK2, hS⟩
theorem ef_rmHi (m : MethodId) (p0 : Int32) : entryFrame m #[(.int p0)] 1 = mkF m 0 #[.val (.int p0)] [] := by first | (simp [entryFrame, mkF, argsToLocals, Value.category]; done) | rfl
theorem d27_0 : decode jdk_89_method_14_code 0 = .ok (.iload_n 0, 1) := by decide +kernel
theorem d27_1 : decode jdk_89_method_14_code 1 = .ok (.ldc 75, 2) := by decide +kernel
theorem d27_3 : decode jdk_89_method_14_code 3 = .ok (.if_icmp .lt 13, 3) := by decide +kernel
theorem d27_16 : decode jdk_89_method_14_code 16 = .ok (.iconst 0, 1) := by decide +kernel
theorem d27_17 : decode jdk_89_method_14_code 17 = .ok (.ireturn, 1) := by decide +kernel
theorem d27_6 : decode jdk_89_method_14_code 6 = .ok (.iload_n 0, 1) := by decide +kernel
theorem d27_7 : decode jdk_89_method_14_code 7 = .ok (.ldc 76, 2) := by decide +kernel
theorem d27_9 : decode jdk_89_method_14_code 9 = .ok (.if_icmp .ge 7, 3) := by decide +kernel
theorem d27_12 : decode jdk_89_method_14_code 12 = .ok (.iconst 1, 1) := by decide +kernel
theorem d27_13 : decode jdk_89_method_14_code 13 = .ok (.goto 4, 3) := by decide +kernel
def Q_rmHi (Z : State) (p0 : Int32) (r : Int32) (h0 : Heap) (n0 : Nat) (v : Option Value) (h : Heap) (L : List Loc) : Prop := v = some (.int r) ∧ Fr n0 L ∧ h = h0
set_option maxRecDepth 65536 in
set_option maxHeartbeats 40000000 in
theorem rmHi (l : Launch) (Z : State) (a0 : Array Value) (hw : ∀ d ∈ tables_1, d.before a0 Z = true) (ws : List Jvm.Cond) (p0 : Int32) (r : Int32) (h0 : Heap) (n0 : Nat) (Z0 : n0 ≤ h0.size) (hres : r = if (¬ p0 < (55296 : Int32) ∧ p0 < (56320 : Int32)) then 1 else 0) :
    MetFree l (⟨"java/lang/Character", "isHighSurrogate", "(C)Z"⟩ : MethodName) (head1 (Jvm.Cond.code (⟨"java/lang/Character", "isHighSurrogate", "(C)Z"⟩ : MethodName) jdk_89_method_14_code 1 (some .boolean) :: ws) ({ frames := 0, cells := 0, slots := 0, locals := 0 } : Room)) (fun a U => a = #[(.int p0)] ∧ Z.Warmed39 U.vm ∧ U.heap = h0) (fun _ _ _ _ _ => True) (fun _ U o U' => ∃ v L, o = .returned v ∧ Q_rmHi Z p0 r h0 n0 v U'.heap L ∧ FrameEnd U o U' L ({ frames := 0, cells := 0, slots := 0, locals := 0 } : Room).cells ({ frames := 0, cells := 0, slots := 0, locals := 0 } : Room).slots) := by
  refine MetFree.of_bodySF (plainFor_of_name pn_java_lang_Character) hisR ?_
  intro p e s m args below meth c s₁ Bd hml0 hP hK
  obtain ⟨rfl, hZ, hh⟩ := hP
  have hx := Bd.exec
  have hby := Bd.bytes
  have hml : c.maxLocals = 1 := hml0
  have hown : s.vm.findClass "java/lang/Character" = some m.cls := findClass_of_methodNamed Bd.named
  have hnm := (name_of_methodNamed Bd.named Bd.method).1
  have hZo := hZ
  have howno := hown
  have X0 : Stand p l e ({ frames := 0, cells := 0, slots := 0, locals := 0 } : Room) s m #[(.int p0)] below meth c s₁ [] 0 0 := Stand.of_body Bd
  have e0 : s₁.heap = h0 := by rw [← hh, Bd.state]; rfl
  have N0 := Fr.nil n0
  have pre0 : ∀ t, Steps p.tables e below (s₁.setTop (mkF m 0 #[.val (.int p0)] [])) t → Steps p.tables e below (s₁.setTop (entryFrame m #[(.int p0)] 1)) t := fun t k => castTop (ef_rmHi m p0 ) k
  have pre2 : ∀ t, Steps p.tables e below (s₁.setTop (mkF m 3 #[.val (.int p0)] [(.int (55296 : Int32)), (.int p0)])) t → Steps p.tables e below (s₁.setTop (entryFrame m #[(.int p0)] 1)) t := fun t kt => pre0 t (by
    show Steps p.tables e below (s₁.setTop (mkF m 0 #[.val (.int p0)] [])) _
    refine XS.iloadN X0.here hx rfl (hb hby d27_0) rfl  ?_
    show Steps p.tables e below (s₁.setTop (mkF m 1 #[.val (.int p0)] [(.int p0)])) _
    refine X0.ldcInt hx hown (mvT hZ (hw _ (List.mem_of_getElem? (i := 123) rfl))) (g := (mkF m 1 #[.val (.int p0)] [(.int p0)])) rfl (hb hby d27_1) _ ?_
    exact kt)
  by_cases hc3_1 : p0 < (55296 : Int32)
  · obtain ⟨fs, hr, hrun, hended, hW, hsame⟩ := X0.leave (v := some (.int (0 : Int32))) (fun h => by rw [Bd.returns] at h; cases h)
    refine ⟨_, _, pre2 _ ?_, hrun, hended, _, _, rfl, ?_, ⟨_, rfl⟩, hW, hsame.mono (by decide) (by decide)⟩
    · show Steps p.tables e below (s₁.setTop (mkF m 3 #[.val (.int p0)] [(.int (55296 : Int32)), (.int p0)])) _
      refine XS.icmpYes X0.here hx rfl (pc0 := 3) (pc' := 16) rfl (hb hby d27_3) rfl (tlt hc3_1).1 (by decide) (by decide) ?_
      refine XS.iconst X0.here hx rfl (hb hby d27_16) ?_
      show Steps p.tables e below (s₁.setTop (mkF m 17 #[.val (.int p0)] [(.int (0 : Int32))])) _
      exact retN X0 hx (t := .boolean) Bd.returns (by simp) (hb hby d27_17) hr
    · show Q_rmHi Z p0 r h0 n0 _ s₁.heap _
      rw [e0]
      exact ⟨by rw [hres, if_neg (fun q => q.1 hc3_1)], N0, rfl⟩
  · have pre4 : ∀ t, Steps p.tables e below (s₁.setTop (mkF m 9 #[.val (.int p0)] [(.int (56320 : Int32)), (.int p0)])) t → Steps p.tables e below (s₁.setTop (entryFrame m #[(.int p0)] 1)) t := fun t kt => pre2 t (by
      show Steps p.tables e below (s₁.setTop (mkF m 3 #[.val (.int p0)] [(.int (55296 : Int32)), (.int p0)])) _
      refine XS.icmpNo X0.here hx rfl (hb hby d27_3) rfl (flt hc3_1).1 ?_
      refine XS.iloadN X0.here hx rfl (hb hby d27_6) rfl  ?_
      show Steps p.tables e below (s₁.setTop (mkF m 7 #[.val (.int p0)] [(.int p0)])) _
      refine X0.ldcInt hx hown (mvT hZ (hw _ (List.mem_of_getElem? (i := 127) rfl))) (g := (mkF m 7 #[.val (.int p0)] [(.int p0)])) rfl (hb hby d27_7) _ ?_
      exact kt)
    by_cases hc9_3 : p0 < (56320 : Int32)
    · obtain ⟨fs, hr, hrun, hended, hW, hsame⟩ := X0.leave (v := some (.int (1 : Int32))) (fun h => by rw [Bd.returns] at h; cases h)
      refine ⟨_, _, pre4 _ ?_, hrun, hended, _, _, rfl, ?_, ⟨_, rfl⟩, hW, hsame.mono (by decide) (by decide)⟩
      · show Steps p.tables e below (s₁.setTop (mkF m 9 #[.val (.int p0)] [(.int (56320 : Int32)), (.int p0)])) _
        refine XS.icmpNo X0.here hx rfl (hb hby d27_9) rfl (tlt hc9_3).2.1 ?_
        refine XS.iconst X0.here hx rfl (hb hby d27_12) ?_
        refine XS.goto X0.here hx rfl (pc0 := 13) (pc' := 17) rfl (hb hby d27_13) (by decide) (by decide) ?_
        show Steps p.tables e below (s₁.setTop (mkF m 17 #[.val (.int p0)] [(.int (1 : Int32))])) _
        exact retN X0 hx (t := .boolean) Bd.returns (by simp) (hb hby d27_17) hr
      · show Q_rmHi Z p0 r h0 n0 _ s₁.heap _
        rw [e0]
        exact ⟨by rw [hres, if_pos ⟨hc3_1, hc9_3⟩], N0, rfl⟩
    · obtain ⟨fs, hr, hrun, hended, hW, hsame⟩ := X0.leave (v := some (.int (0 : Int32))) (fun h => by rw [Bd.returns] at h; cases h)
      refine ⟨_, _, pre4 _ ?_, hrun, hended, _, _, rfl, ?_, ⟨_, rfl⟩, hW, hsame.mono (by decide) (by decide)⟩
      · show Steps p.tables e below (s₁.setTop (mkF m 9 #[.val (.int p0)] [(.int (56320 : Int32)), (.int p0)])) _
        refine XS.icmpYes X0.here hx rfl (pc0 := 9) (pc' := 16) rfl (hb hby d27_9) rfl (flt hc9_3).2.1 (by decide) (by decide) ?_
        refine XS.iconst X0.here hx rfl (hb hby d27_16) ?_
        show Steps p.tables e below (s₁.setTop (mkF m 17 #[.val (.int p0)] [(.int (0 : Int32))])) _
        exact retN X0 hx (t := .boolean) Bd.returns (by simp) (hb hby d27_17) hr
      · show Q_rmHi Z p0 r h0 n0 _ s₁.heap _
        rw [e0]
        exact ⟨by rw [hres, if_neg (fun q => hc9_3 q.2)], N0, rfl⟩
theorem ef_rmLo (m : MethodId) (p0 : Int32) : entryFrame m #[(.int p0)] 1 = mkF m 0 #[.val (.int p0)] [] := by first | (simp [entryFrame, mkF, argsToLocals, Value.category]; done) | rfl
theorem d28_0 : decode jdk_89_method_15_code 0 = .ok (.iload_n 0, 1) := by decide +kernel
theorem d28_1 : decode jdk_89_method_15_code 1 = .ok (.ldc 76, 2) := by decide +kernel
theorem d28_3 : decode jdk_89_method_15_code 3 = .ok (.if_icmp .lt 13, 3) := by decide +kernel
theorem d28_16 : decode jdk_89_method_15_code 16 = .ok (.iconst 0, 1) := by decide +kernel
theorem d28_17 : decode jdk_89_method_15_code 17 = .ok (.ireturn, 1) := by decide +kernel
theorem d28_6 : decode jdk_89_method_15_code 6 = .ok (.iload_n 0, 1) := by decide +kernel
theorem d28_7 : decode jdk_89_method_15_code 7 = .ok (.ldc 77, 2) := by decide +kernel
theorem d28_9 : decode jdk_89_method_15_code 9 = .ok (.if_icmp .ge 7, 3) := by decide +kernel
theorem d28_12 : decode jdk_89_method_15_code 12 = .ok (.iconst 1, 1) := by decide +kernel
theorem d28_13 : decode jdk_89_method_15_code 13 = .ok (.goto 4, 3) := by decide +kernel
def Q_rmLo (Z : State) (p0 : Int32) (r : Int32) (h0 : Heap) (n0 : Nat) (v : Option Value) (h : Heap) (L : List Loc) : Prop := v = some (.int r) ∧ Fr n0 L ∧ h = h0
set_option maxRecDepth 65536 in
set_option maxHeartbeats 40000000 in
theorem rmLo (l : Launch) (Z : State) (a0 : Array Value) (hw : ∀ d ∈ tables_1, d.before a0 Z = true) (ws : List Jvm.Cond) (p0 : Int32) (r : Int32) (h0 : Heap) (n0 : Nat) (Z0 : n0 ≤ h0.size) (hres : r = if (¬ p0 < (56320 : Int32) ∧ p0 < (57344 : Int32)) then 1 else 0) :
    MetFree l (⟨"java/lang/Character", "isLowSurrogate", "(C)Z"⟩ : MethodName) (head1 (Jvm.Cond.code (⟨"java/lang/Character", "isLowSurrogate", "(C)Z"⟩ : MethodName) jdk_89_method_15_code 1 (some .boolean) :: ws) ({ frames := 0, cells := 0, slots := 0, locals := 0 } : Room)) (fun a U => a = #[(.int p0)] ∧ Z.Warmed39 U.vm ∧ U.heap = h0) (fun _ _ _ _ _ => True) (fun _ U o U' => ∃ v L, o = .returned v ∧ Q_rmLo Z p0 r h0 n0 v U'.heap L ∧ FrameEnd U o U' L ({ frames := 0, cells := 0, slots := 0, locals := 0 } : Room).cells ({ frames := 0, cells := 0, slots := 0, locals := 0 } : Room).slots) := by
  refine MetFree.of_bodySF (plainFor_of_name pn_java_lang_Character) hisR ?_
  intro p e s m args below meth c s₁ Bd hml0 hP hK
  obtain ⟨rfl, hZ, hh⟩ := hP
  have hx := Bd.exec
  have hby := Bd.bytes
  have hml : c.maxLocals = 1 := hml0
  have hown : s.vm.findClass "java/lang/Character" = some m.cls := findClass_of_methodNamed Bd.named
  have hnm := (name_of_methodNamed Bd.named Bd.method).1
  have hZo := hZ
  have howno := hown
  have X0 : Stand p l e ({ frames := 0, cells := 0, slots := 0, locals := 0 } : Room) s m #[(.int p0)] below meth c s₁ [] 0 0 := Stand.of_body Bd
  have e0 : s₁.heap = h0 := by rw [← hh, Bd.state]; rfl
  have N0 := Fr.nil n0
  have pre0 : ∀ t, Steps p.tables e below (s₁.setTop (mkF m 0 #[.val (.int p0)] [])) t → Steps p.tables e below (s₁.setTop (entryFrame m #[(.int p0)] 1)) t := fun t k => castTop (ef_rmLo m p0 ) k
  have pre2 : ∀ t, Steps p.tables e below (s₁.setTop (mkF m 3 #[.val (.int p0)] [(.int (56320 : Int32)), (.int p0)])) t → Steps p.tables e below (s₁.setTop (entryFrame m #[(.int p0)] 1)) t := fun t kt => pre0 t (by
    show Steps p.tables e below (s₁.setTop (mkF m 0 #[.val (.int p0)] [])) _
    refine XS.iloadN X0.here hx rfl (hb hby d28_0) rfl  ?_
    show Steps p.tables e below (s₁.setTop (mkF m 1 #[.val (.int p0)] [(.int p0)])) _
    refine X0.ldcInt hx hown (mvT hZ (hw _ (List.mem_of_getElem? (i := 127) rfl))) (g := (mkF m 1 #[.val (.int p0)] [(.int p0)])) rfl (hb hby d28_1) _ ?_
    exact kt)
  by_cases hc3_1 : p0 < (56320 : Int32)
  · obtain ⟨fs, hr, hrun, hended, hW, hsame⟩ := X0.leave (v := some (.int (0 : Int32))) (fun h => by rw [Bd.returns] at h; cases h)
    refine ⟨_, _, pre2 _ ?_, hrun, hended, _, _, rfl, ?_, ⟨_, rfl⟩, hW, hsame.mono (by decide) (by decide)⟩
    · show Steps p.tables e below (s₁.setTop (mkF m 3 #[.val (.int p0)] [(.int (56320 : Int32)), (.int p0)])) _
      refine XS.icmpYes X0.here hx rfl (pc0 := 3) (pc' := 16) rfl (hb hby d28_3) rfl (tlt hc3_1).1 (by decide) (by decide) ?_
      refine XS.iconst X0.here hx rfl (hb hby d28_16) ?_
      show Steps p.tables e below (s₁.setTop (mkF m 17 #[.val (.int p0)] [(.int (0 : Int32))])) _
      exact retN X0 hx (t := .boolean) Bd.returns (by simp) (hb hby d28_17) hr
    · show Q_rmLo Z p0 r h0 n0 _ s₁.heap _
      rw [e0]
      exact ⟨by rw [hres, if_neg (fun q => q.1 hc3_1)], N0, rfl⟩
  · have pre4 : ∀ t, Steps p.tables e below (s₁.setTop (mkF m 9 #[.val (.int p0)] [(.int (57344 : Int32)), (.int p0)])) t → Steps p.tables e below (s₁.setTop (entryFrame m #[(.int p0)] 1)) t := fun t kt => pre2 t (by
      show Steps p.tables e below (s₁.setTop (mkF m 3 #[.val (.int p0)] [(.int (56320 : Int32)), (.int p0)])) _
      refine XS.icmpNo X0.here hx rfl (hb hby d28_3) rfl (flt hc3_1).1 ?_
      refine XS.iloadN X0.here hx rfl (hb hby d28_6) rfl  ?_
      show Steps p.tables e below (s₁.setTop (mkF m 7 #[.val (.int p0)] [(.int p0)])) _
      refine X0.ldcInt hx hown (mvT hZ (hw _ (List.mem_of_getElem? (i := 128) rfl))) (g := (mkF m 7 #[.val (.int p0)] [(.int p0)])) rfl (hb hby d28_7) _ ?_
      exact kt)
    by_cases hc9_3 : p0 < (57344 : Int32)
    · obtain ⟨fs, hr, hrun, hended, hW, hsame⟩ := X0.leave (v := some (.int (1 : Int32))) (fun h => by rw [Bd.returns] at h; cases h)
      refine ⟨_, _, pre4 _ ?_, hrun, hended, _, _, rfl, ?_, ⟨_, rfl⟩, hW, hsame.mono (by decide) (by decide)⟩
      · show Steps p.tables e below (s₁.setTop (mkF m 9 #[.val (.int p0)] [(.int (57344 : Int32)), (.int p0)])) _
        refine XS.icmpNo X0.here hx rfl (hb hby d28_9) rfl (tlt hc9_3).2.1 ?_
        refine XS.iconst X0.here hx rfl (hb hby d28_12) ?_
        refine XS.goto X0.here hx rfl (pc0 := 13) (pc' := 17) rfl (hb hby d28_13) (by decide) (by decide) ?_
        show Steps p.tables e below (s₁.setTop (mkF m 17 #[.val (.int p0)] [(.int (1 : Int32))])) _
        exact retN X0 hx (t := .boolean) Bd.returns (by simp) (hb hby d28_17) hr
      · show Q_rmLo Z p0 r h0 n0 _ s₁.heap _
        rw [e0]
        exact ⟨by rw [hres, if_pos ⟨hc3_1, hc9_3⟩], N0, rfl⟩
    · obtain ⟨fs, hr, hrun, hended, hW, hsame⟩ := X0.leave (v := some (.int (0 : Int32))) (fun h => by rw [Bd.returns] at h; cases h)
      refine ⟨_, _, pre4 _ ?_, hrun, hended, _, _, rfl, ?_, ⟨_, rfl⟩, hW, hsame.mono (by decide) (by decide)⟩
      · show Steps p.tables e below (s₁.setTop (mkF m 9 #[.val (.int p0)] [(.int (57344 : Int32)), (.int p0)])) _
        refine XS.icmpYes X0.here hx rfl (pc0 := 9) (pc' := 16) rfl (hb hby d28_9) rfl (flt hc9_3).2.1 (by decide) (by decide) ?_
        refine XS.iconst X0.here hx rfl (hb hby d28_16) ?_
        show Steps p.tables e below (s₁.setTop (mkF m 17 #[.val (.int p0)] [(.int (0 : Int32))])) _
        exact retN X0 hx (t := .boolean) Bd.returns (by simp) (hb hby d28_17) hr
      · show Q_rmLo Z p0 r h0 n0 _ s₁.heap _
        rw [e0]
        exact ⟨by rw [hres, if_neg (fun q => hc9_3 q.2)], N0, rfl⟩
theorem d4_2 : decode prog_13_method_3_code 2 = .ok (.iload_n 1, 1) := by decide +kernel
theorem d4_3 : decode prog_13_method_3_code 3 = .ok (.aload_n 0, 1) := by decide +kernel
theorem pd___I : parseMethodDescriptor "()I" = some ⟨[], some .int⟩ := by decide +kernel
theorem d4_4 : decode prog_13_method_3_code 4 = .ok (.invokeinterface 71 1, 5) := by decide +kernel
theorem d4_9 : decode prog_13_method_3_code 9 = .ok (.if_icmp .ge 39, 3) := by decide +kernel
theorem d4_48 : decode prog_13_method_3_code 48 = .ok (.iconst (-1), 1) := by decide +kernel
theorem d4_49 : decode prog_13_method_3_code 49 = .ok (.ireturn, 1) := by decide +kernel
theorem d4_12 : decode prog_13_method_3_code 12 = .ok (.aload_n 0, 1) := by decide +kernel
theorem d4_13 : decode prog_13_method_3_code 13 = .ok (.iload_n 1, 1) := by decide +kernel
theorem pd__I_C : parseMethodDescriptor "(I)C" = some ⟨[.int], some .char⟩ := by decide +kernel
theorem d4_14 : decode prog_13_method_3_code 14 = .ok (.invokeinterface 77 2, 5) := by decide +kernel
theorem d4_19 : decode prog_13_method_3_code 19 = .ok (.istore_n 2, 1) := by decide +kernel
theorem d4_20 : decode prog_13_method_3_code 20 = .ok (.iload_n 2, 1) := by decide +kernel
theorem pd__C_Z : parseMethodDescriptor "(C)Z" = some ⟨[.char], some .boolean⟩ := by decide +kernel
theorem d4_21 : decode prog_13_method_3_code 21 = .ok (.invokestatic 81, 3) := by decide +kernel
theorem d4_24 : decode prog_13_method_3_code 24 = .ok (.ifCond .eq 9, 3) := by decide +kernel
theorem d4_27 : decode prog_13_method_3_code 27 = .ok (.iinc 1 1, 3) := by decide +kernel
theorem d4_30 : decode prog_13_method_3_code 30 = .ok (.goto 12, 3) := by decide +kernel
theorem d4_42 : decode prog_13_method_3_code 42 = .ok (.iinc 1 1, 3) := by decide +kernel
theorem d4_45 : decode prog_13_method_3_code 45 = .ok (.goto (-43), 3) := by decide +kernel
theorem d4_33 : decode prog_13_method_3_code 33 = .ok (.iload_n 2, 1) := by decide +kernel
theorem d4_34 : decode prog_13_method_3_code 34 = .ok (.invokestatic 87, 3) := by decide +kernel
theorem d4_37 : decode prog_13_method_3_code 37 = .ok (.ifCond .eq 5, 3) := by decide +kernel
theorem d4_40 : decode prog_13_method_3_code 40 = .ok (.iload_n 1, 1) := by decide +kernel
theorem d4_41 : decode prog_13_method_3_code 41 = .ok (.ireturn, 1) := by decide +kernel
set_option maxRecDepth 65536 in
set_option maxHeartbeats 40000000 in
theorem own_loop {p : Program} {l : Launch} {e : Env} {R : Room} {s : State} {m : MethodId} {args : Array Value} {below : List Frame} {meth : Method} {c : Code} {cells slots : Nat} {Z : State} {a0 : Array Value} {h0 : Heap} {n0 : Nat} {zc : Int32} {fm : Value} {p0 : Addr} {cs : List Int32}
    (hx : p.tables.exec = Jvm.exec) (hZ : Z.Warmed39 s.vm) (hw : ∀ d ∈ tables_1, d.before a0 Z = true) (hby : c.code = prog_13_method_3_code) (hml : c.maxLocals = 3) (hown : s.vm.findClass "com/example/abeyance/abeyance/model/Utf8Reader" = some m.cls) (Z0 : n0 ≤ h0.size) (hSt : own_St Z zc fm) (Ol : Old Z n0 h0) (hS : own_Str Z h0 p0 cs) (hln : cs.length < 1000) (hRf : 5 ≤ R.frames) (hRl : 66 ≤ R.locals) (hRc : cells ≤ R.cells) (hRs : slots ≤ R.slots) :
    ∀ (k j : Nat) (i : Int32) (T0 : State) (locs : List Loc) (s2 : Slot), cs.length < j + k → i = Int32.ofNat j → j < 1002 → One s2 → Stand p l e R s m args below meth c T0 locs cells slots → Fr n0 locs → T0.heap = h0 → ∃ (T' : State) (locs' : List Loc) (pc : Nat) (Ls : Array Slot), Stand p l e R s m args below meth c T' locs' cells slots ∧ Fr n0 locs' ∧ T'.heap = h0 ∧ decode c.code pc = .ok (.ireturn, 1) ∧ ∀ t, Steps p.tables e below (T'.setTop (mkF m pc Ls [.int (own_ma cs k j)])) t → Steps p.tables e below (T0.setTop (mkF m 2 #[.val (.ref p0), .val (.int i), s2] [])) t := by
  intro k; induction k with
  | zero =>
    intro j i T0 locs s2 hf hij hj hs2 X0 N0 e0
    have hz : own_ma cs 0 j = -1 := rfl
    rw [hz]
    have pre0 : ∀ t, Steps p.tables e below (T0.setTop (mkF m 2 #[.val (.ref p0), .val (.int i), s2] [])) t → Steps p.tables e below (T0.setTop (mkF m 2 #[.val (.ref p0), .val (.int i), s2] [])) t := fun t kt => kt
    obtain ⟨cq1, kq1, q1a, q1b, q1c⟩ := isOf hZ e0 hS.exa
    obtain ⟨_, _, ⟨T1, L1, k1, n1⟩, -, X1, ⟨Lc1, hQ1, l1, y1, z1⟩, st1⟩ := X0.interfaceBack hx (xi := (⟨"java/lang/CharSequence", "length", "()I"⟩ : MethodName)) (y := (⟨"java/lang/String", "length", "()I"⟩ : MethodName)) hown (mvT hZ (hw _ (List.mem_of_getElem? (i := 26) rfl))) (mvT hZ (hw _ (List.mem_of_getElem? (i := 27) rfl))) (mvT hZ (hw _ (List.mem_of_getElem? (i := 28) rfl))) (mvT hZ (hw _ (List.mem_of_getElem? (i := 29) rfl))) (mvT hZ (hw _ (List.mem_of_getElem? (i := 30) rfl))) (mvT hZ (hw _ (List.mem_of_getElem? (i := 31) rfl))) (mvT hZ (hw _ (List.mem_of_getElem? (i := 32) rfl))) (mvT hZ (hw _ (List.mem_of_getElem? (i := 33) rfl))) (by decide) (backOf (W := 1) (rmLen l Z a0 hw [] p0 zc fm cs (Int32.ofNat cs.length) h0 n0 Z0 hSt Ol hS rfl) hZ (hw _ (List.mem_of_getElem? (i := 34) rfl)) (hw _ (List.mem_of_getElem? (i := 3) rfl)) (Nat.le_trans (Nat.le_of_ble_eq_true rfl) hRf) (Nat.le_trans (Nat.le_of_ble_eq_true rfl) hRl)) q1a q1b q1c (g := (mkF m 4 #[.val (.ref p0), .val (.int i), s2] [(.ref p0), (.int i)])) rfl (by rw [hml]; rfl) (Steps.refl _) (argsL := []) (rest := [(.int i)]) (lenOf pd___I rfl) rfl (by show 2 * 0 + _ ≤ _; exact Nat.le_of_eq rfl) (hb hby d4_4) (fun _ _ => ⟨rfl, e0, hRc, hRs⟩)
    dsimp only [Pt.U, Pt.locs, Pt.cells, Pt.slots] at X1 l1 y1 z1 st1 hQ1
    subst l1 y1 z1
    obtain ⟨rfl, Nq1, e1⟩ := hQ1
    have N1 := Fr.app N0 Nq1
    exact ⟨T1, _, 49, _, X1, N1, e1, (hb hby d4_49), fun t kt => pre0 t (by
      show Steps p.tables e below (T0.setTop (mkF m 2 #[.val (.ref p0), .val (.int i), s2] [])) _
      refine XS.iloadN X0.here hx rfl (hb hby d4_2) rfl  ?_
      refine XS.aloadN X0.here hx rfl (hb hby d4_3) rfl rfl ?_
      show Steps p.tables e below (T0.setTop (mkF m 4 #[.val (.ref p0), .val (.int i), s2] [(.ref p0), (.int i)])) _
      refine st1.trans ?_
      show Steps p.tables e below (T1.setTop (mkF m 9 #[.val (.ref p0), .val (.int i), s2] [(.int (Int32.ofNat cs.length)), (.int i)])) _
      refine XS.icmpYes X1.here hx rfl (pc0 := 9) (pc' := 48) rfl (hb hby d4_9) rfl (flt (fun q => absurd ((own_jlt hij (by omega) hln).mp q) (by omega))).2.1 (by decide) (by decide) ?_
      refine XS.iconst X1.here hx rfl (hb hby d4_48) ?_
      show Steps p.tables e below (T1.setTop (mkF m 49 #[.val (.ref p0), .val (.int i), s2] [(.int (-1 : Int32))])) _
      exact kt)⟩
  | succ k ih =>
    intro j i T0 locs s2 hf hij hj hs2 X0 N0 e0
    have pre0 : ∀ t, Steps p.tables e below (T0.setTop (mkF m 2 #[.val (.ref p0), .val (.int i), s2] [])) t → Steps p.tables e below (T0.setTop (mkF m 2 #[.val (.ref p0), .val (.int i), s2] [])) t := fun t kt => kt
    obtain ⟨cq1, kq1, q1a, q1b, q1c⟩ := isOf hZ e0 hS.exa
    obtain ⟨_, _, ⟨T1, L1, k1, n1⟩, -, X1, ⟨Lc1, hQ1, l1, y1, z1⟩, st1⟩ := X0.interfaceBack hx (xi := (⟨"java/lang/CharSequence", "length", "()I"⟩ : MethodName)) (y := (⟨"java/lang/String", "length", "()I"⟩ : MethodName)) hown (mvT hZ (hw _ (List.mem_of_getElem? (i := 26) rfl))) (mvT hZ (hw _ (List.mem_of_getElem? (i := 27) rfl))) (mvT hZ (hw _ (List.mem_of_getElem? (i := 28) rfl))) (mvT hZ (hw _ (List.mem_of_getElem? (i := 29) rfl))) (mvT hZ (hw _ (List.mem_of_getElem? (i := 30) rfl))) (mvT hZ (hw _ (List.mem_of_getElem? (i := 31) rfl))) (mvT hZ (hw _ (List.mem_of_getElem? (i := 32) rfl))) (mvT hZ (hw _ (List.mem_of_getElem? (i := 33) rfl))) (by decide) (backOf (W := 1) (rmLen l Z a0 hw [] p0 zc fm cs (Int32.ofNat cs.length) h0 n0 Z0 hSt Ol hS rfl) hZ (hw _ (List.mem_of_getElem? (i := 34) rfl)) (hw _ (List.mem_of_getElem? (i := 3) rfl)) (Nat.le_trans (Nat.le_of_ble_eq_true rfl) hRf) (Nat.le_trans (Nat.le_of_ble_eq_true rfl) hRl)) q1a q1b q1c (g := (mkF m 4 #[.val (.ref p0), .val (.int i), s2] [(.ref p0), (.int i)])) rfl (by rw [hml]; rfl) (Steps.refl _) (argsL := []) (rest := [(.int i)]) (lenOf pd___I rfl) rfl (by show 2 * 0 + _ ≤ _; exact Nat.le_of_eq rfl) (hb hby d4_4) (fun _ _ => ⟨rfl, e0, hRc, hRs⟩)
    dsimp only [Pt.U, Pt.locs, Pt.cells, Pt.slots] at X1 l1 y1 z1 st1 hQ1
    subst l1 y1 z1
    obtain ⟨rfl, Nq1, e1⟩ := hQ1
    have N1 := Fr.app N0 Nq1
    have pre2 : ∀ t, Steps p.tables e below (T1.setTop (mkF m 9 #[.val (.ref p0), .val (.int i), s2] [(.int (Int32.ofNat cs.length)), (.int i)])) t → Steps p.tables e below (T0.setTop (mkF m 2 #[.val (.ref p0), .val (.int i), s2] [])) t := fun t kt => pre0 t (by
      show Steps p.tables e below (T0.setTop (mkF m 2 #[.val (.ref p0), .val (.int i), s2] [])) _
      refine XS.iloadN X0.here hx rfl (hb hby d4_2) rfl  ?_
      refine XS.aloadN X0.here hx rfl (hb hby d4_3) rfl rfl ?_
      show Steps p.tables e below (T0.setTop (mkF m 4 #[.val (.ref p0), .val (.int i), s2] [(.ref p0), (.int i)])) _
      refine st1.trans ?_
      exact kt)
    by_cases hlt0 : i < (Int32.ofNat cs.length)
    · have hlt := (own_jlt hij (by omega) hln).mp hlt0
      have hin := own_jin hij (by omega)
      obtain ⟨cq3, kq3, q3a, q3b, q3c⟩ := isOf hZ e1 hS.exa
      obtain ⟨_, _, ⟨T3, L3, k3, n3⟩, -, X3, ⟨Lc3, hQ3, l3, y3, z3⟩, st3⟩ := X1.interfaceBack hx (xi := (⟨"java/lang/CharSequence", "charAt", "(I)C"⟩ : MethodName)) (y := (⟨"java/lang/String", "charAt", "(I)C"⟩ : MethodName)) hown (mvT hZ (hw _ (List.mem_of_getElem? (i := 89) rfl))) (mvT hZ (hw _ (List.mem_of_getElem? (i := 90) rfl))) (mvT hZ (hw _ (List.mem_of_getElem? (i := 91) rfl))) (mvT hZ (hw _ (List.mem_of_getElem? (i := 92) rfl))) (mvT hZ (hw _ (List.mem_of_getElem? (i := 93) rfl))) (mvT hZ (hw _ (List.mem_of_getElem? (i := 94) rfl))) (mvT hZ (hw _ (List.mem_of_getElem? (i := 95) rfl))) (mvT hZ (hw _ (List.mem_of_getElem? (i := 33) rfl))) (by decide) (backOf (W := 0) (rmCharAt l Z a0 hw [] p0 i zc fm cs (cs.getD j 0) h0 n0 Z0 hSt Ol hS ⟨hin.1, by rw [hin.2]; exact hlt⟩ (by rw [hin.2])) hZ (hw _ (List.mem_of_getElem? (i := 96) rfl)) (hw _ (List.mem_of_getElem? (i := 3) rfl)) (Nat.le_trans (Nat.le_of_ble_eq_true rfl) hRf) (Nat.le_trans (Nat.le_of_ble_eq_true rfl) hRl)) q3a q3b q3c (g := (mkF m 14 #[.val (.ref p0), .val (.int i), s2] [(.int i), (.ref p0)])) rfl (by rw [hml]; rfl) (Steps.refl _) (argsL := [(.int i)]) (rest := []) (lenOf pd__I_C rfl) rfl (by show 2 * 0 + _ ≤ _; exact Nat.le_of_eq rfl) (hb hby d4_14) (fun _ _ => ⟨rfl, e1, hRc, hRs⟩)
      dsimp only [Pt.U, Pt.locs, Pt.cells, Pt.slots] at X3 l3 y3 z3 st3 hQ3
      subst l3 y3 z3
      obtain ⟨rfl, Nq3, e3⟩ := hQ3
      have N3 := Fr.app N1 Nq3
      have pre4 : ∀ t, Steps p.tables e below (T3.setTop (mkF m 20 #[.val (.ref p0), .val (.int i), .val (.int (cs.getD j 0))] [])) t → Steps p.tables e below (T0.setTop (mkF m 2 #[.val (.ref p0), .val (.int i), s2] [])) t := fun t kt => pre2 t (by
        show Steps p.tables e below (T1.setTop (mkF m 9 #[.val (.ref p0), .val (.int i), s2] [(.int (Int32.ofNat cs.length)), (.int i)])) _
        refine XS.icmpNo X1.here hx rfl (hb hby d4_9) rfl (tlt hlt0).2.1 ?_
        refine XS.aloadN X1.here hx rfl (hb hby d4_12) rfl rfl ?_
        refine XS.iloadN X1.here hx rfl (hb hby d4_13) rfl  ?_
        show Steps p.tables e below (T1.setTop (mkF m 14 #[.val (.ref p0), .val (.int i), s2] [(.int i), (.ref p0)])) _
        refine st3.trans ?_
        show Steps p.tables e below (T3.setTop (mkF m 19 #[.val (.ref p0), .val (.int i), s2] [(.int (cs.getD j 0))])) _
        refine XS.istoreN X3.here hx rfl (hb hby d4_19) rfl (l' := #[.val (.ref p0), .val (.int i), .val (.int (cs.getD j 0))]) (own_os hs2) ?_
        exact kt)
      by_cases hrmHi : (¬ (cs.getD j 0) < (55296 : Int32) ∧ (cs.getD j 0) < (56320 : Int32))
      · obtain ⟨_, _, ⟨T5, L5, k5, n5⟩, -, X5, ⟨Lc5, hQ5, l5, y5, z5⟩, st5⟩ := Jvm.LawKit.callS X3 hx (y := (⟨"java/lang/Character", "isHighSurrogate", "(C)Z"⟩ : MethodName)) hown (mvT hZ (hw _ (List.mem_of_getElem? (i := 119) rfl))) (mvT hZ (hw _ (List.mem_of_getElem? (i := 120) rfl))) (mvT hZ (hw _ (List.mem_of_getElem? (i := 121) rfl))) (mvT hZ (hw _ (List.mem_of_getElem? (i := 122) rfl))) (by decide) (backOf (W := 0) (rmHi l Z a0 hw [] (cs.getD j 0) (1 : Int32) h0 n0 Z0 (if_pos hrmHi).symm) hZ (hw _ (List.mem_of_getElem? (i := 122) rfl)) (hw _ (List.mem_of_getElem? (i := 121) rfl)) (Nat.le_trans (Nat.le_of_ble_eq_true rfl) hRf) (Nat.le_trans (Nat.le_of_ble_eq_true rfl) hRl)) (g := (mkF m 21 #[.val (.ref p0), .val (.int i), .val (.int (cs.getD j 0))] [(.int (cs.getD j 0))])) rfl (by rw [hml]; rfl) (argsL := [(.int (cs.getD j 0))]) (rest := []) (lenOf pd__C_Z rfl) rfl (by show 2 * 0 + _ ≤ _; exact Nat.le_of_eq rfl) (hb hby d4_21) (fun _ _ => ⟨rfl, e3, hRc, hRs⟩)
        dsimp only [Pt.U, Pt.locs, Pt.cells, Pt.slots] at X5 l5 y5 z5 st5 hQ5
        subst l5 y5 z5
        obtain ⟨rfl, Nq5, e5⟩ := hQ5
        have N5 := Fr.app N3 Nq5
        have hr_ : own_ma cs (k + 1) j = own_ma cs k (j + 2) := by rw [own_ma, if_pos hlt, if_pos hrmHi]
        rw [hr_]
        obtain ⟨T', locs', pc, Ls, X', N', e', d', st'⟩ := ih (j + 2) _ T5 _ _ (by omega) (own_jup (own_jup hij (by omega)) (by omega)) (by omega) (One.val (w := (.int (cs.getD j 0))) rfl) X5 N5 e5
        exact ⟨T', locs', pc, Ls, X', N', e', d', fun t kt => pre4 t (by
          show Steps p.tables e below (T3.setTop (mkF m 20 #[.val (.ref p0), .val (.int i), .val (.int (cs.getD j 0))] [])) _
          refine XS.iloadN X3.here hx rfl (hb hby d4_20) rfl  ?_
          show Steps p.tables e below (T3.setTop (mkF m 21 #[.val (.ref p0), .val (.int i), .val (.int (cs.getD j 0))] [(.int (cs.getD j 0))])) _
          refine st5 _ ?_
          show Steps p.tables e below (T5.setTop (mkF m 24 #[.val (.ref p0), .val (.int i), .val (.int (cs.getD j 0))] [(.int (1 : Int32))])) _
          refine XS.ifNo X5.here hx rfl (hb hby d4_24) rfl ((if0 _ _).trans (feq (by decide : ¬ ((1 : Int32) = (0 : Int32)))).1) ?_
          refine XS.iinc X5.here hx rfl (hb hby d4_27) rfl (l' := #[.val (.ref p0), .val (.int (i + (1 : Int32))), .val (.int (cs.getD j 0))]) rfl ?_
          refine XS.goto X5.here hx rfl (pc0 := 30) (pc' := 42) rfl (hb hby d4_30) (by decide) (by decide) ?_
          show Steps p.tables e below (T5.setTop (mkF m 42 #[.val (.ref p0), .val (.int (i + (1 : Int32))), .val (.int (cs.getD j 0))] [])) _
          refine XS.iinc X5.here hx rfl (hb hby d4_42) rfl (l' := #[.val (.ref p0), .val (.int ((i + (1 : Int32)) + (1 : Int32))), .val (.int (cs.getD j 0))]) rfl ?_
          refine XS.goto X5.here hx rfl (pc0 := 45) (pc' := 2) rfl (hb hby d4_45) (by decide) (by decide) ?_
          exact st' t kt)⟩
      · obtain ⟨_, _, ⟨T6, L6, k6, n6⟩, -, X6, ⟨Lc6, hQ6, l6, y6, z6⟩, st6⟩ := Jvm.LawKit.callS X3 hx (y := (⟨"java/lang/Character", "isHighSurrogate", "(C)Z"⟩ : MethodName)) hown (mvT hZ (hw _ (List.mem_of_getElem? (i := 119) rfl))) (mvT hZ (hw _ (List.mem_of_getElem? (i := 120) rfl))) (mvT hZ (hw _ (List.mem_of_getElem? (i := 121) rfl))) (mvT hZ (hw _ (List.mem_of_getElem? (i := 122) rfl))) (by decide) (backOf (W := 0) (rmHi l Z a0 hw [] (cs.getD j 0) (0 : Int32) h0 n0 Z0 (if_neg hrmHi).symm) hZ (hw _ (List.mem_of_getElem? (i := 122) rfl)) (hw _ (List.mem_of_getElem? (i := 121) rfl)) (Nat.le_trans (Nat.le_of_ble_eq_true rfl) hRf) (Nat.le_trans (Nat.le_of_ble_eq_true rfl) hRl)) (g := (mkF m 21 #[.val (.ref p0), .val (.int i), .val (.int (cs.getD j 0))] [(.int (cs.getD j 0))])) rfl (by rw [hml]; rfl) (argsL := [(.int (cs.getD j 0))]) (rest := []) (lenOf pd__C_Z rfl) rfl (by show 2 * 0 + _ ≤ _; exact Nat.le_of_eq rfl) (hb hby d4_21) (fun _ _ => ⟨rfl, e3, hRc, hRs⟩)
        dsimp only [Pt.U, Pt.locs, Pt.cells, Pt.slots] at X6 l6 y6 z6 st6 hQ6
        subst l6 y6 z6
        obtain ⟨rfl, Nq6, e6⟩ := hQ6
        have N6 := Fr.app N3 Nq6
        have pre7 : ∀ t, Steps p.tables e below (T6.setTop (mkF m 33 #[.val (.ref p0), .val (.int i), .val (.int (cs.getD j 0))] [])) t → Steps p.tables e below (T0.setTop (mkF m 2 #[.val (.ref p0), .val (.int i), s2] [])) t := fun t kt => pre4 t (by
          show Steps p.tables e below (T3.setTop (mkF m 20 #[.val (.ref p0), .val (.int i), .val (.int (cs.getD j 0))] [])) _
          refine XS.iloadN X3.here hx rfl (hb hby d4_20) rfl  ?_
          show Steps p.tables e below (T3.setTop (mkF m 21 #[.val (.ref p0), .val (.int i), .val (.int (cs.getD j 0))] [(.int (cs.getD j 0))])) _
          refine st6 _ ?_
          show Steps p.tables e below (T6.setTop (mkF m 24 #[.val (.ref p0), .val (.int i), .val (.int (cs.getD j 0))] [(.int (0 : Int32))])) _
          refine XS.ifYes X6.here hx rfl (pc0 := 24) (pc' := 33) rfl (hb hby d4_24) rfl ((if0 _ _).trans (teq (by decide : (0 : Int32) = (0 : Int32))).1) (by decide) (by decide) ?_
          exact kt)
        by_cases hrmLo : (¬ (cs.getD j 0) < (56320 : Int32) ∧ (cs.getD j 0) < (57344 : Int32))
        · obtain ⟨_, _, ⟨T8, L8, k8, n8⟩, -, X8, ⟨Lc8, hQ8, l8, y8, z8⟩, st8⟩ := Jvm.LawKit.callS X6 hx (y := (⟨"java/lang/Character", "isLowSurrogate", "(C)Z"⟩ : MethodName)) hown (mvT hZ (hw _ (List.mem_of_getElem? (i := 124) rfl))) (mvT hZ (hw _ (List.mem_of_getElem? (i := 125) rfl))) (mvT hZ (hw _ (List.mem_of_getElem? (i := 121) rfl))) (mvT hZ (hw _ (List.mem_of_getElem? (i := 126) rfl))) (by decide) (backOf (W := 0) (rmLo l Z a0 hw [] (cs.getD j 0) (1 : Int32) h0 n0 Z0 (if_pos hrmLo).symm) hZ (hw _ (List.mem_of_getElem? (i := 126) rfl)) (hw _ (List.mem_of_getElem? (i := 121) rfl)) (Nat.le_trans (Nat.le_of_ble_eq_true rfl) hRf) (Nat.le_trans (Nat.le_of_ble_eq_true rfl) hRl)) (g := (mkF m 34 #[.val (.ref p0), .val (.int i), .val (.int (cs.getD j 0))] [(.int (cs.getD j 0))])) rfl (by rw [hml]; rfl) (argsL := [(.int (cs.getD j 0))]) (rest := []) (lenOf pd__C_Z rfl) rfl (by show 2 * 0 + _ ≤ _; exact Nat.le_of_eq rfl) (hb hby d4_34) (fun _ _ => ⟨rfl, e6, hRc, hRs⟩)
          dsimp only [Pt.U, Pt.locs, Pt.cells, Pt.slots] at X8 l8 y8 z8 st8 hQ8
          subst l8 y8 z8
          obtain ⟨rfl, Nq8, e8⟩ := hQ8
          have N8 := Fr.app N6 Nq8
          have hr_ : own_ma cs (k + 1) j = i := by rw [own_ma, if_pos hlt, if_neg hrmHi, if_pos hrmLo, hij]
          rw [hr_]
          exact ⟨T8, _, 41, _, X8, N8, e8, (hb hby d4_41), fun t kt => pre7 t (by
            show Steps p.tables e below (T6.setTop (mkF m 33 #[.val (.ref p0), .val (.int i), .val (.int (cs.getD j 0))] [])) _
            refine XS.iloadN X6.here hx rfl (hb hby d4_33) rfl  ?_
            show Steps p.tables e below (T6.setTop (mkF m 34 #[.val (.ref p0), .val (.int i), .val (.int (cs.getD j 0))] [(.int (cs.getD j 0))])) _
            refine st8 _ ?_
            show Steps p.tables e below (T8.setTop (mkF m 37 #[.val (.ref p0), .val (.int i), .val (.int (cs.getD j 0))] [(.int (1 : Int32))])) _
            refine XS.ifNo X8.here hx rfl (hb hby d4_37) rfl ((if0 _ _).trans (feq (by decide : ¬ ((1 : Int32) = (0 : Int32)))).1) ?_
            refine XS.iloadN X8.here hx rfl (hb hby d4_40) rfl  ?_
            show Steps p.tables e below (T8.setTop (mkF m 41 #[.val (.ref p0), .val (.int i), .val (.int (cs.getD j 0))] [(.int i)])) _
            exact kt)⟩
        · obtain ⟨_, _, ⟨T9, L9, k9, n9⟩, -, X9, ⟨Lc9, hQ9, l9, y9, z9⟩, st9⟩ := Jvm.LawKit.callS X6 hx (y := (⟨"java/lang/Character", "isLowSurrogate", "(C)Z"⟩ : MethodName)) hown (mvT hZ (hw _ (List.mem_of_getElem? (i := 124) rfl))) (mvT hZ (hw _ (List.mem_of_getElem? (i := 125) rfl))) (mvT hZ (hw _ (List.mem_of_getElem? (i := 121) rfl))) (mvT hZ (hw _ (List.mem_of_getElem? (i := 126) rfl))) (by decide) (backOf (W := 0) (rmLo l Z a0 hw [] (cs.getD j 0) (0 : Int32) h0 n0 Z0 (if_neg hrmLo).symm) hZ (hw _ (List.mem_of_getElem? (i := 126) rfl)) (hw _ (List.mem_of_getElem? (i := 121) rfl)) (Nat.le_trans (Nat.le_of_ble_eq_true rfl) hRf) (Nat.le_trans (Nat.le_of_ble_eq_true rfl) hRl)) (g := (mkF m 34 #[.val (.ref p0), .val (.int i), .val (.int (cs.getD j 0))] [(.int (cs.getD j 0))])) rfl (by rw [hml]; rfl) (argsL := [(.int (cs.getD j 0))]) (rest := []) (lenOf pd__C_Z rfl) rfl (by show 2 * 0 + _ ≤ _; exact Nat.le_of_eq rfl) (hb hby d4_34) (fun _ _ => ⟨rfl, e6, hRc, hRs⟩)
          dsimp only [Pt.U, Pt.locs, Pt.cells, Pt.slots] at X9 l9 y9 z9 st9 hQ9
          subst l9 y9 z9
          obtain ⟨rfl, Nq9, e9⟩ := hQ9
          have N9 := Fr.app N6 Nq9
          have hr_ : own_ma cs (k + 1) j = own_ma cs k (j + 1) := by rw [own_ma, if_pos hlt, if_neg hrmHi, if_neg hrmLo]
          rw [hr_]
          obtain ⟨T', locs', pc, Ls, X', N', e', d', st'⟩ := ih (j + 1) _ T9 _ _ (by omega) (own_jup hij (by omega)) (by omega) (One.val (w := (.int (cs.getD j 0))) rfl) X9 N9 e9
          exact ⟨T', locs', pc, Ls, X', N', e', d', fun t kt => pre7 t (by
            show Steps p.tables e below (T6.setTop (mkF m 33 #[.val (.ref p0), .val (.int i), .val (.int (cs.getD j 0))] [])) _
            refine XS.iloadN X6.here hx rfl (hb hby d4_33) rfl  ?_
            show Steps p.tables e below (T6.setTop (mkF m 34 #[.val (.ref p0), .val (.int i), .val (.int (cs.getD j 0))] [(.int (cs.getD j 0))])) _
            refine st9 _ ?_
            show Steps p.tables e below (T9.setTop (mkF m 37 #[.val (.ref p0), .val (.int i), .val (.int (cs.getD j 0))] [(.int (0 : Int32))])) _
            refine XS.ifYes X9.here hx rfl (pc0 := 37) (pc' := 42) rfl (hb hby d4_37) rfl ((if0 _ _).trans (teq (by decide : (0 : Int32) = (0 : Int32))).1) (by decide) (by decide) ?_
            refine XS.iinc X9.here hx rfl (hb hby d4_42) rfl (l' := #[.val (.ref p0), .val (.int (i + (1 : Int32))), .val (.int (cs.getD j 0))]) rfl ?_
            refine XS.goto X9.here hx rfl (pc0 := 45) (pc' := 2) rfl (hb hby d4_45) (by decide) (by decide) ?_
            exact st' t kt)⟩
    · have hlt : ¬ j < cs.length := fun q => hlt0 ((own_jlt hij (by omega) hln).mpr q)
      have hr_ : own_ma cs (k + 1) j = -1 := by rw [own_ma, if_neg hlt]
      rw [hr_]
      exact ⟨T1, _, 49, _, X1, N1, e1, (hb hby d4_49), fun t kt => pre2 t (by
        show Steps p.tables e below (T1.setTop (mkF m 9 #[.val (.ref p0), .val (.int i), s2] [(.int (Int32.ofNat cs.length)), (.int i)])) _
        refine XS.icmpYes X1.here hx rfl (pc0 := 9) (pc' := 48) rfl (hb hby d4_9) rfl (flt hlt0).2.1 (by decide) (by decide) ?_
        refine XS.iconst X1.here hx rfl (hb hby d4_48) ?_
        show Steps p.tables e below (T1.setTop (mkF m 49 #[.val (.ref p0), .val (.int i), s2] [(.int (-1 : Int32))])) _
        exact kt)⟩
theorem ef_rmMalAt (m : MethodId) (p0 : Addr) : entryFrame m #[(.ref p0)] 3 = mkF m 0 #[.val (.ref p0), .unset, .unset] [] := by first | (simp [entryFrame, mkF, argsToLocals, Value.category]; done) | rfl
theorem d4_0 : decode prog_13_method_3_code 0 = .ok (.iconst 0, 1) := by decide +kernel
theorem d4_1 : decode prog_13_method_3_code 1 = .ok (.istore_n 1, 1) := by decide +kernel
def Q_rmMalAt (Z : State) (p0 : Addr) (zc : Int32) (fm : Value) (cs : List Int32) (r : Int32) (h0 : Heap) (n0 : Nat) (v : Option Value) (h : Heap) (L : List Loc) : Prop := v = some (.int r) ∧ Fr n0 L ∧ h = h0
set_option maxRecDepth 65536 in
set_option maxHeartbeats 40000000 in
theorem rmMalAt (l : Launch) (Z : State) (a0 : Array Value) (hw : ∀ d ∈ tables_1, d.before a0 Z = true) (ws : List Jvm.Cond) (p0 : Addr) (zc : Int32) (fm : Value) (cs : List Int32) (r : Int32) (h0 : Heap) (n0 : Nat) (Z0 : n0 ≤ h0.size) (hSt : own_St Z zc fm) (Ol : Old Z n0 h0) (hS : own_Str Z h0 p0 cs) (hln : cs.length < 1000) (hres : r = own_ma cs (cs.length + 1) 0) :
    MetFree l (⟨"com/example/abeyance/abeyance/model/Utf8Reader", "malformedAt", "(Ljava/lang/CharSequence;)I"⟩ : MethodName) (head1 (Jvm.Cond.code (⟨"com/example/abeyance/abeyance/model/Utf8Reader", "malformedAt", "(Ljava/lang/CharSequence;)I"⟩ : MethodName) prog_13_method_3_code 3 (some .int) :: ws) ({ frames := 5, cells := 0, slots := 0, locals := 66 } : Room)) (fun a U => a = #[(.ref p0)] ∧ Z.Warmed39 U.vm ∧ U.heap = h0) (fun _ _ _ _ _ => True) (fun _ U o U' => ∃ v L, o = .returned v ∧ Q_rmMalAt Z p0 zc fm cs r h0 n0 v U'.heap L ∧ FrameEnd U o U' L ({ frames := 5, cells := 0, slots := 0, locals := 66 } : Room).cells ({ frames := 5, cells := 0, slots := 0, locals := 66 } : Room).slots) := by
  refine MetFree.of_bodySF (plainFor_of_name pn_com_example_abeyance_abeyance_model_Utf8Reader) hisR ?_
  intro p e s m args below meth c s₁ Bd hml0 hP hK
  obtain ⟨rfl, hZ, hh⟩ := hP
  have hx := Bd.exec
  have hby := Bd.bytes
  have hml : c.maxLocals = 3 := hml0
  have hown : s.vm.findClass "com/example/abeyance/abeyance/model/Utf8Reader" = some m.cls := findClass_of_methodNamed Bd.named
  have hnm := (name_of_methodNamed Bd.named Bd.method).1
  have hZo := hZ
  have howno := hown
  have X0 : Stand p l e ({ frames := 5, cells := 0, slots := 0, locals := 66 } : Room) s m #[(.ref p0)] below meth c s₁ [] 0 0 := Stand.of_body Bd
  have e0 : s₁.heap = h0 := by rw [← hh, Bd.state]; rfl
  have N0 := Fr.nil n0
  have pre0 : ∀ t, Steps p.tables e below (s₁.setTop (mkF m 0 #[.val (.ref p0), .unset, .unset] [])) t → Steps p.tables e below (s₁.setTop (entryFrame m #[(.ref p0)] 3)) t := fun t k => castTop (ef_rmMalAt m p0 ) k
  have pre1 : ∀ t, Steps p.tables e below (s₁.setTop (mkF m 2 #[.val (.ref p0), .val (.int (0 : Int32)), .unset] [])) t → Steps p.tables e below (s₁.setTop (entryFrame m #[(.ref p0)] 3)) t := fun t kt => pre0 t (by
    show Steps p.tables e below (s₁.setTop (mkF m 0 #[.val (.ref p0), .unset, .unset] [])) _
    refine XS.iconst X0.here hx rfl (hb hby d4_0) ?_
    refine XS.istoreN X0.here hx rfl (hb hby d4_1) rfl (l' := #[.val (.ref p0), .val (.int (0 : Int32)), .unset]) rfl ?_
    exact kt)
  obtain ⟨T', locs', pc, Ls, X', N', e', d', st'⟩ := own_loop hx hZ hw hby hml hown Z0 hSt Ol hS hln (Nat.le_of_ble_eq_true rfl) (Nat.le_of_ble_eq_true rfl) (Nat.le_of_ble_eq_true rfl) (Nat.le_of_ble_eq_true rfl) (cs.length + 1) 0 (0 : Int32) s₁ [] .unset (by omega) rfl (by omega) One.u X0 N0 e0
  rw [← hres] at st'
  obtain ⟨fs, hr, hrun, hended, hW, hsame⟩ := X'.leave (v := some (.int r)) (fun h => by rw [Bd.returns] at h; cases h)
  refine ⟨_, _, pre1 _ (st' _ ?_), hrun, hended, _, _, rfl, ?_, ⟨_, rfl⟩, hW, hsame.mono (by decide) (by decide)⟩
  · exact retI X' hx Bd.returns d' hr
  · show Q_rmMalAt Z p0 zc fm cs r h0 n0 _ T'.heap _
    rw [e']
    exact ⟨rfl, N', rfl⟩
theorem ef_rmKindL (m : MethodId) (p0 : Int32) : entryFrame m #[(.int p0)] 2 = mkF m 0 #[.val (.int p0), .unset] [] := by first | (simp [entryFrame, mkF, argsToLocals, Value.category]; done) | rfl
theorem d8_0 : decode method_2_code 0 = .ok (.iload_n 0, 1) := by decide +kernel
theorem d8_1 : decode method_2_code 1 = .ok (.bipush 7, 2) := by decide +kernel
theorem d8_3 : decode method_2_code 3 = .ok (.iand, 1) := by decide +kernel
theorem d8_4 : decode method_2_code 4 = .ok (.istore_n 1, 1) := by decide +kernel
theorem d8_5 : decode method_2_code 5 = .ok (.iload_n 1, 1) := by decide +kernel
theorem d8_6 : decode method_2_code 6 = .ok (.iconst 4, 1) := by decide +kernel
theorem d8_7 : decode method_2_code 7 = .ok (.if_icmp .le 7, 3) := by decide +kernel
theorem d8_10 : decode method_2_code 10 = .ok (.iconst 0, 1) := by decide +kernel
theorem d8_11 : decode method_2_code 11 = .ok (.goto 4, 3) := by decide +kernel
theorem d8_15 : decode method_2_code 15 = .ok (.ireturn, 1) := by decide +kernel
theorem d8_14 : decode method_2_code 14 = .ok (.iload_n 1, 1) := by decide +kernel
def Q_rmKindL (Z : State) (p0 : Int32) (r : Int32) (h0 : Heap) (n0 : Nat) (v : Option Value) (h : Heap) (L : List Loc) : Prop := v = some (.int r) ∧ Fr n0 L ∧ h = h0
set_option maxRecDepth 65536 in
set_option maxHeartbeats 40000000 in
theorem rmKindL (l : Launch) (Z : State) (a0 : Array Value) (hw : ∀ d ∈ tables_1, d.before a0 Z = true) (ws : List Jvm.Cond) (p0 : Int32) (r : Int32) (h0 : Heap) (n0 : Nat) (Z0 : n0 ≤ h0.size) (hres : r = own_kn p0) :
    MetFree l (⟨"com/example/abeyance/abeyance/model/Utf8ReaderMalformedAtPinLaw", "kind", "(I)I"⟩ : MethodName) (head1 (Jvm.Cond.code (⟨"com/example/abeyance/abeyance/model/Utf8ReaderMalformedAtPinLaw", "kind", "(I)I"⟩ : MethodName) method_2_code 2 (some .int) :: ws) ({ frames := 0, cells := 0, slots := 0, locals := 0 } : Room)) (fun a U => a = #[(.int p0)] ∧ Z.Warmed39 U.vm ∧ U.heap = h0) (fun _ _ _ _ _ => True) (fun _ U o U' => ∃ v L, o = .returned v ∧ Q_rmKindL Z p0 r h0 n0 v U'.heap L ∧ FrameEnd U o U' L ({ frames := 0, cells := 0, slots := 0, locals := 0 } : Room).cells ({ frames := 0, cells := 0, slots := 0, locals := 0 } : Room).slots) := by
  refine MetFree.of_bodySF (plainFor_of_name pn_com_example_abeyance_abeyance_model_Utf8ReaderMalformedAtPinLaw) hisR ?_
  intro p e s m args below meth c s₁ Bd hml0 hP hK
  obtain ⟨rfl, hZ, hh⟩ := hP
  have hx := Bd.exec
  have hby := Bd.bytes
  have hml : c.maxLocals = 2 := hml0
  have hown : s.vm.findClass "com/example/abeyance/abeyance/model/Utf8ReaderMalformedAtPinLaw" = some m.cls := findClass_of_methodNamed Bd.named
  have hnm := (name_of_methodNamed Bd.named Bd.method).1
  have hZo := hZ
  have howno := hown
  have X0 : Stand p l e ({ frames := 0, cells := 0, slots := 0, locals := 0 } : Room) s m #[(.int p0)] below meth c s₁ [] 0 0 := Stand.of_body Bd
  have e0 : s₁.heap = h0 := by rw [← hh, Bd.state]; rfl
  have N0 := Fr.nil n0
  have pre0 : ∀ t, Steps p.tables e below (s₁.setTop (mkF m 0 #[.val (.int p0), .unset] [])) t → Steps p.tables e below (s₁.setTop (entryFrame m #[(.int p0)] 2)) t := fun t k => castTop (ef_rmKindL m p0 ) k
  have pre2 : ∀ t, Steps p.tables e below (s₁.setTop (mkF m 7 #[.val (.int p0), .val (.int (p0 &&& (7 : Int32)))] [(.int (4 : Int32)), (.int (p0 &&& (7 : Int32)))])) t → Steps p.tables e below (s₁.setTop (entryFrame m #[(.int p0)] 2)) t := fun t kt => pre0 t (by
    show Steps p.tables e below (s₁.setTop (mkF m 0 #[.val (.int p0), .unset] [])) _
    refine XS.iloadN X0.here hx rfl (hb hby d8_0) rfl  ?_
    refine XS.bipush X0.here hx rfl (hb hby d8_1) ?_
    refine XS.iand X0.here hx rfl (hb hby d8_3) rfl ?_
    show Steps p.tables e below (s₁.setTop (mkF m 4 #[.val (.int p0), .unset] [(.int (p0 &&& (7 : Int32)))])) _
    refine XS.istoreN X0.here hx rfl (hb hby d8_4) rfl (l' := #[.val (.int p0), .val (.int (p0 &&& (7 : Int32)))]) rfl ?_
    refine XS.iloadN X0.here hx rfl (hb hby d8_5) rfl  ?_
    refine XS.iconst X0.here hx rfl (hb hby d8_6) ?_
    exact kt)
  by_cases hc7_1 : (4 : Int32) < (p0 &&& (7 : Int32))
  · obtain ⟨fs, hr, hrun, hended, hW, hsame⟩ := X0.leave (v := some (.int (0 : Int32))) (fun h => by rw [Bd.returns] at h; cases h)
    refine ⟨_, _, pre2 _ ?_, hrun, hended, _, _, rfl, ?_, ⟨_, rfl⟩, hW, hsame.mono (by decide) (by decide)⟩
    · show Steps p.tables e below (s₁.setTop (mkF m 7 #[.val (.int p0), .val (.int (p0 &&& (7 : Int32)))] [(.int (4 : Int32)), (.int (p0 &&& (7 : Int32)))])) _
      refine XS.icmpNo X0.here hx rfl (hb hby d8_7) rfl (tlt hc7_1).2.2.2 ?_
      refine XS.iconst X0.here hx rfl (hb hby d8_10) ?_
      refine XS.goto X0.here hx rfl (pc0 := 11) (pc' := 15) rfl (hb hby d8_11) (by decide) (by decide) ?_
      show Steps p.tables e below (s₁.setTop (mkF m 15 #[.val (.int p0), .val (.int (p0 &&& (7 : Int32)))] [(.int (0 : Int32))])) _
      exact retI X0 hx Bd.returns (hb hby d8_15) hr
    · show Q_rmKindL Z p0 r h0 n0 _ s₁.heap _
      rw [e0]
      exact ⟨by rw [hres]; unfold own_kn; rw [if_pos hc7_1], N0, rfl⟩
  · obtain ⟨fs, hr, hrun, hended, hW, hsame⟩ := X0.leave (v := some (.int (p0 &&& (7 : Int32)))) (fun h => by rw [Bd.returns] at h; cases h)
    refine ⟨_, _, pre2 _ ?_, hrun, hended, _, _, rfl, ?_, ⟨_, rfl⟩, hW, hsame.mono (by decide) (by decide)⟩
    · show Steps p.tables e below (s₁.setTop (mkF m 7 #[.val (.int p0), .val (.int (p0 &&& (7 : Int32)))] [(.int (4 : Int32)), (.int (p0 &&& (7 : Int32)))])) _
      refine XS.icmpYes X0.here hx rfl (pc0 := 7) (pc' := 14) rfl (hb hby d8_7) rfl (flt hc7_1).2.2.2 (by decide) (by decide) ?_
      refine XS.iloadN X0.here hx rfl (hb hby d8_14) rfl  ?_
      show Steps p.tables e below (s₁.setTop (mkF m 15 #[.val (.int p0), .val (.int (p0 &&& (7 : Int32)))] [(.int (p0 &&& (7 : Int32)))])) _
      exact retI X0 hx Bd.returns (hb hby d8_15) hr
    · show Q_rmKindL Z p0 r h0 n0 _ s₁.heap _
      rw [e0]
      exact ⟨by rw [hres]; unfold own_kn; rw [if_neg hc7_1], N0, rfl⟩
theorem ef_rmBmp (m : MethodId) (p0 : Int32) : entryFrame m #[(.int p0)] 2 = mkF m 0 #[.val (.int p0), .unset] [] := by first | (simp [entryFrame, mkF, argsToLocals, Value.category]; done) | rfl
theorem d9_0 : decode method_3_code 0 = .ok (.iload_n 0, 1) := by decide +kernel
theorem d9_1 : decode method_3_code 1 = .ok (.ldc 7, 2) := by decide +kernel
theorem d9_3 : decode method_3_code 3 = .ok (.iand, 1) := by decide +kernel
theorem d9_4 : decode method_3_code 4 = .ok (.istore_n 1, 1) := by decide +kernel
theorem d9_5 : decode method_3_code 5 = .ok (.iload_n 1, 1) := by decide +kernel
theorem d9_6 : decode method_3_code 6 = .ok (.ldc 8, 2) := by decide +kernel
theorem d9_8 : decode method_3_code 8 = .ok (.if_icmp .lt 15, 3) := by decide +kernel
theorem d9_23 : decode method_3_code 23 = .ok (.iload_n 1, 1) := by decide +kernel
theorem d9_24 : decode method_3_code 24 = .ok (.i2c, 1) := by decide +kernel
theorem d9_25 : decode method_3_code 25 = .ok (.ireturn, 1) := by decide +kernel
theorem d9_11 : decode method_3_code 11 = .ok (.iload_n 1, 1) := by decide +kernel
theorem d9_12 : decode method_3_code 12 = .ok (.ldc 9, 2) := by decide +kernel
theorem d9_14 : decode method_3_code 14 = .ok (.if_icmp .gt 9, 3) := by decide +kernel
theorem d9_17 : decode method_3_code 17 = .ok (.iload_n 1, 1) := by decide +kernel
theorem d9_18 : decode method_3_code 18 = .ok (.sipush 16384, 3) := by decide +kernel
theorem d9_21 : decode method_3_code 21 = .ok (.isub, 1) := by decide +kernel
theorem d9_22 : decode method_3_code 22 = .ok (.istore_n 1, 1) := by decide +kernel
def Q_rmBmp (Z : State) (p0 : Int32) (r : Int32) (h0 : Heap) (n0 : Nat) (v : Option Value) (h : Heap) (L : List Loc) : Prop := v = some (.int r) ∧ Fr n0 L ∧ h = h0
set_option maxRecDepth 65536 in
set_option maxHeartbeats 40000000 in
theorem rmBmp (l : Launch) (Z : State) (a0 : Array Value) (hw : ∀ d ∈ tables_1, d.before a0 Z = true) (ws : List Jvm.Cond) (p0 : Int32) (r : Int32) (h0 : Heap) (n0 : Nat) (Z0 : n0 ≤ h0.size) (hres : r = own_bm p0) :
    MetFree l (⟨"com/example/abeyance/abeyance/model/Utf8ReaderMalformedAtPinLaw", "bmp", "(I)C"⟩ : MethodName) (head1 (Jvm.Cond.code (⟨"com/example/abeyance/abeyance/model/Utf8ReaderMalformedAtPinLaw", "bmp", "(I)C"⟩ : MethodName) method_3_code 2 (some .char) :: ws) ({ frames := 0, cells := 0, slots := 0, locals := 0 } : Room)) (fun a U => a = #[(.int p0)] ∧ Z.Warmed39 U.vm ∧ U.heap = h0) (fun _ _ _ _ _ => True) (fun _ U o U' => ∃ v L, o = .returned v ∧ Q_rmBmp Z p0 r h0 n0 v U'.heap L ∧ FrameEnd U o U' L ({ frames := 0, cells := 0, slots := 0, locals := 0 } : Room).cells ({ frames := 0, cells := 0, slots := 0, locals := 0 } : Room).slots) := by
  refine MetFree.of_bodySF (plainFor_of_name pn_com_example_abeyance_abeyance_model_Utf8ReaderMalformedAtPinLaw) hisR ?_
  intro p e s m args below meth c s₁ Bd hml0 hP hK
  obtain ⟨rfl, hZ, hh⟩ := hP
  have hx := Bd.exec
  have hby := Bd.bytes
  have hml : c.maxLocals = 2 := hml0
  have hown : s.vm.findClass "com/example/abeyance/abeyance/model/Utf8ReaderMalformedAtPinLaw" = some m.cls := findClass_of_methodNamed Bd.named
  have hnm := (name_of_methodNamed Bd.named Bd.method).1
  have hZo := hZ
  have howno := hown
  have X0 : Stand p l e ({ frames := 0, cells := 0, slots := 0, locals := 0 } : Room) s m #[(.int p0)] below meth c s₁ [] 0 0 := Stand.of_body Bd
  have e0 : s₁.heap = h0 := by rw [← hh, Bd.state]; rfl
  have N0 := Fr.nil n0
  have pre0 : ∀ t, Steps p.tables e below (s₁.setTop (mkF m 0 #[.val (.int p0), .unset] [])) t → Steps p.tables e below (s₁.setTop (entryFrame m #[(.int p0)] 2)) t := fun t k => castTop (ef_rmBmp m p0 ) k
  have pre2 : ∀ t, Steps p.tables e below (s₁.setTop (mkF m 8 #[.val (.int p0), .val (.int (p0 &&& (65535 : Int32)))] [(.int (55296 : Int32)), (.int (p0 &&& (65535 : Int32)))])) t → Steps p.tables e below (s₁.setTop (entryFrame m #[(.int p0)] 2)) t := fun t kt => pre0 t (by
    show Steps p.tables e below (s₁.setTop (mkF m 0 #[.val (.int p0), .unset] [])) _
    refine XS.iloadN X0.here hx rfl (hb hby d9_0) rfl  ?_
    show Steps p.tables e below (s₁.setTop (mkF m 1 #[.val (.int p0), .unset] [(.int p0)])) _
    refine X0.ldcInt hx hown (mvT hZ (hw _ (List.mem_of_getElem? (i := 51) rfl))) (g := (mkF m 1 #[.val (.int p0), .unset] [(.int p0)])) rfl (hb hby d9_1) _ ?_
    show Steps p.tables e below (s₁.setTop (mkF m 3 #[.val (.int p0), .unset] [(.int (65535 : Int32)), (.int p0)])) _
    refine XS.iand X0.here hx rfl (hb hby d9_3) rfl ?_
    refine XS.istoreN X0.here hx rfl (hb hby d9_4) rfl (l' := #[.val (.int p0), .val (.int (p0 &&& (65535 : Int32)))]) rfl ?_
    refine XS.iloadN X0.here hx rfl (hb hby d9_5) rfl  ?_
    show Steps p.tables e below (s₁.setTop (mkF m 6 #[.val (.int p0), .val (.int (p0 &&& (65535 : Int32)))] [(.int (p0 &&& (65535 : Int32)))])) _
    refine X0.ldcInt hx hown (mvT hZ (hw _ (List.mem_of_getElem? (i := 52) rfl))) (g := (mkF m 6 #[.val (.int p0), .val (.int (p0 &&& (65535 : Int32)))] [(.int (p0 &&& (65535 : Int32)))])) rfl (hb hby d9_6) _ ?_
    exact kt)
  by_cases hc8_1 : (p0 &&& (65535 : Int32)) < (55296 : Int32)
  · obtain ⟨fs, hr, hrun, hended, hW, hsame⟩ := X0.leave (v := some (.int (nar .char ((p0 &&& (65535 : Int32)).toUInt32.toUInt16.toUInt32.toInt32)))) (fun h => by rw [Bd.returns] at h; cases h)
    refine ⟨_, _, pre2 _ ?_, hrun, hended, _, _, rfl, ?_, ⟨_, rfl⟩, hW, hsame.mono (by decide) (by decide)⟩
    · show Steps p.tables e below (s₁.setTop (mkF m 8 #[.val (.int p0), .val (.int (p0 &&& (65535 : Int32)))] [(.int (55296 : Int32)), (.int (p0 &&& (65535 : Int32)))])) _
      refine XS.icmpYes X0.here hx rfl (pc0 := 8) (pc' := 23) rfl (hb hby d9_8) rfl (tlt hc8_1).1 (by decide) (by decide) ?_
      refine XS.iloadN X0.here hx rfl (hb hby d9_23) rfl  ?_
      refine XS.i2c X0.here hx rfl (hb hby d9_24) rfl ?_
      show Steps p.tables e below (s₁.setTop (mkF m 25 #[.val (.int p0), .val (.int (p0 &&& (65535 : Int32)))] [(.int ((p0 &&& (65535 : Int32)).toUInt32.toUInt16.toUInt32.toInt32))])) _
      exact retN X0 hx (t := .char) Bd.returns (by simp) (hb hby d9_25) hr
    · show Q_rmBmp Z p0 r h0 n0 _ s₁.heap _
      rw [e0]
      exact ⟨by rw [hres]; unfold own_bm; rw [if_pos hc8_1], N0, rfl⟩
  · have pre4 : ∀ t, Steps p.tables e below (s₁.setTop (mkF m 14 #[.val (.int p0), .val (.int (p0 &&& (65535 : Int32)))] [(.int (57343 : Int32)), (.int (p0 &&& (65535 : Int32)))])) t → Steps p.tables e below (s₁.setTop (entryFrame m #[(.int p0)] 2)) t := fun t kt => pre2 t (by
      show Steps p.tables e below (s₁.setTop (mkF m 8 #[.val (.int p0), .val (.int (p0 &&& (65535 : Int32)))] [(.int (55296 : Int32)), (.int (p0 &&& (65535 : Int32)))])) _
      refine XS.icmpNo X0.here hx rfl (hb hby d9_8) rfl (flt hc8_1).1 ?_
      refine XS.iloadN X0.here hx rfl (hb hby d9_11) rfl  ?_
      show Steps p.tables e below (s₁.setTop (mkF m 12 #[.val (.int p0), .val (.int (p0 &&& (65535 : Int32)))] [(.int (p0 &&& (65535 : Int32)))])) _
      refine X0.ldcInt hx hown (mvT hZ (hw _ (List.mem_of_getElem? (i := 134) rfl))) (g := (mkF m 12 #[.val (.int p0), .val (.int (p0 &&& (65535 : Int32)))] [(.int (p0 &&& (65535 : Int32)))])) rfl (hb hby d9_12) _ ?_
      exact kt)
    by_cases hc14_3 : (57343 : Int32) < (p0 &&& (65535 : Int32))
    · obtain ⟨fs, hr, hrun, hended, hW, hsame⟩ := X0.leave (v := some (.int (nar .char ((p0 &&& (65535 : Int32)).toUInt32.toUInt16.toUInt32.toInt32)))) (fun h => by rw [Bd.returns] at h; cases h)
      refine ⟨_, _, pre4 _ ?_, hrun, hended, _, _, rfl, ?_, ⟨_, rfl⟩, hW, hsame.mono (by decide) (by decide)⟩
      · show Steps p.tables e below (s₁.setTop (mkF m 14 #[.val (.int p0), .val (.int (p0 &&& (65535 : Int32)))] [(.int (57343 : Int32)), (.int (p0 &&& (65535 : Int32)))])) _
        refine XS.icmpYes X0.here hx rfl (pc0 := 14) (pc' := 23) rfl (hb hby d9_14) rfl (tlt hc14_3).2.2.1 (by decide) (by decide) ?_
        refine XS.iloadN X0.here hx rfl (hb hby d9_23) rfl  ?_
        refine XS.i2c X0.here hx rfl (hb hby d9_24) rfl ?_
        show Steps p.tables e below (s₁.setTop (mkF m 25 #[.val (.int p0), .val (.int (p0 &&& (65535 : Int32)))] [(.int ((p0 &&& (65535 : Int32)).toUInt32.toUInt16.toUInt32.toInt32))])) _
        exact retN X0 hx (t := .char) Bd.returns (by simp) (hb hby d9_25) hr
      · show Q_rmBmp Z p0 r h0 n0 _ s₁.heap _
        rw [e0]
        exact ⟨by rw [hres]; unfold own_bm; rw [if_neg hc8_1, if_pos hc14_3], N0, rfl⟩
    · obtain ⟨fs, hr, hrun, hended, hW, hsame⟩ := X0.leave (v := some (.int (nar .char (((p0 &&& (65535 : Int32)) - (16384 : Int32)).toUInt32.toUInt16.toUInt32.toInt32)))) (fun h => by rw [Bd.returns] at h; cases h)
      refine ⟨_, _, pre4 _ ?_, hrun, hended, _, _, rfl, ?_, ⟨_, rfl⟩, hW, hsame.mono (by decide) (by decide)⟩
      · show Steps p.tables e below (s₁.setTop (mkF m 14 #[.val (.int p0), .val (.int (p0 &&& (65535 : Int32)))] [(.int (57343 : Int32)), (.int (p0 &&& (65535 : Int32)))])) _
        refine XS.icmpNo X0.here hx rfl (hb hby d9_14) rfl (flt hc14_3).2.2.1 ?_
        refine XS.iloadN X0.here hx rfl (hb hby d9_17) rfl  ?_
        refine XS.sipush X0.here hx rfl (hb hby d9_18) ?_
        show Steps p.tables e below (s₁.setTop (mkF m 21 #[.val (.int p0), .val (.int (p0 &&& (65535 : Int32)))] [(.int (16384 : Int32)), (.int (p0 &&& (65535 : Int32)))])) _
        refine XS.isub X0.here hx rfl (hb hby d9_21) rfl ?_
        refine XS.istoreN X0.here hx rfl (hb hby d9_22) rfl (l' := #[.val (.int p0), .val (.int ((p0 &&& (65535 : Int32)) - (16384 : Int32)))]) rfl ?_
        refine XS.iloadN X0.here hx rfl (hb hby d9_23) rfl  ?_
        show Steps p.tables e below (s₁.setTop (mkF m 24 #[.val (.int p0), .val (.int ((p0 &&& (65535 : Int32)) - (16384 : Int32)))] [(.int ((p0 &&& (65535 : Int32)) - (16384 : Int32)))])) _
        refine XS.i2c X0.here hx rfl (hb hby d9_24) rfl ?_
        show Steps p.tables e below (s₁.setTop (mkF m 25 #[.val (.int p0), .val (.int ((p0 &&& (65535 : Int32)) - (16384 : Int32)))] [(.int (((p0 &&& (65535 : Int32)) - (16384 : Int32)).toUInt32.toUInt16.toUInt32.toInt32))])) _
        exact retN X0 hx (t := .char) Bd.returns (by simp) (hb hby d9_25) hr
      · show Q_rmBmp Z p0 r h0 n0 _ s₁.heap _
        rw [e0]
        exact ⟨by rw [hres]; unfold own_bm; rw [if_neg hc8_1, if_neg hc14_3], N0, rfl⟩
theorem ef_rmEsc (m : MethodId) (p0 : Int32) : entryFrame m #[(.int p0)] 1 = mkF m 0 #[.val (.int p0)] [] := by first | (simp [entryFrame, mkF, argsToLocals, Value.category]; done) | rfl
theorem d10_0 : decode method_4_code 0 = .ok (.ldc 10, 2) := by decide +kernel
theorem d10_2 : decode method_4_code 2 = .ok (.iload_n 0, 1) := by decide +kernel
theorem d10_3 : decode method_4_code 3 = .ok (.sipush 255, 3) := by decide +kernel
theorem d10_6 : decode method_4_code 6 = .ok (.iand, 1) := by decide +kernel
theorem d10_7 : decode method_4_code 7 = .ok (.iadd, 1) := by decide +kernel
theorem d10_8 : decode method_4_code 8 = .ok (.i2c, 1) := by decide +kernel
theorem d10_9 : decode method_4_code 9 = .ok (.ireturn, 1) := by decide +kernel
def Q_rmEsc (Z : State) (p0 : Int32) (r : Int32) (h0 : Heap) (n0 : Nat) (v : Option Value) (h : Heap) (L : List Loc) : Prop := v = some (.int r) ∧ Fr n0 L ∧ h = h0
set_option maxRecDepth 65536 in
set_option maxHeartbeats 40000000 in
theorem rmEsc (l : Launch) (Z : State) (a0 : Array Value) (hw : ∀ d ∈ tables_1, d.before a0 Z = true) (ws : List Jvm.Cond) (p0 : Int32) (r : Int32) (h0 : Heap) (n0 : Nat) (Z0 : n0 ≤ h0.size) (hres : r = own_es p0) :
    MetFree l (⟨"com/example/abeyance/abeyance/model/Utf8ReaderMalformedAtPinLaw", "esc", "(I)C"⟩ : MethodName) (head1 (Jvm.Cond.code (⟨"com/example/abeyance/abeyance/model/Utf8ReaderMalformedAtPinLaw", "esc", "(I)C"⟩ : MethodName) method_4_code 1 (some .char) :: ws) ({ frames := 0, cells := 0, slots := 0, locals := 0 } : Room)) (fun a U => a = #[(.int p0)] ∧ Z.Warmed39 U.vm ∧ U.heap = h0) (fun _ _ _ _ _ => True) (fun _ U o U' => ∃ v L, o = .returned v ∧ Q_rmEsc Z p0 r h0 n0 v U'.heap L ∧ FrameEnd U o U' L ({ frames := 0, cells := 0, slots := 0, locals := 0 } : Room).cells ({ frames := 0, cells := 0, slots := 0, locals := 0 } : Room).slots) := by
  refine MetFree.of_bodySF (plainFor_of_name pn_com_example_abeyance_abeyance_model_Utf8ReaderMalformedAtPinLaw) hisR ?_
  intro p e s m args below meth c s₁ Bd hml0 hP hK
  obtain ⟨rfl, hZ, hh⟩ := hP
  have hx := Bd.exec
  have hby := Bd.bytes
  have hml : c.maxLocals = 1 := hml0
  have hown : s.vm.findClass "com/example/abeyance/abeyance/model/Utf8ReaderMalformedAtPinLaw" = some m.cls := findClass_of_methodNamed Bd.named
  have hnm := (name_of_methodNamed Bd.named Bd.method).1
  have hZo := hZ
  have howno := hown
  have X0 : Stand p l e ({ frames := 0, cells := 0, slots := 0, locals := 0 } : Room) s m #[(.int p0)] below meth c s₁ [] 0 0 := Stand.of_body Bd
  have e0 : s₁.heap = h0 := by rw [← hh, Bd.state]; rfl
  have N0 := Fr.nil n0
  have pre0 : ∀ t, Steps p.tables e below (s₁.setTop (mkF m 0 #[.val (.int p0)] [])) t → Steps p.tables e below (s₁.setTop (entryFrame m #[(.int p0)] 1)) t := fun t k => castTop (ef_rmEsc m p0 ) k
  obtain ⟨fs, hr, hrun, hended, hW, hsame⟩ := X0.leave (v := some (.int (nar .char (((56320 : Int32) + (p0 &&& (255 : Int32))).toUInt32.toUInt16.toUInt32.toInt32)))) (fun h => by rw [Bd.returns] at h; cases h)
  refine ⟨_, _, pre0 _ ?_, hrun, hended, _, _, rfl, ?_, ⟨_, rfl⟩, hW, hsame.mono (by decide) (by decide)⟩
  · show Steps p.tables e below (s₁.setTop (mkF m 0 #[.val (.int p0)] [])) _
    refine X0.ldcInt hx hown (mvT hZ (hw _ (List.mem_of_getElem? (i := 56) rfl))) (g := (mkF m 0 #[.val (.int p0)] [])) rfl (hb hby d10_0) _ ?_
    show Steps p.tables e below (s₁.setTop (mkF m 2 #[.val (.int p0)] [(.int (56320 : Int32))])) _
    refine XS.iloadN X0.here hx rfl (hb hby d10_2) rfl  ?_
    refine XS.sipush X0.here hx rfl (hb hby d10_3) ?_
    refine XS.iand X0.here hx rfl (hb hby d10_6) rfl ?_
    show Steps p.tables e below (s₁.setTop (mkF m 7 #[.val (.int p0)] [(.int (p0 &&& (255 : Int32))), (.int (56320 : Int32))])) _
    refine XS.iadd X0.here hx rfl (hb hby d10_7) rfl ?_
    refine XS.i2c X0.here hx rfl (hb hby d10_8) rfl ?_
    show Steps p.tables e below (s₁.setTop (mkF m 9 #[.val (.int p0)] [(.int (((56320 : Int32) + (p0 &&& (255 : Int32))).toUInt32.toUInt16.toUInt32.toInt32))])) _
    exact retN X0 hx (t := .char) Bd.returns (by simp) (hb hby d10_9) hr
  · show Q_rmEsc Z p0 r h0 n0 _ s₁.heap _
    rw [e0]
    exact ⟨by rw [hres]; rfl, N0, rfl⟩
theorem ef_rmUnit0 (m : MethodId) (p0 : Int32) : entryFrame m #[(.int p0), (.int (0 : Int32))] 4 = mkF m 0 #[.val (.int p0), .val (.int (0 : Int32)), .unset, .unset] [] := by first | (simp [entryFrame, mkF, argsToLocals, Value.category]; done) | rfl
theorem d7_0 : decode method_5_code 0 = .ok (.iload_n 0, 1) := by decide +kernel
theorem d7_1 : decode method_5_code 1 = .ok (.invokestatic 11, 3) := by decide +kernel
theorem d7_4 : decode method_5_code 4 = .ok (.istore_n 2, 1) := by decide +kernel
theorem d7_5 : decode method_5_code 5 = .ok (.iload_n 0, 1) := by decide +kernel
theorem d7_6 : decode method_5_code 6 = .ok (.iconst 3, 1) := by decide +kernel
theorem d7_7 : decode method_5_code 7 = .ok (.iushr, 1) := by decide +kernel
theorem d7_8 : decode method_5_code 8 = .ok (.istore_n 3, 1) := by decide +kernel
theorem d7_9 : decode method_5_code 9 = .ok (.iload_n 2, 1) := by decide +kernel
theorem d7_10 : decode method_5_code 10 = .ok (.ifCond .ne 22, 3) := by decide +kernel
theorem d7_13 : decode method_5_code 13 = .ok (.iload_n 1, 1) := by decide +kernel
theorem d7_14 : decode method_5_code 14 = .ok (.ifCond .ne 10, 3) := by decide +kernel
theorem d7_17 : decode method_5_code 17 = .ok (.iload_n 3, 1) := by decide +kernel
theorem d7_18 : decode method_5_code 18 = .ok (.invokestatic 17, 3) := by decide +kernel
theorem d7_21 : decode method_5_code 21 = .ok (.goto 10, 3) := by decide +kernel
theorem d7_31 : decode method_5_code 31 = .ok (.ireturn, 1) := by decide +kernel
theorem d7_32 : decode method_5_code 32 = .ok (.iload_n 2, 1) := by decide +kernel
theorem d7_33 : decode method_5_code 33 = .ok (.iconst 1, 1) := by decide +kernel
theorem d7_34 : decode method_5_code 34 = .ok (.if_icmp .ne 32, 3) := by decide +kernel
theorem d7_37 : decode method_5_code 37 = .ok (.iload_n 1, 1) := by decide +kernel
theorem d7_38 : decode method_5_code 38 = .ok (.ifCond .ne 15, 3) := by decide +kernel
theorem d7_41 : decode method_5_code 41 = .ok (.ldc 8, 2) := by decide +kernel
theorem d7_43 : decode method_5_code 43 = .ok (.iload_n 3, 1) := by decide +kernel
theorem d7_44 : decode method_5_code 44 = .ok (.sipush 1023, 3) := by decide +kernel
theorem d7_47 : decode method_5_code 47 = .ok (.iand, 1) := by decide +kernel
theorem d7_48 : decode method_5_code 48 = .ok (.iadd, 1) := by decide +kernel
theorem d7_49 : decode method_5_code 49 = .ok (.i2c, 1) := by decide +kernel
theorem d7_50 : decode method_5_code 50 = .ok (.goto 15, 3) := by decide +kernel
theorem d7_65 : decode method_5_code 65 = .ok (.ireturn, 1) := by decide +kernel
theorem d7_66 : decode method_5_code 66 = .ok (.iload_n 2, 1) := by decide +kernel
theorem d7_67 : decode method_5_code 67 = .ok (.iconst 2, 1) := by decide +kernel
theorem d7_68 : decode method_5_code 68 = .ok (.if_icmp .ne 22, 3) := by decide +kernel
theorem d7_71 : decode method_5_code 71 = .ok (.iload_n 1, 1) := by decide +kernel
theorem d7_72 : decode method_5_code 72 = .ok (.ifCond .ne 10, 3) := by decide +kernel
theorem d7_75 : decode method_5_code 75 = .ok (.iload_n 3, 1) := by decide +kernel
theorem d7_76 : decode method_5_code 76 = .ok (.invokestatic 21, 3) := by decide +kernel
theorem d7_79 : decode method_5_code 79 = .ok (.goto 10, 3) := by decide +kernel
theorem d7_89 : decode method_5_code 89 = .ok (.ireturn, 1) := by decide +kernel
theorem d7_90 : decode method_5_code 90 = .ok (.iload_n 2, 1) := by decide +kernel
theorem d7_91 : decode method_5_code 91 = .ok (.iconst 3, 1) := by decide +kernel
theorem d7_92 : decode method_5_code 92 = .ok (.if_icmp .ne 22, 3) := by decide +kernel
theorem d7_95 : decode method_5_code 95 = .ok (.iload_n 1, 1) := by decide +kernel
theorem d7_96 : decode method_5_code 96 = .ok (.ifCond .ne 13, 3) := by decide +kernel
theorem d7_99 : decode method_5_code 99 = .ok (.iload_n 3, 1) := by decide +kernel
theorem d7_100 : decode method_5_code 100 = .ok (.bipush 8, 2) := by decide +kernel
theorem d7_102 : decode method_5_code 102 = .ok (.iushr, 1) := by decide +kernel
theorem d7_103 : decode method_5_code 103 = .ok (.invokestatic 17, 3) := by decide +kernel
theorem d7_106 : decode method_5_code 106 = .ok (.goto 7, 3) := by decide +kernel
theorem d7_113 : decode method_5_code 113 = .ok (.ireturn, 1) := by decide +kernel
theorem d7_114 : decode method_5_code 114 = .ok (.iload_n 1, 1) := by decide +kernel
theorem d7_115 : decode method_5_code 115 = .ok (.ifCond .ne 10, 3) := by decide +kernel
theorem d7_118 : decode method_5_code 118 = .ok (.iload_n 3, 1) := by decide +kernel
theorem d7_119 : decode method_5_code 119 = .ok (.invokestatic 21, 3) := by decide +kernel
theorem d7_122 : decode method_5_code 122 = .ok (.goto 10, 3) := by decide +kernel
theorem d7_132 : decode method_5_code 132 = .ok (.ireturn, 1) := by decide +kernel
def Q_rmUnit0 (Z : State) (p0 : Int32) (r : Int32) (h0 : Heap) (n0 : Nat) (v : Option Value) (h : Heap) (L : List Loc) : Prop := v = some (.int r) ∧ Fr n0 L ∧ h = h0
set_option maxRecDepth 65536 in
set_option maxHeartbeats 40000000 in
theorem rmUnit0 (l : Launch) (Z : State) (a0 : Array Value) (hw : ∀ d ∈ tables_1, d.before a0 Z = true) (ws : List Jvm.Cond) (p0 : Int32) (r : Int32) (h0 : Heap) (n0 : Nat) (Z0 : n0 ≤ h0.size) (hres : r = own_u0 p0) :
    MetFree l (⟨"com/example/abeyance/abeyance/model/Utf8ReaderMalformedAtPinLaw", "unit", "(II)C"⟩ : MethodName) (head1 (Jvm.Cond.code (⟨"com/example/abeyance/abeyance/model/Utf8ReaderMalformedAtPinLaw", "unit", "(II)C"⟩ : MethodName) method_5_code 4 (some .char) :: ws) ({ frames := 1, cells := 0, slots := 0, locals := 13 } : Room)) (fun a U => a = #[(.int p0), (.int (0 : Int32))] ∧ Z.Warmed39 U.vm ∧ U.heap = h0) (fun _ _ _ _ _ => True) (fun _ U o U' => ∃ v L, o = .returned v ∧ Q_rmUnit0 Z p0 r h0 n0 v U'.heap L ∧ FrameEnd U o U' L ({ frames := 1, cells := 0, slots := 0, locals := 13 } : Room).cells ({ frames := 1, cells := 0, slots := 0, locals := 13 } : Room).slots) := by
  refine MetFree.of_bodySF (plainFor_of_name pn_com_example_abeyance_abeyance_model_Utf8ReaderMalformedAtPinLaw) hisR ?_
  intro p e s m args below meth c s₁ Bd hml0 hP hK
  obtain ⟨rfl, hZ, hh⟩ := hP
  have hx := Bd.exec
  have hby := Bd.bytes
  have hml : c.maxLocals = 4 := hml0
  have hown : s.vm.findClass "com/example/abeyance/abeyance/model/Utf8ReaderMalformedAtPinLaw" = some m.cls := findClass_of_methodNamed Bd.named
  have hnm := (name_of_methodNamed Bd.named Bd.method).1
  have hZo := hZ
  have howno := hown
  have X0 : Stand p l e ({ frames := 1, cells := 0, slots := 0, locals := 13 } : Room) s m #[(.int p0), (.int (0 : Int32))] below meth c s₁ [] 0 0 := Stand.of_body Bd
  have e0 : s₁.heap = h0 := by rw [← hh, Bd.state]; rfl
  have N0 := Fr.nil n0
  have pre0 : ∀ t, Steps p.tables e below (s₁.setTop (mkF m 0 #[.val (.int p0), .val (.int (0 : Int32)), .unset, .unset] [])) t → Steps p.tables e below (s₁.setTop (entryFrame m #[(.int p0), (.int (0 : Int32))] 4)) t := fun t k => castTop (ef_rmUnit0 m p0 ) k
  obtain ⟨_, _, ⟨T1, L1, k1, n1⟩, -, X1, ⟨Lc1, hQ1, l1, y1, z1⟩, st1⟩ := Jvm.LawKit.callS X0 hx (y := (⟨"com/example/abeyance/abeyance/model/Utf8ReaderMalformedAtPinLaw", "kind", "(I)I"⟩ : MethodName)) hown (mvT hZ (hw _ (List.mem_of_getElem? (i := 45) rfl))) (mvT hZ (hw _ (List.mem_of_getElem? (i := 46) rfl))) (mvT hZ (hw _ (List.mem_of_getElem? (i := 43) rfl))) (mvT hZ (hw _ (List.mem_of_getElem? (i := 47) rfl))) (by decide) (backOf (W := 0) (rmKindL l Z a0 hw [] p0 (own_kn p0) h0 n0 Z0 rfl) hZ (hw _ (List.mem_of_getElem? (i := 47) rfl)) (hw _ (List.mem_of_getElem? (i := 43) rfl)) (by decide) (by decide)) (g := (mkF m 1 #[.val (.int p0), .val (.int (0 : Int32)), .unset, .unset] [(.int p0)])) rfl (by rw [hml]; rfl) (argsL := [(.int p0)]) (rest := []) (lenOf pd__I_I rfl) rfl (by show 2 * 0 + _ ≤ _; exact Nat.le_of_eq rfl) (hb hby d7_1) (fun _ _ => ⟨rfl, e0, (by decide : 0 + 0 ≤ _), (by decide : 0 + 0 ≤ _)⟩)
  dsimp only [Pt.U, Pt.locs, Pt.cells, Pt.slots] at X1 l1 y1 z1 st1 hQ1
  subst l1 y1 z1
  obtain ⟨rfl, Nq1, e1⟩ := hQ1
  have N1 := Fr.app N0 Nq1
  have pre3 : ∀ t, Steps p.tables e below (T1.setTop (mkF m 10 #[.val (.int p0), .val (.int (0 : Int32)), .val (.int (own_kn p0)), .val (.int ((p0.toUInt32 >>> ((3 : Int32) &&& 31).toUInt32).toInt32))] [(.int (own_kn p0))])) t → Steps p.tables e below (s₁.setTop (entryFrame m #[(.int p0), (.int (0 : Int32))] 4)) t := fun t kt => pre0 t (by
    show Steps p.tables e below (s₁.setTop (mkF m 0 #[.val (.int p0), .val (.int (0 : Int32)), .unset, .unset] [])) _
    refine XS.iloadN X0.here hx rfl (hb hby d7_0) rfl  ?_
    show Steps p.tables e below (s₁.setTop (mkF m 1 #[.val (.int p0), .val (.int (0 : Int32)), .unset, .unset] [(.int p0)])) _
    refine st1 _ ?_
    show Steps p.tables e below (T1.setTop (mkF m 4 #[.val (.int p0), .val (.int (0 : Int32)), .unset, .unset] [(.int (own_kn p0))])) _
    refine XS.istoreN X1.here hx rfl (hb hby d7_4) rfl (l' := #[.val (.int p0), .val (.int (0 : Int32)), .val (.int (own_kn p0)), .unset]) rfl ?_
    refine XS.iloadN X1.here hx rfl (hb hby d7_5) rfl  ?_
    refine XS.iconst X1.here hx rfl (hb hby d7_6) ?_
    show Steps p.tables e below (T1.setTop (mkF m 7 #[.val (.int p0), .val (.int (0 : Int32)), .val (.int (own_kn p0)), .unset] [(.int (3 : Int32)), (.int p0)])) _
    refine XS.iushr X1.here hx rfl (hb hby d7_7) rfl ?_
    refine XS.istoreN X1.here hx rfl (hb hby d7_8) rfl (l' := #[.val (.int p0), .val (.int (0 : Int32)), .val (.int (own_kn p0)), .val (.int ((p0.toUInt32 >>> ((3 : Int32) &&& 31).toUInt32).toInt32))]) rfl ?_
    refine XS.iloadN X1.here hx rfl (hb hby d7_9) rfl  ?_
    exact kt)
  by_cases hc10_2 : (own_kn p0) = (0 : Int32)
  · obtain ⟨_, _, ⟨T4, L4, k4, n4⟩, -, X4, ⟨Lc4, hQ4, l4, y4, z4⟩, st4⟩ := Jvm.LawKit.callS X1 hx (y := (⟨"com/example/abeyance/abeyance/model/Utf8ReaderMalformedAtPinLaw", "bmp", "(I)C"⟩ : MethodName)) hown (mvT hZ (hw _ (List.mem_of_getElem? (i := 48) rfl))) (mvT hZ (hw _ (List.mem_of_getElem? (i := 49) rfl))) (mvT hZ (hw _ (List.mem_of_getElem? (i := 43) rfl))) (mvT hZ (hw _ (List.mem_of_getElem? (i := 50) rfl))) (by decide) (backOf (W := 0) (rmBmp l Z a0 hw [] ((p0.toUInt32 >>> ((3 : Int32) &&& 31).toUInt32).toInt32) (own_bm ((p0.toUInt32 >>> ((3 : Int32) &&& 31).toUInt32).toInt32)) h0 n0 Z0 rfl) hZ (hw _ (List.mem_of_getElem? (i := 50) rfl)) (hw _ (List.mem_of_getElem? (i := 43) rfl)) (by decide) (by decide)) (g := (mkF m 18 #[.val (.int p0), .val (.int (0 : Int32)), .val (.int (own_kn p0)), .val (.int ((p0.toUInt32 >>> ((3 : Int32) &&& 31).toUInt32).toInt32))] [(.int ((p0.toUInt32 >>> ((3 : Int32) &&& 31).toUInt32).toInt32))])) rfl (by rw [hml]; rfl) (argsL := [(.int ((p0.toUInt32 >>> ((3 : Int32) &&& 31).toUInt32).toInt32))]) (rest := []) (lenOf pd__I_C rfl) rfl (by show 2 * 0 + _ ≤ _; exact Nat.le_of_eq rfl) (hb hby d7_18) (fun _ _ => ⟨rfl, e1, (by decide : 0 + 0 ≤ _), (by decide : 0 + 0 ≤ _)⟩)
    dsimp only [Pt.U, Pt.locs, Pt.cells, Pt.slots] at X4 l4 y4 z4 st4 hQ4
    subst l4 y4 z4
    obtain ⟨rfl, Nq4, e4⟩ := hQ4
    have N4 := Fr.app N1 Nq4
    obtain ⟨fs, hr, hrun, hended, hW, hsame⟩ := X4.leave (v := some (.int (nar .char (own_bm ((p0.toUInt32 >>> ((3 : Int32) &&& 31).toUInt32).toInt32))))) (fun h => by rw [Bd.returns] at h; cases h)
    refine ⟨_, _, pre3 _ ?_, hrun, hended, _, _, rfl, ?_, ⟨_, rfl⟩, hW, hsame.mono (by decide) (by decide)⟩
    · show Steps p.tables e below (T1.setTop (mkF m 10 #[.val (.int p0), .val (.int (0 : Int32)), .val (.int (own_kn p0)), .val (.int ((p0.toUInt32 >>> ((3 : Int32) &&& 31).toUInt32).toInt32))] [(.int (own_kn p0))])) _
      refine XS.ifNo X1.here hx rfl (hb hby d7_10) rfl ((if0 _ _).trans (teq hc10_2).2) ?_
      refine XS.iloadN X1.here hx rfl (hb hby d7_13) rfl  ?_
      show Steps p.tables e below (T1.setTop (mkF m 14 #[.val (.int p0), .val (.int (0 : Int32)), .val (.int (own_kn p0)), .val (.int ((p0.toUInt32 >>> ((3 : Int32) &&& 31).toUInt32).toInt32))] [(.int (0 : Int32))])) _
      refine XS.ifNo X1.here hx rfl (hb hby d7_14) rfl ((if0 _ _).trans (teq (by decide : (0 : Int32) = (0 : Int32))).2) ?_
      refine XS.iloadN X1.here hx rfl (hb hby d7_17) rfl  ?_
      show Steps p.tables e below (T1.setTop (mkF m 18 #[.val (.int p0), .val (.int (0 : Int32)), .val (.int (own_kn p0)), .val (.int ((p0.toUInt32 >>> ((3 : Int32) &&& 31).toUInt32).toInt32))] [(.int ((p0.toUInt32 >>> ((3 : Int32) &&& 31).toUInt32).toInt32))])) _
      refine st4 _ ?_
      show Steps p.tables e below (T4.setTop (mkF m 21 #[.val (.int p0), .val (.int (0 : Int32)), .val (.int (own_kn p0)), .val (.int ((p0.toUInt32 >>> ((3 : Int32) &&& 31).toUInt32).toInt32))] [(.int (own_bm ((p0.toUInt32 >>> ((3 : Int32) &&& 31).toUInt32).toInt32)))])) _
      refine XS.goto X4.here hx rfl (pc0 := 21) (pc' := 31) rfl (hb hby d7_21) (by decide) (by decide) ?_
      show Steps p.tables e below (T4.setTop (mkF m 31 #[.val (.int p0), .val (.int (0 : Int32)), .val (.int (own_kn p0)), .val (.int ((p0.toUInt32 >>> ((3 : Int32) &&& 31).toUInt32).toInt32))] [(.int (own_bm ((p0.toUInt32 >>> ((3 : Int32) &&& 31).toUInt32).toInt32)))])) _
      exact retN X4 hx (t := .char) Bd.returns (by simp) (hb hby d7_31) hr
    · show Q_rmUnit0 Z p0 r h0 n0 _ T4.heap _
      rw [e4]
      exact ⟨by rw [hres]; unfold own_u0; rw [if_pos hc10_2], N4, rfl⟩
  · have pre6 : ∀ t, Steps p.tables e below (T1.setTop (mkF m 34 #[.val (.int p0), .val (.int (0 : Int32)), .val (.int (own_kn p0)), .val (.int ((p0.toUInt32 >>> ((3 : Int32) &&& 31).toUInt32).toInt32))] [(.int (1 : Int32)), (.int (own_kn p0))])) t → Steps p.tables e below (s₁.setTop (entryFrame m #[(.int p0), (.int (0 : Int32))] 4)) t := fun t kt => pre3 t (by
      show Steps p.tables e below (T1.setTop (mkF m 10 #[.val (.int p0), .val (.int (0 : Int32)), .val (.int (own_kn p0)), .val (.int ((p0.toUInt32 >>> ((3 : Int32) &&& 31).toUInt32).toInt32))] [(.int (own_kn p0))])) _
      refine XS.ifYes X1.here hx rfl (pc0 := 10) (pc' := 32) rfl (hb hby d7_10) rfl ((if0 _ _).trans (feq hc10_2).2) (by decide) (by decide) ?_
      refine XS.iloadN X1.here hx rfl (hb hby d7_32) rfl  ?_
      refine XS.iconst X1.here hx rfl (hb hby d7_33) ?_
      exact kt)
    by_cases hc34_5 : (own_kn p0) = (1 : Int32)
    · obtain ⟨fs, hr, hrun, hended, hW, hsame⟩ := X1.leave (v := some (.int (nar .char (((55296 : Int32) + (((p0.toUInt32 >>> ((3 : Int32) &&& 31).toUInt32).toInt32) &&& (1023 : Int32))).toUInt32.toUInt16.toUInt32.toInt32)))) (fun h => by rw [Bd.returns] at h; cases h)
      refine ⟨_, _, pre6 _ ?_, hrun, hended, _, _, rfl, ?_, ⟨_, rfl⟩, hW, hsame.mono (by decide) (by decide)⟩
      · show Steps p.tables e below (T1.setTop (mkF m 34 #[.val (.int p0), .val (.int (0 : Int32)), .val (.int (own_kn p0)), .val (.int ((p0.toUInt32 >>> ((3 : Int32) &&& 31).toUInt32).toInt32))] [(.int (1 : Int32)), (.int (own_kn p0))])) _
        refine XS.icmpNo X1.here hx rfl (hb hby d7_34) rfl (teq hc34_5).2 ?_
        refine XS.iloadN X1.here hx rfl (hb hby d7_37) rfl  ?_
        show Steps p.tables e below (T1.setTop (mkF m 38 #[.val (.int p0), .val (.int (0 : Int32)), .val (.int (own_kn p0)), .val (.int ((p0.toUInt32 >>> ((3 : Int32) &&& 31).toUInt32).toInt32))] [(.int (0 : Int32))])) _
        refine XS.ifNo X1.here hx rfl (hb hby d7_38) rfl ((if0 _ _).trans (teq (by decide : (0 : Int32) = (0 : Int32))).2) ?_
        show Steps p.tables e below (T1.setTop (mkF m 41 #[.val (.int p0), .val (.int (0 : Int32)), .val (.int (own_kn p0)), .val (.int ((p0.toUInt32 >>> ((3 : Int32) &&& 31).toUInt32).toInt32))] [])) _
        refine X1.ldcInt hx hown (mvT hZ (hw _ (List.mem_of_getElem? (i := 52) rfl))) (g := (mkF m 41 #[.val (.int p0), .val (.int (0 : Int32)), .val (.int (own_kn p0)), .val (.int ((p0.toUInt32 >>> ((3 : Int32) &&& 31).toUInt32).toInt32))] [])) rfl (hb hby d7_41) _ ?_
        show Steps p.tables e below (T1.setTop (mkF m 43 #[.val (.int p0), .val (.int (0 : Int32)), .val (.int (own_kn p0)), .val (.int ((p0.toUInt32 >>> ((3 : Int32) &&& 31).toUInt32).toInt32))] [(.int (55296 : Int32))])) _
        refine XS.iloadN X1.here hx rfl (hb hby d7_43) rfl  ?_
        refine XS.sipush X1.here hx rfl (hb hby d7_44) ?_
        refine XS.iand X1.here hx rfl (hb hby d7_47) rfl ?_
        show Steps p.tables e below (T1.setTop (mkF m 48 #[.val (.int p0), .val (.int (0 : Int32)), .val (.int (own_kn p0)), .val (.int ((p0.toUInt32 >>> ((3 : Int32) &&& 31).toUInt32).toInt32))] [(.int (((p0.toUInt32 >>> ((3 : Int32) &&& 31).toUInt32).toInt32) &&& (1023 : Int32))), (.int (55296 : Int32))])) _
        refine XS.iadd X1.here hx rfl (hb hby d7_48) rfl ?_
        refine XS.i2c X1.here hx rfl (hb hby d7_49) rfl ?_
        refine XS.goto X1.here hx rfl (pc0 := 50) (pc' := 65) rfl (hb hby d7_50) (by decide) (by decide) ?_
        show Steps p.tables e below (T1.setTop (mkF m 65 #[.val (.int p0), .val (.int (0 : Int32)), .val (.int (own_kn p0)), .val (.int ((p0.toUInt32 >>> ((3 : Int32) &&& 31).toUInt32).toInt32))] [(.int (((55296 : Int32) + (((p0.toUInt32 >>> ((3 : Int32) &&& 31).toUInt32).toInt32) &&& (1023 : Int32))).toUInt32.toUInt16.toUInt32.toInt32))])) _
        exact retN X1 hx (t := .char) Bd.returns (by simp) (hb hby d7_65) hr
      · show Q_rmUnit0 Z p0 r h0 n0 _ T1.heap _
        rw [e1]
        exact ⟨by rw [hres]; unfold own_u0; rw [if_neg hc10_2, if_pos hc34_5], N1, rfl⟩
    · have pre8 : ∀ t, Steps p.tables e below (T1.setTop (mkF m 68 #[.val (.int p0), .val (.int (0 : Int32)), .val (.int (own_kn p0)), .val (.int ((p0.toUInt32 >>> ((3 : Int32) &&& 31).toUInt32).toInt32))] [(.int (2 : Int32)), (.int (own_kn p0))])) t → Steps p.tables e below (s₁.setTop (entryFrame m #[(.int p0), (.int (0 : Int32))] 4)) t := fun t kt => pre6 t (by
        show Steps p.tables e below (T1.setTop (mkF m 34 #[.val (.int p0), .val (.int (0 : Int32)), .val (.int (own_kn p0)), .val (.int ((p0.toUInt32 >>> ((3 : Int32) &&& 31).toUInt32).toInt32))] [(.int (1 : Int32)), (.int (own_kn p0))])) _
        refine XS.icmpYes X1.here hx rfl (pc0 := 34) (pc' := 66) rfl (hb hby d7_34) rfl (feq hc34_5).2 (by decide) (by decide) ?_
        refine XS.iloadN X1.here hx rfl (hb hby d7_66) rfl  ?_
        refine XS.iconst X1.here hx rfl (hb hby d7_67) ?_
        exact kt)
      by_cases hc68_7 : (own_kn p0) = (2 : Int32)
      · obtain ⟨_, _, ⟨T9, L9, k9, n9⟩, -, X9, ⟨Lc9, hQ9, l9, y9, z9⟩, st9⟩ := Jvm.LawKit.callS X1 hx (y := (⟨"com/example/abeyance/abeyance/model/Utf8ReaderMalformedAtPinLaw", "esc", "(I)C"⟩ : MethodName)) hown (mvT hZ (hw _ (List.mem_of_getElem? (i := 53) rfl))) (mvT hZ (hw _ (List.mem_of_getElem? (i := 54) rfl))) (mvT hZ (hw _ (List.mem_of_getElem? (i := 43) rfl))) (mvT hZ (hw _ (List.mem_of_getElem? (i := 55) rfl))) (by decide) (backOf (W := 0) (rmEsc l Z a0 hw [] ((p0.toUInt32 >>> ((3 : Int32) &&& 31).toUInt32).toInt32) (own_es ((p0.toUInt32 >>> ((3 : Int32) &&& 31).toUInt32).toInt32)) h0 n0 Z0 rfl) hZ (hw _ (List.mem_of_getElem? (i := 55) rfl)) (hw _ (List.mem_of_getElem? (i := 43) rfl)) (by decide) (by decide)) (g := (mkF m 76 #[.val (.int p0), .val (.int (0 : Int32)), .val (.int (own_kn p0)), .val (.int ((p0.toUInt32 >>> ((3 : Int32) &&& 31).toUInt32).toInt32))] [(.int ((p0.toUInt32 >>> ((3 : Int32) &&& 31).toUInt32).toInt32))])) rfl (by rw [hml]; rfl) (argsL := [(.int ((p0.toUInt32 >>> ((3 : Int32) &&& 31).toUInt32).toInt32))]) (rest := []) (lenOf pd__I_C rfl) rfl (by show 2 * 0 + _ ≤ _; exact Nat.le_of_eq rfl) (hb hby d7_76) (fun _ _ => ⟨rfl, e1, (by decide : 0 + 0 ≤ _), (by decide : 0 + 0 ≤ _)⟩)
        dsimp only [Pt.U, Pt.locs, Pt.cells, Pt.slots] at X9 l9 y9 z9 st9 hQ9
        subst l9 y9 z9
        obtain ⟨rfl, Nq9, e9⟩ := hQ9
        have N9 := Fr.app N1 Nq9
        obtain ⟨fs, hr, hrun, hended, hW, hsame⟩ := X9.leave (v := some (.int (nar .char (own_es ((p0.toUInt32 >>> ((3 : Int32) &&& 31).toUInt32).toInt32))))) (fun h => by rw [Bd.returns] at h; cases h)
        refine ⟨_, _, pre8 _ ?_, hrun, hended, _, _, rfl, ?_, ⟨_, rfl⟩, hW, hsame.mono (by decide) (by decide)⟩
        · show Steps p.tables e below (T1.setTop (mkF m 68 #[.val (.int p0), .val (.int (0 : Int32)), .val (.int (own_kn p0)), .val (.int ((p0.toUInt32 >>> ((3 : Int32) &&& 31).toUInt32).toInt32))] [(.int (2 : Int32)), (.int (own_kn p0))])) _
          refine XS.icmpNo X1.here hx rfl (hb hby d7_68) rfl (teq hc68_7).2 ?_
          refine XS.iloadN X1.here hx rfl (hb hby d7_71) rfl  ?_
          show Steps p.tables e below (T1.setTop (mkF m 72 #[.val (.int p0), .val (.int (0 : Int32)), .val (.int (own_kn p0)), .val (.int ((p0.toUInt32 >>> ((3 : Int32) &&& 31).toUInt32).toInt32))] [(.int (0 : Int32))])) _
          refine XS.ifNo X1.here hx rfl (hb hby d7_72) rfl ((if0 _ _).trans (teq (by decide : (0 : Int32) = (0 : Int32))).2) ?_
          refine XS.iloadN X1.here hx rfl (hb hby d7_75) rfl  ?_
          show Steps p.tables e below (T1.setTop (mkF m 76 #[.val (.int p0), .val (.int (0 : Int32)), .val (.int (own_kn p0)), .val (.int ((p0.toUInt32 >>> ((3 : Int32) &&& 31).toUInt32).toInt32))] [(.int ((p0.toUInt32 >>> ((3 : Int32) &&& 31).toUInt32).toInt32))])) _
          refine st9 _ ?_
          show Steps p.tables e below (T9.setTop (mkF m 79 #[.val (.int p0), .val (.int (0 : Int32)), .val (.int (own_kn p0)), .val (.int ((p0.toUInt32 >>> ((3 : Int32) &&& 31).toUInt32).toInt32))] [(.int (own_es ((p0.toUInt32 >>> ((3 : Int32) &&& 31).toUInt32).toInt32)))])) _
          refine XS.goto X9.here hx rfl (pc0 := 79) (pc' := 89) rfl (hb hby d7_79) (by decide) (by decide) ?_
          show Steps p.tables e below (T9.setTop (mkF m 89 #[.val (.int p0), .val (.int (0 : Int32)), .val (.int (own_kn p0)), .val (.int ((p0.toUInt32 >>> ((3 : Int32) &&& 31).toUInt32).toInt32))] [(.int (own_es ((p0.toUInt32 >>> ((3 : Int32) &&& 31).toUInt32).toInt32)))])) _
          exact retN X9 hx (t := .char) Bd.returns (by simp) (hb hby d7_89) hr
        · show Q_rmUnit0 Z p0 r h0 n0 _ T9.heap _
          rw [e9]
          exact ⟨by rw [hres]; unfold own_u0; rw [if_neg hc10_2, if_neg hc34_5, if_pos hc68_7], N9, rfl⟩
      · have pre11 : ∀ t, Steps p.tables e below (T1.setTop (mkF m 92 #[.val (.int p0), .val (.int (0 : Int32)), .val (.int (own_kn p0)), .val (.int ((p0.toUInt32 >>> ((3 : Int32) &&& 31).toUInt32).toInt32))] [(.int (3 : Int32)), (.int (own_kn p0))])) t → Steps p.tables e below (s₁.setTop (entryFrame m #[(.int p0), (.int (0 : Int32))] 4)) t := fun t kt => pre8 t (by
          show Steps p.tables e below (T1.setTop (mkF m 68 #[.val (.int p0), .val (.int (0 : Int32)), .val (.int (own_kn p0)), .val (.int ((p0.toUInt32 >>> ((3 : Int32) &&& 31).toUInt32).toInt32))] [(.int (2 : Int32)), (.int (own_kn p0))])) _
          refine XS.icmpYes X1.here hx rfl (pc0 := 68) (pc' := 90) rfl (hb hby d7_68) rfl (feq hc68_7).2 (by decide) (by decide) ?_
          refine XS.iloadN X1.here hx rfl (hb hby d7_90) rfl  ?_
          refine XS.iconst X1.here hx rfl (hb hby d7_91) ?_
          exact kt)
        by_cases hc92_10 : (own_kn p0) = (3 : Int32)
        · obtain ⟨_, _, ⟨T12, L12, k12, n12⟩, -, X12, ⟨Lc12, hQ12, l12, y12, z12⟩, st12⟩ := Jvm.LawKit.callS X1 hx (y := (⟨"com/example/abeyance/abeyance/model/Utf8ReaderMalformedAtPinLaw", "bmp", "(I)C"⟩ : MethodName)) hown (mvT hZ (hw _ (List.mem_of_getElem? (i := 48) rfl))) (mvT hZ (hw _ (List.mem_of_getElem? (i := 49) rfl))) (mvT hZ (hw _ (List.mem_of_getElem? (i := 43) rfl))) (mvT hZ (hw _ (List.mem_of_getElem? (i := 50) rfl))) (by decide) (backOf (W := 0) (rmBmp l Z a0 hw [] ((((p0.toUInt32 >>> ((3 : Int32) &&& 31).toUInt32).toInt32).toUInt32 >>> ((8 : Int32) &&& 31).toUInt32).toInt32) (own_bm ((((p0.toUInt32 >>> ((3 : Int32) &&& 31).toUInt32).toInt32).toUInt32 >>> ((8 : Int32) &&& 31).toUInt32).toInt32)) h0 n0 Z0 rfl) hZ (hw _ (List.mem_of_getElem? (i := 50) rfl)) (hw _ (List.mem_of_getElem? (i := 43) rfl)) (by decide) (by decide)) (g := (mkF m 103 #[.val (.int p0), .val (.int (0 : Int32)), .val (.int (own_kn p0)), .val (.int ((p0.toUInt32 >>> ((3 : Int32) &&& 31).toUInt32).toInt32))] [(.int ((((p0.toUInt32 >>> ((3 : Int32) &&& 31).toUInt32).toInt32).toUInt32 >>> ((8 : Int32) &&& 31).toUInt32).toInt32))])) rfl (by rw [hml]; rfl) (argsL := [(.int ((((p0.toUInt32 >>> ((3 : Int32) &&& 31).toUInt32).toInt32).toUInt32 >>> ((8 : Int32) &&& 31).toUInt32).toInt32))]) (rest := []) (lenOf pd__I_C rfl) rfl (by show 2 * 0 + _ ≤ _; exact Nat.le_of_eq rfl) (hb hby d7_103) (fun _ _ => ⟨rfl, e1, (by decide : 0 + 0 ≤ _), (by decide : 0 + 0 ≤ _)⟩)
          dsimp only [Pt.U, Pt.locs, Pt.cells, Pt.slots] at X12 l12 y12 z12 st12 hQ12
          subst l12 y12 z12
          obtain ⟨rfl, Nq12, e12⟩ := hQ12
          have N12 := Fr.app N1 Nq12
          obtain ⟨fs, hr, hrun, hended, hW, hsame⟩ := X12.leave (v := some (.int (nar .char (own_bm ((((p0.toUInt32 >>> ((3 : Int32) &&& 31).toUInt32).toInt32).toUInt32 >>> ((8 : Int32) &&& 31).toUInt32).toInt32))))) (fun h => by rw [Bd.returns] at h; cases h)
          refine ⟨_, _, pre11 _ ?_, hrun, hended, _, _, rfl, ?_, ⟨_, rfl⟩, hW, hsame.mono (by decide) (by decide)⟩
          · show Steps p.tables e below (T1.setTop (mkF m 92 #[.val (.int p0), .val (.int (0 : Int32)), .val (.int (own_kn p0)), .val (.int ((p0.toUInt32 >>> ((3 : Int32) &&& 31).toUInt32).toInt32))] [(.int (3 : Int32)), (.int (own_kn p0))])) _
            refine XS.icmpNo X1.here hx rfl (hb hby d7_92) rfl (teq hc92_10).2 ?_
            refine XS.iloadN X1.here hx rfl (hb hby d7_95) rfl  ?_
            show Steps p.tables e below (T1.setTop (mkF m 96 #[.val (.int p0), .val (.int (0 : Int32)), .val (.int (own_kn p0)), .val (.int ((p0.toUInt32 >>> ((3 : Int32) &&& 31).toUInt32).toInt32))] [(.int (0 : Int32))])) _
            refine XS.ifNo X1.here hx rfl (hb hby d7_96) rfl ((if0 _ _).trans (teq (by decide : (0 : Int32) = (0 : Int32))).2) ?_
            refine XS.iloadN X1.here hx rfl (hb hby d7_99) rfl  ?_
            refine XS.bipush X1.here hx rfl (hb hby d7_100) ?_
            show Steps p.tables e below (T1.setTop (mkF m 102 #[.val (.int p0), .val (.int (0 : Int32)), .val (.int (own_kn p0)), .val (.int ((p0.toUInt32 >>> ((3 : Int32) &&& 31).toUInt32).toInt32))] [(.int (8 : Int32)), (.int ((p0.toUInt32 >>> ((3 : Int32) &&& 31).toUInt32).toInt32))])) _
            refine XS.iushr X1.here hx rfl (hb hby d7_102) rfl ?_
            show Steps p.tables e below (T1.setTop (mkF m 103 #[.val (.int p0), .val (.int (0 : Int32)), .val (.int (own_kn p0)), .val (.int ((p0.toUInt32 >>> ((3 : Int32) &&& 31).toUInt32).toInt32))] [(.int ((((p0.toUInt32 >>> ((3 : Int32) &&& 31).toUInt32).toInt32).toUInt32 >>> ((8 : Int32) &&& 31).toUInt32).toInt32))])) _
            refine st12 _ ?_
            show Steps p.tables e below (T12.setTop (mkF m 106 #[.val (.int p0), .val (.int (0 : Int32)), .val (.int (own_kn p0)), .val (.int ((p0.toUInt32 >>> ((3 : Int32) &&& 31).toUInt32).toInt32))] [(.int (own_bm ((((p0.toUInt32 >>> ((3 : Int32) &&& 31).toUInt32).toInt32).toUInt32 >>> ((8 : Int32) &&& 31).toUInt32).toInt32)))])) _
            refine XS.goto X12.here hx rfl (pc0 := 106) (pc' := 113) rfl (hb hby d7_106) (by decide) (by decide) ?_
            show Steps p.tables e below (T12.setTop (mkF m 113 #[.val (.int p0), .val (.int (0 : Int32)), .val (.int (own_kn p0)), .val (.int ((p0.toUInt32 >>> ((3 : Int32) &&& 31).toUInt32).toInt32))] [(.int (own_bm ((((p0.toUInt32 >>> ((3 : Int32) &&& 31).toUInt32).toInt32).toUInt32 >>> ((8 : Int32) &&& 31).toUInt32).toInt32)))])) _
            exact retN X12 hx (t := .char) Bd.returns (by simp) (hb hby d7_113) hr
          · show Q_rmUnit0 Z p0 r h0 n0 _ T12.heap _
            rw [e12]
            exact ⟨by rw [hres]; unfold own_u0; rw [if_neg hc10_2, if_neg hc34_5, if_neg hc68_7, if_pos hc92_10], N12, rfl⟩
        · obtain ⟨_, _, ⟨T13, L13, k13, n13⟩, -, X13, ⟨Lc13, hQ13, l13, y13, z13⟩, st13⟩ := Jvm.LawKit.callS X1 hx (y := (⟨"com/example/abeyance/abeyance/model/Utf8ReaderMalformedAtPinLaw", "esc", "(I)C"⟩ : MethodName)) hown (mvT hZ (hw _ (List.mem_of_getElem? (i := 53) rfl))) (mvT hZ (hw _ (List.mem_of_getElem? (i := 54) rfl))) (mvT hZ (hw _ (List.mem_of_getElem? (i := 43) rfl))) (mvT hZ (hw _ (List.mem_of_getElem? (i := 55) rfl))) (by decide) (backOf (W := 0) (rmEsc l Z a0 hw [] ((p0.toUInt32 >>> ((3 : Int32) &&& 31).toUInt32).toInt32) (own_es ((p0.toUInt32 >>> ((3 : Int32) &&& 31).toUInt32).toInt32)) h0 n0 Z0 rfl) hZ (hw _ (List.mem_of_getElem? (i := 55) rfl)) (hw _ (List.mem_of_getElem? (i := 43) rfl)) (by decide) (by decide)) (g := (mkF m 119 #[.val (.int p0), .val (.int (0 : Int32)), .val (.int (own_kn p0)), .val (.int ((p0.toUInt32 >>> ((3 : Int32) &&& 31).toUInt32).toInt32))] [(.int ((p0.toUInt32 >>> ((3 : Int32) &&& 31).toUInt32).toInt32))])) rfl (by rw [hml]; rfl) (argsL := [(.int ((p0.toUInt32 >>> ((3 : Int32) &&& 31).toUInt32).toInt32))]) (rest := []) (lenOf pd__I_C rfl) rfl (by show 2 * 0 + _ ≤ _; exact Nat.le_of_eq rfl) (hb hby d7_119) (fun _ _ => ⟨rfl, e1, (by decide : 0 + 0 ≤ _), (by decide : 0 + 0 ≤ _)⟩)
          dsimp only [Pt.U, Pt.locs, Pt.cells, Pt.slots] at X13 l13 y13 z13 st13 hQ13
          subst l13 y13 z13
          obtain ⟨rfl, Nq13, e13⟩ := hQ13
          have N13 := Fr.app N1 Nq13
          obtain ⟨fs, hr, hrun, hended, hW, hsame⟩ := X13.leave (v := some (.int (nar .char (own_es ((p0.toUInt32 >>> ((3 : Int32) &&& 31).toUInt32).toInt32))))) (fun h => by rw [Bd.returns] at h; cases h)
          refine ⟨_, _, pre11 _ ?_, hrun, hended, _, _, rfl, ?_, ⟨_, rfl⟩, hW, hsame.mono (by decide) (by decide)⟩
          · show Steps p.tables e below (T1.setTop (mkF m 92 #[.val (.int p0), .val (.int (0 : Int32)), .val (.int (own_kn p0)), .val (.int ((p0.toUInt32 >>> ((3 : Int32) &&& 31).toUInt32).toInt32))] [(.int (3 : Int32)), (.int (own_kn p0))])) _
            refine XS.icmpYes X1.here hx rfl (pc0 := 92) (pc' := 114) rfl (hb hby d7_92) rfl (feq hc92_10).2 (by decide) (by decide) ?_
            refine XS.iloadN X1.here hx rfl (hb hby d7_114) rfl  ?_
            show Steps p.tables e below (T1.setTop (mkF m 115 #[.val (.int p0), .val (.int (0 : Int32)), .val (.int (own_kn p0)), .val (.int ((p0.toUInt32 >>> ((3 : Int32) &&& 31).toUInt32).toInt32))] [(.int (0 : Int32))])) _
            refine XS.ifNo X1.here hx rfl (hb hby d7_115) rfl ((if0 _ _).trans (teq (by decide : (0 : Int32) = (0 : Int32))).2) ?_
            refine XS.iloadN X1.here hx rfl (hb hby d7_118) rfl  ?_
            show Steps p.tables e below (T1.setTop (mkF m 119 #[.val (.int p0), .val (.int (0 : Int32)), .val (.int (own_kn p0)), .val (.int ((p0.toUInt32 >>> ((3 : Int32) &&& 31).toUInt32).toInt32))] [(.int ((p0.toUInt32 >>> ((3 : Int32) &&& 31).toUInt32).toInt32))])) _
            refine st13 _ ?_
            show Steps p.tables e below (T13.setTop (mkF m 122 #[.val (.int p0), .val (.int (0 : Int32)), .val (.int (own_kn p0)), .val (.int ((p0.toUInt32 >>> ((3 : Int32) &&& 31).toUInt32).toInt32))] [(.int (own_es ((p0.toUInt32 >>> ((3 : Int32) &&& 31).toUInt32).toInt32)))])) _
            refine XS.goto X13.here hx rfl (pc0 := 122) (pc' := 132) rfl (hb hby d7_122) (by decide) (by decide) ?_
            show Steps p.tables e below (T13.setTop (mkF m 132 #[.val (.int p0), .val (.int (0 : Int32)), .val (.int (own_kn p0)), .val (.int ((p0.toUInt32 >>> ((3 : Int32) &&& 31).toUInt32).toInt32))] [(.int (own_es ((p0.toUInt32 >>> ((3 : Int32) &&& 31).toUInt32).toInt32)))])) _
            exact retN X13 hx (t := .char) Bd.returns (by simp) (hb hby d7_132) hr
          · show Q_rmUnit0 Z p0 r h0 n0 _ T13.heap _
            rw [e13]
            exact ⟨by rw [hres]; unfold own_u0; rw [if_neg hc10_2, if_neg hc34_5, if_neg hc68_7, if_neg hc92_10], N13, rfl⟩
theorem ef_rmUnit1 (m : MethodId) (p0 : Int32) : entryFrame m #[(.int p0), (.int (1 : Int32))] 4 = mkF m 0 #[.val (.int p0), .val (.int (1 : Int32)), .unset, .unset] [] := by first | (simp [entryFrame, mkF, argsToLocals, Value.category]; done) | rfl
theorem d7_24 : decode method_5_code 24 = .ok (.iload_n 3, 1) := by decide +kernel
theorem d7_25 : decode method_5_code 25 = .ok (.bipush 13, 2) := by decide +kernel
theorem d7_27 : decode method_5_code 27 = .ok (.iushr, 1) := by decide +kernel
theorem d7_28 : decode method_5_code 28 = .ok (.invokestatic 17, 3) := by decide +kernel
theorem d7_53 : decode method_5_code 53 = .ok (.ldc 10, 2) := by decide +kernel
theorem d7_55 : decode method_5_code 55 = .ok (.iload_n 3, 1) := by decide +kernel
theorem d7_56 : decode method_5_code 56 = .ok (.bipush 10, 2) := by decide +kernel
theorem d7_58 : decode method_5_code 58 = .ok (.iushr, 1) := by decide +kernel
theorem d7_59 : decode method_5_code 59 = .ok (.sipush 1023, 3) := by decide +kernel
theorem d7_62 : decode method_5_code 62 = .ok (.iand, 1) := by decide +kernel
theorem d7_63 : decode method_5_code 63 = .ok (.iadd, 1) := by decide +kernel
theorem d7_64 : decode method_5_code 64 = .ok (.i2c, 1) := by decide +kernel
theorem d7_82 : decode method_5_code 82 = .ok (.iload_n 3, 1) := by decide +kernel
theorem d7_83 : decode method_5_code 83 = .ok (.bipush 8, 2) := by decide +kernel
theorem d7_85 : decode method_5_code 85 = .ok (.iushr, 1) := by decide +kernel
theorem d7_86 : decode method_5_code 86 = .ok (.invokestatic 17, 3) := by decide +kernel
theorem d7_109 : decode method_5_code 109 = .ok (.iload_n 3, 1) := by decide +kernel
theorem d7_110 : decode method_5_code 110 = .ok (.invokestatic 21, 3) := by decide +kernel
theorem d7_125 : decode method_5_code 125 = .ok (.iload_n 3, 1) := by decide +kernel
theorem d7_126 : decode method_5_code 126 = .ok (.bipush 8, 2) := by decide +kernel
theorem d7_128 : decode method_5_code 128 = .ok (.iushr, 1) := by decide +kernel
theorem d7_129 : decode method_5_code 129 = .ok (.invokestatic 21, 3) := by decide +kernel
def Q_rmUnit1 (Z : State) (p0 : Int32) (r : Int32) (h0 : Heap) (n0 : Nat) (v : Option Value) (h : Heap) (L : List Loc) : Prop := v = some (.int r) ∧ Fr n0 L ∧ h = h0
set_option maxRecDepth 65536 in
set_option maxHeartbeats 40000000 in
theorem rmUnit1 (l : Launch) (Z : State) (a0 : Array Value) (hw : ∀ d ∈ tables_1, d.before a0 Z = true) (ws : List Jvm.Cond) (p0 : Int32) (r : Int32) (h0 : Heap) (n0 : Nat) (Z0 : n0 ≤ h0.size) (hres : r = own_u1 p0) :
    MetFree l (⟨"com/example/abeyance/abeyance/model/Utf8ReaderMalformedAtPinLaw", "unit", "(II)C"⟩ : MethodName) (head1 (Jvm.Cond.code (⟨"com/example/abeyance/abeyance/model/Utf8ReaderMalformedAtPinLaw", "unit", "(II)C"⟩ : MethodName) method_5_code 4 (some .char) :: ws) ({ frames := 1, cells := 0, slots := 0, locals := 13 } : Room)) (fun a U => a = #[(.int p0), (.int (1 : Int32))] ∧ Z.Warmed39 U.vm ∧ U.heap = h0) (fun _ _ _ _ _ => True) (fun _ U o U' => ∃ v L, o = .returned v ∧ Q_rmUnit1 Z p0 r h0 n0 v U'.heap L ∧ FrameEnd U o U' L ({ frames := 1, cells := 0, slots := 0, locals := 13 } : Room).cells ({ frames := 1, cells := 0, slots := 0, locals := 13 } : Room).slots) := by
  refine MetFree.of_bodySF (plainFor_of_name pn_com_example_abeyance_abeyance_model_Utf8ReaderMalformedAtPinLaw) hisR ?_
  intro p e s m args below meth c s₁ Bd hml0 hP hK
  obtain ⟨rfl, hZ, hh⟩ := hP
  have hx := Bd.exec
  have hby := Bd.bytes
  have hml : c.maxLocals = 4 := hml0
  have hown : s.vm.findClass "com/example/abeyance/abeyance/model/Utf8ReaderMalformedAtPinLaw" = some m.cls := findClass_of_methodNamed Bd.named
  have hnm := (name_of_methodNamed Bd.named Bd.method).1
  have hZo := hZ
  have howno := hown
  have X0 : Stand p l e ({ frames := 1, cells := 0, slots := 0, locals := 13 } : Room) s m #[(.int p0), (.int (1 : Int32))] below meth c s₁ [] 0 0 := Stand.of_body Bd
  have e0 : s₁.heap = h0 := by rw [← hh, Bd.state]; rfl
  have N0 := Fr.nil n0
  have pre0 : ∀ t, Steps p.tables e below (s₁.setTop (mkF m 0 #[.val (.int p0), .val (.int (1 : Int32)), .unset, .unset] [])) t → Steps p.tables e below (s₁.setTop (entryFrame m #[(.int p0), (.int (1 : Int32))] 4)) t := fun t k => castTop (ef_rmUnit1 m p0 ) k
  obtain ⟨_, _, ⟨T1, L1, k1, n1⟩, -, X1, ⟨Lc1, hQ1, l1, y1, z1⟩, st1⟩ := Jvm.LawKit.callS X0 hx (y := (⟨"com/example/abeyance/abeyance/model/Utf8ReaderMalformedAtPinLaw", "kind", "(I)I"⟩ : MethodName)) hown (mvT hZ (hw _ (List.mem_of_getElem? (i := 45) rfl))) (mvT hZ (hw _ (List.mem_of_getElem? (i := 46) rfl))) (mvT hZ (hw _ (List.mem_of_getElem? (i := 43) rfl))) (mvT hZ (hw _ (List.mem_of_getElem? (i := 47) rfl))) (by decide) (backOf (W := 0) (rmKindL l Z a0 hw [] p0 (own_kn p0) h0 n0 Z0 rfl) hZ (hw _ (List.mem_of_getElem? (i := 47) rfl)) (hw _ (List.mem_of_getElem? (i := 43) rfl)) (by decide) (by decide)) (g := (mkF m 1 #[.val (.int p0), .val (.int (1 : Int32)), .unset, .unset] [(.int p0)])) rfl (by rw [hml]; rfl) (argsL := [(.int p0)]) (rest := []) (lenOf pd__I_I rfl) rfl (by show 2 * 0 + _ ≤ _; exact Nat.le_of_eq rfl) (hb hby d7_1) (fun _ _ => ⟨rfl, e0, (by decide : 0 + 0 ≤ _), (by decide : 0 + 0 ≤ _)⟩)
  dsimp only [Pt.U, Pt.locs, Pt.cells, Pt.slots] at X1 l1 y1 z1 st1 hQ1
  subst l1 y1 z1
  obtain ⟨rfl, Nq1, e1⟩ := hQ1
  have N1 := Fr.app N0 Nq1
  have pre3 : ∀ t, Steps p.tables e below (T1.setTop (mkF m 10 #[.val (.int p0), .val (.int (1 : Int32)), .val (.int (own_kn p0)), .val (.int ((p0.toUInt32 >>> ((3 : Int32) &&& 31).toUInt32).toInt32))] [(.int (own_kn p0))])) t → Steps p.tables e below (s₁.setTop (entryFrame m #[(.int p0), (.int (1 : Int32))] 4)) t := fun t kt => pre0 t (by
    show Steps p.tables e below (s₁.setTop (mkF m 0 #[.val (.int p0), .val (.int (1 : Int32)), .unset, .unset] [])) _
    refine XS.iloadN X0.here hx rfl (hb hby d7_0) rfl  ?_
    show Steps p.tables e below (s₁.setTop (mkF m 1 #[.val (.int p0), .val (.int (1 : Int32)), .unset, .unset] [(.int p0)])) _
    refine st1 _ ?_
    show Steps p.tables e below (T1.setTop (mkF m 4 #[.val (.int p0), .val (.int (1 : Int32)), .unset, .unset] [(.int (own_kn p0))])) _
    refine XS.istoreN X1.here hx rfl (hb hby d7_4) rfl (l' := #[.val (.int p0), .val (.int (1 : Int32)), .val (.int (own_kn p0)), .unset]) rfl ?_
    refine XS.iloadN X1.here hx rfl (hb hby d7_5) rfl  ?_
    refine XS.iconst X1.here hx rfl (hb hby d7_6) ?_
    show Steps p.tables e below (T1.setTop (mkF m 7 #[.val (.int p0), .val (.int (1 : Int32)), .val (.int (own_kn p0)), .unset] [(.int (3 : Int32)), (.int p0)])) _
    refine XS.iushr X1.here hx rfl (hb hby d7_7) rfl ?_
    refine XS.istoreN X1.here hx rfl (hb hby d7_8) rfl (l' := #[.val (.int p0), .val (.int (1 : Int32)), .val (.int (own_kn p0)), .val (.int ((p0.toUInt32 >>> ((3 : Int32) &&& 31).toUInt32).toInt32))]) rfl ?_
    refine XS.iloadN X1.here hx rfl (hb hby d7_9) rfl  ?_
    exact kt)
  by_cases hc10_2 : (own_kn p0) = (0 : Int32)
  · obtain ⟨_, _, ⟨T4, L4, k4, n4⟩, -, X4, ⟨Lc4, hQ4, l4, y4, z4⟩, st4⟩ := Jvm.LawKit.callS X1 hx (y := (⟨"com/example/abeyance/abeyance/model/Utf8ReaderMalformedAtPinLaw", "bmp", "(I)C"⟩ : MethodName)) hown (mvT hZ (hw _ (List.mem_of_getElem? (i := 48) rfl))) (mvT hZ (hw _ (List.mem_of_getElem? (i := 49) rfl))) (mvT hZ (hw _ (List.mem_of_getElem? (i := 43) rfl))) (mvT hZ (hw _ (List.mem_of_getElem? (i := 50) rfl))) (by decide) (backOf (W := 0) (rmBmp l Z a0 hw [] ((((p0.toUInt32 >>> ((3 : Int32) &&& 31).toUInt32).toInt32).toUInt32 >>> ((13 : Int32) &&& 31).toUInt32).toInt32) (own_bm ((((p0.toUInt32 >>> ((3 : Int32) &&& 31).toUInt32).toInt32).toUInt32 >>> ((13 : Int32) &&& 31).toUInt32).toInt32)) h0 n0 Z0 rfl) hZ (hw _ (List.mem_of_getElem? (i := 50) rfl)) (hw _ (List.mem_of_getElem? (i := 43) rfl)) (by decide) (by decide)) (g := (mkF m 28 #[.val (.int p0), .val (.int (1 : Int32)), .val (.int (own_kn p0)), .val (.int ((p0.toUInt32 >>> ((3 : Int32) &&& 31).toUInt32).toInt32))] [(.int ((((p0.toUInt32 >>> ((3 : Int32) &&& 31).toUInt32).toInt32).toUInt32 >>> ((13 : Int32) &&& 31).toUInt32).toInt32))])) rfl (by rw [hml]; rfl) (argsL := [(.int ((((p0.toUInt32 >>> ((3 : Int32) &&& 31).toUInt32).toInt32).toUInt32 >>> ((13 : Int32) &&& 31).toUInt32).toInt32))]) (rest := []) (lenOf pd__I_C rfl) rfl (by show 2 * 0 + _ ≤ _; exact Nat.le_of_eq rfl) (hb hby d7_28) (fun _ _ => ⟨rfl, e1, (by decide : 0 + 0 ≤ _), (by decide : 0 + 0 ≤ _)⟩)
    dsimp only [Pt.U, Pt.locs, Pt.cells, Pt.slots] at X4 l4 y4 z4 st4 hQ4
    subst l4 y4 z4
    obtain ⟨rfl, Nq4, e4⟩ := hQ4
    have N4 := Fr.app N1 Nq4
    obtain ⟨fs, hr, hrun, hended, hW, hsame⟩ := X4.leave (v := some (.int (nar .char (own_bm ((((p0.toUInt32 >>> ((3 : Int32) &&& 31).toUInt32).toInt32).toUInt32 >>> ((13 : Int32) &&& 31).toUInt32).toInt32))))) (fun h => by rw [Bd.returns] at h; cases h)
    refine ⟨_, _, pre3 _ ?_, hrun, hended, _, _, rfl, ?_, ⟨_, rfl⟩, hW, hsame.mono (by decide) (by decide)⟩
    · show Steps p.tables e below (T1.setTop (mkF m 10 #[.val (.int p0), .val (.int (1 : Int32)), .val (.int (own_kn p0)), .val (.int ((p0.toUInt32 >>> ((3 : Int32) &&& 31).toUInt32).toInt32))] [(.int (own_kn p0))])) _
      refine XS.ifNo X1.here hx rfl (hb hby d7_10) rfl ((if0 _ _).trans (teq hc10_2).2) ?_
      refine XS.iloadN X1.here hx rfl (hb hby d7_13) rfl  ?_
      show Steps p.tables e below (T1.setTop (mkF m 14 #[.val (.int p0), .val (.int (1 : Int32)), .val (.int (own_kn p0)), .val (.int ((p0.toUInt32 >>> ((3 : Int32) &&& 31).toUInt32).toInt32))] [(.int (1 : Int32))])) _
      refine XS.ifYes X1.here hx rfl (pc0 := 14) (pc' := 24) rfl (hb hby d7_14) rfl ((if0 _ _).trans (feq (by decide : ¬ ((1 : Int32) = (0 : Int32)))).2) (by decide) (by decide) ?_
      refine XS.iloadN X1.here hx rfl (hb hby d7_24) rfl  ?_
      refine XS.bipush X1.here hx rfl (hb hby d7_25) ?_
      show Steps p.tables e below (T1.setTop (mkF m 27 #[.val (.int p0), .val (.int (1 : Int32)), .val (.int (own_kn p0)), .val (.int ((p0.toUInt32 >>> ((3 : Int32) &&& 31).toUInt32).toInt32))] [(.int (13 : Int32)), (.int ((p0.toUInt32 >>> ((3 : Int32) &&& 31).toUInt32).toInt32))])) _
      refine XS.iushr X1.here hx rfl (hb hby d7_27) rfl ?_
      show Steps p.tables e below (T1.setTop (mkF m 28 #[.val (.int p0), .val (.int (1 : Int32)), .val (.int (own_kn p0)), .val (.int ((p0.toUInt32 >>> ((3 : Int32) &&& 31).toUInt32).toInt32))] [(.int ((((p0.toUInt32 >>> ((3 : Int32) &&& 31).toUInt32).toInt32).toUInt32 >>> ((13 : Int32) &&& 31).toUInt32).toInt32))])) _
      refine st4 _ ?_
      show Steps p.tables e below (T4.setTop (mkF m 31 #[.val (.int p0), .val (.int (1 : Int32)), .val (.int (own_kn p0)), .val (.int ((p0.toUInt32 >>> ((3 : Int32) &&& 31).toUInt32).toInt32))] [(.int (own_bm ((((p0.toUInt32 >>> ((3 : Int32) &&& 31).toUInt32).toInt32).toUInt32 >>> ((13 : Int32) &&& 31).toUInt32).toInt32)))])) _
      exact retN X4 hx (t := .char) Bd.returns (by simp) (hb hby d7_31) hr
    · show Q_rmUnit1 Z p0 r h0 n0 _ T4.heap _
      rw [e4]
      exact ⟨by rw [hres]; unfold own_u1; rw [if_pos hc10_2], N4, rfl⟩
  · have pre6 : ∀ t, Steps p.tables e below (T1.setTop (mkF m 34 #[.val (.int p0), .val (.int (1 : Int32)), .val (.int (own_kn p0)), .val (.int ((p0.toUInt32 >>> ((3 : Int32) &&& 31).toUInt32).toInt32))] [(.int (1 : Int32)), (.int (own_kn p0))])) t → Steps p.tables e below (s₁.setTop (entryFrame m #[(.int p0), (.int (1 : Int32))] 4)) t := fun t kt => pre3 t (by
      show Steps p.tables e below (T1.setTop (mkF m 10 #[.val (.int p0), .val (.int (1 : Int32)), .val (.int (own_kn p0)), .val (.int ((p0.toUInt32 >>> ((3 : Int32) &&& 31).toUInt32).toInt32))] [(.int (own_kn p0))])) _
      refine XS.ifYes X1.here hx rfl (pc0 := 10) (pc' := 32) rfl (hb hby d7_10) rfl ((if0 _ _).trans (feq hc10_2).2) (by decide) (by decide) ?_
      refine XS.iloadN X1.here hx rfl (hb hby d7_32) rfl  ?_
      refine XS.iconst X1.here hx rfl (hb hby d7_33) ?_
      exact kt)
    by_cases hc34_5 : (own_kn p0) = (1 : Int32)
    · obtain ⟨fs, hr, hrun, hended, hW, hsame⟩ := X1.leave (v := some (.int (nar .char (((56320 : Int32) + (((((p0.toUInt32 >>> ((3 : Int32) &&& 31).toUInt32).toInt32).toUInt32 >>> ((10 : Int32) &&& 31).toUInt32).toInt32) &&& (1023 : Int32))).toUInt32.toUInt16.toUInt32.toInt32)))) (fun h => by rw [Bd.returns] at h; cases h)
      refine ⟨_, _, pre6 _ ?_, hrun, hended, _, _, rfl, ?_, ⟨_, rfl⟩, hW, hsame.mono (by decide) (by decide)⟩
      · show Steps p.tables e below (T1.setTop (mkF m 34 #[.val (.int p0), .val (.int (1 : Int32)), .val (.int (own_kn p0)), .val (.int ((p0.toUInt32 >>> ((3 : Int32) &&& 31).toUInt32).toInt32))] [(.int (1 : Int32)), (.int (own_kn p0))])) _
        refine XS.icmpNo X1.here hx rfl (hb hby d7_34) rfl (teq hc34_5).2 ?_
        refine XS.iloadN X1.here hx rfl (hb hby d7_37) rfl  ?_
        show Steps p.tables e below (T1.setTop (mkF m 38 #[.val (.int p0), .val (.int (1 : Int32)), .val (.int (own_kn p0)), .val (.int ((p0.toUInt32 >>> ((3 : Int32) &&& 31).toUInt32).toInt32))] [(.int (1 : Int32))])) _
        refine XS.ifYes X1.here hx rfl (pc0 := 38) (pc' := 53) rfl (hb hby d7_38) rfl ((if0 _ _).trans (feq (by decide : ¬ ((1 : Int32) = (0 : Int32)))).2) (by decide) (by decide) ?_
        show Steps p.tables e below (T1.setTop (mkF m 53 #[.val (.int p0), .val (.int (1 : Int32)), .val (.int (own_kn p0)), .val (.int ((p0.toUInt32 >>> ((3 : Int32) &&& 31).toUInt32).toInt32))] [])) _
        refine X1.ldcInt hx hown (mvT hZ (hw _ (List.mem_of_getElem? (i := 56) rfl))) (g := (mkF m 53 #[.val (.int p0), .val (.int (1 : Int32)), .val (.int (own_kn p0)), .val (.int ((p0.toUInt32 >>> ((3 : Int32) &&& 31).toUInt32).toInt32))] [])) rfl (hb hby d7_53) _ ?_
        show Steps p.tables e below (T1.setTop (mkF m 55 #[.val (.int p0), .val (.int (1 : Int32)), .val (.int (own_kn p0)), .val (.int ((p0.toUInt32 >>> ((3 : Int32) &&& 31).toUInt32).toInt32))] [(.int (56320 : Int32))])) _
        refine XS.iloadN X1.here hx rfl (hb hby d7_55) rfl  ?_
        refine XS.bipush X1.here hx rfl (hb hby d7_56) ?_
        refine XS.iushr X1.here hx rfl (hb hby d7_58) rfl ?_
        show Steps p.tables e below (T1.setTop (mkF m 59 #[.val (.int p0), .val (.int (1 : Int32)), .val (.int (own_kn p0)), .val (.int ((p0.toUInt32 >>> ((3 : Int32) &&& 31).toUInt32).toInt32))] [(.int ((((p0.toUInt32 >>> ((3 : Int32) &&& 31).toUInt32).toInt32).toUInt32 >>> ((10 : Int32) &&& 31).toUInt32).toInt32)), (.int (56320 : Int32))])) _
        refine XS.sipush X1.here hx rfl (hb hby d7_59) ?_
        refine XS.iand X1.here hx rfl (hb hby d7_62) rfl ?_
        refine XS.iadd X1.here hx rfl (hb hby d7_63) rfl ?_
        show Steps p.tables e below (T1.setTop (mkF m 64 #[.val (.int p0), .val (.int (1 : Int32)), .val (.int (own_kn p0)), .val (.int ((p0.toUInt32 >>> ((3 : Int32) &&& 31).toUInt32).toInt32))] [(.int ((56320 : Int32) + (((((p0.toUInt32 >>> ((3 : Int32) &&& 31).toUInt32).toInt32).toUInt32 >>> ((10 : Int32) &&& 31).toUInt32).toInt32) &&& (1023 : Int32))))])) _
        refine XS.i2c X1.here hx rfl (hb hby d7_64) rfl ?_
        show Steps p.tables e below (T1.setTop (mkF m 65 #[.val (.int p0), .val (.int (1 : Int32)), .val (.int (own_kn p0)), .val (.int ((p0.toUInt32 >>> ((3 : Int32) &&& 31).toUInt32).toInt32))] [(.int (((56320 : Int32) + (((((p0.toUInt32 >>> ((3 : Int32) &&& 31).toUInt32).toInt32).toUInt32 >>> ((10 : Int32) &&& 31).toUInt32).toInt32) &&& (1023 : Int32))).toUInt32.toUInt16.toUInt32.toInt32))])) _
        exact retN X1 hx (t := .char) Bd.returns (by simp) (hb hby d7_65) hr
      · show Q_rmUnit1 Z p0 r h0 n0 _ T1.heap _
        rw [e1]
        exact ⟨by rw [hres]; unfold own_u1; rw [if_neg hc10_2, if_pos hc34_5], N1, rfl⟩
    · have pre8 : ∀ t, Steps p.tables e below (T1.setTop (mkF m 68 #[.val (.int p0), .val (.int (1 : Int32)), .val (.int (own_kn p0)), .val (.int ((p0.toUInt32 >>> ((3 : Int32) &&& 31).toUInt32).toInt32))] [(.int (2 : Int32)), (.int (own_kn p0))])) t → Steps p.tables e below (s₁.setTop (entryFrame m #[(.int p0), (.int (1 : Int32))] 4)) t := fun t kt => pre6 t (by
        show Steps p.tables e below (T1.setTop (mkF m 34 #[.val (.int p0), .val (.int (1 : Int32)), .val (.int (own_kn p0)), .val (.int ((p0.toUInt32 >>> ((3 : Int32) &&& 31).toUInt32).toInt32))] [(.int (1 : Int32)), (.int (own_kn p0))])) _
        refine XS.icmpYes X1.here hx rfl (pc0 := 34) (pc' := 66) rfl (hb hby d7_34) rfl (feq hc34_5).2 (by decide) (by decide) ?_
        refine XS.iloadN X1.here hx rfl (hb hby d7_66) rfl  ?_
        refine XS.iconst X1.here hx rfl (hb hby d7_67) ?_
        exact kt)
      by_cases hc68_7 : (own_kn p0) = (2 : Int32)
      · obtain ⟨_, _, ⟨T9, L9, k9, n9⟩, -, X9, ⟨Lc9, hQ9, l9, y9, z9⟩, st9⟩ := Jvm.LawKit.callS X1 hx (y := (⟨"com/example/abeyance/abeyance/model/Utf8ReaderMalformedAtPinLaw", "bmp", "(I)C"⟩ : MethodName)) hown (mvT hZ (hw _ (List.mem_of_getElem? (i := 48) rfl))) (mvT hZ (hw _ (List.mem_of_getElem? (i := 49) rfl))) (mvT hZ (hw _ (List.mem_of_getElem? (i := 43) rfl))) (mvT hZ (hw _ (List.mem_of_getElem? (i := 50) rfl))) (by decide) (backOf (W := 0) (rmBmp l Z a0 hw [] ((((p0.toUInt32 >>> ((3 : Int32) &&& 31).toUInt32).toInt32).toUInt32 >>> ((8 : Int32) &&& 31).toUInt32).toInt32) (own_bm ((((p0.toUInt32 >>> ((3 : Int32) &&& 31).toUInt32).toInt32).toUInt32 >>> ((8 : Int32) &&& 31).toUInt32).toInt32)) h0 n0 Z0 rfl) hZ (hw _ (List.mem_of_getElem? (i := 50) rfl)) (hw _ (List.mem_of_getElem? (i := 43) rfl)) (by decide) (by decide)) (g := (mkF m 86 #[.val (.int p0), .val (.int (1 : Int32)), .val (.int (own_kn p0)), .val (.int ((p0.toUInt32 >>> ((3 : Int32) &&& 31).toUInt32).toInt32))] [(.int ((((p0.toUInt32 >>> ((3 : Int32) &&& 31).toUInt32).toInt32).toUInt32 >>> ((8 : Int32) &&& 31).toUInt32).toInt32))])) rfl (by rw [hml]; rfl) (argsL := [(.int ((((p0.toUInt32 >>> ((3 : Int32) &&& 31).toUInt32).toInt32).toUInt32 >>> ((8 : Int32) &&& 31).toUInt32).toInt32))]) (rest := []) (lenOf pd__I_C rfl) rfl (by show 2 * 0 + _ ≤ _; exact Nat.le_of_eq rfl) (hb hby d7_86) (fun _ _ => ⟨rfl, e1, (by decide : 0 + 0 ≤ _), (by decide : 0 + 0 ≤ _)⟩)
        dsimp only [Pt.U, Pt.locs, Pt.cells, Pt.slots] at X9 l9 y9 z9 st9 hQ9
        subst l9 y9 z9
        obtain ⟨rfl, Nq9, e9⟩ := hQ9
        have N9 := Fr.app N1 Nq9
        obtain ⟨fs, hr, hrun, hended, hW, hsame⟩ := X9.leave (v := some (.int (nar .char (own_bm ((((p0.toUInt32 >>> ((3 : Int32) &&& 31).toUInt32).toInt32).toUInt32 >>> ((8 : Int32) &&& 31).toUInt32).toInt32))))) (fun h => by rw [Bd.returns] at h; cases h)
        refine ⟨_, _, pre8 _ ?_, hrun, hended, _, _, rfl, ?_, ⟨_, rfl⟩, hW, hsame.mono (by decide) (by decide)⟩
        · show Steps p.tables e below (T1.setTop (mkF m 68 #[.val (.int p0), .val (.int (1 : Int32)), .val (.int (own_kn p0)), .val (.int ((p0.toUInt32 >>> ((3 : Int32) &&& 31).toUInt32).toInt32))] [(.int (2 : Int32)), (.int (own_kn p0))])) _
          refine XS.icmpNo X1.here hx rfl (hb hby d7_68) rfl (teq hc68_7).2 ?_
          refine XS.iloadN X1.here hx rfl (hb hby d7_71) rfl  ?_
          show Steps p.tables e below (T1.setTop (mkF m 72 #[.val (.int p0), .val (.int (1 : Int32)), .val (.int (own_kn p0)), .val (.int ((p0.toUInt32 >>> ((3 : Int32) &&& 31).toUInt32).toInt32))] [(.int (1 : Int32))])) _
          refine XS.ifYes X1.here hx rfl (pc0 := 72) (pc' := 82) rfl (hb hby d7_72) rfl ((if0 _ _).trans (feq (by decide : ¬ ((1 : Int32) = (0 : Int32)))).2) (by decide) (by decide) ?_
          refine XS.iloadN X1.here hx rfl (hb hby d7_82) rfl  ?_
          refine XS.bipush X1.here hx rfl (hb hby d7_83) ?_
          show Steps p.tables e below (T1.setTop (mkF m 85 #[.val (.int p0), .val (.int (1 : Int32)), .val (.int (own_kn p0)), .val (.int ((p0.toUInt32 >>> ((3 : Int32) &&& 31).toUInt32).toInt32))] [(.int (8 : Int32)), (.int ((p0.toUInt32 >>> ((3 : Int32) &&& 31).toUInt32).toInt32))])) _
          refine XS.iushr X1.here hx rfl (hb hby d7_85) rfl ?_
          show Steps p.tables e below (T1.setTop (mkF m 86 #[.val (.int p0), .val (.int (1 : Int32)), .val (.int (own_kn p0)), .val (.int ((p0.toUInt32 >>> ((3 : Int32) &&& 31).toUInt32).toInt32))] [(.int ((((p0.toUInt32 >>> ((3 : Int32) &&& 31).toUInt32).toInt32).toUInt32 >>> ((8 : Int32) &&& 31).toUInt32).toInt32))])) _
          refine st9 _ ?_
          show Steps p.tables e below (T9.setTop (mkF m 89 #[.val (.int p0), .val (.int (1 : Int32)), .val (.int (own_kn p0)), .val (.int ((p0.toUInt32 >>> ((3 : Int32) &&& 31).toUInt32).toInt32))] [(.int (own_bm ((((p0.toUInt32 >>> ((3 : Int32) &&& 31).toUInt32).toInt32).toUInt32 >>> ((8 : Int32) &&& 31).toUInt32).toInt32)))])) _
          exact retN X9 hx (t := .char) Bd.returns (by simp) (hb hby d7_89) hr
        · show Q_rmUnit1 Z p0 r h0 n0 _ T9.heap _
          rw [e9]
          exact ⟨by rw [hres]; unfold own_u1; rw [if_neg hc10_2, if_neg hc34_5, if_pos hc68_7], N9, rfl⟩
      · have pre11 : ∀ t, Steps p.tables e below (T1.setTop (mkF m 92 #[.val (.int p0), .val (.int (1 : Int32)), .val (.int (own_kn p0)), .val (.int ((p0.toUInt32 >>> ((3 : Int32) &&& 31).toUInt32).toInt32))] [(.int (3 : Int32)), (.int (own_kn p0))])) t → Steps p.tables e below (s₁.setTop (entryFrame m #[(.int p0), (.int (1 : Int32))] 4)) t := fun t kt => pre8 t (by
          show Steps p.tables e below (T1.setTop (mkF m 68 #[.val (.int p0), .val (.int (1 : Int32)), .val (.int (own_kn p0)), .val (.int ((p0.toUInt32 >>> ((3 : Int32) &&& 31).toUInt32).toInt32))] [(.int (2 : Int32)), (.int (own_kn p0))])) _
          refine XS.icmpYes X1.here hx rfl (pc0 := 68) (pc' := 90) rfl (hb hby d7_68) rfl (feq hc68_7).2 (by decide) (by decide) ?_
          refine XS.iloadN X1.here hx rfl (hb hby d7_90) rfl  ?_
          refine XS.iconst X1.here hx rfl (hb hby d7_91) ?_
          exact kt)
        by_cases hc92_10 : (own_kn p0) = (3 : Int32)
        · obtain ⟨_, _, ⟨T12, L12, k12, n12⟩, -, X12, ⟨Lc12, hQ12, l12, y12, z12⟩, st12⟩ := Jvm.LawKit.callS X1 hx (y := (⟨"com/example/abeyance/abeyance/model/Utf8ReaderMalformedAtPinLaw", "esc", "(I)C"⟩ : MethodName)) hown (mvT hZ (hw _ (List.mem_of_getElem? (i := 53) rfl))) (mvT hZ (hw _ (List.mem_of_getElem? (i := 54) rfl))) (mvT hZ (hw _ (List.mem_of_getElem? (i := 43) rfl))) (mvT hZ (hw _ (List.mem_of_getElem? (i := 55) rfl))) (by decide) (backOf (W := 0) (rmEsc l Z a0 hw [] ((p0.toUInt32 >>> ((3 : Int32) &&& 31).toUInt32).toInt32) (own_es ((p0.toUInt32 >>> ((3 : Int32) &&& 31).toUInt32).toInt32)) h0 n0 Z0 rfl) hZ (hw _ (List.mem_of_getElem? (i := 55) rfl)) (hw _ (List.mem_of_getElem? (i := 43) rfl)) (by decide) (by decide)) (g := (mkF m 110 #[.val (.int p0), .val (.int (1 : Int32)), .val (.int (own_kn p0)), .val (.int ((p0.toUInt32 >>> ((3 : Int32) &&& 31).toUInt32).toInt32))] [(.int ((p0.toUInt32 >>> ((3 : Int32) &&& 31).toUInt32).toInt32))])) rfl (by rw [hml]; rfl) (argsL := [(.int ((p0.toUInt32 >>> ((3 : Int32) &&& 31).toUInt32).toInt32))]) (rest := []) (lenOf pd__I_C rfl) rfl (by show 2 * 0 + _ ≤ _; exact Nat.le_of_eq rfl) (hb hby d7_110) (fun _ _ => ⟨rfl, e1, (by decide : 0 + 0 ≤ _), (by decide : 0 + 0 ≤ _)⟩)
          dsimp only [Pt.U, Pt.locs, Pt.cells, Pt.slots] at X12 l12 y12 z12 st12 hQ12
          subst l12 y12 z12
          obtain ⟨rfl, Nq12, e12⟩ := hQ12
          have N12 := Fr.app N1 Nq12
          obtain ⟨fs, hr, hrun, hended, hW, hsame⟩ := X12.leave (v := some (.int (nar .char (own_es ((p0.toUInt32 >>> ((3 : Int32) &&& 31).toUInt32).toInt32))))) (fun h => by rw [Bd.returns] at h; cases h)
          refine ⟨_, _, pre11 _ ?_, hrun, hended, _, _, rfl, ?_, ⟨_, rfl⟩, hW, hsame.mono (by decide) (by decide)⟩
          · show Steps p.tables e below (T1.setTop (mkF m 92 #[.val (.int p0), .val (.int (1 : Int32)), .val (.int (own_kn p0)), .val (.int ((p0.toUInt32 >>> ((3 : Int32) &&& 31).toUInt32).toInt32))] [(.int (3 : Int32)), (.int (own_kn p0))])) _
            refine XS.icmpNo X1.here hx rfl (hb hby d7_92) rfl (teq hc92_10).2 ?_
            refine XS.iloadN X1.here hx rfl (hb hby d7_95) rfl  ?_
            show Steps p.tables e below (T1.setTop (mkF m 96 #[.val (.int p0), .val (.int (1 : Int32)), .val (.int (own_kn p0)), .val (.int ((p0.toUInt32 >>> ((3 : Int32) &&& 31).toUInt32).toInt32))] [(.int (1 : Int32))])) _
            refine XS.ifYes X1.here hx rfl (pc0 := 96) (pc' := 109) rfl (hb hby d7_96) rfl ((if0 _ _).trans (feq (by decide : ¬ ((1 : Int32) = (0 : Int32)))).2) (by decide) (by decide) ?_
            refine XS.iloadN X1.here hx rfl (hb hby d7_109) rfl  ?_
            show Steps p.tables e below (T1.setTop (mkF m 110 #[.val (.int p0), .val (.int (1 : Int32)), .val (.int (own_kn p0)), .val (.int ((p0.toUInt32 >>> ((3 : Int32) &&& 31).toUInt32).toInt32))] [(.int ((p0.toUInt32 >>> ((3 : Int32) &&& 31).toUInt32).toInt32))])) _
            refine st12 _ ?_
            show Steps p.tables e below (T12.setTop (mkF m 113 #[.val (.int p0), .val (.int (1 : Int32)), .val (.int (own_kn p0)), .val (.int ((p0.toUInt32 >>> ((3 : Int32) &&& 31).toUInt32).toInt32))] [(.int (own_es ((p0.toUInt32 >>> ((3 : Int32) &&& 31).toUInt32).toInt32)))])) _
            exact retN X12 hx (t := .char) Bd.returns (by simp) (hb hby d7_113) hr
          · show Q_rmUnit1 Z p0 r h0 n0 _ T12.heap _
            rw [e12]
            exact ⟨by rw [hres]; unfold own_u1; rw [if_neg hc10_2, if_neg hc34_5, if_neg hc68_7, if_pos hc92_10], N12, rfl⟩
        · obtain ⟨_, _, ⟨T13, L13, k13, n13⟩, -, X13, ⟨Lc13, hQ13, l13, y13, z13⟩, st13⟩ := Jvm.LawKit.callS X1 hx (y := (⟨"com/example/abeyance/abeyance/model/Utf8ReaderMalformedAtPinLaw", "esc", "(I)C"⟩ : MethodName)) hown (mvT hZ (hw _ (List.mem_of_getElem? (i := 53) rfl))) (mvT hZ (hw _ (List.mem_of_getElem? (i := 54) rfl))) (mvT hZ (hw _ (List.mem_of_getElem? (i := 43) rfl))) (mvT hZ (hw _ (List.mem_of_getElem? (i := 55) rfl))) (by decide) (backOf (W := 0) (rmEsc l Z a0 hw [] ((((p0.toUInt32 >>> ((3 : Int32) &&& 31).toUInt32).toInt32).toUInt32 >>> ((8 : Int32) &&& 31).toUInt32).toInt32) (own_es ((((p0.toUInt32 >>> ((3 : Int32) &&& 31).toUInt32).toInt32).toUInt32 >>> ((8 : Int32) &&& 31).toUInt32).toInt32)) h0 n0 Z0 rfl) hZ (hw _ (List.mem_of_getElem? (i := 55) rfl)) (hw _ (List.mem_of_getElem? (i := 43) rfl)) (by decide) (by decide)) (g := (mkF m 129 #[.val (.int p0), .val (.int (1 : Int32)), .val (.int (own_kn p0)), .val (.int ((p0.toUInt32 >>> ((3 : Int32) &&& 31).toUInt32).toInt32))] [(.int ((((p0.toUInt32 >>> ((3 : Int32) &&& 31).toUInt32).toInt32).toUInt32 >>> ((8 : Int32) &&& 31).toUInt32).toInt32))])) rfl (by rw [hml]; rfl) (argsL := [(.int ((((p0.toUInt32 >>> ((3 : Int32) &&& 31).toUInt32).toInt32).toUInt32 >>> ((8 : Int32) &&& 31).toUInt32).toInt32))]) (rest := []) (lenOf pd__I_C rfl) rfl (by show 2 * 0 + _ ≤ _; exact Nat.le_of_eq rfl) (hb hby d7_129) (fun _ _ => ⟨rfl, e1, (by decide : 0 + 0 ≤ _), (by decide : 0 + 0 ≤ _)⟩)
          dsimp only [Pt.U, Pt.locs, Pt.cells, Pt.slots] at X13 l13 y13 z13 st13 hQ13
          subst l13 y13 z13
          obtain ⟨rfl, Nq13, e13⟩ := hQ13
          have N13 := Fr.app N1 Nq13
          obtain ⟨fs, hr, hrun, hended, hW, hsame⟩ := X13.leave (v := some (.int (nar .char (own_es ((((p0.toUInt32 >>> ((3 : Int32) &&& 31).toUInt32).toInt32).toUInt32 >>> ((8 : Int32) &&& 31).toUInt32).toInt32))))) (fun h => by rw [Bd.returns] at h; cases h)
          refine ⟨_, _, pre11 _ ?_, hrun, hended, _, _, rfl, ?_, ⟨_, rfl⟩, hW, hsame.mono (by decide) (by decide)⟩
          · show Steps p.tables e below (T1.setTop (mkF m 92 #[.val (.int p0), .val (.int (1 : Int32)), .val (.int (own_kn p0)), .val (.int ((p0.toUInt32 >>> ((3 : Int32) &&& 31).toUInt32).toInt32))] [(.int (3 : Int32)), (.int (own_kn p0))])) _
            refine XS.icmpYes X1.here hx rfl (pc0 := 92) (pc' := 114) rfl (hb hby d7_92) rfl (feq hc92_10).2 (by decide) (by decide) ?_
            refine XS.iloadN X1.here hx rfl (hb hby d7_114) rfl  ?_
            show Steps p.tables e below (T1.setTop (mkF m 115 #[.val (.int p0), .val (.int (1 : Int32)), .val (.int (own_kn p0)), .val (.int ((p0.toUInt32 >>> ((3 : Int32) &&& 31).toUInt32).toInt32))] [(.int (1 : Int32))])) _
            refine XS.ifYes X1.here hx rfl (pc0 := 115) (pc' := 125) rfl (hb hby d7_115) rfl ((if0 _ _).trans (feq (by decide : ¬ ((1 : Int32) = (0 : Int32)))).2) (by decide) (by decide) ?_
            refine XS.iloadN X1.here hx rfl (hb hby d7_125) rfl  ?_
            refine XS.bipush X1.here hx rfl (hb hby d7_126) ?_
            show Steps p.tables e below (T1.setTop (mkF m 128 #[.val (.int p0), .val (.int (1 : Int32)), .val (.int (own_kn p0)), .val (.int ((p0.toUInt32 >>> ((3 : Int32) &&& 31).toUInt32).toInt32))] [(.int (8 : Int32)), (.int ((p0.toUInt32 >>> ((3 : Int32) &&& 31).toUInt32).toInt32))])) _
            refine XS.iushr X1.here hx rfl (hb hby d7_128) rfl ?_
            show Steps p.tables e below (T1.setTop (mkF m 129 #[.val (.int p0), .val (.int (1 : Int32)), .val (.int (own_kn p0)), .val (.int ((p0.toUInt32 >>> ((3 : Int32) &&& 31).toUInt32).toInt32))] [(.int ((((p0.toUInt32 >>> ((3 : Int32) &&& 31).toUInt32).toInt32).toUInt32 >>> ((8 : Int32) &&& 31).toUInt32).toInt32))])) _
            refine st13 _ ?_
            show Steps p.tables e below (T13.setTop (mkF m 132 #[.val (.int p0), .val (.int (1 : Int32)), .val (.int (own_kn p0)), .val (.int ((p0.toUInt32 >>> ((3 : Int32) &&& 31).toUInt32).toInt32))] [(.int (own_es ((((p0.toUInt32 >>> ((3 : Int32) &&& 31).toUInt32).toInt32).toUInt32 >>> ((8 : Int32) &&& 31).toUInt32).toInt32)))])) _
            exact retN X13 hx (t := .char) Bd.returns (by simp) (hb hby d7_132) hr
          · show Q_rmUnit1 Z p0 r h0 n0 _ T13.heap _
            rw [e13]
            exact ⟨by rw [hres]; unfold own_u1; rw [if_neg hc10_2, if_neg hc34_5, if_neg hc68_7, if_neg hc92_10], N13, rfl⟩
theorem ef_rmIsEsc0 (m : MethodId) (p0 : Int32) : entryFrame m #[(.int p0), (.int (0 : Int32))] 3 = mkF m 0 #[.val (.int p0), .val (.int (0 : Int32)), .unset] [] := by first | (simp [entryFrame, mkF, argsToLocals, Value.category]; done) | rfl
theorem d11_0 : decode method_6_code 0 = .ok (.iload_n 0, 1) := by decide +kernel
theorem d11_1 : decode method_6_code 1 = .ok (.invokestatic 11, 3) := by decide +kernel
theorem d11_4 : decode method_6_code 4 = .ok (.istore_n 2, 1) := by decide +kernel
theorem d11_5 : decode method_6_code 5 = .ok (.iload_n 2, 1) := by decide +kernel
theorem d11_6 : decode method_6_code 6 = .ok (.iconst 4, 1) := by decide +kernel
theorem d11_7 : decode method_6_code 7 = .ok (.if_icmp .ne 5, 3) := by decide +kernel
theorem d11_10 : decode method_6_code 10 = .ok (.iconst 1, 1) := by decide +kernel
theorem d11_11 : decode method_6_code 11 = .ok (.ireturn, 1) := by decide +kernel
theorem d11_12 : decode method_6_code 12 = .ok (.iload_n 2, 1) := by decide +kernel
theorem d11_13 : decode method_6_code 13 = .ok (.iconst 2, 1) := by decide +kernel
theorem d11_14 : decode method_6_code 14 = .ok (.if_icmp .ne 13, 3) := by decide +kernel
theorem d11_17 : decode method_6_code 17 = .ok (.iload_n 1, 1) := by decide +kernel
theorem d11_18 : decode method_6_code 18 = .ok (.ifCond .ne 7, 3) := by decide +kernel
theorem d11_21 : decode method_6_code 21 = .ok (.iconst 1, 1) := by decide +kernel
theorem d11_22 : decode method_6_code 22 = .ok (.goto 4, 3) := by decide +kernel
theorem d11_26 : decode method_6_code 26 = .ok (.ireturn, 1) := by decide +kernel
theorem d11_27 : decode method_6_code 27 = .ok (.iload_n 2, 1) := by decide +kernel
theorem d11_28 : decode method_6_code 28 = .ok (.iconst 3, 1) := by decide +kernel
theorem d11_29 : decode method_6_code 29 = .ok (.if_icmp .ne 14, 3) := by decide +kernel
theorem d11_32 : decode method_6_code 32 = .ok (.iload_n 1, 1) := by decide +kernel
theorem d11_33 : decode method_6_code 33 = .ok (.iconst 1, 1) := by decide +kernel
theorem d11_34 : decode method_6_code 34 = .ok (.if_icmp .ne 7, 3) := by decide +kernel
theorem d11_41 : decode method_6_code 41 = .ok (.iconst 0, 1) := by decide +kernel
theorem d11_42 : decode method_6_code 42 = .ok (.ireturn, 1) := by decide +kernel
theorem d11_43 : decode method_6_code 43 = .ok (.iconst 0, 1) := by decide +kernel
theorem d11_44 : decode method_6_code 44 = .ok (.ireturn, 1) := by decide +kernel
def Q_rmIsEsc0 (Z : State) (p0 : Int32) (r : Int32) (h0 : Heap) (n0 : Nat) (v : Option Value) (h : Heap) (L : List Loc) : Prop := v = some (.int r) ∧ Fr n0 L ∧ h = h0
set_option maxRecDepth 65536 in
set_option maxHeartbeats 40000000 in
theorem rmIsEsc0 (l : Launch) (Z : State) (a0 : Array Value) (hw : ∀ d ∈ tables_1, d.before a0 Z = true) (ws : List Jvm.Cond) (p0 : Int32) (r : Int32) (h0 : Heap) (n0 : Nat) (Z0 : n0 ≤ h0.size) (hres : r = if own_i0 p0 then 1 else 0) :
    MetFree l (⟨"com/example/abeyance/abeyance/model/Utf8ReaderMalformedAtPinLaw", "isEsc", "(II)Z"⟩ : MethodName) (head1 (Jvm.Cond.code (⟨"com/example/abeyance/abeyance/model/Utf8ReaderMalformedAtPinLaw", "isEsc", "(II)Z"⟩ : MethodName) method_6_code 3 (some .boolean) :: ws) ({ frames := 1, cells := 0, slots := 0, locals := 13 } : Room)) (fun a U => a = #[(.int p0), (.int (0 : Int32))] ∧ Z.Warmed39 U.vm ∧ U.heap = h0) (fun _ _ _ _ _ => True) (fun _ U o U' => ∃ v L, o = .returned v ∧ Q_rmIsEsc0 Z p0 r h0 n0 v U'.heap L ∧ FrameEnd U o U' L ({ frames := 1, cells := 0, slots := 0, locals := 13 } : Room).cells ({ frames := 1, cells := 0, slots := 0, locals := 13 } : Room).slots) := by
  refine MetFree.of_bodySF (plainFor_of_name pn_com_example_abeyance_abeyance_model_Utf8ReaderMalformedAtPinLaw) hisR ?_
  intro p e s m args below meth c s₁ Bd hml0 hP hK
  obtain ⟨rfl, hZ, hh⟩ := hP
  have hx := Bd.exec
  have hby := Bd.bytes
  have hml : c.maxLocals = 3 := hml0
  have hown : s.vm.findClass "com/example/abeyance/abeyance/model/Utf8ReaderMalformedAtPinLaw" = some m.cls := findClass_of_methodNamed Bd.named
  have hnm := (name_of_methodNamed Bd.named Bd.method).1
  have hZo := hZ
  have howno := hown
  have X0 : Stand p l e ({ frames := 1, cells := 0, slots := 0, locals := 13 } : Room) s m #[(.int p0), (.int (0 : Int32))] below meth c s₁ [] 0 0 := Stand.of_body Bd
  have e0 : s₁.heap = h0 := by rw [← hh, Bd.state]; rfl
  have N0 := Fr.nil n0
  have pre0 : ∀ t, Steps p.tables e below (s₁.setTop (mkF m 0 #[.val (.int p0), .val (.int (0 : Int32)), .unset] [])) t → Steps p.tables e below (s₁.setTop (entryFrame m #[(.int p0), (.int (0 : Int32))] 3)) t := fun t k => castTop (ef_rmIsEsc0 m p0 ) k
  obtain ⟨_, _, ⟨T1, L1, k1, n1⟩, -, X1, ⟨Lc1, hQ1, l1, y1, z1⟩, st1⟩ := Jvm.LawKit.callS X0 hx (y := (⟨"com/example/abeyance/abeyance/model/Utf8ReaderMalformedAtPinLaw", "kind", "(I)I"⟩ : MethodName)) hown (mvT hZ (hw _ (List.mem_of_getElem? (i := 45) rfl))) (mvT hZ (hw _ (List.mem_of_getElem? (i := 46) rfl))) (mvT hZ (hw _ (List.mem_of_getElem? (i := 43) rfl))) (mvT hZ (hw _ (List.mem_of_getElem? (i := 47) rfl))) (by decide) (backOf (W := 0) (rmKindL l Z a0 hw [] p0 (own_kn p0) h0 n0 Z0 rfl) hZ (hw _ (List.mem_of_getElem? (i := 47) rfl)) (hw _ (List.mem_of_getElem? (i := 43) rfl)) (by decide) (by decide)) (g := (mkF m 1 #[.val (.int p0), .val (.int (0 : Int32)), .unset] [(.int p0)])) rfl (by rw [hml]; rfl) (argsL := [(.int p0)]) (rest := []) (lenOf pd__I_I rfl) rfl (by show 2 * 0 + _ ≤ _; exact Nat.le_of_eq rfl) (hb hby d11_1) (fun _ _ => ⟨rfl, e0, (by decide : 0 + 0 ≤ _), (by decide : 0 + 0 ≤ _)⟩)
  dsimp only [Pt.U, Pt.locs, Pt.cells, Pt.slots] at X1 l1 y1 z1 st1 hQ1
  subst l1 y1 z1
  obtain ⟨rfl, Nq1, e1⟩ := hQ1
  have N1 := Fr.app N0 Nq1
  have pre3 : ∀ t, Steps p.tables e below (T1.setTop (mkF m 7 #[.val (.int p0), .val (.int (0 : Int32)), .val (.int (own_kn p0))] [(.int (4 : Int32)), (.int (own_kn p0))])) t → Steps p.tables e below (s₁.setTop (entryFrame m #[(.int p0), (.int (0 : Int32))] 3)) t := fun t kt => pre0 t (by
    show Steps p.tables e below (s₁.setTop (mkF m 0 #[.val (.int p0), .val (.int (0 : Int32)), .unset] [])) _
    refine XS.iloadN X0.here hx rfl (hb hby d11_0) rfl  ?_
    show Steps p.tables e below (s₁.setTop (mkF m 1 #[.val (.int p0), .val (.int (0 : Int32)), .unset] [(.int p0)])) _
    refine st1 _ ?_
    show Steps p.tables e below (T1.setTop (mkF m 4 #[.val (.int p0), .val (.int (0 : Int32)), .unset] [(.int (own_kn p0))])) _
    refine XS.istoreN X1.here hx rfl (hb hby d11_4) rfl (l' := #[.val (.int p0), .val (.int (0 : Int32)), .val (.int (own_kn p0))]) rfl ?_
    refine XS.iloadN X1.here hx rfl (hb hby d11_5) rfl  ?_
    refine XS.iconst X1.here hx rfl (hb hby d11_6) ?_
    exact kt)
  by_cases hc7_2 : (own_kn p0) = (4 : Int32)
  · obtain ⟨fs, hr, hrun, hended, hW, hsame⟩ := X1.leave (v := some (.int (1 : Int32))) (fun h => by rw [Bd.returns] at h; cases h)
    refine ⟨_, _, pre3 _ ?_, hrun, hended, _, _, rfl, ?_, ⟨_, rfl⟩, hW, hsame.mono (by decide) (by decide)⟩
    · show Steps p.tables e below (T1.setTop (mkF m 7 #[.val (.int p0), .val (.int (0 : Int32)), .val (.int (own_kn p0))] [(.int (4 : Int32)), (.int (own_kn p0))])) _
      refine XS.icmpNo X1.here hx rfl (hb hby d11_7) rfl (teq hc7_2).2 ?_
      refine XS.iconst X1.here hx rfl (hb hby d11_10) ?_
      show Steps p.tables e below (T1.setTop (mkF m 11 #[.val (.int p0), .val (.int (0 : Int32)), .val (.int (own_kn p0))] [(.int (1 : Int32))])) _
      exact retN X1 hx (t := .boolean) Bd.returns (by simp) (hb hby d11_11) hr
    · show Q_rmIsEsc0 Z p0 r h0 n0 _ T1.heap _
      rw [e1]
      exact ⟨by rw [hres, if_pos (show own_i0 p0 from Or.inl hc7_2)], N1, rfl⟩
  · have pre5 : ∀ t, Steps p.tables e below (T1.setTop (mkF m 14 #[.val (.int p0), .val (.int (0 : Int32)), .val (.int (own_kn p0))] [(.int (2 : Int32)), (.int (own_kn p0))])) t → Steps p.tables e below (s₁.setTop (entryFrame m #[(.int p0), (.int (0 : Int32))] 3)) t := fun t kt => pre3 t (by
      show Steps p.tables e below (T1.setTop (mkF m 7 #[.val (.int p0), .val (.int (0 : Int32)), .val (.int (own_kn p0))] [(.int (4 : Int32)), (.int (own_kn p0))])) _
      refine XS.icmpYes X1.here hx rfl (pc0 := 7) (pc' := 12) rfl (hb hby d11_7) rfl (feq hc7_2).2 (by decide) (by decide) ?_
      refine XS.iloadN X1.here hx rfl (hb hby d11_12) rfl  ?_
      refine XS.iconst X1.here hx rfl (hb hby d11_13) ?_
      exact kt)
    by_cases hc14_4 : (own_kn p0) = (2 : Int32)
    · obtain ⟨fs, hr, hrun, hended, hW, hsame⟩ := X1.leave (v := some (.int (1 : Int32))) (fun h => by rw [Bd.returns] at h; cases h)
      refine ⟨_, _, pre5 _ ?_, hrun, hended, _, _, rfl, ?_, ⟨_, rfl⟩, hW, hsame.mono (by decide) (by decide)⟩
      · show Steps p.tables e below (T1.setTop (mkF m 14 #[.val (.int p0), .val (.int (0 : Int32)), .val (.int (own_kn p0))] [(.int (2 : Int32)), (.int (own_kn p0))])) _
        refine XS.icmpNo X1.here hx rfl (hb hby d11_14) rfl (teq hc14_4).2 ?_
        refine XS.iloadN X1.here hx rfl (hb hby d11_17) rfl  ?_
        show Steps p.tables e below (T1.setTop (mkF m 18 #[.val (.int p0), .val (.int (0 : Int32)), .val (.int (own_kn p0))] [(.int (0 : Int32))])) _
        refine XS.ifNo X1.here hx rfl (hb hby d11_18) rfl ((if0 _ _).trans (teq (by decide : (0 : Int32) = (0 : Int32))).2) ?_
        refine XS.iconst X1.here hx rfl (hb hby d11_21) ?_
        refine XS.goto X1.here hx rfl (pc0 := 22) (pc' := 26) rfl (hb hby d11_22) (by decide) (by decide) ?_
        show Steps p.tables e below (T1.setTop (mkF m 26 #[.val (.int p0), .val (.int (0 : Int32)), .val (.int (own_kn p0))] [(.int (1 : Int32))])) _
        exact retN X1 hx (t := .boolean) Bd.returns (by simp) (hb hby d11_26) hr
      · show Q_rmIsEsc0 Z p0 r h0 n0 _ T1.heap _
        rw [e1]
        exact ⟨by rw [hres, if_pos (show own_i0 p0 from Or.inr hc14_4)], N1, rfl⟩
    · have pre7 : ∀ t, Steps p.tables e below (T1.setTop (mkF m 29 #[.val (.int p0), .val (.int (0 : Int32)), .val (.int (own_kn p0))] [(.int (3 : Int32)), (.int (own_kn p0))])) t → Steps p.tables e below (s₁.setTop (entryFrame m #[(.int p0), (.int (0 : Int32))] 3)) t := fun t kt => pre5 t (by
        show Steps p.tables e below (T1.setTop (mkF m 14 #[.val (.int p0), .val (.int (0 : Int32)), .val (.int (own_kn p0))] [(.int (2 : Int32)), (.int (own_kn p0))])) _
        refine XS.icmpYes X1.here hx rfl (pc0 := 14) (pc' := 27) rfl (hb hby d11_14) rfl (feq hc14_4).2 (by decide) (by decide) ?_
        refine XS.iloadN X1.here hx rfl (hb hby d11_27) rfl  ?_
        refine XS.iconst X1.here hx rfl (hb hby d11_28) ?_
        exact kt)
      by_cases hc29_6 : (own_kn p0) = (3 : Int32)
      · obtain ⟨fs, hr, hrun, hended, hW, hsame⟩ := X1.leave (v := some (.int (0 : Int32))) (fun h => by rw [Bd.returns] at h; cases h)
        refine ⟨_, _, pre7 _ ?_, hrun, hended, _, _, rfl, ?_, ⟨_, rfl⟩, hW, hsame.mono (by decide) (by decide)⟩
        · show Steps p.tables e below (T1.setTop (mkF m 29 #[.val (.int p0), .val (.int (0 : Int32)), .val (.int (own_kn p0))] [(.int (3 : Int32)), (.int (own_kn p0))])) _
          refine XS.icmpNo X1.here hx rfl (hb hby d11_29) rfl (teq hc29_6).2 ?_
          refine XS.iloadN X1.here hx rfl (hb hby d11_32) rfl  ?_
          refine XS.iconst X1.here hx rfl (hb hby d11_33) ?_
          show Steps p.tables e below (T1.setTop (mkF m 34 #[.val (.int p0), .val (.int (0 : Int32)), .val (.int (own_kn p0))] [(.int (1 : Int32)), (.int (0 : Int32))])) _
          refine XS.icmpYes X1.here hx rfl (pc0 := 34) (pc' := 41) rfl (hb hby d11_34) rfl (feq (by decide : ¬ ((0 : Int32) = (1 : Int32)))).2 (by decide) (by decide) ?_
          refine XS.iconst X1.here hx rfl (hb hby d11_41) ?_
          show Steps p.tables e below (T1.setTop (mkF m 42 #[.val (.int p0), .val (.int (0 : Int32)), .val (.int (own_kn p0))] [(.int (0 : Int32))])) _
          exact retN X1 hx (t := .boolean) Bd.returns (by simp) (hb hby d11_42) hr
        · show Q_rmIsEsc0 Z p0 r h0 n0 _ T1.heap _
          rw [e1]
          exact ⟨by rw [hres, if_neg (fun q => q.elim hc7_2 hc14_4)], N1, rfl⟩
      · obtain ⟨fs, hr, hrun, hended, hW, hsame⟩ := X1.leave (v := some (.int (0 : Int32))) (fun h => by rw [Bd.returns] at h; cases h)
        refine ⟨_, _, pre7 _ ?_, hrun, hended, _, _, rfl, ?_, ⟨_, rfl⟩, hW, hsame.mono (by decide) (by decide)⟩
        · show Steps p.tables e below (T1.setTop (mkF m 29 #[.val (.int p0), .val (.int (0 : Int32)), .val (.int (own_kn p0))] [(.int (3 : Int32)), (.int (own_kn p0))])) _
          refine XS.icmpYes X1.here hx rfl (pc0 := 29) (pc' := 43) rfl (hb hby d11_29) rfl (feq hc29_6).2 (by decide) (by decide) ?_
          refine XS.iconst X1.here hx rfl (hb hby d11_43) ?_
          show Steps p.tables e below (T1.setTop (mkF m 44 #[.val (.int p0), .val (.int (0 : Int32)), .val (.int (own_kn p0))] [(.int (0 : Int32))])) _
          exact retN X1 hx (t := .boolean) Bd.returns (by simp) (hb hby d11_44) hr
        · show Q_rmIsEsc0 Z p0 r h0 n0 _ T1.heap _
          rw [e1]
          exact ⟨by rw [hres, if_neg (fun q => q.elim hc7_2 hc14_4)], N1, rfl⟩
theorem ef_rmIsEsc1 (m : MethodId) (p0 : Int32) : entryFrame m #[(.int p0), (.int (1 : Int32))] 3 = mkF m 0 #[.val (.int p0), .val (.int (1 : Int32)), .unset] [] := by first | (simp [entryFrame, mkF, argsToLocals, Value.category]; done) | rfl
theorem d11_25 : decode method_6_code 25 = .ok (.iconst 0, 1) := by decide +kernel
theorem d11_37 : decode method_6_code 37 = .ok (.iconst 1, 1) := by decide +kernel
theorem d11_38 : decode method_6_code 38 = .ok (.goto 4, 3) := by decide +kernel
def Q_rmIsEsc1 (Z : State) (p0 : Int32) (r : Int32) (h0 : Heap) (n0 : Nat) (v : Option Value) (h : Heap) (L : List Loc) : Prop := v = some (.int r) ∧ Fr n0 L ∧ h = h0
set_option maxRecDepth 65536 in
set_option maxHeartbeats 40000000 in
theorem rmIsEsc1 (l : Launch) (Z : State) (a0 : Array Value) (hw : ∀ d ∈ tables_1, d.before a0 Z = true) (ws : List Jvm.Cond) (p0 : Int32) (r : Int32) (h0 : Heap) (n0 : Nat) (Z0 : n0 ≤ h0.size) (hres : r = if own_i1 p0 then 1 else 0) :
    MetFree l (⟨"com/example/abeyance/abeyance/model/Utf8ReaderMalformedAtPinLaw", "isEsc", "(II)Z"⟩ : MethodName) (head1 (Jvm.Cond.code (⟨"com/example/abeyance/abeyance/model/Utf8ReaderMalformedAtPinLaw", "isEsc", "(II)Z"⟩ : MethodName) method_6_code 3 (some .boolean) :: ws) ({ frames := 1, cells := 0, slots := 0, locals := 13 } : Room)) (fun a U => a = #[(.int p0), (.int (1 : Int32))] ∧ Z.Warmed39 U.vm ∧ U.heap = h0) (fun _ _ _ _ _ => True) (fun _ U o U' => ∃ v L, o = .returned v ∧ Q_rmIsEsc1 Z p0 r h0 n0 v U'.heap L ∧ FrameEnd U o U' L ({ frames := 1, cells := 0, slots := 0, locals := 13 } : Room).cells ({ frames := 1, cells := 0, slots := 0, locals := 13 } : Room).slots) := by
  refine MetFree.of_bodySF (plainFor_of_name pn_com_example_abeyance_abeyance_model_Utf8ReaderMalformedAtPinLaw) hisR ?_
  intro p e s m args below meth c s₁ Bd hml0 hP hK
  obtain ⟨rfl, hZ, hh⟩ := hP
  have hx := Bd.exec
  have hby := Bd.bytes
  have hml : c.maxLocals = 3 := hml0
  have hown : s.vm.findClass "com/example/abeyance/abeyance/model/Utf8ReaderMalformedAtPinLaw" = some m.cls := findClass_of_methodNamed Bd.named
  have hnm := (name_of_methodNamed Bd.named Bd.method).1
  have hZo := hZ
  have howno := hown
  have X0 : Stand p l e ({ frames := 1, cells := 0, slots := 0, locals := 13 } : Room) s m #[(.int p0), (.int (1 : Int32))] below meth c s₁ [] 0 0 := Stand.of_body Bd
  have e0 : s₁.heap = h0 := by rw [← hh, Bd.state]; rfl
  have N0 := Fr.nil n0
  have pre0 : ∀ t, Steps p.tables e below (s₁.setTop (mkF m 0 #[.val (.int p0), .val (.int (1 : Int32)), .unset] [])) t → Steps p.tables e below (s₁.setTop (entryFrame m #[(.int p0), (.int (1 : Int32))] 3)) t := fun t k => castTop (ef_rmIsEsc1 m p0 ) k
  obtain ⟨_, _, ⟨T1, L1, k1, n1⟩, -, X1, ⟨Lc1, hQ1, l1, y1, z1⟩, st1⟩ := Jvm.LawKit.callS X0 hx (y := (⟨"com/example/abeyance/abeyance/model/Utf8ReaderMalformedAtPinLaw", "kind", "(I)I"⟩ : MethodName)) hown (mvT hZ (hw _ (List.mem_of_getElem? (i := 45) rfl))) (mvT hZ (hw _ (List.mem_of_getElem? (i := 46) rfl))) (mvT hZ (hw _ (List.mem_of_getElem? (i := 43) rfl))) (mvT hZ (hw _ (List.mem_of_getElem? (i := 47) rfl))) (by decide) (backOf (W := 0) (rmKindL l Z a0 hw [] p0 (own_kn p0) h0 n0 Z0 rfl) hZ (hw _ (List.mem_of_getElem? (i := 47) rfl)) (hw _ (List.mem_of_getElem? (i := 43) rfl)) (by decide) (by decide)) (g := (mkF m 1 #[.val (.int p0), .val (.int (1 : Int32)), .unset] [(.int p0)])) rfl (by rw [hml]; rfl) (argsL := [(.int p0)]) (rest := []) (lenOf pd__I_I rfl) rfl (by show 2 * 0 + _ ≤ _; exact Nat.le_of_eq rfl) (hb hby d11_1) (fun _ _ => ⟨rfl, e0, (by decide : 0 + 0 ≤ _), (by decide : 0 + 0 ≤ _)⟩)
  dsimp only [Pt.U, Pt.locs, Pt.cells, Pt.slots] at X1 l1 y1 z1 st1 hQ1
  subst l1 y1 z1
  obtain ⟨rfl, Nq1, e1⟩ := hQ1
  have N1 := Fr.app N0 Nq1
  have pre3 : ∀ t, Steps p.tables e below (T1.setTop (mkF m 7 #[.val (.int p0), .val (.int (1 : Int32)), .val (.int (own_kn p0))] [(.int (4 : Int32)), (.int (own_kn p0))])) t → Steps p.tables e below (s₁.setTop (entryFrame m #[(.int p0), (.int (1 : Int32))] 3)) t := fun t kt => pre0 t (by
    show Steps p.tables e below (s₁.setTop (mkF m 0 #[.val (.int p0), .val (.int (1 : Int32)), .unset] [])) _
    refine XS.iloadN X0.here hx rfl (hb hby d11_0) rfl  ?_
    show Steps p.tables e below (s₁.setTop (mkF m 1 #[.val (.int p0), .val (.int (1 : Int32)), .unset] [(.int p0)])) _
    refine st1 _ ?_
    show Steps p.tables e below (T1.setTop (mkF m 4 #[.val (.int p0), .val (.int (1 : Int32)), .unset] [(.int (own_kn p0))])) _
    refine XS.istoreN X1.here hx rfl (hb hby d11_4) rfl (l' := #[.val (.int p0), .val (.int (1 : Int32)), .val (.int (own_kn p0))]) rfl ?_
    refine XS.iloadN X1.here hx rfl (hb hby d11_5) rfl  ?_
    refine XS.iconst X1.here hx rfl (hb hby d11_6) ?_
    exact kt)
  by_cases hc7_2 : (own_kn p0) = (4 : Int32)
  · obtain ⟨fs, hr, hrun, hended, hW, hsame⟩ := X1.leave (v := some (.int (1 : Int32))) (fun h => by rw [Bd.returns] at h; cases h)
    refine ⟨_, _, pre3 _ ?_, hrun, hended, _, _, rfl, ?_, ⟨_, rfl⟩, hW, hsame.mono (by decide) (by decide)⟩
    · show Steps p.tables e below (T1.setTop (mkF m 7 #[.val (.int p0), .val (.int (1 : Int32)), .val (.int (own_kn p0))] [(.int (4 : Int32)), (.int (own_kn p0))])) _
      refine XS.icmpNo X1.here hx rfl (hb hby d11_7) rfl (teq hc7_2).2 ?_
      refine XS.iconst X1.here hx rfl (hb hby d11_10) ?_
      show Steps p.tables e below (T1.setTop (mkF m 11 #[.val (.int p0), .val (.int (1 : Int32)), .val (.int (own_kn p0))] [(.int (1 : Int32))])) _
      exact retN X1 hx (t := .boolean) Bd.returns (by simp) (hb hby d11_11) hr
    · show Q_rmIsEsc1 Z p0 r h0 n0 _ T1.heap _
      rw [e1]
      exact ⟨by rw [hres, if_pos (show own_i1 p0 from Or.inl hc7_2)], N1, rfl⟩
  · have pre5 : ∀ t, Steps p.tables e below (T1.setTop (mkF m 14 #[.val (.int p0), .val (.int (1 : Int32)), .val (.int (own_kn p0))] [(.int (2 : Int32)), (.int (own_kn p0))])) t → Steps p.tables e below (s₁.setTop (entryFrame m #[(.int p0), (.int (1 : Int32))] 3)) t := fun t kt => pre3 t (by
      show Steps p.tables e below (T1.setTop (mkF m 7 #[.val (.int p0), .val (.int (1 : Int32)), .val (.int (own_kn p0))] [(.int (4 : Int32)), (.int (own_kn p0))])) _
      refine XS.icmpYes X1.here hx rfl (pc0 := 7) (pc' := 12) rfl (hb hby d11_7) rfl (feq hc7_2).2 (by decide) (by decide) ?_
      refine XS.iloadN X1.here hx rfl (hb hby d11_12) rfl  ?_
      refine XS.iconst X1.here hx rfl (hb hby d11_13) ?_
      exact kt)
    by_cases hc14_4 : (own_kn p0) = (2 : Int32)
    · obtain ⟨fs, hr, hrun, hended, hW, hsame⟩ := X1.leave (v := some (.int (0 : Int32))) (fun h => by rw [Bd.returns] at h; cases h)
      refine ⟨_, _, pre5 _ ?_, hrun, hended, _, _, rfl, ?_, ⟨_, rfl⟩, hW, hsame.mono (by decide) (by decide)⟩
      · show Steps p.tables e below (T1.setTop (mkF m 14 #[.val (.int p0), .val (.int (1 : Int32)), .val (.int (own_kn p0))] [(.int (2 : Int32)), (.int (own_kn p0))])) _
        refine XS.icmpNo X1.here hx rfl (hb hby d11_14) rfl (teq hc14_4).2 ?_
        refine XS.iloadN X1.here hx rfl (hb hby d11_17) rfl  ?_
        show Steps p.tables e below (T1.setTop (mkF m 18 #[.val (.int p0), .val (.int (1 : Int32)), .val (.int (own_kn p0))] [(.int (1 : Int32))])) _
        refine XS.ifYes X1.here hx rfl (pc0 := 18) (pc' := 25) rfl (hb hby d11_18) rfl ((if0 _ _).trans (feq (by decide : ¬ ((1 : Int32) = (0 : Int32)))).2) (by decide) (by decide) ?_
        refine XS.iconst X1.here hx rfl (hb hby d11_25) ?_
        show Steps p.tables e below (T1.setTop (mkF m 26 #[.val (.int p0), .val (.int (1 : Int32)), .val (.int (own_kn p0))] [(.int (0 : Int32))])) _
        exact retN X1 hx (t := .boolean) Bd.returns (by simp) (hb hby d11_26) hr
      · show Q_rmIsEsc1 Z p0 r h0 n0 _ T1.heap _
        rw [e1]
        exact ⟨by rw [hres, if_neg (fun q => q.elim hc7_2 (fun q => by rw [hc14_4] at q; exact absurd q (by decide)))], N1, rfl⟩
    · have pre7 : ∀ t, Steps p.tables e below (T1.setTop (mkF m 29 #[.val (.int p0), .val (.int (1 : Int32)), .val (.int (own_kn p0))] [(.int (3 : Int32)), (.int (own_kn p0))])) t → Steps p.tables e below (s₁.setTop (entryFrame m #[(.int p0), (.int (1 : Int32))] 3)) t := fun t kt => pre5 t (by
        show Steps p.tables e below (T1.setTop (mkF m 14 #[.val (.int p0), .val (.int (1 : Int32)), .val (.int (own_kn p0))] [(.int (2 : Int32)), (.int (own_kn p0))])) _
        refine XS.icmpYes X1.here hx rfl (pc0 := 14) (pc' := 27) rfl (hb hby d11_14) rfl (feq hc14_4).2 (by decide) (by decide) ?_
        refine XS.iloadN X1.here hx rfl (hb hby d11_27) rfl  ?_
        refine XS.iconst X1.here hx rfl (hb hby d11_28) ?_
        exact kt)
      by_cases hc29_6 : (own_kn p0) = (3 : Int32)
      · obtain ⟨fs, hr, hrun, hended, hW, hsame⟩ := X1.leave (v := some (.int (1 : Int32))) (fun h => by rw [Bd.returns] at h; cases h)
        refine ⟨_, _, pre7 _ ?_, hrun, hended, _, _, rfl, ?_, ⟨_, rfl⟩, hW, hsame.mono (by decide) (by decide)⟩
        · show Steps p.tables e below (T1.setTop (mkF m 29 #[.val (.int p0), .val (.int (1 : Int32)), .val (.int (own_kn p0))] [(.int (3 : Int32)), (.int (own_kn p0))])) _
          refine XS.icmpNo X1.here hx rfl (hb hby d11_29) rfl (teq hc29_6).2 ?_
          refine XS.iloadN X1.here hx rfl (hb hby d11_32) rfl  ?_
          refine XS.iconst X1.here hx rfl (hb hby d11_33) ?_
          show Steps p.tables e below (T1.setTop (mkF m 34 #[.val (.int p0), .val (.int (1 : Int32)), .val (.int (own_kn p0))] [(.int (1 : Int32)), (.int (1 : Int32))])) _
          refine XS.icmpNo X1.here hx rfl (hb hby d11_34) rfl (teq (by decide : (1 : Int32) = (1 : Int32))).2 ?_
          refine XS.iconst X1.here hx rfl (hb hby d11_37) ?_
          refine XS.goto X1.here hx rfl (pc0 := 38) (pc' := 42) rfl (hb hby d11_38) (by decide) (by decide) ?_
          show Steps p.tables e below (T1.setTop (mkF m 42 #[.val (.int p0), .val (.int (1 : Int32)), .val (.int (own_kn p0))] [(.int (1 : Int32))])) _
          exact retN X1 hx (t := .boolean) Bd.returns (by simp) (hb hby d11_42) hr
        · show Q_rmIsEsc1 Z p0 r h0 n0 _ T1.heap _
          rw [e1]
          exact ⟨by rw [hres, if_pos (show own_i1 p0 from Or.inr hc29_6)], N1, rfl⟩
      · obtain ⟨fs, hr, hrun, hended, hW, hsame⟩ := X1.leave (v := some (.int (0 : Int32))) (fun h => by rw [Bd.returns] at h; cases h)
        refine ⟨_, _, pre7 _ ?_, hrun, hended, _, _, rfl, ?_, ⟨_, rfl⟩, hW, hsame.mono (by decide) (by decide)⟩
        · show Steps p.tables e below (T1.setTop (mkF m 29 #[.val (.int p0), .val (.int (1 : Int32)), .val (.int (own_kn p0))] [(.int (3 : Int32)), (.int (own_kn p0))])) _
          refine XS.icmpYes X1.here hx rfl (pc0 := 29) (pc' := 43) rfl (hb hby d11_29) rfl (feq hc29_6).2 (by decide) (by decide) ?_
          refine XS.iconst X1.here hx rfl (hb hby d11_43) ?_
          show Steps p.tables e below (T1.setTop (mkF m 44 #[.val (.int p0), .val (.int (1 : Int32)), .val (.int (own_kn p0))] [(.int (0 : Int32))])) _
          exact retN X1 hx (t := .boolean) Bd.returns (by simp) (hb hby d11_44) hr
        · show Q_rmIsEsc1 Z p0 r h0 n0 _ T1.heap _
          rw [e1]
          exact ⟨by rw [hres, if_neg (fun q => q.elim hc7_2 hc29_6)], N1, rfl⟩
theorem ef_rm0 (m : MethodId) (p0 : Int32) (p1 : Int32) (p2 : Int32) (p3 : Int32) : entryFrame m #[(.int p0), (.int p1), (.int p2), (.int p3)] maxLocals = mkF m 0 #[.val (.int p0), .val (.int p1), .val (.int p2), .val (.int p3), .unset, .unset, .unset] [] := by first | (simp [entryFrame, mkF, argsToLocals, Value.category, maxLocals]; done) | rfl
theorem pd___C_V : parseMethodDescriptor "([C)V" = some ⟨[(.array .char)], none⟩ := by decide +kernel
theorem pd__Ljava_lang_CharSequence__I : parseMethodDescriptor "(Ljava/lang/CharSequence;)I" = some ⟨[(.object "java/lang/CharSequence")], some .int⟩ := by decide +kernel
theorem pd__II_C : parseMethodDescriptor "(II)C" = some ⟨[.int, .int], some .char⟩ := by decide +kernel
theorem pd__II_Z : parseMethodDescriptor "(II)Z" = some ⟨[.int, .int], some .boolean⟩ := by decide +kernel
def Q_rm0 (Z : State) (p0 : Int32) (p1 : Int32) (p2 : Int32) (p3 : Int32) (zc : Int32) (fm : Value) (h0 : Heap) (n0 : Nat) (v : Option Value) (h : Heap) (L : List Loc) : Prop := v = some (.int (1 : Int32)) ∧ Fr n0 L
set_option maxRecDepth 65536 in
set_option maxHeartbeats 40000000 in
theorem rm0 (l : Launch) (Z : State) (a0 : Array Value) (hw : ∀ d ∈ tables_1, d.before a0 Z = true) (ws : List Jvm.Cond) (p0 : Int32) (p1 : Int32) (p2 : Int32) (p3 : Int32) (zc : Int32) (fm : Value) (h0 : Heap) (n0 : Nat) (Z0 : n0 ≤ h0.size) (hSt : own_St Z zc fm) (Ol : Old Z n0 h0) (hheld : Jvm.Lit.constHeld Z "java/lang/String" 7) (hcw : Jvm.Lit.compactW.before a0 Z = true) :
    MetFree l x (head1 (Jvm.Cond.code x code maxLocals ret :: ws) room_1) (fun a U => a = #[(.int p0), (.int p1), (.int p2), (.int p3)] ∧ Z.Warmed39 U.vm ∧ U.heap = h0 ∧ U.vm.interned = Z.vm.interned) (fun _ _ _ _ _ => True) (fun _ U o U' => ∃ v L, o = .returned v ∧ Q_rm0 Z p0 p1 p2 p3 zc fm h0 n0 v U'.heap L ∧ ReturnedEndW U o U' L room_1.cells room_1.slots) := by
  refine MetFree.of_bodySF (plainFor_of_name pn_com_example_abeyance_abeyance_model_Utf8ReaderMalformedAtPinLaw) hisR ?_
  intro p e s m args below meth c s₁ Bd hml0 hP hK
  obtain ⟨rfl, hZ, hh, hI⟩ := hP
  have hx := Bd.exec
  have hby := Bd.bytes
  have hml : c.maxLocals = 7 := hml0
  have hown : s.vm.findClass "com/example/abeyance/abeyance/model/Utf8ReaderMalformedAtPinLaw" = some m.cls := findClass_of_methodNamed Bd.named
  have hnm := (name_of_methodNamed Bd.named Bd.method).1
  have hZo := hZ
  have howno := hown
  have X0 : Stand p l e room_1 s m #[(.int p0), (.int p1), (.int p2), (.int p3)] below meth c s₁ [] 0 0 := Stand.of_body Bd
  have e0 : s₁.heap = h0 := by rw [← hh, Bd.state]; rfl
  have N0 := Fr.nil n0
  have pre0 : ∀ t, Steps p.tables e below (s₁.setTop (mkF m 0 #[.val (.int p0), .val (.int p1), .val (.int p2), .val (.int p3), .unset, .unset, .unset] [])) t → Steps p.tables e below (s₁.setTop (entryFrame m #[(.int p0), (.int p1), (.int p2), (.int p3)] maxLocals)) t := fun t k => castTop (ef_rm0 m p0 p1 p2 p3 ) k
  have pre1 : ∀ t, Steps p.tables e below (s₁.setTop (mkF m 5 #[.val (.int p0), .val (.int p1), .val (.int p2), .val (.int p3), .val (.int (p0 &&& (3 : Int32))), .unset, .unset] [])) t → Steps p.tables e below (s₁.setTop (entryFrame m #[(.int p0), (.int p1), (.int p2), (.int p3)] maxLocals)) t := fun t kt => pre0 t (by
    show Steps p.tables e below (s₁.setTop (mkF m 0 #[.val (.int p0), .val (.int p1), .val (.int p2), .val (.int p3), .unset, .unset, .unset] [])) _
    refine XS.iloadN X0.here hx rfl (hb hby at_0) rfl  ?_
    refine XS.iconst X0.here hx rfl (hb hby at_1) ?_
    refine XS.iand X0.here hx rfl (hb hby at_2) rfl ?_
    show Steps p.tables e below (s₁.setTop (mkF m 3 #[.val (.int p0), .val (.int p1), .val (.int p2), .val (.int p3), .unset, .unset, .unset] [(.int (p0 &&& (3 : Int32)))])) _
    refine XS.istore X0.here hx rfl (hb hby at_3) rfl (l' := #[.val (.int p0), .val (.int p1), .val (.int p2), .val (.int p3), .val (.int (p0 &&& (3 : Int32))), .unset, .unset]) rfl ?_
    exact kt)
  obtain ⟨M, hM⟩ : ∃ z, z = (p0 &&& (3 : Int32)) := ⟨_, rfl⟩
  rw [← hM] at pre1
  have pre2 : ∀ t, Steps p.tables e below (s₁.setTop (mkF m 7 #[.val (.int p0), .val (.int p1), .val (.int p2), .val (.int p3), .val (.int M), .unset, .unset] [(.int M)])) t → Steps p.tables e below (s₁.setTop (entryFrame m #[(.int p0), (.int p1), (.int p2), (.int p3)] maxLocals)) t := fun t kt => pre1 t (by
    show Steps p.tables e below (s₁.setTop (mkF m 5 #[.val (.int p0), .val (.int p1), .val (.int p2), .val (.int p3), .val (.int M), .unset, .unset] [])) _
    refine XS.iload X0.here hx rfl (hb hby at_5) rfl  ?_
    exact kt)
  by_cases hM0 : M = (0 : Int32)
  · obtain ⟨T3, h3, k3, X3, e3, E3, A3, st3⟩ := newP X0 hx hZ (hw _ (List.mem_of_getElem? (i := 0) rfl)) e0 (g := (mkF m 11 #[.val (.int p0), .val (.int p1), .val (.int p2), .val (.int p3), .val (.int M), .unset, .unset] [(.int (0 : Int32))])) rfl (hb hby at_11) rfl (by decide) (cap := 0) (by decide) (by decide) (by decide) (by decide)
    obtain ⟨b3, g3⟩ : ∃ z, z = h0.size := ⟨_, rfl⟩
    rw [← g3] at A3 st3
    have ge3 : n0 ≤ b3 := Nat.le_trans Z0 (Nat.le_of_eq g3.symm)
    have V3 : Arv Z h3 b3 k3 .char (0 : Int32) [] (.int (0 : Int32)) := (Arv.new A3 (by decide)).pad (pad_rep [] (.int (0 : Int32)) 0)
    have hM : M = (0 : Int32) := hM0
    obtain ⟨T4, h4, X4, e4, E4, A4, D4, -, st4⟩ := newO X3 hx hZ hown (hw _ (List.mem_of_getElem? (i := 1) rfl)) (hw _ (List.mem_of_getElem? (i := 2) rfl)) (hw _ (List.mem_of_getElem? (i := 3) rfl)) e3 (g := (mkF m 244 #[.val (.int p0), .val (.int p1), .val (.int p2), .val (.int p3), .val (.int M), .val (.ref b3), .val (.int (-1 : Int32))] [])) rfl (hb hby at_244) (by decide) (by decide)
    obtain ⟨b4, g4⟩ : ∃ z, z = h3.size := ⟨_, rfl⟩
    rw [← g4] at A4 D4 st4
    have ne4_b3 : b3 ≠ b4 := Nat.ne_of_lt (Nat.lt_of_lt_of_le V3.lt (Nat.le_of_eq g4.symm))
    have f5 := (Nat.le_trans Z0 E3.1)
    have ge4 : n0 ≤ b4 := Nat.le_trans f5 (Nat.le_of_eq g4.symm)
    have F4_value : Fld Z h4 b4 "java/lang/String" "value" "[B" .null := D4 (Or.inr (hw _ (List.mem_of_getElem? (i := 16) rfl))) (ty := (.array .byte)) (by decide)
    have F4_coder : Fld Z h4 b4 "java/lang/String" "coder" "B" (.int (0 : Int32)) := D4 (Or.inr (hw _ (List.mem_of_getElem? (i := 17) rfl))) (ty := .byte) (by decide)
    have f6 := (V3.ext E4)
    have f7 := (Nat.le_trans f5 E4.1)
    have f8 := ((Ol.ext E3).ext E4)
    obtain ⟨_, _, ⟨T9, L9, k9, n9⟩, -, X9, hS9, hgr9, ⟨Lc9, hQ9, l9, y9, z9⟩, st9⟩ := X4.specialBackS hx (y := (⟨"java/lang/String", "<init>", "([C)V"⟩ : MethodName)) rfl hown (mvT hZ (hw _ (List.mem_of_getElem? (i := 4) rfl))) (mvT hZ (hw _ (List.mem_of_getElem? (i := 5) rfl))) (mvT hZ (hw _ (List.mem_of_getElem? (i := 6) rfl))) (by decide) (own_backI (W := 1) (rmNew0 l Z a0 hw [] b4 b3 zc fm k3 h4 n0 f7 hSt f8 A4 F4_value F4_coder ge4 hheld hcw f6) hI hZ (hw _ (List.mem_of_getElem? (i := 6) rfl)) (hw _ (List.mem_of_getElem? (i := 3) rfl)) (by decide) (by decide)) (g := (mkF m 250 #[.val (.int p0), .val (.int p1), .val (.int p2), .val (.int p3), .val (.int M), .val (.ref b3), .val (.int (-1 : Int32))] [(.ref b3), (.ref b4), (.ref b4)])) rfl (by rw [hml]; rfl) (Steps.refl _) (a := b4) (argsL := [(.ref b3)]) (rest := [(.ref b4)]) (lenOf pd___C_V rfl) rfl (by show 2 * 0 + _ ≤ _; exact Nat.le_of_eq rfl) (hb hby at_250) (fun _ _ => ⟨rfl, e4, (by decide : 2 + 2 ≤ _), (by decide : 4 + 4 ≤ _)⟩)
    dsimp only [Pt.U, Pt.locs, Pt.cells, Pt.slots] at X9 l9 y9 z9 st9 hQ9 hS9 hgr9
    subst l9 y9 z9
    have hZ9 : Z.Warmed39 (s.setVm T9.vm).vm := State.Warmed39.trans hZ hS9.1
    have hown9 : (s.setVm T9.vm).vm.findClass "com/example/abeyance/abeyance/model/Utf8ReaderMalformedAtPinLaw" = some m.cls := (hS9.1.alike.findClass _ _).trans hown
    obtain ⟨rfl, Nq9, K9, hStr⟩ := hQ9
    have N9 := Fr.app N0 Nq9
    have hk9 : T9.heap.size ≤ T9.heap.size := Nat.le_refl _
    have hma : own_ma [] 1 0 = own_mal [] 0 := own_mal_eq [] 1 0 (Nat.le_of_ble_eq_true rfl)
    have f10 := (Nat.le_trans f7 K9.1)
    have f11 := (f8.keep K9 (allS ge4 all0))
    obtain ⟨_, _, ⟨T12, L12, k12, n12⟩, -, X12, ⟨Lc12, hQ12, l12, y12, z12⟩, st12⟩ := Jvm.LawKit.callS X9 hx (y := (⟨"com/example/abeyance/abeyance/model/Utf8Reader", "malformedAt", "(Ljava/lang/CharSequence;)I"⟩ : MethodName)) hown9 (mvT hZ9 (hw _ (List.mem_of_getElem? (i := 22) rfl))) (mvT hZ9 (hw _ (List.mem_of_getElem? (i := 23) rfl))) (mvT hZ9 (hw _ (List.mem_of_getElem? (i := 24) rfl))) (mvT hZ9 (hw _ (List.mem_of_getElem? (i := 25) rfl))) (by decide) (backOf (W := 0) (rmMalAt l Z a0 hw [] b4 zc fm [] (-1 : Int32) T9.heap n0 f10 hSt f11 hStr (Nat.le_of_ble_eq_true rfl) hma.symm) hZ9 (hw _ (List.mem_of_getElem? (i := 25) rfl)) (hw _ (List.mem_of_getElem? (i := 24) rfl)) (by decide) (by decide)) (g := (mkF m 253 #[.val (.int p0), .val (.int p1), .val (.int p2), .val (.int p3), .val (.int M), .val (.ref b3), .val (.int (-1 : Int32))] [(.ref b4)])) rfl (by rw [hml]; rfl) (argsL := [(.ref b4)]) (rest := []) (lenOf pd__Ljava_lang_CharSequence__I rfl) rfl (by show 2 * 0 + _ ≤ _; exact Nat.le_of_eq rfl) (hb hby at_253) (fun _ _ => ⟨rfl, rfl, (by decide : 4 + 0 ≤ _), (by decide : 8 + 0 ≤ _)⟩)
    dsimp only [Pt.U, Pt.locs, Pt.cells, Pt.slots] at X12 l12 y12 z12 st12 hQ12
    subst l12 y12 z12
    obtain ⟨rfl, Nq12, e12⟩ := hQ12
    have N12 := Fr.app N9 Nq12
    obtain ⟨fs, hr, hrun, hended, hEnd⟩ := X12.leaveW hS9 (by rw [e12]; exact hk9) (v := some (.int (1 : Int32))) (fun h => by rw [Bd.returns] at h; cases h)
    refine ⟨_, _, pre2 _ ?_, hrun, hended, _, _, rfl, ?_, hEnd.1, hEnd.2.1, hEnd.2.2.1, hEnd.2.2.2.mono (by decide) (by decide)⟩
    · show Steps p.tables e below (s₁.setTop (mkF m 7 #[.val (.int p0), .val (.int p1), .val (.int p2), .val (.int p3), .val (.int M), .unset, .unset] [(.int M)])) _
      refine XS.ifNo X0.here hx rfl (hb hby at_7) rfl ((if0 _ _).trans (teq hM0).2) ?_
      refine XS.iconst X0.here hx rfl (hb hby at_10) ?_
      show Steps p.tables e below (s₁.setTop (mkF m 11 #[.val (.int p0), .val (.int p1), .val (.int p2), .val (.int p3), .val (.int M), .unset, .unset] [(.int (0 : Int32))])) _
      refine st3 _ ?_
      show Steps p.tables e below (T3.setTop (mkF m 13 #[.val (.int p0), .val (.int p1), .val (.int p2), .val (.int p3), .val (.int M), .unset, .unset] [(.ref b3)])) _
      refine XS.astore X3.here hx rfl (hb hby at_13) rfl rfl (l' := #[.val (.int p0), .val (.int p1), .val (.int p2), .val (.int p3), .val (.int M), .val (.ref b3), .unset]) rfl ?_
      refine XS.goto X3.here hx rfl (pc0 := 15) (pc' := 52) rfl (hb hby at_15) (by decide) (by decide) ?_
      refine XS.iload X3.here hx rfl (hb hby at_52) rfl  ?_
      show Steps p.tables e below (T3.setTop (mkF m 54 #[.val (.int p0), .val (.int p1), .val (.int p2), .val (.int p3), .val (.int M), .val (.ref b3), .unset] [(.int M)])) _
      refine XS.iconst X3.here hx rfl (hb hby at_54) ?_
      show Steps p.tables e below (T3.setTop (mkF m 55 #[.val (.int p0), .val (.int p1), .val (.int p2), .val (.int p3), .val (.int M), .val (.ref b3), .unset] [(.int (1 : Int32)), (.int M)])) _
      refine XS.icmpYes X3.here hx rfl (pc0 := 55) (pc' := 76) rfl (hb hby at_55) rfl (tlt (by rw [hM]; decide)).1 (by decide) (by decide) ?_
      refine XS.iload X3.here hx rfl (hb hby at_76) rfl  ?_
      refine XS.iconst X3.here hx rfl (hb hby at_78) ?_
      show Steps p.tables e below (T3.setTop (mkF m 79 #[.val (.int p0), .val (.int p1), .val (.int p2), .val (.int p3), .val (.int M), .val (.ref b3), .unset] [(.int (2 : Int32)), (.int M)])) _
      refine XS.icmpYes X3.here hx rfl (pc0 := 79) (pc' := 100) rfl (hb hby at_79) rfl (tlt (by rw [hM]; decide)).1 (by decide) (by decide) ?_
      refine XS.iload X3.here hx rfl (hb hby at_100) rfl  ?_
      refine XS.iconst X3.here hx rfl (hb hby at_102) ?_
      show Steps p.tables e below (T3.setTop (mkF m 103 #[.val (.int p0), .val (.int p1), .val (.int p2), .val (.int p3), .val (.int M), .val (.ref b3), .unset] [(.int (3 : Int32)), (.int M)])) _
      refine XS.icmpYes X3.here hx rfl (pc0 := 103) (pc' := 124) rfl (hb hby at_103) rfl (tlt (by rw [hM]; decide)).1 (by decide) (by decide) ?_
      refine XS.iconst X3.here hx rfl (hb hby at_124) ?_
      refine XS.istore X3.here hx rfl (hb hby at_125) rfl (l' := #[.val (.int p0), .val (.int p1), .val (.int p2), .val (.int p3), .val (.int M), .val (.ref b3), .val (.int (-1 : Int32))]) rfl ?_
      show Steps p.tables e below (T3.setTop (mkF m 127 #[.val (.int p0), .val (.int p1), .val (.int p2), .val (.int p3), .val (.int M), .val (.ref b3), .val (.int (-1 : Int32))] [])) _
      refine XS.iload X3.here hx rfl (hb hby at_127) rfl  ?_
      refine XS.iconst X3.here hx rfl (hb hby at_129) ?_
      show Steps p.tables e below (T3.setTop (mkF m 130 #[.val (.int p0), .val (.int p1), .val (.int p2), .val (.int p3), .val (.int M), .val (.ref b3), .val (.int (-1 : Int32))] [(.int (1 : Int32)), (.int M)])) _
      refine XS.icmpYes X3.here hx rfl (pc0 := 130) (pc' := 147) rfl (hb hby at_130) rfl (tlt (by rw [hM]; decide)).1 (by decide) (by decide) ?_
      refine XS.iload X3.here hx rfl (hb hby at_147) rfl  ?_
      refine XS.iconst X3.here hx rfl (hb hby at_149) ?_
      show Steps p.tables e below (T3.setTop (mkF m 150 #[.val (.int p0), .val (.int p1), .val (.int p2), .val (.int p3), .val (.int M), .val (.ref b3), .val (.int (-1 : Int32))] [(.int (1 : Int32)), (.int M)])) _
      refine XS.icmpYes X3.here hx rfl (pc0 := 150) (pc' := 167) rfl (hb hby at_150) rfl (tlt (by rw [hM]; decide)).1 (by decide) (by decide) ?_
      refine XS.iload X3.here hx rfl (hb hby at_167) rfl  ?_
      refine XS.iconst X3.here hx rfl (hb hby at_169) ?_
      show Steps p.tables e below (T3.setTop (mkF m 170 #[.val (.int p0), .val (.int p1), .val (.int p2), .val (.int p3), .val (.int M), .val (.ref b3), .val (.int (-1 : Int32))] [(.int (2 : Int32)), (.int M)])) _
      refine XS.icmpYes X3.here hx rfl (pc0 := 170) (pc' := 187) rfl (hb hby at_170) rfl (tlt (by rw [hM]; decide)).1 (by decide) (by decide) ?_
      refine XS.iload X3.here hx rfl (hb hby at_187) rfl  ?_
      refine XS.iconst X3.here hx rfl (hb hby at_189) ?_
      show Steps p.tables e below (T3.setTop (mkF m 190 #[.val (.int p0), .val (.int p1), .val (.int p2), .val (.int p3), .val (.int M), .val (.ref b3), .val (.int (-1 : Int32))] [(.int (2 : Int32)), (.int M)])) _
      refine XS.icmpYes X3.here hx rfl (pc0 := 190) (pc' := 207) rfl (hb hby at_190) rfl (tlt (by rw [hM]; decide)).1 (by decide) (by decide) ?_
      refine XS.iload X3.here hx rfl (hb hby at_207) rfl  ?_
      refine XS.iconst X3.here hx rfl (hb hby at_209) ?_
      show Steps p.tables e below (T3.setTop (mkF m 210 #[.val (.int p0), .val (.int p1), .val (.int p2), .val (.int p3), .val (.int M), .val (.ref b3), .val (.int (-1 : Int32))] [(.int (3 : Int32)), (.int M)])) _
      refine XS.icmpYes X3.here hx rfl (pc0 := 210) (pc' := 227) rfl (hb hby at_210) rfl (tlt (by rw [hM]; decide)).1 (by decide) (by decide) ?_
      refine XS.iload X3.here hx rfl (hb hby at_227) rfl  ?_
      refine XS.iconst X3.here hx rfl (hb hby at_229) ?_
      show Steps p.tables e below (T3.setTop (mkF m 230 #[.val (.int p0), .val (.int p1), .val (.int p2), .val (.int p3), .val (.int M), .val (.ref b3), .val (.int (-1 : Int32))] [(.int (3 : Int32)), (.int M)])) _
      refine XS.icmpYes X3.here hx rfl (pc0 := 230) (pc' := 244) rfl (hb hby at_230) rfl (tlt (by rw [hM]; decide)).1 (by decide) (by decide) ?_
      show Steps p.tables e below (T3.setTop (mkF m 244 #[.val (.int p0), .val (.int p1), .val (.int p2), .val (.int p3), .val (.int M), .val (.ref b3), .val (.int (-1 : Int32))] [])) _
      refine st4 _ ?_
      show Steps p.tables e below (T4.setTop (mkF m 247 #[.val (.int p0), .val (.int p1), .val (.int p2), .val (.int p3), .val (.int M), .val (.ref b3), .val (.int (-1 : Int32))] [(.ref b4)])) _
      refine XS.dup X4.here hx rfl (hb hby at_247) rfl rfl ?_
      refine XS.aload X4.here hx rfl (hb hby at_248) rfl rfl ?_
      show Steps p.tables e below (T4.setTop (mkF m 250 #[.val (.int p0), .val (.int p1), .val (.int p2), .val (.int p3), .val (.int M), .val (.ref b3), .val (.int (-1 : Int32))] [(.ref b3), (.ref b4), (.ref b4)])) _
      refine st9.trans ?_
      show Steps p.tables e below (T9.setTop (mkF m 253 #[.val (.int p0), .val (.int p1), .val (.int p2), .val (.int p3), .val (.int M), .val (.ref b3), .val (.int (-1 : Int32))] [(.ref b4)])) _
      refine st12 _ ?_
      show Steps p.tables e below (T12.setTop (mkF m 256 #[.val (.int p0), .val (.int p1), .val (.int p2), .val (.int p3), .val (.int M), .val (.ref b3), .val (.int (-1 : Int32))] [(.int (-1 : Int32))])) _
      refine XS.iload X12.here hx rfl (hb hby at_256) rfl  ?_
      show Steps p.tables e below (T12.setTop (mkF m 258 #[.val (.int p0), .val (.int p1), .val (.int p2), .val (.int p3), .val (.int M), .val (.ref b3), .val (.int (-1 : Int32))] [(.int (-1 : Int32)), (.int (-1 : Int32))])) _
      refine XS.icmpNo X12.here hx rfl (hb hby at_258) rfl (teq (by decide : (-1 : Int32) = (-1 : Int32))).2 ?_
      refine XS.iconst X12.here hx rfl (hb hby at_261) ?_
      refine XS.goto X12.here hx rfl (pc0 := 262) (pc' := 266) rfl (hb hby at_262) (by decide) (by decide) ?_
      show Steps p.tables e below (T12.setTop (mkF m 266 #[.val (.int p0), .val (.int p1), .val (.int p2), .val (.int p3), .val (.int M), .val (.ref b3), .val (.int (-1 : Int32))] [(.int (1 : Int32))])) _
      exact retN X12 hx (t := .boolean) Bd.returns (by simp) (hb hby at_266) hr
    · show Q_rm0 Z p0 p1 p2 p3 zc fm h0 n0 _ T12.heap _
      rw [e12]
      exact ⟨rfl, N12⟩
  · have pre13 : ∀ t, Steps p.tables e below (s₁.setTop (mkF m 21 #[.val (.int p0), .val (.int p1), .val (.int p2), .val (.int p3), .val (.int M), .unset, .unset] [(.int (1 : Int32)), (.int M)])) t → Steps p.tables e below (s₁.setTop (entryFrame m #[(.int p0), (.int p1), (.int p2), (.int p3)] maxLocals)) t := fun t kt => pre2 t (by
      show Steps p.tables e below (s₁.setTop (mkF m 7 #[.val (.int p0), .val (.int p1), .val (.int p2), .val (.int p3), .val (.int M), .unset, .unset] [(.int M)])) _
      refine XS.ifYes X0.here hx rfl (pc0 := 7) (pc' := 18) rfl (hb hby at_7) rfl ((if0 _ _).trans (feq hM0).2) (by decide) (by decide) ?_
      refine XS.iload X0.here hx rfl (hb hby at_18) rfl  ?_
      refine XS.iconst X0.here hx rfl (hb hby at_20) ?_
      exact kt)
    by_cases hM1 : M = (1 : Int32)
    · obtain ⟨T14, h14, k14, X14, e14, E14, A14, st14⟩ := newP X0 hx hZ (hw _ (List.mem_of_getElem? (i := 0) rfl)) e0 (g := (mkF m 25 #[.val (.int p0), .val (.int p1), .val (.int p2), .val (.int p3), .val (.int M), .unset, .unset] [(.int (2 : Int32))])) rfl (hb hby at_25) rfl (by decide) (cap := 2) (by decide) (by decide) (by decide) (by decide)
      obtain ⟨b14, g14⟩ : ∃ z, z = h0.size := ⟨_, rfl⟩
      rw [← g14] at A14 st14
      have ge14 : n0 ≤ b14 := Nat.le_trans Z0 (Nat.le_of_eq g14.symm)
      have V14 : Arv Z h14 b14 k14 .char (2 : Int32) [(.int (0 : Int32)), (.int (0 : Int32))] (.int (0 : Int32)) := (Arv.new A14 (by decide)).pad (pad_rep [] (.int (0 : Int32)) 2)
      have hM : M = (1 : Int32) := hM1
      have f15 := (Nat.le_trans Z0 E14.1)
      obtain ⟨_, _, ⟨T16, L16, k16, n16⟩, -, X16, ⟨Lc16, hQ16, l16, y16, z16⟩, st16⟩ := Jvm.LawKit.callS X14 hx (y := (⟨"com/example/abeyance/abeyance/model/Utf8ReaderMalformedAtPinLaw", "unit", "(II)C"⟩ : MethodName)) hown (mvT hZ (hw _ (List.mem_of_getElem? (i := 41) rfl))) (mvT hZ (hw _ (List.mem_of_getElem? (i := 42) rfl))) (mvT hZ (hw _ (List.mem_of_getElem? (i := 43) rfl))) (mvT hZ (hw _ (List.mem_of_getElem? (i := 44) rfl))) (by decide) (backOf (W := 2) (rmUnit0 l Z a0 hw [] p1 (own_u0 p1) h14 n0 f15 rfl) hZ (hw _ (List.mem_of_getElem? (i := 44) rfl)) (hw _ (List.mem_of_getElem? (i := 43) rfl)) (by decide) (by decide)) (g := (mkF m 63 #[.val (.int p0), .val (.int p1), .val (.int p2), .val (.int p3), .val (.int M), .val (.ref b14), .unset] [(.int (0 : Int32)), (.int p1), (.int (0 : Int32)), (.ref b14)])) rfl (by rw [hml]; rfl) (argsL := [(.int p1), (.int (0 : Int32))]) (rest := [(.int (0 : Int32)), (.ref b14)]) (lenOf pd__II_C rfl) rfl (by show 2 * 0 + _ ≤ _; exact Nat.le_of_eq rfl) (hb hby at_63) (fun _ _ => ⟨rfl, e14, (by decide : 1 + 0 ≤ _), (by decide : 2 + 0 ≤ _)⟩)
      dsimp only [Pt.U, Pt.locs, Pt.cells, Pt.slots] at X16 l16 y16 z16 st16 hQ16
      subst l16 y16 z16
      obtain ⟨rfl, Nq16, e16⟩ := hQ16
      have N16 := Fr.app N0 Nq16
      obtain ⟨cl17, Ar17, q17, S17, N17, H17, G17⟩ := id V14
      have hin17 : ¬ ((0 : Int32) < 0 ∨ cl17.slots.size ≤ ((0 : Int32)).toNatClampNeg) := inb_of S17 ⟨by decide, by decide⟩
      obtain ⟨T18, h18, X18, e18, W18, st18⟩ := stC X16 hx hZ e16 Ar17 (j := (0 : Int32)) hin17 (g := (mkF m 66 #[.val (.int p0), .val (.int p1), .val (.int p2), .val (.int p3), .val (.int M), .val (.ref b14), .unset] [(.int (own_u0 p1)), (.int (0 : Int32)), (.ref b14)])) rfl rfl (hb hby at_66)
      have N18 := Fr.snoc X18 N16 ge14
      have V18 : Arv Z h18 b14 k14 .char (2 : Int32) [(.int (own_v0 p1)), (.int (0 : Int32))] (.int (0 : Int32)) := Arv.set Ar17 q17 S17 N17 H17 G17 (fits_nar_char _) W18 0 rfl (Nat.le_of_ble_eq_true rfl)
      have f19 := (Nat.le_trans f15 (Keep.of_wr W18).1)
      obtain ⟨_, _, ⟨T20, L20, k20, n20⟩, -, X20, ⟨Lc20, hQ20, l20, y20, z20⟩, st20⟩ := Jvm.LawKit.callS X18 hx (y := (⟨"com/example/abeyance/abeyance/model/Utf8ReaderMalformedAtPinLaw", "unit", "(II)C"⟩ : MethodName)) hown (mvT hZ (hw _ (List.mem_of_getElem? (i := 41) rfl))) (mvT hZ (hw _ (List.mem_of_getElem? (i := 42) rfl))) (mvT hZ (hw _ (List.mem_of_getElem? (i := 43) rfl))) (mvT hZ (hw _ (List.mem_of_getElem? (i := 44) rfl))) (by decide) (backOf (W := 2) (rmUnit1 l Z a0 hw [] p1 (own_u1 p1) h18 n0 f19 rfl) hZ (hw _ (List.mem_of_getElem? (i := 44) rfl)) (hw _ (List.mem_of_getElem? (i := 43) rfl)) (by decide) (by decide)) (g := (mkF m 72 #[.val (.int p0), .val (.int p1), .val (.int p2), .val (.int p3), .val (.int M), .val (.ref b14), .unset] [(.int (1 : Int32)), (.int p1), (.int (1 : Int32)), (.ref b14)])) rfl (by rw [hml]; rfl) (argsL := [(.int p1), (.int (1 : Int32))]) (rest := [(.int (1 : Int32)), (.ref b14)]) (lenOf pd__II_C rfl) rfl (by show 2 * 0 + _ ≤ _; exact Nat.le_of_eq rfl) (hb hby at_72) (fun _ _ => ⟨rfl, e18, (by decide : 1 + 0 ≤ _), (by decide : 2 + 0 ≤ _)⟩)
      dsimp only [Pt.U, Pt.locs, Pt.cells, Pt.slots] at X20 l20 y20 z20 st20 hQ20
      subst l20 y20 z20
      obtain ⟨rfl, Nq20, e20⟩ := hQ20
      have N20 := Fr.app N18 Nq20
      obtain ⟨cl21, Ar21, q21, S21, N21, H21, G21⟩ := id V18
      have hin21 : ¬ ((1 : Int32) < 0 ∨ cl21.slots.size ≤ ((1 : Int32)).toNatClampNeg) := inb_of S21 ⟨by decide, by decide⟩
      obtain ⟨T22, h22, X22, e22, W22, st22⟩ := stC X20 hx hZ e20 Ar21 (j := (1 : Int32)) hin21 (g := (mkF m 75 #[.val (.int p0), .val (.int p1), .val (.int p2), .val (.int p3), .val (.int M), .val (.ref b14), .unset] [(.int (own_u1 p1)), (.int (1 : Int32)), (.ref b14)])) rfl rfl (hb hby at_75)
      have N22 := Fr.snoc X22 N20 ge14
      have V22 : Arv Z h22 b14 k14 .char (2 : Int32) [(.int (own_v0 p1)), (.int (own_v1 p1))] (.int (0 : Int32)) := Arv.set Ar21 q21 S21 N21 H21 G21 (fits_nar_char _) W22 1 rfl (Nat.le_of_ble_eq_true rfl)
      have pre23 : ∀ t, Steps p.tables e below (T22.setTop (mkF m 133 #[.val (.int p0), .val (.int p1), .val (.int p2), .val (.int p3), .val (.int M), .val (.ref b14), .val (.int (-1 : Int32))] [])) t → Steps p.tables e below (s₁.setTop (entryFrame m #[(.int p0), (.int p1), (.int p2), (.int p3)] maxLocals)) t := fun t kt => pre13 t (by
        show Steps p.tables e below (s₁.setTop (mkF m 21 #[.val (.int p0), .val (.int p1), .val (.int p2), .val (.int p3), .val (.int M), .unset, .unset] [(.int (1 : Int32)), (.int M)])) _
        refine XS.icmpNo X0.here hx rfl (hb hby at_21) rfl (teq hM1).2 ?_
        refine XS.iconst X0.here hx rfl (hb hby at_24) ?_
        show Steps p.tables e below (s₁.setTop (mkF m 25 #[.val (.int p0), .val (.int p1), .val (.int p2), .val (.int p3), .val (.int M), .unset, .unset] [(.int (2 : Int32))])) _
        refine st14 _ ?_
        show Steps p.tables e below (T14.setTop (mkF m 27 #[.val (.int p0), .val (.int p1), .val (.int p2), .val (.int p3), .val (.int M), .unset, .unset] [(.ref b14)])) _
        refine XS.astore X14.here hx rfl (hb hby at_27) rfl rfl (l' := #[.val (.int p0), .val (.int p1), .val (.int p2), .val (.int p3), .val (.int M), .val (.ref b14), .unset]) rfl ?_
        refine XS.goto X14.here hx rfl (pc0 := 29) (pc' := 52) rfl (hb hby at_29) (by decide) (by decide) ?_
        refine XS.iload X14.here hx rfl (hb hby at_52) rfl  ?_
        show Steps p.tables e below (T14.setTop (mkF m 54 #[.val (.int p0), .val (.int p1), .val (.int p2), .val (.int p3), .val (.int M), .val (.ref b14), .unset] [(.int M)])) _
        refine XS.iconst X14.here hx rfl (hb hby at_54) ?_
        show Steps p.tables e below (T14.setTop (mkF m 55 #[.val (.int p0), .val (.int p1), .val (.int p2), .val (.int p3), .val (.int M), .val (.ref b14), .unset] [(.int (1 : Int32)), (.int M)])) _
        refine XS.icmpNo X14.here hx rfl (hb hby at_55) rfl (flt (by rw [hM]; decide)).1 ?_
        refine XS.aload X14.here hx rfl (hb hby at_58) rfl rfl ?_
        refine XS.iconst X14.here hx rfl (hb hby at_60) ?_
        show Steps p.tables e below (T14.setTop (mkF m 61 #[.val (.int p0), .val (.int p1), .val (.int p2), .val (.int p3), .val (.int M), .val (.ref b14), .unset] [(.int (0 : Int32)), (.ref b14)])) _
        refine XS.iloadN X14.here hx rfl (hb hby at_61) rfl  ?_
        refine XS.iconst X14.here hx rfl (hb hby at_62) ?_
        show Steps p.tables e below (T14.setTop (mkF m 63 #[.val (.int p0), .val (.int p1), .val (.int p2), .val (.int p3), .val (.int M), .val (.ref b14), .unset] [(.int (0 : Int32)), (.int p1), (.int (0 : Int32)), (.ref b14)])) _
        refine st16 _ ?_
        show Steps p.tables e below (T16.setTop (mkF m 66 #[.val (.int p0), .val (.int p1), .val (.int p2), .val (.int p3), .val (.int M), .val (.ref b14), .unset] [(.int (own_u0 p1)), (.int (0 : Int32)), (.ref b14)])) _
        refine st18 _ ?_
        show Steps p.tables e below (T18.setTop (mkF m 67 #[.val (.int p0), .val (.int p1), .val (.int p2), .val (.int p3), .val (.int M), .val (.ref b14), .unset] [])) _
        refine XS.aload X18.here hx rfl (hb hby at_67) rfl rfl ?_
        refine XS.iconst X18.here hx rfl (hb hby at_69) ?_
        refine XS.iloadN X18.here hx rfl (hb hby at_70) rfl  ?_
        show Steps p.tables e below (T18.setTop (mkF m 71 #[.val (.int p0), .val (.int p1), .val (.int p2), .val (.int p3), .val (.int M), .val (.ref b14), .unset] [(.int p1), (.int (1 : Int32)), (.ref b14)])) _
        refine XS.iconst X18.here hx rfl (hb hby at_71) ?_
        show Steps p.tables e below (T18.setTop (mkF m 72 #[.val (.int p0), .val (.int p1), .val (.int p2), .val (.int p3), .val (.int M), .val (.ref b14), .unset] [(.int (1 : Int32)), (.int p1), (.int (1 : Int32)), (.ref b14)])) _
        refine st20 _ ?_
        show Steps p.tables e below (T20.setTop (mkF m 75 #[.val (.int p0), .val (.int p1), .val (.int p2), .val (.int p3), .val (.int M), .val (.ref b14), .unset] [(.int (own_u1 p1)), (.int (1 : Int32)), (.ref b14)])) _
        refine st22 _ ?_
        show Steps p.tables e below (T22.setTop (mkF m 76 #[.val (.int p0), .val (.int p1), .val (.int p2), .val (.int p3), .val (.int M), .val (.ref b14), .unset] [])) _
        refine XS.iload X22.here hx rfl (hb hby at_76) rfl  ?_
        refine XS.iconst X22.here hx rfl (hb hby at_78) ?_
        show Steps p.tables e below (T22.setTop (mkF m 79 #[.val (.int p0), .val (.int p1), .val (.int p2), .val (.int p3), .val (.int M), .val (.ref b14), .unset] [(.int (2 : Int32)), (.int M)])) _
        refine XS.icmpYes X22.here hx rfl (pc0 := 79) (pc' := 100) rfl (hb hby at_79) rfl (tlt (by rw [hM]; decide)).1 (by decide) (by decide) ?_
        refine XS.iload X22.here hx rfl (hb hby at_100) rfl  ?_
        refine XS.iconst X22.here hx rfl (hb hby at_102) ?_
        show Steps p.tables e below (T22.setTop (mkF m 103 #[.val (.int p0), .val (.int p1), .val (.int p2), .val (.int p3), .val (.int M), .val (.ref b14), .unset] [(.int (3 : Int32)), (.int M)])) _
        refine XS.icmpYes X22.here hx rfl (pc0 := 103) (pc' := 124) rfl (hb hby at_103) rfl (tlt (by rw [hM]; decide)).1 (by decide) (by decide) ?_
        refine XS.iconst X22.here hx rfl (hb hby at_124) ?_
        refine XS.istore X22.here hx rfl (hb hby at_125) rfl (l' := #[.val (.int p0), .val (.int p1), .val (.int p2), .val (.int p3), .val (.int M), .val (.ref b14), .val (.int (-1 : Int32))]) rfl ?_
        show Steps p.tables e below (T22.setTop (mkF m 127 #[.val (.int p0), .val (.int p1), .val (.int p2), .val (.int p3), .val (.int M), .val (.ref b14), .val (.int (-1 : Int32))] [])) _
        refine XS.iload X22.here hx rfl (hb hby at_127) rfl  ?_
        refine XS.iconst X22.here hx rfl (hb hby at_129) ?_
        show Steps p.tables e below (T22.setTop (mkF m 130 #[.val (.int p0), .val (.int p1), .val (.int p2), .val (.int p3), .val (.int M), .val (.ref b14), .val (.int (-1 : Int32))] [(.int (1 : Int32)), (.int M)])) _
        refine XS.icmpNo X22.here hx rfl (hb hby at_130) rfl (flt (by rw [hM]; decide)).1 ?_
        exact kt)
      by_cases hi0_p1 : own_i0 p1
      · have f24 := (Nat.le_trans f19 (Keep.of_wr W22).1)
        obtain ⟨_, _, ⟨T25, L25, k25, n25⟩, -, X25, ⟨Lc25, hQ25, l25, y25, z25⟩, st25⟩ := Jvm.LawKit.callS X22 hx (y := (⟨"com/example/abeyance/abeyance/model/Utf8ReaderMalformedAtPinLaw", "isEsc", "(II)Z"⟩ : MethodName)) hown (mvT hZ (hw _ (List.mem_of_getElem? (i := 57) rfl))) (mvT hZ (hw _ (List.mem_of_getElem? (i := 58) rfl))) (mvT hZ (hw _ (List.mem_of_getElem? (i := 43) rfl))) (mvT hZ (hw _ (List.mem_of_getElem? (i := 59) rfl))) (by decide) (backOf (W := 0) (rmIsEsc0 l Z a0 hw [] p1 (1 : Int32) h22 n0 f24 (if_pos hi0_p1).symm) hZ (hw _ (List.mem_of_getElem? (i := 59) rfl)) (hw _ (List.mem_of_getElem? (i := 43) rfl)) (by decide) (by decide)) (g := (mkF m 135 #[.val (.int p0), .val (.int p1), .val (.int p2), .val (.int p3), .val (.int M), .val (.ref b14), .val (.int (-1 : Int32))] [(.int (0 : Int32)), (.int p1)])) rfl (by rw [hml]; rfl) (argsL := [(.int p1), (.int (0 : Int32))]) (rest := []) (lenOf pd__II_Z rfl) rfl (by show 2 * 0 + _ ≤ _; exact Nat.le_of_eq rfl) (hb hby at_135) (fun _ _ => ⟨rfl, e22, (by decide : 1 + 0 ≤ _), (by decide : 2 + 0 ≤ _)⟩)
        dsimp only [Pt.U, Pt.locs, Pt.cells, Pt.slots] at X25 l25 y25 z25 st25 hQ25
        subst l25 y25 z25
        obtain ⟨rfl, Nq25, e25⟩ := hQ25
        have N25 := Fr.app N22 Nq25
        obtain ⟨T26, h26, X26, e26, E26, A26, D26, -, st26⟩ := newO X25 hx hZ hown (hw _ (List.mem_of_getElem? (i := 1) rfl)) (hw _ (List.mem_of_getElem? (i := 2) rfl)) (hw _ (List.mem_of_getElem? (i := 3) rfl)) e25 (g := (mkF m 244 #[.val (.int p0), .val (.int p1), .val (.int p2), .val (.int p3), .val (.int M), .val (.ref b14), .val (.int (0 : Int32))] [])) rfl (hb hby at_244) (by decide) (by decide)
        obtain ⟨b26, g26⟩ : ∃ z, z = h22.size := ⟨_, rfl⟩
        rw [← g26] at A26 D26 st26
        have ne26_b14 : b14 ≠ b26 := Nat.ne_of_lt (Nat.lt_of_lt_of_le V22.lt (Nat.le_of_eq g26.symm))
        have ge26 : n0 ≤ b26 := Nat.le_trans f24 (Nat.le_of_eq g26.symm)
        have F26_value : Fld Z h26 b26 "java/lang/String" "value" "[B" .null := D26 (Or.inr (hw _ (List.mem_of_getElem? (i := 16) rfl))) (ty := (.array .byte)) (by decide)
        have F26_coder : Fld Z h26 b26 "java/lang/String" "coder" "B" (.int (0 : Int32)) := D26 (Or.inr (hw _ (List.mem_of_getElem? (i := 17) rfl))) (ty := .byte) (by decide)
        have f27 := (V22.ext E26)
        have f28 := (Nat.le_trans f24 E26.1)
        have f29 := ((((Ol.ext E14).wr W18 ge14).wr W22 ge14).ext E26)
        obtain ⟨_, _, ⟨T30, L30, k30, n30⟩, -, X30, ⟨Lc30, hQ30, l30, y30, z30⟩, st30⟩ := X26.specialBack hx (y := (⟨"java/lang/String", "<init>", "([C)V"⟩ : MethodName)) rfl hown (mvT hZ (hw _ (List.mem_of_getElem? (i := 4) rfl))) (mvT hZ (hw _ (List.mem_of_getElem? (i := 5) rfl))) (mvT hZ (hw _ (List.mem_of_getElem? (i := 6) rfl))) (by decide) (backOf (W := 1) (rmNew2 l Z a0 hw [] b26 b14 zc fm k14 ((own_v0 p1)) ((own_v1 p1)) h26 n0 f28 hSt f29 A26 F26_value F26_coder ge26 f27 (own_allc (own_vr _) (own_allc (own_vr _) (fun _ q => nomatch q)))) hZ (hw _ (List.mem_of_getElem? (i := 6) rfl)) (hw _ (List.mem_of_getElem? (i := 3) rfl)) (by decide) (by decide)) (g := (mkF m 250 #[.val (.int p0), .val (.int p1), .val (.int p2), .val (.int p3), .val (.int M), .val (.ref b14), .val (.int (0 : Int32))] [(.ref b14), (.ref b26), (.ref b26)])) rfl (by rw [hml]; rfl) (Steps.refl _) (a := b26) (argsL := [(.ref b14)]) (rest := [(.ref b26)]) (lenOf pd___C_V rfl) rfl (by show 2 * 0 + _ ≤ _; exact Nat.le_of_eq rfl) (hb hby at_250) (fun _ _ => ⟨rfl, e26, (by decide : 2 + 2 ≤ _), (by decide : 6 + 6 ≤ _)⟩)
        dsimp only [Pt.U, Pt.locs, Pt.cells, Pt.slots] at X30 l30 y30 z30 st30 hQ30
        subst l30 y30 z30
        obtain ⟨rfl, Nq30, K30, hStr⟩ := hQ30
        have N30 := Fr.app N25 Nq30
        have hma : own_ma [own_v0 p1, own_v1 p1] 3 0 = own_mal [own_v0 p1, own_v1 p1] 0 := own_mal_eq [own_v0 p1, own_v1 p1] 3 0 (Nat.le_of_ble_eq_true rfl)
        have f31 := (Nat.le_trans f28 K30.1)
        have f32 := (f29.keep K30 (allS ge26 all0))
        obtain ⟨_, _, ⟨T33, L33, k33, n33⟩, -, X33, ⟨Lc33, hQ33, l33, y33, z33⟩, st33⟩ := Jvm.LawKit.callS X30 hx (y := (⟨"com/example/abeyance/abeyance/model/Utf8Reader", "malformedAt", "(Ljava/lang/CharSequence;)I"⟩ : MethodName)) hown (mvT hZ (hw _ (List.mem_of_getElem? (i := 22) rfl))) (mvT hZ (hw _ (List.mem_of_getElem? (i := 23) rfl))) (mvT hZ (hw _ (List.mem_of_getElem? (i := 24) rfl))) (mvT hZ (hw _ (List.mem_of_getElem? (i := 25) rfl))) (by decide) (backOf (W := 0) (rmMalAt l Z a0 hw [] b26 zc fm [own_v0 p1, own_v1 p1] (0 : Int32) T30.heap n0 f31 hSt f32 hStr (Nat.le_of_ble_eq_true rfl) (hma.trans ((own_pairU p1 [] 0).1 hi0_p1)).symm) hZ (hw _ (List.mem_of_getElem? (i := 25) rfl)) (hw _ (List.mem_of_getElem? (i := 24) rfl)) (by decide) (by decide)) (g := (mkF m 253 #[.val (.int p0), .val (.int p1), .val (.int p2), .val (.int p3), .val (.int M), .val (.ref b14), .val (.int (0 : Int32))] [(.ref b26)])) rfl (by rw [hml]; rfl) (argsL := [(.ref b26)]) (rest := []) (lenOf pd__Ljava_lang_CharSequence__I rfl) rfl (by show 2 * 0 + _ ≤ _; exact Nat.le_of_eq rfl) (hb hby at_253) (fun _ _ => ⟨rfl, rfl, (by decide : 4 + 0 ≤ _), (by decide : 12 + 0 ≤ _)⟩)
        dsimp only [Pt.U, Pt.locs, Pt.cells, Pt.slots] at X33 l33 y33 z33 st33 hQ33
        subst l33 y33 z33
        obtain ⟨rfl, Nq33, e33⟩ := hQ33
        have N33 := Fr.app N30 Nq33
        obtain ⟨fs, hr, hrun, hended, hW, hsame⟩ := X33.leave (v := some (.int (1 : Int32))) (fun h => by rw [Bd.returns] at h; cases h)
        refine ⟨_, _, pre23 _ ?_, hrun, hended, _, _, rfl, ?_, ReturnedEndW.of_narrow ⟨_, rfl⟩ hW (hsame.mono (by decide) (by decide))⟩
        · show Steps p.tables e below (T22.setTop (mkF m 133 #[.val (.int p0), .val (.int p1), .val (.int p2), .val (.int p3), .val (.int M), .val (.ref b14), .val (.int (-1 : Int32))] [])) _
          refine XS.iloadN X22.here hx rfl (hb hby at_133) rfl  ?_
          refine XS.iconst X22.here hx rfl (hb hby at_134) ?_
          show Steps p.tables e below (T22.setTop (mkF m 135 #[.val (.int p0), .val (.int p1), .val (.int p2), .val (.int p3), .val (.int M), .val (.ref b14), .val (.int (-1 : Int32))] [(.int (0 : Int32)), (.int p1)])) _
          refine st25 _ ?_
          show Steps p.tables e below (T25.setTop (mkF m 138 #[.val (.int p0), .val (.int p1), .val (.int p2), .val (.int p3), .val (.int M), .val (.ref b14), .val (.int (-1 : Int32))] [(.int (1 : Int32))])) _
          refine XS.ifNo X25.here hx rfl (hb hby at_138) rfl ((if0 _ _).trans (feq (by decide : ¬ ((1 : Int32) = (0 : Int32)))).1) ?_
          refine XS.iconst X25.here hx rfl (hb hby at_141) ?_
          refine XS.istore X25.here hx rfl (hb hby at_142) rfl (l' := #[.val (.int p0), .val (.int p1), .val (.int p2), .val (.int p3), .val (.int M), .val (.ref b14), .val (.int (0 : Int32))]) rfl ?_
          show Steps p.tables e below (T25.setTop (mkF m 144 #[.val (.int p0), .val (.int p1), .val (.int p2), .val (.int p3), .val (.int M), .val (.ref b14), .val (.int (0 : Int32))] [])) _
          refine XS.goto X25.here hx rfl (pc0 := 144) (pc' := 244) rfl (hb hby at_144) (by decide) (by decide) ?_
          show Steps p.tables e below (T25.setTop (mkF m 244 #[.val (.int p0), .val (.int p1), .val (.int p2), .val (.int p3), .val (.int M), .val (.ref b14), .val (.int (0 : Int32))] [])) _
          refine st26 _ ?_
          show Steps p.tables e below (T26.setTop (mkF m 247 #[.val (.int p0), .val (.int p1), .val (.int p2), .val (.int p3), .val (.int M), .val (.ref b14), .val (.int (0 : Int32))] [(.ref b26)])) _
          refine XS.dup X26.here hx rfl (hb hby at_247) rfl rfl ?_
          refine XS.aload X26.here hx rfl (hb hby at_248) rfl rfl ?_
          show Steps p.tables e below (T26.setTop (mkF m 250 #[.val (.int p0), .val (.int p1), .val (.int p2), .val (.int p3), .val (.int M), .val (.ref b14), .val (.int (0 : Int32))] [(.ref b14), (.ref b26), (.ref b26)])) _
          refine st30.trans ?_
          show Steps p.tables e below (T30.setTop (mkF m 253 #[.val (.int p0), .val (.int p1), .val (.int p2), .val (.int p3), .val (.int M), .val (.ref b14), .val (.int (0 : Int32))] [(.ref b26)])) _
          refine st33 _ ?_
          show Steps p.tables e below (T33.setTop (mkF m 256 #[.val (.int p0), .val (.int p1), .val (.int p2), .val (.int p3), .val (.int M), .val (.ref b14), .val (.int (0 : Int32))] [(.int (0 : Int32))])) _
          refine XS.iload X33.here hx rfl (hb hby at_256) rfl  ?_
          show Steps p.tables e below (T33.setTop (mkF m 258 #[.val (.int p0), .val (.int p1), .val (.int p2), .val (.int p3), .val (.int M), .val (.ref b14), .val (.int (0 : Int32))] [(.int (0 : Int32)), (.int (0 : Int32))])) _
          refine XS.icmpNo X33.here hx rfl (hb hby at_258) rfl (teq (by decide : (0 : Int32) = (0 : Int32))).2 ?_
          refine XS.iconst X33.here hx rfl (hb hby at_261) ?_
          refine XS.goto X33.here hx rfl (pc0 := 262) (pc' := 266) rfl (hb hby at_262) (by decide) (by decide) ?_
          show Steps p.tables e below (T33.setTop (mkF m 266 #[.val (.int p0), .val (.int p1), .val (.int p2), .val (.int p3), .val (.int M), .val (.ref b14), .val (.int (0 : Int32))] [(.int (1 : Int32))])) _
          exact retN X33 hx (t := .boolean) Bd.returns (by simp) (hb hby at_266) hr
        · show Q_rm0 Z p0 p1 p2 p3 zc fm h0 n0 _ T33.heap _
          rw [e33]
          exact ⟨rfl, N33⟩
      · have f34 := (Nat.le_trans f19 (Keep.of_wr W22).1)
        obtain ⟨_, _, ⟨T35, L35, k35, n35⟩, -, X35, ⟨Lc35, hQ35, l35, y35, z35⟩, st35⟩ := Jvm.LawKit.callS X22 hx (y := (⟨"com/example/abeyance/abeyance/model/Utf8ReaderMalformedAtPinLaw", "isEsc", "(II)Z"⟩ : MethodName)) hown (mvT hZ (hw _ (List.mem_of_getElem? (i := 57) rfl))) (mvT hZ (hw _ (List.mem_of_getElem? (i := 58) rfl))) (mvT hZ (hw _ (List.mem_of_getElem? (i := 43) rfl))) (mvT hZ (hw _ (List.mem_of_getElem? (i := 59) rfl))) (by decide) (backOf (W := 0) (rmIsEsc0 l Z a0 hw [] p1 (0 : Int32) h22 n0 f34 (if_neg hi0_p1).symm) hZ (hw _ (List.mem_of_getElem? (i := 59) rfl)) (hw _ (List.mem_of_getElem? (i := 43) rfl)) (by decide) (by decide)) (g := (mkF m 135 #[.val (.int p0), .val (.int p1), .val (.int p2), .val (.int p3), .val (.int M), .val (.ref b14), .val (.int (-1 : Int32))] [(.int (0 : Int32)), (.int p1)])) rfl (by rw [hml]; rfl) (argsL := [(.int p1), (.int (0 : Int32))]) (rest := []) (lenOf pd__II_Z rfl) rfl (by show 2 * 0 + _ ≤ _; exact Nat.le_of_eq rfl) (hb hby at_135) (fun _ _ => ⟨rfl, e22, (by decide : 1 + 0 ≤ _), (by decide : 2 + 0 ≤ _)⟩)
        dsimp only [Pt.U, Pt.locs, Pt.cells, Pt.slots] at X35 l35 y35 z35 st35 hQ35
        subst l35 y35 z35
        obtain ⟨rfl, Nq35, e35⟩ := hQ35
        have N35 := Fr.app N22 Nq35
        have pre36 : ∀ t, Steps p.tables e below (T35.setTop (mkF m 153 #[.val (.int p0), .val (.int p1), .val (.int p2), .val (.int p3), .val (.int M), .val (.ref b14), .val (.int (-1 : Int32))] [])) t → Steps p.tables e below (s₁.setTop (entryFrame m #[(.int p0), (.int p1), (.int p2), (.int p3)] maxLocals)) t := fun t kt => pre23 t (by
          show Steps p.tables e below (T22.setTop (mkF m 133 #[.val (.int p0), .val (.int p1), .val (.int p2), .val (.int p3), .val (.int M), .val (.ref b14), .val (.int (-1 : Int32))] [])) _
          refine XS.iloadN X22.here hx rfl (hb hby at_133) rfl  ?_
          refine XS.iconst X22.here hx rfl (hb hby at_134) ?_
          show Steps p.tables e below (T22.setTop (mkF m 135 #[.val (.int p0), .val (.int p1), .val (.int p2), .val (.int p3), .val (.int M), .val (.ref b14), .val (.int (-1 : Int32))] [(.int (0 : Int32)), (.int p1)])) _
          refine st35 _ ?_
          show Steps p.tables e below (T35.setTop (mkF m 138 #[.val (.int p0), .val (.int p1), .val (.int p2), .val (.int p3), .val (.int M), .val (.ref b14), .val (.int (-1 : Int32))] [(.int (0 : Int32))])) _
          refine XS.ifYes X35.here hx rfl (pc0 := 138) (pc' := 147) rfl (hb hby at_138) rfl ((if0 _ _).trans (teq (by decide : (0 : Int32) = (0 : Int32))).1) (by decide) (by decide) ?_
          refine XS.iload X35.here hx rfl (hb hby at_147) rfl  ?_
          refine XS.iconst X35.here hx rfl (hb hby at_149) ?_
          show Steps p.tables e below (T35.setTop (mkF m 150 #[.val (.int p0), .val (.int p1), .val (.int p2), .val (.int p3), .val (.int M), .val (.ref b14), .val (.int (-1 : Int32))] [(.int (1 : Int32)), (.int M)])) _
          refine XS.icmpNo X35.here hx rfl (hb hby at_150) rfl (flt (by rw [hM]; decide)).1 ?_
          exact kt)
        by_cases hi1_p1 : own_i1 p1
        · obtain ⟨_, _, ⟨T37, L37, k37, n37⟩, -, X37, ⟨Lc37, hQ37, l37, y37, z37⟩, st37⟩ := Jvm.LawKit.callS X35 hx (y := (⟨"com/example/abeyance/abeyance/model/Utf8ReaderMalformedAtPinLaw", "isEsc", "(II)Z"⟩ : MethodName)) hown (mvT hZ (hw _ (List.mem_of_getElem? (i := 57) rfl))) (mvT hZ (hw _ (List.mem_of_getElem? (i := 58) rfl))) (mvT hZ (hw _ (List.mem_of_getElem? (i := 43) rfl))) (mvT hZ (hw _ (List.mem_of_getElem? (i := 59) rfl))) (by decide) (backOf (W := 0) (rmIsEsc1 l Z a0 hw [] p1 (1 : Int32) h22 n0 f34 (if_pos hi1_p1).symm) hZ (hw _ (List.mem_of_getElem? (i := 59) rfl)) (hw _ (List.mem_of_getElem? (i := 43) rfl)) (by decide) (by decide)) (g := (mkF m 155 #[.val (.int p0), .val (.int p1), .val (.int p2), .val (.int p3), .val (.int M), .val (.ref b14), .val (.int (-1 : Int32))] [(.int (1 : Int32)), (.int p1)])) rfl (by rw [hml]; rfl) (argsL := [(.int p1), (.int (1 : Int32))]) (rest := []) (lenOf pd__II_Z rfl) rfl (by show 2 * 0 + _ ≤ _; exact Nat.le_of_eq rfl) (hb hby at_155) (fun _ _ => ⟨rfl, e35, (by decide : 1 + 0 ≤ _), (by decide : 2 + 0 ≤ _)⟩)
          dsimp only [Pt.U, Pt.locs, Pt.cells, Pt.slots] at X37 l37 y37 z37 st37 hQ37
          subst l37 y37 z37
          obtain ⟨rfl, Nq37, e37⟩ := hQ37
          have N37 := Fr.app N35 Nq37
          obtain ⟨T38, h38, X38, e38, E38, A38, D38, -, st38⟩ := newO X37 hx hZ hown (hw _ (List.mem_of_getElem? (i := 1) rfl)) (hw _ (List.mem_of_getElem? (i := 2) rfl)) (hw _ (List.mem_of_getElem? (i := 3) rfl)) e37 (g := (mkF m 244 #[.val (.int p0), .val (.int p1), .val (.int p2), .val (.int p3), .val (.int M), .val (.ref b14), .val (.int (1 : Int32))] [])) rfl (hb hby at_244) (by decide) (by decide)
          obtain ⟨b38, g38⟩ : ∃ z, z = h22.size := ⟨_, rfl⟩
          rw [← g38] at A38 D38 st38
          have ne38_b14 : b14 ≠ b38 := Nat.ne_of_lt (Nat.lt_of_lt_of_le V22.lt (Nat.le_of_eq g38.symm))
          have ge38 : n0 ≤ b38 := Nat.le_trans f34 (Nat.le_of_eq g38.symm)
          have F38_value : Fld Z h38 b38 "java/lang/String" "value" "[B" .null := D38 (Or.inr (hw _ (List.mem_of_getElem? (i := 16) rfl))) (ty := (.array .byte)) (by decide)
          have F38_coder : Fld Z h38 b38 "java/lang/String" "coder" "B" (.int (0 : Int32)) := D38 (Or.inr (hw _ (List.mem_of_getElem? (i := 17) rfl))) (ty := .byte) (by decide)
          have f39 := (V22.ext E38)
          have f40 := (Nat.le_trans f34 E38.1)
          have f41 := ((((Ol.ext E14).wr W18 ge14).wr W22 ge14).ext E38)
          obtain ⟨_, _, ⟨T42, L42, k42, n42⟩, -, X42, ⟨Lc42, hQ42, l42, y42, z42⟩, st42⟩ := X38.specialBack hx (y := (⟨"java/lang/String", "<init>", "([C)V"⟩ : MethodName)) rfl hown (mvT hZ (hw _ (List.mem_of_getElem? (i := 4) rfl))) (mvT hZ (hw _ (List.mem_of_getElem? (i := 5) rfl))) (mvT hZ (hw _ (List.mem_of_getElem? (i := 6) rfl))) (by decide) (backOf (W := 1) (rmNew2 l Z a0 hw [] b38 b14 zc fm k14 ((own_v0 p1)) ((own_v1 p1)) h38 n0 f40 hSt f41 A38 F38_value F38_coder ge38 f39 (own_allc (own_vr _) (own_allc (own_vr _) (fun _ q => nomatch q)))) hZ (hw _ (List.mem_of_getElem? (i := 6) rfl)) (hw _ (List.mem_of_getElem? (i := 3) rfl)) (by decide) (by decide)) (g := (mkF m 250 #[.val (.int p0), .val (.int p1), .val (.int p2), .val (.int p3), .val (.int M), .val (.ref b14), .val (.int (1 : Int32))] [(.ref b14), (.ref b38), (.ref b38)])) rfl (by rw [hml]; rfl) (Steps.refl _) (a := b38) (argsL := [(.ref b14)]) (rest := [(.ref b38)]) (lenOf pd___C_V rfl) rfl (by show 2 * 0 + _ ≤ _; exact Nat.le_of_eq rfl) (hb hby at_250) (fun _ _ => ⟨rfl, e38, (by decide : 2 + 2 ≤ _), (by decide : 6 + 6 ≤ _)⟩)
          dsimp only [Pt.U, Pt.locs, Pt.cells, Pt.slots] at X42 l42 y42 z42 st42 hQ42
          subst l42 y42 z42
          obtain ⟨rfl, Nq42, K42, hStr⟩ := hQ42
          have N42 := Fr.app N37 Nq42
          have hma : own_ma [own_v0 p1, own_v1 p1] 3 0 = own_mal [own_v0 p1, own_v1 p1] 0 := own_mal_eq [own_v0 p1, own_v1 p1] 3 0 (Nat.le_of_ble_eq_true rfl)
          have f43 := (Nat.le_trans f40 K42.1)
          have f44 := (f41.keep K42 (allS ge38 all0))
          obtain ⟨_, _, ⟨T45, L45, k45, n45⟩, -, X45, ⟨Lc45, hQ45, l45, y45, z45⟩, st45⟩ := Jvm.LawKit.callS X42 hx (y := (⟨"com/example/abeyance/abeyance/model/Utf8Reader", "malformedAt", "(Ljava/lang/CharSequence;)I"⟩ : MethodName)) hown (mvT hZ (hw _ (List.mem_of_getElem? (i := 22) rfl))) (mvT hZ (hw _ (List.mem_of_getElem? (i := 23) rfl))) (mvT hZ (hw _ (List.mem_of_getElem? (i := 24) rfl))) (mvT hZ (hw _ (List.mem_of_getElem? (i := 25) rfl))) (by decide) (backOf (W := 0) (rmMalAt l Z a0 hw [] b38 zc fm [own_v0 p1, own_v1 p1] (1 : Int32) T42.heap n0 f43 hSt f44 hStr (Nat.le_of_ble_eq_true rfl) (hma.trans ((own_pairU p1 [] 0).2.1 hi0_p1 hi1_p1)).symm) hZ (hw _ (List.mem_of_getElem? (i := 25) rfl)) (hw _ (List.mem_of_getElem? (i := 24) rfl)) (by decide) (by decide)) (g := (mkF m 253 #[.val (.int p0), .val (.int p1), .val (.int p2), .val (.int p3), .val (.int M), .val (.ref b14), .val (.int (1 : Int32))] [(.ref b38)])) rfl (by rw [hml]; rfl) (argsL := [(.ref b38)]) (rest := []) (lenOf pd__Ljava_lang_CharSequence__I rfl) rfl (by show 2 * 0 + _ ≤ _; exact Nat.le_of_eq rfl) (hb hby at_253) (fun _ _ => ⟨rfl, rfl, (by decide : 4 + 0 ≤ _), (by decide : 12 + 0 ≤ _)⟩)
          dsimp only [Pt.U, Pt.locs, Pt.cells, Pt.slots] at X45 l45 y45 z45 st45 hQ45
          subst l45 y45 z45
          obtain ⟨rfl, Nq45, e45⟩ := hQ45
          have N45 := Fr.app N42 Nq45
          obtain ⟨fs, hr, hrun, hended, hW, hsame⟩ := X45.leave (v := some (.int (1 : Int32))) (fun h => by rw [Bd.returns] at h; cases h)
          refine ⟨_, _, pre36 _ ?_, hrun, hended, _, _, rfl, ?_, ReturnedEndW.of_narrow ⟨_, rfl⟩ hW (hsame.mono (by decide) (by decide))⟩
          · show Steps p.tables e below (T35.setTop (mkF m 153 #[.val (.int p0), .val (.int p1), .val (.int p2), .val (.int p3), .val (.int M), .val (.ref b14), .val (.int (-1 : Int32))] [])) _
            refine XS.iloadN X35.here hx rfl (hb hby at_153) rfl  ?_
            refine XS.iconst X35.here hx rfl (hb hby at_154) ?_
            show Steps p.tables e below (T35.setTop (mkF m 155 #[.val (.int p0), .val (.int p1), .val (.int p2), .val (.int p3), .val (.int M), .val (.ref b14), .val (.int (-1 : Int32))] [(.int (1 : Int32)), (.int p1)])) _
            refine st37 _ ?_
            show Steps p.tables e below (T37.setTop (mkF m 158 #[.val (.int p0), .val (.int p1), .val (.int p2), .val (.int p3), .val (.int M), .val (.ref b14), .val (.int (-1 : Int32))] [(.int (1 : Int32))])) _
            refine XS.ifNo X37.here hx rfl (hb hby at_158) rfl ((if0 _ _).trans (feq (by decide : ¬ ((1 : Int32) = (0 : Int32)))).1) ?_
            refine XS.iconst X37.here hx rfl (hb hby at_161) ?_
            refine XS.istore X37.here hx rfl (hb hby at_162) rfl (l' := #[.val (.int p0), .val (.int p1), .val (.int p2), .val (.int p3), .val (.int M), .val (.ref b14), .val (.int (1 : Int32))]) rfl ?_
            show Steps p.tables e below (T37.setTop (mkF m 164 #[.val (.int p0), .val (.int p1), .val (.int p2), .val (.int p3), .val (.int M), .val (.ref b14), .val (.int (1 : Int32))] [])) _
            refine XS.goto X37.here hx rfl (pc0 := 164) (pc' := 244) rfl (hb hby at_164) (by decide) (by decide) ?_
            show Steps p.tables e below (T37.setTop (mkF m 244 #[.val (.int p0), .val (.int p1), .val (.int p2), .val (.int p3), .val (.int M), .val (.ref b14), .val (.int (1 : Int32))] [])) _
            refine st38 _ ?_
            show Steps p.tables e below (T38.setTop (mkF m 247 #[.val (.int p0), .val (.int p1), .val (.int p2), .val (.int p3), .val (.int M), .val (.ref b14), .val (.int (1 : Int32))] [(.ref b38)])) _
            refine XS.dup X38.here hx rfl (hb hby at_247) rfl rfl ?_
            refine XS.aload X38.here hx rfl (hb hby at_248) rfl rfl ?_
            show Steps p.tables e below (T38.setTop (mkF m 250 #[.val (.int p0), .val (.int p1), .val (.int p2), .val (.int p3), .val (.int M), .val (.ref b14), .val (.int (1 : Int32))] [(.ref b14), (.ref b38), (.ref b38)])) _
            refine st42.trans ?_
            show Steps p.tables e below (T42.setTop (mkF m 253 #[.val (.int p0), .val (.int p1), .val (.int p2), .val (.int p3), .val (.int M), .val (.ref b14), .val (.int (1 : Int32))] [(.ref b38)])) _
            refine st45 _ ?_
            show Steps p.tables e below (T45.setTop (mkF m 256 #[.val (.int p0), .val (.int p1), .val (.int p2), .val (.int p3), .val (.int M), .val (.ref b14), .val (.int (1 : Int32))] [(.int (1 : Int32))])) _
            refine XS.iload X45.here hx rfl (hb hby at_256) rfl  ?_
            show Steps p.tables e below (T45.setTop (mkF m 258 #[.val (.int p0), .val (.int p1), .val (.int p2), .val (.int p3), .val (.int M), .val (.ref b14), .val (.int (1 : Int32))] [(.int (1 : Int32)), (.int (1 : Int32))])) _
            refine XS.icmpNo X45.here hx rfl (hb hby at_258) rfl (teq (by decide : (1 : Int32) = (1 : Int32))).2 ?_
            refine XS.iconst X45.here hx rfl (hb hby at_261) ?_
            refine XS.goto X45.here hx rfl (pc0 := 262) (pc' := 266) rfl (hb hby at_262) (by decide) (by decide) ?_
            show Steps p.tables e below (T45.setTop (mkF m 266 #[.val (.int p0), .val (.int p1), .val (.int p2), .val (.int p3), .val (.int M), .val (.ref b14), .val (.int (1 : Int32))] [(.int (1 : Int32))])) _
            exact retN X45 hx (t := .boolean) Bd.returns (by simp) (hb hby at_266) hr
          · show Q_rm0 Z p0 p1 p2 p3 zc fm h0 n0 _ T45.heap _
            rw [e45]
            exact ⟨rfl, N45⟩
        · obtain ⟨_, _, ⟨T46, L46, k46, n46⟩, -, X46, ⟨Lc46, hQ46, l46, y46, z46⟩, st46⟩ := Jvm.LawKit.callS X35 hx (y := (⟨"com/example/abeyance/abeyance/model/Utf8ReaderMalformedAtPinLaw", "isEsc", "(II)Z"⟩ : MethodName)) hown (mvT hZ (hw _ (List.mem_of_getElem? (i := 57) rfl))) (mvT hZ (hw _ (List.mem_of_getElem? (i := 58) rfl))) (mvT hZ (hw _ (List.mem_of_getElem? (i := 43) rfl))) (mvT hZ (hw _ (List.mem_of_getElem? (i := 59) rfl))) (by decide) (backOf (W := 0) (rmIsEsc1 l Z a0 hw [] p1 (0 : Int32) h22 n0 f34 (if_neg hi1_p1).symm) hZ (hw _ (List.mem_of_getElem? (i := 59) rfl)) (hw _ (List.mem_of_getElem? (i := 43) rfl)) (by decide) (by decide)) (g := (mkF m 155 #[.val (.int p0), .val (.int p1), .val (.int p2), .val (.int p3), .val (.int M), .val (.ref b14), .val (.int (-1 : Int32))] [(.int (1 : Int32)), (.int p1)])) rfl (by rw [hml]; rfl) (argsL := [(.int p1), (.int (1 : Int32))]) (rest := []) (lenOf pd__II_Z rfl) rfl (by show 2 * 0 + _ ≤ _; exact Nat.le_of_eq rfl) (hb hby at_155) (fun _ _ => ⟨rfl, e35, (by decide : 1 + 0 ≤ _), (by decide : 2 + 0 ≤ _)⟩)
          dsimp only [Pt.U, Pt.locs, Pt.cells, Pt.slots] at X46 l46 y46 z46 st46 hQ46
          subst l46 y46 z46
          obtain ⟨rfl, Nq46, e46⟩ := hQ46
          have N46 := Fr.app N35 Nq46
          obtain ⟨T47, h47, X47, e47, E47, A47, D47, -, st47⟩ := newO X46 hx hZ hown (hw _ (List.mem_of_getElem? (i := 1) rfl)) (hw _ (List.mem_of_getElem? (i := 2) rfl)) (hw _ (List.mem_of_getElem? (i := 3) rfl)) e46 (g := (mkF m 244 #[.val (.int p0), .val (.int p1), .val (.int p2), .val (.int p3), .val (.int M), .val (.ref b14), .val (.int (-1 : Int32))] [])) rfl (hb hby at_244) (by decide) (by decide)
          obtain ⟨b47, g47⟩ : ∃ z, z = h22.size := ⟨_, rfl⟩
          rw [← g47] at A47 D47 st47
          have ne47_b14 : b14 ≠ b47 := Nat.ne_of_lt (Nat.lt_of_lt_of_le V22.lt (Nat.le_of_eq g47.symm))
          have ge47 : n0 ≤ b47 := Nat.le_trans f34 (Nat.le_of_eq g47.symm)
          have F47_value : Fld Z h47 b47 "java/lang/String" "value" "[B" .null := D47 (Or.inr (hw _ (List.mem_of_getElem? (i := 16) rfl))) (ty := (.array .byte)) (by decide)
          have F47_coder : Fld Z h47 b47 "java/lang/String" "coder" "B" (.int (0 : Int32)) := D47 (Or.inr (hw _ (List.mem_of_getElem? (i := 17) rfl))) (ty := .byte) (by decide)
          have f48 := (V22.ext E47)
          have f49 := (Nat.le_trans f34 E47.1)
          have f50 := ((((Ol.ext E14).wr W18 ge14).wr W22 ge14).ext E47)
          obtain ⟨_, _, ⟨T51, L51, k51, n51⟩, -, X51, ⟨Lc51, hQ51, l51, y51, z51⟩, st51⟩ := X47.specialBack hx (y := (⟨"java/lang/String", "<init>", "([C)V"⟩ : MethodName)) rfl hown (mvT hZ (hw _ (List.mem_of_getElem? (i := 4) rfl))) (mvT hZ (hw _ (List.mem_of_getElem? (i := 5) rfl))) (mvT hZ (hw _ (List.mem_of_getElem? (i := 6) rfl))) (by decide) (backOf (W := 1) (rmNew2 l Z a0 hw [] b47 b14 zc fm k14 ((own_v0 p1)) ((own_v1 p1)) h47 n0 f49 hSt f50 A47 F47_value F47_coder ge47 f48 (own_allc (own_vr _) (own_allc (own_vr _) (fun _ q => nomatch q)))) hZ (hw _ (List.mem_of_getElem? (i := 6) rfl)) (hw _ (List.mem_of_getElem? (i := 3) rfl)) (by decide) (by decide)) (g := (mkF m 250 #[.val (.int p0), .val (.int p1), .val (.int p2), .val (.int p3), .val (.int M), .val (.ref b14), .val (.int (-1 : Int32))] [(.ref b14), (.ref b47), (.ref b47)])) rfl (by rw [hml]; rfl) (Steps.refl _) (a := b47) (argsL := [(.ref b14)]) (rest := [(.ref b47)]) (lenOf pd___C_V rfl) rfl (by show 2 * 0 + _ ≤ _; exact Nat.le_of_eq rfl) (hb hby at_250) (fun _ _ => ⟨rfl, e47, (by decide : 2 + 2 ≤ _), (by decide : 6 + 6 ≤ _)⟩)
          dsimp only [Pt.U, Pt.locs, Pt.cells, Pt.slots] at X51 l51 y51 z51 st51 hQ51
          subst l51 y51 z51
          obtain ⟨rfl, Nq51, K51, hStr⟩ := hQ51
          have N51 := Fr.app N46 Nq51
          have hma : own_ma [own_v0 p1, own_v1 p1] 3 0 = own_mal [own_v0 p1, own_v1 p1] 0 := own_mal_eq [own_v0 p1, own_v1 p1] 3 0 (Nat.le_of_ble_eq_true rfl)
          have f52 := (Nat.le_trans f49 K51.1)
          have f53 := (f50.keep K51 (allS ge47 all0))
          obtain ⟨_, _, ⟨T54, L54, k54, n54⟩, -, X54, ⟨Lc54, hQ54, l54, y54, z54⟩, st54⟩ := Jvm.LawKit.callS X51 hx (y := (⟨"com/example/abeyance/abeyance/model/Utf8Reader", "malformedAt", "(Ljava/lang/CharSequence;)I"⟩ : MethodName)) hown (mvT hZ (hw _ (List.mem_of_getElem? (i := 22) rfl))) (mvT hZ (hw _ (List.mem_of_getElem? (i := 23) rfl))) (mvT hZ (hw _ (List.mem_of_getElem? (i := 24) rfl))) (mvT hZ (hw _ (List.mem_of_getElem? (i := 25) rfl))) (by decide) (backOf (W := 0) (rmMalAt l Z a0 hw [] b47 zc fm [own_v0 p1, own_v1 p1] (-1 : Int32) T51.heap n0 f52 hSt f53 hStr (Nat.le_of_ble_eq_true rfl) (hma.trans ((own_pairU p1 [] 0).2.2 hi0_p1 hi1_p1)).symm) hZ (hw _ (List.mem_of_getElem? (i := 25) rfl)) (hw _ (List.mem_of_getElem? (i := 24) rfl)) (by decide) (by decide)) (g := (mkF m 253 #[.val (.int p0), .val (.int p1), .val (.int p2), .val (.int p3), .val (.int M), .val (.ref b14), .val (.int (-1 : Int32))] [(.ref b47)])) rfl (by rw [hml]; rfl) (argsL := [(.ref b47)]) (rest := []) (lenOf pd__Ljava_lang_CharSequence__I rfl) rfl (by show 2 * 0 + _ ≤ _; exact Nat.le_of_eq rfl) (hb hby at_253) (fun _ _ => ⟨rfl, rfl, (by decide : 4 + 0 ≤ _), (by decide : 12 + 0 ≤ _)⟩)
          dsimp only [Pt.U, Pt.locs, Pt.cells, Pt.slots] at X54 l54 y54 z54 st54 hQ54
          subst l54 y54 z54
          obtain ⟨rfl, Nq54, e54⟩ := hQ54
          have N54 := Fr.app N51 Nq54
          obtain ⟨fs, hr, hrun, hended, hW, hsame⟩ := X54.leave (v := some (.int (1 : Int32))) (fun h => by rw [Bd.returns] at h; cases h)
          refine ⟨_, _, pre36 _ ?_, hrun, hended, _, _, rfl, ?_, ReturnedEndW.of_narrow ⟨_, rfl⟩ hW (hsame.mono (by decide) (by decide))⟩
          · show Steps p.tables e below (T35.setTop (mkF m 153 #[.val (.int p0), .val (.int p1), .val (.int p2), .val (.int p3), .val (.int M), .val (.ref b14), .val (.int (-1 : Int32))] [])) _
            refine XS.iloadN X35.here hx rfl (hb hby at_153) rfl  ?_
            refine XS.iconst X35.here hx rfl (hb hby at_154) ?_
            show Steps p.tables e below (T35.setTop (mkF m 155 #[.val (.int p0), .val (.int p1), .val (.int p2), .val (.int p3), .val (.int M), .val (.ref b14), .val (.int (-1 : Int32))] [(.int (1 : Int32)), (.int p1)])) _
            refine st46 _ ?_
            show Steps p.tables e below (T46.setTop (mkF m 158 #[.val (.int p0), .val (.int p1), .val (.int p2), .val (.int p3), .val (.int M), .val (.ref b14), .val (.int (-1 : Int32))] [(.int (0 : Int32))])) _
            refine XS.ifYes X46.here hx rfl (pc0 := 158) (pc' := 167) rfl (hb hby at_158) rfl ((if0 _ _).trans (teq (by decide : (0 : Int32) = (0 : Int32))).1) (by decide) (by decide) ?_
            refine XS.iload X46.here hx rfl (hb hby at_167) rfl  ?_
            refine XS.iconst X46.here hx rfl (hb hby at_169) ?_
            show Steps p.tables e below (T46.setTop (mkF m 170 #[.val (.int p0), .val (.int p1), .val (.int p2), .val (.int p3), .val (.int M), .val (.ref b14), .val (.int (-1 : Int32))] [(.int (2 : Int32)), (.int M)])) _
            refine XS.icmpYes X46.here hx rfl (pc0 := 170) (pc' := 187) rfl (hb hby at_170) rfl (tlt (by rw [hM]; decide)).1 (by decide) (by decide) ?_
            refine XS.iload X46.here hx rfl (hb hby at_187) rfl  ?_
            refine XS.iconst X46.here hx rfl (hb hby at_189) ?_
            show Steps p.tables e below (T46.setTop (mkF m 190 #[.val (.int p0), .val (.int p1), .val (.int p2), .val (.int p3), .val (.int M), .val (.ref b14), .val (.int (-1 : Int32))] [(.int (2 : Int32)), (.int M)])) _
            refine XS.icmpYes X46.here hx rfl (pc0 := 190) (pc' := 207) rfl (hb hby at_190) rfl (tlt (by rw [hM]; decide)).1 (by decide) (by decide) ?_
            refine XS.iload X46.here hx rfl (hb hby at_207) rfl  ?_
            refine XS.iconst X46.here hx rfl (hb hby at_209) ?_
            show Steps p.tables e below (T46.setTop (mkF m 210 #[.val (.int p0), .val (.int p1), .val (.int p2), .val (.int p3), .val (.int M), .val (.ref b14), .val (.int (-1 : Int32))] [(.int (3 : Int32)), (.int M)])) _
            refine XS.icmpYes X46.here hx rfl (pc0 := 210) (pc' := 227) rfl (hb hby at_210) rfl (tlt (by rw [hM]; decide)).1 (by decide) (by decide) ?_
            refine XS.iload X46.here hx rfl (hb hby at_227) rfl  ?_
            refine XS.iconst X46.here hx rfl (hb hby at_229) ?_
            show Steps p.tables e below (T46.setTop (mkF m 230 #[.val (.int p0), .val (.int p1), .val (.int p2), .val (.int p3), .val (.int M), .val (.ref b14), .val (.int (-1 : Int32))] [(.int (3 : Int32)), (.int M)])) _
            refine XS.icmpYes X46.here hx rfl (pc0 := 230) (pc' := 244) rfl (hb hby at_230) rfl (tlt (by rw [hM]; decide)).1 (by decide) (by decide) ?_
            show Steps p.tables e below (T46.setTop (mkF m 244 #[.val (.int p0), .val (.int p1), .val (.int p2), .val (.int p3), .val (.int M), .val (.ref b14), .val (.int (-1 : Int32))] [])) _
            refine st47 _ ?_
            show Steps p.tables e below (T47.setTop (mkF m 247 #[.val (.int p0), .val (.int p1), .val (.int p2), .val (.int p3), .val (.int M), .val (.ref b14), .val (.int (-1 : Int32))] [(.ref b47)])) _
            refine XS.dup X47.here hx rfl (hb hby at_247) rfl rfl ?_
            refine XS.aload X47.here hx rfl (hb hby at_248) rfl rfl ?_
            show Steps p.tables e below (T47.setTop (mkF m 250 #[.val (.int p0), .val (.int p1), .val (.int p2), .val (.int p3), .val (.int M), .val (.ref b14), .val (.int (-1 : Int32))] [(.ref b14), (.ref b47), (.ref b47)])) _
            refine st51.trans ?_
            show Steps p.tables e below (T51.setTop (mkF m 253 #[.val (.int p0), .val (.int p1), .val (.int p2), .val (.int p3), .val (.int M), .val (.ref b14), .val (.int (-1 : Int32))] [(.ref b47)])) _
            refine st54 _ ?_
            show Steps p.tables e below (T54.setTop (mkF m 256 #[.val (.int p0), .val (.int p1), .val (.int p2), .val (.int p3), .val (.int M), .val (.ref b14), .val (.int (-1 : Int32))] [(.int (-1 : Int32))])) _
            refine XS.iload X54.here hx rfl (hb hby at_256) rfl  ?_
            show Steps p.tables e below (T54.setTop (mkF m 258 #[.val (.int p0), .val (.int p1), .val (.int p2), .val (.int p3), .val (.int M), .val (.ref b14), .val (.int (-1 : Int32))] [(.int (-1 : Int32)), (.int (-1 : Int32))])) _
            refine XS.icmpNo X54.here hx rfl (hb hby at_258) rfl (teq (by decide : (-1 : Int32) = (-1 : Int32))).2 ?_
            refine XS.iconst X54.here hx rfl (hb hby at_261) ?_
            refine XS.goto X54.here hx rfl (pc0 := 262) (pc' := 266) rfl (hb hby at_262) (by decide) (by decide) ?_
            show Steps p.tables e below (T54.setTop (mkF m 266 #[.val (.int p0), .val (.int p1), .val (.int p2), .val (.int p3), .val (.int M), .val (.ref b14), .val (.int (-1 : Int32))] [(.int (1 : Int32))])) _
            exact retN X54 hx (t := .boolean) Bd.returns (by simp) (hb hby at_266) hr
          · show Q_rm0 Z p0 p1 p2 p3 zc fm h0 n0 _ T54.heap _
            rw [e54]
            exact ⟨rfl, N54⟩
    · have pre55 : ∀ t, Steps p.tables e below (s₁.setTop (mkF m 35 #[.val (.int p0), .val (.int p1), .val (.int p2), .val (.int p3), .val (.int M), .unset, .unset] [(.int (2 : Int32)), (.int M)])) t → Steps p.tables e below (s₁.setTop (entryFrame m #[(.int p0), (.int p1), (.int p2), (.int p3)] maxLocals)) t := fun t kt => pre13 t (by
        show Steps p.tables e below (s₁.setTop (mkF m 21 #[.val (.int p0), .val (.int p1), .val (.int p2), .val (.int p3), .val (.int M), .unset, .unset] [(.int (1 : Int32)), (.int M)])) _
        refine XS.icmpYes X0.here hx rfl (pc0 := 21) (pc' := 32) rfl (hb hby at_21) rfl (feq hM1).2 (by decide) (by decide) ?_
        refine XS.iload X0.here hx rfl (hb hby at_32) rfl  ?_
        refine XS.iconst X0.here hx rfl (hb hby at_34) ?_
        exact kt)
      by_cases hM2 : M = (2 : Int32)
      · obtain ⟨T56, h56, k56, X56, e56, E56, A56, st56⟩ := newP X0 hx hZ (hw _ (List.mem_of_getElem? (i := 0) rfl)) e0 (g := (mkF m 39 #[.val (.int p0), .val (.int p1), .val (.int p2), .val (.int p3), .val (.int M), .unset, .unset] [(.int (4 : Int32))])) rfl (hb hby at_39) rfl (by decide) (cap := 4) (by decide) (by decide) (by decide) (by decide)
        obtain ⟨b56, g56⟩ : ∃ z, z = h0.size := ⟨_, rfl⟩
        rw [← g56] at A56 st56
        have ge56 : n0 ≤ b56 := Nat.le_trans Z0 (Nat.le_of_eq g56.symm)
        have V56 : Arv Z h56 b56 k56 .char (4 : Int32) [(.int (0 : Int32)), (.int (0 : Int32)), (.int (0 : Int32)), (.int (0 : Int32))] (.int (0 : Int32)) := (Arv.new A56 (by decide)).pad (pad_rep [] (.int (0 : Int32)) 4)
        have hM : M = (2 : Int32) := hM2
        have f57 := (Nat.le_trans Z0 E56.1)
        obtain ⟨_, _, ⟨T58, L58, k58, n58⟩, -, X58, ⟨Lc58, hQ58, l58, y58, z58⟩, st58⟩ := Jvm.LawKit.callS X56 hx (y := (⟨"com/example/abeyance/abeyance/model/Utf8ReaderMalformedAtPinLaw", "unit", "(II)C"⟩ : MethodName)) hown (mvT hZ (hw _ (List.mem_of_getElem? (i := 41) rfl))) (mvT hZ (hw _ (List.mem_of_getElem? (i := 42) rfl))) (mvT hZ (hw _ (List.mem_of_getElem? (i := 43) rfl))) (mvT hZ (hw _ (List.mem_of_getElem? (i := 44) rfl))) (by decide) (backOf (W := 2) (rmUnit0 l Z a0 hw [] p1 (own_u0 p1) h56 n0 f57 rfl) hZ (hw _ (List.mem_of_getElem? (i := 44) rfl)) (hw _ (List.mem_of_getElem? (i := 43) rfl)) (by decide) (by decide)) (g := (mkF m 63 #[.val (.int p0), .val (.int p1), .val (.int p2), .val (.int p3), .val (.int M), .val (.ref b56), .unset] [(.int (0 : Int32)), (.int p1), (.int (0 : Int32)), (.ref b56)])) rfl (by rw [hml]; rfl) (argsL := [(.int p1), (.int (0 : Int32))]) (rest := [(.int (0 : Int32)), (.ref b56)]) (lenOf pd__II_C rfl) rfl (by show 2 * 0 + _ ≤ _; exact Nat.le_of_eq rfl) (hb hby at_63) (fun _ _ => ⟨rfl, e56, (by decide : 1 + 0 ≤ _), (by decide : 4 + 0 ≤ _)⟩)
        dsimp only [Pt.U, Pt.locs, Pt.cells, Pt.slots] at X58 l58 y58 z58 st58 hQ58
        subst l58 y58 z58
        obtain ⟨rfl, Nq58, e58⟩ := hQ58
        have N58 := Fr.app N0 Nq58
        obtain ⟨cl59, Ar59, q59, S59, N59, H59, G59⟩ := id V56
        have hin59 : ¬ ((0 : Int32) < 0 ∨ cl59.slots.size ≤ ((0 : Int32)).toNatClampNeg) := inb_of S59 ⟨by decide, by decide⟩
        obtain ⟨T60, h60, X60, e60, W60, st60⟩ := stC X58 hx hZ e58 Ar59 (j := (0 : Int32)) hin59 (g := (mkF m 66 #[.val (.int p0), .val (.int p1), .val (.int p2), .val (.int p3), .val (.int M), .val (.ref b56), .unset] [(.int (own_u0 p1)), (.int (0 : Int32)), (.ref b56)])) rfl rfl (hb hby at_66)
        have N60 := Fr.snoc X60 N58 ge56
        have V60 : Arv Z h60 b56 k56 .char (4 : Int32) [(.int (own_v0 p1)), (.int (0 : Int32)), (.int (0 : Int32)), (.int (0 : Int32))] (.int (0 : Int32)) := Arv.set Ar59 q59 S59 N59 H59 G59 (fits_nar_char _) W60 0 rfl (Nat.le_of_ble_eq_true rfl)
        have f61 := (Nat.le_trans f57 (Keep.of_wr W60).1)
        obtain ⟨_, _, ⟨T62, L62, k62, n62⟩, -, X62, ⟨Lc62, hQ62, l62, y62, z62⟩, st62⟩ := Jvm.LawKit.callS X60 hx (y := (⟨"com/example/abeyance/abeyance/model/Utf8ReaderMalformedAtPinLaw", "unit", "(II)C"⟩ : MethodName)) hown (mvT hZ (hw _ (List.mem_of_getElem? (i := 41) rfl))) (mvT hZ (hw _ (List.mem_of_getElem? (i := 42) rfl))) (mvT hZ (hw _ (List.mem_of_getElem? (i := 43) rfl))) (mvT hZ (hw _ (List.mem_of_getElem? (i := 44) rfl))) (by decide) (backOf (W := 2) (rmUnit1 l Z a0 hw [] p1 (own_u1 p1) h60 n0 f61 rfl) hZ (hw _ (List.mem_of_getElem? (i := 44) rfl)) (hw _ (List.mem_of_getElem? (i := 43) rfl)) (by decide) (by decide)) (g := (mkF m 72 #[.val (.int p0), .val (.int p1), .val (.int p2), .val (.int p3), .val (.int M), .val (.ref b56), .unset] [(.int (1 : Int32)), (.int p1), (.int (1 : Int32)), (.ref b56)])) rfl (by rw [hml]; rfl) (argsL := [(.int p1), (.int (1 : Int32))]) (rest := [(.int (1 : Int32)), (.ref b56)]) (lenOf pd__II_C rfl) rfl (by show 2 * 0 + _ ≤ _; exact Nat.le_of_eq rfl) (hb hby at_72) (fun _ _ => ⟨rfl, e60, (by decide : 1 + 0 ≤ _), (by decide : 4 + 0 ≤ _)⟩)
        dsimp only [Pt.U, Pt.locs, Pt.cells, Pt.slots] at X62 l62 y62 z62 st62 hQ62
        subst l62 y62 z62
        obtain ⟨rfl, Nq62, e62⟩ := hQ62
        have N62 := Fr.app N60 Nq62
        obtain ⟨cl63, Ar63, q63, S63, N63, H63, G63⟩ := id V60
        have hin63 : ¬ ((1 : Int32) < 0 ∨ cl63.slots.size ≤ ((1 : Int32)).toNatClampNeg) := inb_of S63 ⟨by decide, by decide⟩
        obtain ⟨T64, h64, X64, e64, W64, st64⟩ := stC X62 hx hZ e62 Ar63 (j := (1 : Int32)) hin63 (g := (mkF m 75 #[.val (.int p0), .val (.int p1), .val (.int p2), .val (.int p3), .val (.int M), .val (.ref b56), .unset] [(.int (own_u1 p1)), (.int (1 : Int32)), (.ref b56)])) rfl rfl (hb hby at_75)
        have N64 := Fr.snoc X64 N62 ge56
        have V64 : Arv Z h64 b56 k56 .char (4 : Int32) [(.int (own_v0 p1)), (.int (own_v1 p1)), (.int (0 : Int32)), (.int (0 : Int32))] (.int (0 : Int32)) := Arv.set Ar63 q63 S63 N63 H63 G63 (fits_nar_char _) W64 1 rfl (Nat.le_of_ble_eq_true rfl)
        have f65 := (Nat.le_trans f61 (Keep.of_wr W64).1)
        obtain ⟨_, _, ⟨T66, L66, k66, n66⟩, -, X66, ⟨Lc66, hQ66, l66, y66, z66⟩, st66⟩ := Jvm.LawKit.callS X64 hx (y := (⟨"com/example/abeyance/abeyance/model/Utf8ReaderMalformedAtPinLaw", "unit", "(II)C"⟩ : MethodName)) hown (mvT hZ (hw _ (List.mem_of_getElem? (i := 41) rfl))) (mvT hZ (hw _ (List.mem_of_getElem? (i := 42) rfl))) (mvT hZ (hw _ (List.mem_of_getElem? (i := 43) rfl))) (mvT hZ (hw _ (List.mem_of_getElem? (i := 44) rfl))) (by decide) (backOf (W := 2) (rmUnit0 l Z a0 hw [] p2 (own_u0 p2) h64 n0 f65 rfl) hZ (hw _ (List.mem_of_getElem? (i := 44) rfl)) (hw _ (List.mem_of_getElem? (i := 43) rfl)) (by decide) (by decide)) (g := (mkF m 87 #[.val (.int p0), .val (.int p1), .val (.int p2), .val (.int p3), .val (.int M), .val (.ref b56), .unset] [(.int (0 : Int32)), (.int p2), (.int (2 : Int32)), (.ref b56)])) rfl (by rw [hml]; rfl) (argsL := [(.int p2), (.int (0 : Int32))]) (rest := [(.int (2 : Int32)), (.ref b56)]) (lenOf pd__II_C rfl) rfl (by show 2 * 0 + _ ≤ _; exact Nat.le_of_eq rfl) (hb hby at_87) (fun _ _ => ⟨rfl, e64, (by decide : 1 + 0 ≤ _), (by decide : 4 + 0 ≤ _)⟩)
        dsimp only [Pt.U, Pt.locs, Pt.cells, Pt.slots] at X66 l66 y66 z66 st66 hQ66
        subst l66 y66 z66
        obtain ⟨rfl, Nq66, e66⟩ := hQ66
        have N66 := Fr.app N64 Nq66
        obtain ⟨cl67, Ar67, q67, S67, N67, H67, G67⟩ := id V64
        have hin67 : ¬ ((2 : Int32) < 0 ∨ cl67.slots.size ≤ ((2 : Int32)).toNatClampNeg) := inb_of S67 ⟨by decide, by decide⟩
        obtain ⟨T68, h68, X68, e68, W68, st68⟩ := stC X66 hx hZ e66 Ar67 (j := (2 : Int32)) hin67 (g := (mkF m 90 #[.val (.int p0), .val (.int p1), .val (.int p2), .val (.int p3), .val (.int M), .val (.ref b56), .unset] [(.int (own_u0 p2)), (.int (2 : Int32)), (.ref b56)])) rfl rfl (hb hby at_90)
        have N68 := Fr.snoc X68 N66 ge56
        have V68 : Arv Z h68 b56 k56 .char (4 : Int32) [(.int (own_v0 p1)), (.int (own_v1 p1)), (.int (own_v0 p2)), (.int (0 : Int32))] (.int (0 : Int32)) := Arv.set Ar67 q67 S67 N67 H67 G67 (fits_nar_char _) W68 2 rfl (Nat.le_of_ble_eq_true rfl)
        have f69 := (Nat.le_trans f65 (Keep.of_wr W68).1)
        obtain ⟨_, _, ⟨T70, L70, k70, n70⟩, -, X70, ⟨Lc70, hQ70, l70, y70, z70⟩, st70⟩ := Jvm.LawKit.callS X68 hx (y := (⟨"com/example/abeyance/abeyance/model/Utf8ReaderMalformedAtPinLaw", "unit", "(II)C"⟩ : MethodName)) hown (mvT hZ (hw _ (List.mem_of_getElem? (i := 41) rfl))) (mvT hZ (hw _ (List.mem_of_getElem? (i := 42) rfl))) (mvT hZ (hw _ (List.mem_of_getElem? (i := 43) rfl))) (mvT hZ (hw _ (List.mem_of_getElem? (i := 44) rfl))) (by decide) (backOf (W := 2) (rmUnit1 l Z a0 hw [] p2 (own_u1 p2) h68 n0 f69 rfl) hZ (hw _ (List.mem_of_getElem? (i := 44) rfl)) (hw _ (List.mem_of_getElem? (i := 43) rfl)) (by decide) (by decide)) (g := (mkF m 96 #[.val (.int p0), .val (.int p1), .val (.int p2), .val (.int p3), .val (.int M), .val (.ref b56), .unset] [(.int (1 : Int32)), (.int p2), (.int (3 : Int32)), (.ref b56)])) rfl (by rw [hml]; rfl) (argsL := [(.int p2), (.int (1 : Int32))]) (rest := [(.int (3 : Int32)), (.ref b56)]) (lenOf pd__II_C rfl) rfl (by show 2 * 0 + _ ≤ _; exact Nat.le_of_eq rfl) (hb hby at_96) (fun _ _ => ⟨rfl, e68, (by decide : 1 + 0 ≤ _), (by decide : 4 + 0 ≤ _)⟩)
        dsimp only [Pt.U, Pt.locs, Pt.cells, Pt.slots] at X70 l70 y70 z70 st70 hQ70
        subst l70 y70 z70
        obtain ⟨rfl, Nq70, e70⟩ := hQ70
        have N70 := Fr.app N68 Nq70
        obtain ⟨cl71, Ar71, q71, S71, N71, H71, G71⟩ := id V68
        have hin71 : ¬ ((3 : Int32) < 0 ∨ cl71.slots.size ≤ ((3 : Int32)).toNatClampNeg) := inb_of S71 ⟨by decide, by decide⟩
        obtain ⟨T72, h72, X72, e72, W72, st72⟩ := stC X70 hx hZ e70 Ar71 (j := (3 : Int32)) hin71 (g := (mkF m 99 #[.val (.int p0), .val (.int p1), .val (.int p2), .val (.int p3), .val (.int M), .val (.ref b56), .unset] [(.int (own_u1 p2)), (.int (3 : Int32)), (.ref b56)])) rfl rfl (hb hby at_99)
        have N72 := Fr.snoc X72 N70 ge56
        have V72 : Arv Z h72 b56 k56 .char (4 : Int32) [(.int (own_v0 p1)), (.int (own_v1 p1)), (.int (own_v0 p2)), (.int (own_v1 p2))] (.int (0 : Int32)) := Arv.set Ar71 q71 S71 N71 H71 G71 (fits_nar_char _) W72 3 rfl (Nat.le_of_ble_eq_true rfl)
        have pre73 : ∀ t, Steps p.tables e below (T72.setTop (mkF m 133 #[.val (.int p0), .val (.int p1), .val (.int p2), .val (.int p3), .val (.int M), .val (.ref b56), .val (.int (-1 : Int32))] [])) t → Steps p.tables e below (s₁.setTop (entryFrame m #[(.int p0), (.int p1), (.int p2), (.int p3)] maxLocals)) t := fun t kt => pre55 t (by
          show Steps p.tables e below (s₁.setTop (mkF m 35 #[.val (.int p0), .val (.int p1), .val (.int p2), .val (.int p3), .val (.int M), .unset, .unset] [(.int (2 : Int32)), (.int M)])) _
          refine XS.icmpNo X0.here hx rfl (hb hby at_35) rfl (teq hM2).2 ?_
          refine XS.iconst X0.here hx rfl (hb hby at_38) ?_
          show Steps p.tables e below (s₁.setTop (mkF m 39 #[.val (.int p0), .val (.int p1), .val (.int p2), .val (.int p3), .val (.int M), .unset, .unset] [(.int (4 : Int32))])) _
          refine st56 _ ?_
          show Steps p.tables e below (T56.setTop (mkF m 41 #[.val (.int p0), .val (.int p1), .val (.int p2), .val (.int p3), .val (.int M), .unset, .unset] [(.ref b56)])) _
          refine XS.astore X56.here hx rfl (hb hby at_41) rfl rfl (l' := #[.val (.int p0), .val (.int p1), .val (.int p2), .val (.int p3), .val (.int M), .val (.ref b56), .unset]) rfl ?_
          refine XS.goto X56.here hx rfl (pc0 := 43) (pc' := 52) rfl (hb hby at_43) (by decide) (by decide) ?_
          refine XS.iload X56.here hx rfl (hb hby at_52) rfl  ?_
          show Steps p.tables e below (T56.setTop (mkF m 54 #[.val (.int p0), .val (.int p1), .val (.int p2), .val (.int p3), .val (.int M), .val (.ref b56), .unset] [(.int M)])) _
          refine XS.iconst X56.here hx rfl (hb hby at_54) ?_
          show Steps p.tables e below (T56.setTop (mkF m 55 #[.val (.int p0), .val (.int p1), .val (.int p2), .val (.int p3), .val (.int M), .val (.ref b56), .unset] [(.int (1 : Int32)), (.int M)])) _
          refine XS.icmpNo X56.here hx rfl (hb hby at_55) rfl (flt (by rw [hM]; decide)).1 ?_
          refine XS.aload X56.here hx rfl (hb hby at_58) rfl rfl ?_
          refine XS.iconst X56.here hx rfl (hb hby at_60) ?_
          show Steps p.tables e below (T56.setTop (mkF m 61 #[.val (.int p0), .val (.int p1), .val (.int p2), .val (.int p3), .val (.int M), .val (.ref b56), .unset] [(.int (0 : Int32)), (.ref b56)])) _
          refine XS.iloadN X56.here hx rfl (hb hby at_61) rfl  ?_
          refine XS.iconst X56.here hx rfl (hb hby at_62) ?_
          show Steps p.tables e below (T56.setTop (mkF m 63 #[.val (.int p0), .val (.int p1), .val (.int p2), .val (.int p3), .val (.int M), .val (.ref b56), .unset] [(.int (0 : Int32)), (.int p1), (.int (0 : Int32)), (.ref b56)])) _
          refine st58 _ ?_
          show Steps p.tables e below (T58.setTop (mkF m 66 #[.val (.int p0), .val (.int p1), .val (.int p2), .val (.int p3), .val (.int M), .val (.ref b56), .unset] [(.int (own_u0 p1)), (.int (0 : Int32)), (.ref b56)])) _
          refine st60 _ ?_
          show Steps p.tables e below (T60.setTop (mkF m 67 #[.val (.int p0), .val (.int p1), .val (.int p2), .val (.int p3), .val (.int M), .val (.ref b56), .unset] [])) _
          refine XS.aload X60.here hx rfl (hb hby at_67) rfl rfl ?_
          refine XS.iconst X60.here hx rfl (hb hby at_69) ?_
          refine XS.iloadN X60.here hx rfl (hb hby at_70) rfl  ?_
          show Steps p.tables e below (T60.setTop (mkF m 71 #[.val (.int p0), .val (.int p1), .val (.int p2), .val (.int p3), .val (.int M), .val (.ref b56), .unset] [(.int p1), (.int (1 : Int32)), (.ref b56)])) _
          refine XS.iconst X60.here hx rfl (hb hby at_71) ?_
          show Steps p.tables e below (T60.setTop (mkF m 72 #[.val (.int p0), .val (.int p1), .val (.int p2), .val (.int p3), .val (.int M), .val (.ref b56), .unset] [(.int (1 : Int32)), (.int p1), (.int (1 : Int32)), (.ref b56)])) _
          refine st62 _ ?_
          show Steps p.tables e below (T62.setTop (mkF m 75 #[.val (.int p0), .val (.int p1), .val (.int p2), .val (.int p3), .val (.int M), .val (.ref b56), .unset] [(.int (own_u1 p1)), (.int (1 : Int32)), (.ref b56)])) _
          refine st64 _ ?_
          show Steps p.tables e below (T64.setTop (mkF m 76 #[.val (.int p0), .val (.int p1), .val (.int p2), .val (.int p3), .val (.int M), .val (.ref b56), .unset] [])) _
          refine XS.iload X64.here hx rfl (hb hby at_76) rfl  ?_
          refine XS.iconst X64.here hx rfl (hb hby at_78) ?_
          show Steps p.tables e below (T64.setTop (mkF m 79 #[.val (.int p0), .val (.int p1), .val (.int p2), .val (.int p3), .val (.int M), .val (.ref b56), .unset] [(.int (2 : Int32)), (.int M)])) _
          refine XS.icmpNo X64.here hx rfl (hb hby at_79) rfl (flt (by rw [hM]; decide)).1 ?_
          refine XS.aload X64.here hx rfl (hb hby at_82) rfl rfl ?_
          refine XS.iconst X64.here hx rfl (hb hby at_84) ?_
          show Steps p.tables e below (T64.setTop (mkF m 85 #[.val (.int p0), .val (.int p1), .val (.int p2), .val (.int p3), .val (.int M), .val (.ref b56), .unset] [(.int (2 : Int32)), (.ref b56)])) _
          refine XS.iloadN X64.here hx rfl (hb hby at_85) rfl  ?_
          refine XS.iconst X64.here hx rfl (hb hby at_86) ?_
          show Steps p.tables e below (T64.setTop (mkF m 87 #[.val (.int p0), .val (.int p1), .val (.int p2), .val (.int p3), .val (.int M), .val (.ref b56), .unset] [(.int (0 : Int32)), (.int p2), (.int (2 : Int32)), (.ref b56)])) _
          refine st66 _ ?_
          show Steps p.tables e below (T66.setTop (mkF m 90 #[.val (.int p0), .val (.int p1), .val (.int p2), .val (.int p3), .val (.int M), .val (.ref b56), .unset] [(.int (own_u0 p2)), (.int (2 : Int32)), (.ref b56)])) _
          refine st68 _ ?_
          show Steps p.tables e below (T68.setTop (mkF m 91 #[.val (.int p0), .val (.int p1), .val (.int p2), .val (.int p3), .val (.int M), .val (.ref b56), .unset] [])) _
          refine XS.aload X68.here hx rfl (hb hby at_91) rfl rfl ?_
          refine XS.iconst X68.here hx rfl (hb hby at_93) ?_
          refine XS.iloadN X68.here hx rfl (hb hby at_94) rfl  ?_
          show Steps p.tables e below (T68.setTop (mkF m 95 #[.val (.int p0), .val (.int p1), .val (.int p2), .val (.int p3), .val (.int M), .val (.ref b56), .unset] [(.int p2), (.int (3 : Int32)), (.ref b56)])) _
          refine XS.iconst X68.here hx rfl (hb hby at_95) ?_
          show Steps p.tables e below (T68.setTop (mkF m 96 #[.val (.int p0), .val (.int p1), .val (.int p2), .val (.int p3), .val (.int M), .val (.ref b56), .unset] [(.int (1 : Int32)), (.int p2), (.int (3 : Int32)), (.ref b56)])) _
          refine st70 _ ?_
          show Steps p.tables e below (T70.setTop (mkF m 99 #[.val (.int p0), .val (.int p1), .val (.int p2), .val (.int p3), .val (.int M), .val (.ref b56), .unset] [(.int (own_u1 p2)), (.int (3 : Int32)), (.ref b56)])) _
          refine st72 _ ?_
          show Steps p.tables e below (T72.setTop (mkF m 100 #[.val (.int p0), .val (.int p1), .val (.int p2), .val (.int p3), .val (.int M), .val (.ref b56), .unset] [])) _
          refine XS.iload X72.here hx rfl (hb hby at_100) rfl  ?_
          refine XS.iconst X72.here hx rfl (hb hby at_102) ?_
          show Steps p.tables e below (T72.setTop (mkF m 103 #[.val (.int p0), .val (.int p1), .val (.int p2), .val (.int p3), .val (.int M), .val (.ref b56), .unset] [(.int (3 : Int32)), (.int M)])) _
          refine XS.icmpYes X72.here hx rfl (pc0 := 103) (pc' := 124) rfl (hb hby at_103) rfl (tlt (by rw [hM]; decide)).1 (by decide) (by decide) ?_
          refine XS.iconst X72.here hx rfl (hb hby at_124) ?_
          refine XS.istore X72.here hx rfl (hb hby at_125) rfl (l' := #[.val (.int p0), .val (.int p1), .val (.int p2), .val (.int p3), .val (.int M), .val (.ref b56), .val (.int (-1 : Int32))]) rfl ?_
          show Steps p.tables e below (T72.setTop (mkF m 127 #[.val (.int p0), .val (.int p1), .val (.int p2), .val (.int p3), .val (.int M), .val (.ref b56), .val (.int (-1 : Int32))] [])) _
          refine XS.iload X72.here hx rfl (hb hby at_127) rfl  ?_
          refine XS.iconst X72.here hx rfl (hb hby at_129) ?_
          show Steps p.tables e below (T72.setTop (mkF m 130 #[.val (.int p0), .val (.int p1), .val (.int p2), .val (.int p3), .val (.int M), .val (.ref b56), .val (.int (-1 : Int32))] [(.int (1 : Int32)), (.int M)])) _
          refine XS.icmpNo X72.here hx rfl (hb hby at_130) rfl (flt (by rw [hM]; decide)).1 ?_
          exact kt)
        by_cases hi0_p1 : own_i0 p1
        · have f74 := (Nat.le_trans f69 (Keep.of_wr W72).1)
          obtain ⟨_, _, ⟨T75, L75, k75, n75⟩, -, X75, ⟨Lc75, hQ75, l75, y75, z75⟩, st75⟩ := Jvm.LawKit.callS X72 hx (y := (⟨"com/example/abeyance/abeyance/model/Utf8ReaderMalformedAtPinLaw", "isEsc", "(II)Z"⟩ : MethodName)) hown (mvT hZ (hw _ (List.mem_of_getElem? (i := 57) rfl))) (mvT hZ (hw _ (List.mem_of_getElem? (i := 58) rfl))) (mvT hZ (hw _ (List.mem_of_getElem? (i := 43) rfl))) (mvT hZ (hw _ (List.mem_of_getElem? (i := 59) rfl))) (by decide) (backOf (W := 0) (rmIsEsc0 l Z a0 hw [] p1 (1 : Int32) h72 n0 f74 (if_pos hi0_p1).symm) hZ (hw _ (List.mem_of_getElem? (i := 59) rfl)) (hw _ (List.mem_of_getElem? (i := 43) rfl)) (by decide) (by decide)) (g := (mkF m 135 #[.val (.int p0), .val (.int p1), .val (.int p2), .val (.int p3), .val (.int M), .val (.ref b56), .val (.int (-1 : Int32))] [(.int (0 : Int32)), (.int p1)])) rfl (by rw [hml]; rfl) (argsL := [(.int p1), (.int (0 : Int32))]) (rest := []) (lenOf pd__II_Z rfl) rfl (by show 2 * 0 + _ ≤ _; exact Nat.le_of_eq rfl) (hb hby at_135) (fun _ _ => ⟨rfl, e72, (by decide : 1 + 0 ≤ _), (by decide : 4 + 0 ≤ _)⟩)
          dsimp only [Pt.U, Pt.locs, Pt.cells, Pt.slots] at X75 l75 y75 z75 st75 hQ75
          subst l75 y75 z75
          obtain ⟨rfl, Nq75, e75⟩ := hQ75
          have N75 := Fr.app N72 Nq75
          obtain ⟨T76, h76, X76, e76, E76, A76, D76, -, st76⟩ := newO X75 hx hZ hown (hw _ (List.mem_of_getElem? (i := 1) rfl)) (hw _ (List.mem_of_getElem? (i := 2) rfl)) (hw _ (List.mem_of_getElem? (i := 3) rfl)) e75 (g := (mkF m 244 #[.val (.int p0), .val (.int p1), .val (.int p2), .val (.int p3), .val (.int M), .val (.ref b56), .val (.int (0 : Int32))] [])) rfl (hb hby at_244) (by decide) (by decide)
          obtain ⟨b76, g76⟩ : ∃ z, z = h72.size := ⟨_, rfl⟩
          rw [← g76] at A76 D76 st76
          have ne76_b56 : b56 ≠ b76 := Nat.ne_of_lt (Nat.lt_of_lt_of_le V72.lt (Nat.le_of_eq g76.symm))
          have ge76 : n0 ≤ b76 := Nat.le_trans f74 (Nat.le_of_eq g76.symm)
          have F76_value : Fld Z h76 b76 "java/lang/String" "value" "[B" .null := D76 (Or.inr (hw _ (List.mem_of_getElem? (i := 16) rfl))) (ty := (.array .byte)) (by decide)
          have F76_coder : Fld Z h76 b76 "java/lang/String" "coder" "B" (.int (0 : Int32)) := D76 (Or.inr (hw _ (List.mem_of_getElem? (i := 17) rfl))) (ty := .byte) (by decide)
          have f77 := (V72.ext E76)
          have f78 := (Nat.le_trans f74 E76.1)
          have f79 := ((((((Ol.ext E56).wr W60 ge56).wr W64 ge56).wr W68 ge56).wr W72 ge56).ext E76)
          obtain ⟨_, _, ⟨T80, L80, k80, n80⟩, -, X80, ⟨Lc80, hQ80, l80, y80, z80⟩, st80⟩ := X76.specialBack hx (y := (⟨"java/lang/String", "<init>", "([C)V"⟩ : MethodName)) rfl hown (mvT hZ (hw _ (List.mem_of_getElem? (i := 4) rfl))) (mvT hZ (hw _ (List.mem_of_getElem? (i := 5) rfl))) (mvT hZ (hw _ (List.mem_of_getElem? (i := 6) rfl))) (by decide) (backOf (W := 1) (rmNew4 l Z a0 hw [] b76 b56 zc fm k56 ((own_v0 p1)) ((own_v1 p1)) ((own_v0 p2)) ((own_v1 p2)) h76 n0 f78 hSt f79 A76 F76_value F76_coder ge76 f77 (own_allc (own_vr _) (own_allc (own_vr _) (own_allc (own_vr _) (own_allc (own_vr _) (fun _ q => nomatch q)))))) hZ (hw _ (List.mem_of_getElem? (i := 6) rfl)) (hw _ (List.mem_of_getElem? (i := 3) rfl)) (by decide) (by decide)) (g := (mkF m 250 #[.val (.int p0), .val (.int p1), .val (.int p2), .val (.int p3), .val (.int M), .val (.ref b56), .val (.int (0 : Int32))] [(.ref b56), (.ref b76), (.ref b76)])) rfl (by rw [hml]; rfl) (Steps.refl _) (a := b76) (argsL := [(.ref b56)]) (rest := [(.ref b76)]) (lenOf pd___C_V rfl) rfl (by show 2 * 0 + _ ≤ _; exact Nat.le_of_eq rfl) (hb hby at_250) (fun _ _ => ⟨rfl, e76, (by decide : 2 + 2 ≤ _), (by decide : 8 + 12 ≤ _)⟩)
          dsimp only [Pt.U, Pt.locs, Pt.cells, Pt.slots] at X80 l80 y80 z80 st80 hQ80
          subst l80 y80 z80
          obtain ⟨rfl, Nq80, K80, hStr⟩ := hQ80
          have N80 := Fr.app N75 Nq80
          have hma : own_ma [own_v0 p1, own_v1 p1, own_v0 p2, own_v1 p2] 5 0 = own_mal [own_v0 p1, own_v1 p1, own_v0 p2, own_v1 p2] 0 := own_mal_eq [own_v0 p1, own_v1 p1, own_v0 p2, own_v1 p2] 5 0 (Nat.le_of_ble_eq_true rfl)
          have f81 := (Nat.le_trans f78 K80.1)
          have f82 := (f79.keep K80 (allS ge76 all0))
          obtain ⟨_, _, ⟨T83, L83, k83, n83⟩, -, X83, ⟨Lc83, hQ83, l83, y83, z83⟩, st83⟩ := Jvm.LawKit.callS X80 hx (y := (⟨"com/example/abeyance/abeyance/model/Utf8Reader", "malformedAt", "(Ljava/lang/CharSequence;)I"⟩ : MethodName)) hown (mvT hZ (hw _ (List.mem_of_getElem? (i := 22) rfl))) (mvT hZ (hw _ (List.mem_of_getElem? (i := 23) rfl))) (mvT hZ (hw _ (List.mem_of_getElem? (i := 24) rfl))) (mvT hZ (hw _ (List.mem_of_getElem? (i := 25) rfl))) (by decide) (backOf (W := 0) (rmMalAt l Z a0 hw [] b76 zc fm [own_v0 p1, own_v1 p1, own_v0 p2, own_v1 p2] (0 : Int32) T80.heap n0 f81 hSt f82 hStr (Nat.le_of_ble_eq_true rfl) (hma.trans ((own_pairU p1 [own_v0 p2, own_v1 p2] 0).1 hi0_p1)).symm) hZ (hw _ (List.mem_of_getElem? (i := 25) rfl)) (hw _ (List.mem_of_getElem? (i := 24) rfl)) (by decide) (by decide)) (g := (mkF m 253 #[.val (.int p0), .val (.int p1), .val (.int p2), .val (.int p3), .val (.int M), .val (.ref b56), .val (.int (0 : Int32))] [(.ref b76)])) rfl (by rw [hml]; rfl) (argsL := [(.ref b76)]) (rest := []) (lenOf pd__Ljava_lang_CharSequence__I rfl) rfl (by show 2 * 0 + _ ≤ _; exact Nat.le_of_eq rfl) (hb hby at_253) (fun _ _ => ⟨rfl, rfl, (by decide : 4 + 0 ≤ _), (by decide : 20 + 0 ≤ _)⟩)
          dsimp only [Pt.U, Pt.locs, Pt.cells, Pt.slots] at X83 l83 y83 z83 st83 hQ83
          subst l83 y83 z83
          obtain ⟨rfl, Nq83, e83⟩ := hQ83
          have N83 := Fr.app N80 Nq83
          obtain ⟨fs, hr, hrun, hended, hW, hsame⟩ := X83.leave (v := some (.int (1 : Int32))) (fun h => by rw [Bd.returns] at h; cases h)
          refine ⟨_, _, pre73 _ ?_, hrun, hended, _, _, rfl, ?_, ReturnedEndW.of_narrow ⟨_, rfl⟩ hW (hsame.mono (by decide) (by decide))⟩
          · show Steps p.tables e below (T72.setTop (mkF m 133 #[.val (.int p0), .val (.int p1), .val (.int p2), .val (.int p3), .val (.int M), .val (.ref b56), .val (.int (-1 : Int32))] [])) _
            refine XS.iloadN X72.here hx rfl (hb hby at_133) rfl  ?_
            refine XS.iconst X72.here hx rfl (hb hby at_134) ?_
            show Steps p.tables e below (T72.setTop (mkF m 135 #[.val (.int p0), .val (.int p1), .val (.int p2), .val (.int p3), .val (.int M), .val (.ref b56), .val (.int (-1 : Int32))] [(.int (0 : Int32)), (.int p1)])) _
            refine st75 _ ?_
            show Steps p.tables e below (T75.setTop (mkF m 138 #[.val (.int p0), .val (.int p1), .val (.int p2), .val (.int p3), .val (.int M), .val (.ref b56), .val (.int (-1 : Int32))] [(.int (1 : Int32))])) _
            refine XS.ifNo X75.here hx rfl (hb hby at_138) rfl ((if0 _ _).trans (feq (by decide : ¬ ((1 : Int32) = (0 : Int32)))).1) ?_
            refine XS.iconst X75.here hx rfl (hb hby at_141) ?_
            refine XS.istore X75.here hx rfl (hb hby at_142) rfl (l' := #[.val (.int p0), .val (.int p1), .val (.int p2), .val (.int p3), .val (.int M), .val (.ref b56), .val (.int (0 : Int32))]) rfl ?_
            show Steps p.tables e below (T75.setTop (mkF m 144 #[.val (.int p0), .val (.int p1), .val (.int p2), .val (.int p3), .val (.int M), .val (.ref b56), .val (.int (0 : Int32))] [])) _
            refine XS.goto X75.here hx rfl (pc0 := 144) (pc' := 244) rfl (hb hby at_144) (by decide) (by decide) ?_
            show Steps p.tables e below (T75.setTop (mkF m 244 #[.val (.int p0), .val (.int p1), .val (.int p2), .val (.int p3), .val (.int M), .val (.ref b56), .val (.int (0 : Int32))] [])) _
            refine st76 _ ?_
            show Steps p.tables e below (T76.setTop (mkF m 247 #[.val (.int p0), .val (.int p1), .val (.int p2), .val (.int p3), .val (.int M), .val (.ref b56), .val (.int (0 : Int32))] [(.ref b76)])) _
            refine XS.dup X76.here hx rfl (hb hby at_247) rfl rfl ?_
            refine XS.aload X76.here hx rfl (hb hby at_248) rfl rfl ?_
            show Steps p.tables e below (T76.setTop (mkF m 250 #[.val (.int p0), .val (.int p1), .val (.int p2), .val (.int p3), .val (.int M), .val (.ref b56), .val (.int (0 : Int32))] [(.ref b56), (.ref b76), (.ref b76)])) _
            refine st80.trans ?_
            show Steps p.tables e below (T80.setTop (mkF m 253 #[.val (.int p0), .val (.int p1), .val (.int p2), .val (.int p3), .val (.int M), .val (.ref b56), .val (.int (0 : Int32))] [(.ref b76)])) _
            refine st83 _ ?_
            show Steps p.tables e below (T83.setTop (mkF m 256 #[.val (.int p0), .val (.int p1), .val (.int p2), .val (.int p3), .val (.int M), .val (.ref b56), .val (.int (0 : Int32))] [(.int (0 : Int32))])) _
            refine XS.iload X83.here hx rfl (hb hby at_256) rfl  ?_
            show Steps p.tables e below (T83.setTop (mkF m 258 #[.val (.int p0), .val (.int p1), .val (.int p2), .val (.int p3), .val (.int M), .val (.ref b56), .val (.int (0 : Int32))] [(.int (0 : Int32)), (.int (0 : Int32))])) _
            refine XS.icmpNo X83.here hx rfl (hb hby at_258) rfl (teq (by decide : (0 : Int32) = (0 : Int32))).2 ?_
            refine XS.iconst X83.here hx rfl (hb hby at_261) ?_
            refine XS.goto X83.here hx rfl (pc0 := 262) (pc' := 266) rfl (hb hby at_262) (by decide) (by decide) ?_
            show Steps p.tables e below (T83.setTop (mkF m 266 #[.val (.int p0), .val (.int p1), .val (.int p2), .val (.int p3), .val (.int M), .val (.ref b56), .val (.int (0 : Int32))] [(.int (1 : Int32))])) _
            exact retN X83 hx (t := .boolean) Bd.returns (by simp) (hb hby at_266) hr
          · show Q_rm0 Z p0 p1 p2 p3 zc fm h0 n0 _ T83.heap _
            rw [e83]
            exact ⟨rfl, N83⟩
        · have f84 := (Nat.le_trans f69 (Keep.of_wr W72).1)
          obtain ⟨_, _, ⟨T85, L85, k85, n85⟩, -, X85, ⟨Lc85, hQ85, l85, y85, z85⟩, st85⟩ := Jvm.LawKit.callS X72 hx (y := (⟨"com/example/abeyance/abeyance/model/Utf8ReaderMalformedAtPinLaw", "isEsc", "(II)Z"⟩ : MethodName)) hown (mvT hZ (hw _ (List.mem_of_getElem? (i := 57) rfl))) (mvT hZ (hw _ (List.mem_of_getElem? (i := 58) rfl))) (mvT hZ (hw _ (List.mem_of_getElem? (i := 43) rfl))) (mvT hZ (hw _ (List.mem_of_getElem? (i := 59) rfl))) (by decide) (backOf (W := 0) (rmIsEsc0 l Z a0 hw [] p1 (0 : Int32) h72 n0 f84 (if_neg hi0_p1).symm) hZ (hw _ (List.mem_of_getElem? (i := 59) rfl)) (hw _ (List.mem_of_getElem? (i := 43) rfl)) (by decide) (by decide)) (g := (mkF m 135 #[.val (.int p0), .val (.int p1), .val (.int p2), .val (.int p3), .val (.int M), .val (.ref b56), .val (.int (-1 : Int32))] [(.int (0 : Int32)), (.int p1)])) rfl (by rw [hml]; rfl) (argsL := [(.int p1), (.int (0 : Int32))]) (rest := []) (lenOf pd__II_Z rfl) rfl (by show 2 * 0 + _ ≤ _; exact Nat.le_of_eq rfl) (hb hby at_135) (fun _ _ => ⟨rfl, e72, (by decide : 1 + 0 ≤ _), (by decide : 4 + 0 ≤ _)⟩)
          dsimp only [Pt.U, Pt.locs, Pt.cells, Pt.slots] at X85 l85 y85 z85 st85 hQ85
          subst l85 y85 z85
          obtain ⟨rfl, Nq85, e85⟩ := hQ85
          have N85 := Fr.app N72 Nq85
          have pre86 : ∀ t, Steps p.tables e below (T85.setTop (mkF m 153 #[.val (.int p0), .val (.int p1), .val (.int p2), .val (.int p3), .val (.int M), .val (.ref b56), .val (.int (-1 : Int32))] [])) t → Steps p.tables e below (s₁.setTop (entryFrame m #[(.int p0), (.int p1), (.int p2), (.int p3)] maxLocals)) t := fun t kt => pre73 t (by
            show Steps p.tables e below (T72.setTop (mkF m 133 #[.val (.int p0), .val (.int p1), .val (.int p2), .val (.int p3), .val (.int M), .val (.ref b56), .val (.int (-1 : Int32))] [])) _
            refine XS.iloadN X72.here hx rfl (hb hby at_133) rfl  ?_
            refine XS.iconst X72.here hx rfl (hb hby at_134) ?_
            show Steps p.tables e below (T72.setTop (mkF m 135 #[.val (.int p0), .val (.int p1), .val (.int p2), .val (.int p3), .val (.int M), .val (.ref b56), .val (.int (-1 : Int32))] [(.int (0 : Int32)), (.int p1)])) _
            refine st85 _ ?_
            show Steps p.tables e below (T85.setTop (mkF m 138 #[.val (.int p0), .val (.int p1), .val (.int p2), .val (.int p3), .val (.int M), .val (.ref b56), .val (.int (-1 : Int32))] [(.int (0 : Int32))])) _
            refine XS.ifYes X85.here hx rfl (pc0 := 138) (pc' := 147) rfl (hb hby at_138) rfl ((if0 _ _).trans (teq (by decide : (0 : Int32) = (0 : Int32))).1) (by decide) (by decide) ?_
            refine XS.iload X85.here hx rfl (hb hby at_147) rfl  ?_
            refine XS.iconst X85.here hx rfl (hb hby at_149) ?_
            show Steps p.tables e below (T85.setTop (mkF m 150 #[.val (.int p0), .val (.int p1), .val (.int p2), .val (.int p3), .val (.int M), .val (.ref b56), .val (.int (-1 : Int32))] [(.int (1 : Int32)), (.int M)])) _
            refine XS.icmpNo X85.here hx rfl (hb hby at_150) rfl (flt (by rw [hM]; decide)).1 ?_
            exact kt)
          by_cases hi1_p1 : own_i1 p1
          · obtain ⟨_, _, ⟨T87, L87, k87, n87⟩, -, X87, ⟨Lc87, hQ87, l87, y87, z87⟩, st87⟩ := Jvm.LawKit.callS X85 hx (y := (⟨"com/example/abeyance/abeyance/model/Utf8ReaderMalformedAtPinLaw", "isEsc", "(II)Z"⟩ : MethodName)) hown (mvT hZ (hw _ (List.mem_of_getElem? (i := 57) rfl))) (mvT hZ (hw _ (List.mem_of_getElem? (i := 58) rfl))) (mvT hZ (hw _ (List.mem_of_getElem? (i := 43) rfl))) (mvT hZ (hw _ (List.mem_of_getElem? (i := 59) rfl))) (by decide) (backOf (W := 0) (rmIsEsc1 l Z a0 hw [] p1 (1 : Int32) h72 n0 f84 (if_pos hi1_p1).symm) hZ (hw _ (List.mem_of_getElem? (i := 59) rfl)) (hw _ (List.mem_of_getElem? (i := 43) rfl)) (by decide) (by decide)) (g := (mkF m 155 #[.val (.int p0), .val (.int p1), .val (.int p2), .val (.int p3), .val (.int M), .val (.ref b56), .val (.int (-1 : Int32))] [(.int (1 : Int32)), (.int p1)])) rfl (by rw [hml]; rfl) (argsL := [(.int p1), (.int (1 : Int32))]) (rest := []) (lenOf pd__II_Z rfl) rfl (by show 2 * 0 + _ ≤ _; exact Nat.le_of_eq rfl) (hb hby at_155) (fun _ _ => ⟨rfl, e85, (by decide : 1 + 0 ≤ _), (by decide : 4 + 0 ≤ _)⟩)
            dsimp only [Pt.U, Pt.locs, Pt.cells, Pt.slots] at X87 l87 y87 z87 st87 hQ87
            subst l87 y87 z87
            obtain ⟨rfl, Nq87, e87⟩ := hQ87
            have N87 := Fr.app N85 Nq87
            obtain ⟨T88, h88, X88, e88, E88, A88, D88, -, st88⟩ := newO X87 hx hZ hown (hw _ (List.mem_of_getElem? (i := 1) rfl)) (hw _ (List.mem_of_getElem? (i := 2) rfl)) (hw _ (List.mem_of_getElem? (i := 3) rfl)) e87 (g := (mkF m 244 #[.val (.int p0), .val (.int p1), .val (.int p2), .val (.int p3), .val (.int M), .val (.ref b56), .val (.int (1 : Int32))] [])) rfl (hb hby at_244) (by decide) (by decide)
            obtain ⟨b88, g88⟩ : ∃ z, z = h72.size := ⟨_, rfl⟩
            rw [← g88] at A88 D88 st88
            have ne88_b56 : b56 ≠ b88 := Nat.ne_of_lt (Nat.lt_of_lt_of_le V72.lt (Nat.le_of_eq g88.symm))
            have ge88 : n0 ≤ b88 := Nat.le_trans f84 (Nat.le_of_eq g88.symm)
            have F88_value : Fld Z h88 b88 "java/lang/String" "value" "[B" .null := D88 (Or.inr (hw _ (List.mem_of_getElem? (i := 16) rfl))) (ty := (.array .byte)) (by decide)
            have F88_coder : Fld Z h88 b88 "java/lang/String" "coder" "B" (.int (0 : Int32)) := D88 (Or.inr (hw _ (List.mem_of_getElem? (i := 17) rfl))) (ty := .byte) (by decide)
            have f89 := (V72.ext E88)
            have f90 := (Nat.le_trans f84 E88.1)
            have f91 := ((((((Ol.ext E56).wr W60 ge56).wr W64 ge56).wr W68 ge56).wr W72 ge56).ext E88)
            obtain ⟨_, _, ⟨T92, L92, k92, n92⟩, -, X92, ⟨Lc92, hQ92, l92, y92, z92⟩, st92⟩ := X88.specialBack hx (y := (⟨"java/lang/String", "<init>", "([C)V"⟩ : MethodName)) rfl hown (mvT hZ (hw _ (List.mem_of_getElem? (i := 4) rfl))) (mvT hZ (hw _ (List.mem_of_getElem? (i := 5) rfl))) (mvT hZ (hw _ (List.mem_of_getElem? (i := 6) rfl))) (by decide) (backOf (W := 1) (rmNew4 l Z a0 hw [] b88 b56 zc fm k56 ((own_v0 p1)) ((own_v1 p1)) ((own_v0 p2)) ((own_v1 p2)) h88 n0 f90 hSt f91 A88 F88_value F88_coder ge88 f89 (own_allc (own_vr _) (own_allc (own_vr _) (own_allc (own_vr _) (own_allc (own_vr _) (fun _ q => nomatch q)))))) hZ (hw _ (List.mem_of_getElem? (i := 6) rfl)) (hw _ (List.mem_of_getElem? (i := 3) rfl)) (by decide) (by decide)) (g := (mkF m 250 #[.val (.int p0), .val (.int p1), .val (.int p2), .val (.int p3), .val (.int M), .val (.ref b56), .val (.int (1 : Int32))] [(.ref b56), (.ref b88), (.ref b88)])) rfl (by rw [hml]; rfl) (Steps.refl _) (a := b88) (argsL := [(.ref b56)]) (rest := [(.ref b88)]) (lenOf pd___C_V rfl) rfl (by show 2 * 0 + _ ≤ _; exact Nat.le_of_eq rfl) (hb hby at_250) (fun _ _ => ⟨rfl, e88, (by decide : 2 + 2 ≤ _), (by decide : 8 + 12 ≤ _)⟩)
            dsimp only [Pt.U, Pt.locs, Pt.cells, Pt.slots] at X92 l92 y92 z92 st92 hQ92
            subst l92 y92 z92
            obtain ⟨rfl, Nq92, K92, hStr⟩ := hQ92
            have N92 := Fr.app N87 Nq92
            have hma : own_ma [own_v0 p1, own_v1 p1, own_v0 p2, own_v1 p2] 5 0 = own_mal [own_v0 p1, own_v1 p1, own_v0 p2, own_v1 p2] 0 := own_mal_eq [own_v0 p1, own_v1 p1, own_v0 p2, own_v1 p2] 5 0 (Nat.le_of_ble_eq_true rfl)
            have f93 := (Nat.le_trans f90 K92.1)
            have f94 := (f91.keep K92 (allS ge88 all0))
            obtain ⟨_, _, ⟨T95, L95, k95, n95⟩, -, X95, ⟨Lc95, hQ95, l95, y95, z95⟩, st95⟩ := Jvm.LawKit.callS X92 hx (y := (⟨"com/example/abeyance/abeyance/model/Utf8Reader", "malformedAt", "(Ljava/lang/CharSequence;)I"⟩ : MethodName)) hown (mvT hZ (hw _ (List.mem_of_getElem? (i := 22) rfl))) (mvT hZ (hw _ (List.mem_of_getElem? (i := 23) rfl))) (mvT hZ (hw _ (List.mem_of_getElem? (i := 24) rfl))) (mvT hZ (hw _ (List.mem_of_getElem? (i := 25) rfl))) (by decide) (backOf (W := 0) (rmMalAt l Z a0 hw [] b88 zc fm [own_v0 p1, own_v1 p1, own_v0 p2, own_v1 p2] (1 : Int32) T92.heap n0 f93 hSt f94 hStr (Nat.le_of_ble_eq_true rfl) (hma.trans ((own_pairU p1 [own_v0 p2, own_v1 p2] 0).2.1 hi0_p1 hi1_p1)).symm) hZ (hw _ (List.mem_of_getElem? (i := 25) rfl)) (hw _ (List.mem_of_getElem? (i := 24) rfl)) (by decide) (by decide)) (g := (mkF m 253 #[.val (.int p0), .val (.int p1), .val (.int p2), .val (.int p3), .val (.int M), .val (.ref b56), .val (.int (1 : Int32))] [(.ref b88)])) rfl (by rw [hml]; rfl) (argsL := [(.ref b88)]) (rest := []) (lenOf pd__Ljava_lang_CharSequence__I rfl) rfl (by show 2 * 0 + _ ≤ _; exact Nat.le_of_eq rfl) (hb hby at_253) (fun _ _ => ⟨rfl, rfl, (by decide : 4 + 0 ≤ _), (by decide : 20 + 0 ≤ _)⟩)
            dsimp only [Pt.U, Pt.locs, Pt.cells, Pt.slots] at X95 l95 y95 z95 st95 hQ95
            subst l95 y95 z95
            obtain ⟨rfl, Nq95, e95⟩ := hQ95
            have N95 := Fr.app N92 Nq95
            obtain ⟨fs, hr, hrun, hended, hW, hsame⟩ := X95.leave (v := some (.int (1 : Int32))) (fun h => by rw [Bd.returns] at h; cases h)
            refine ⟨_, _, pre86 _ ?_, hrun, hended, _, _, rfl, ?_, ReturnedEndW.of_narrow ⟨_, rfl⟩ hW (hsame.mono (by decide) (by decide))⟩
            · show Steps p.tables e below (T85.setTop (mkF m 153 #[.val (.int p0), .val (.int p1), .val (.int p2), .val (.int p3), .val (.int M), .val (.ref b56), .val (.int (-1 : Int32))] [])) _
              refine XS.iloadN X85.here hx rfl (hb hby at_153) rfl  ?_
              refine XS.iconst X85.here hx rfl (hb hby at_154) ?_
              show Steps p.tables e below (T85.setTop (mkF m 155 #[.val (.int p0), .val (.int p1), .val (.int p2), .val (.int p3), .val (.int M), .val (.ref b56), .val (.int (-1 : Int32))] [(.int (1 : Int32)), (.int p1)])) _
              refine st87 _ ?_
              show Steps p.tables e below (T87.setTop (mkF m 158 #[.val (.int p0), .val (.int p1), .val (.int p2), .val (.int p3), .val (.int M), .val (.ref b56), .val (.int (-1 : Int32))] [(.int (1 : Int32))])) _
              refine XS.ifNo X87.here hx rfl (hb hby at_158) rfl ((if0 _ _).trans (feq (by decide : ¬ ((1 : Int32) = (0 : Int32)))).1) ?_
              refine XS.iconst X87.here hx rfl (hb hby at_161) ?_
              refine XS.istore X87.here hx rfl (hb hby at_162) rfl (l' := #[.val (.int p0), .val (.int p1), .val (.int p2), .val (.int p3), .val (.int M), .val (.ref b56), .val (.int (1 : Int32))]) rfl ?_
              show Steps p.tables e below (T87.setTop (mkF m 164 #[.val (.int p0), .val (.int p1), .val (.int p2), .val (.int p3), .val (.int M), .val (.ref b56), .val (.int (1 : Int32))] [])) _
              refine XS.goto X87.here hx rfl (pc0 := 164) (pc' := 244) rfl (hb hby at_164) (by decide) (by decide) ?_
              show Steps p.tables e below (T87.setTop (mkF m 244 #[.val (.int p0), .val (.int p1), .val (.int p2), .val (.int p3), .val (.int M), .val (.ref b56), .val (.int (1 : Int32))] [])) _
              refine st88 _ ?_
              show Steps p.tables e below (T88.setTop (mkF m 247 #[.val (.int p0), .val (.int p1), .val (.int p2), .val (.int p3), .val (.int M), .val (.ref b56), .val (.int (1 : Int32))] [(.ref b88)])) _
              refine XS.dup X88.here hx rfl (hb hby at_247) rfl rfl ?_
              refine XS.aload X88.here hx rfl (hb hby at_248) rfl rfl ?_
              show Steps p.tables e below (T88.setTop (mkF m 250 #[.val (.int p0), .val (.int p1), .val (.int p2), .val (.int p3), .val (.int M), .val (.ref b56), .val (.int (1 : Int32))] [(.ref b56), (.ref b88), (.ref b88)])) _
              refine st92.trans ?_
              show Steps p.tables e below (T92.setTop (mkF m 253 #[.val (.int p0), .val (.int p1), .val (.int p2), .val (.int p3), .val (.int M), .val (.ref b56), .val (.int (1 : Int32))] [(.ref b88)])) _
              refine st95 _ ?_
              show Steps p.tables e below (T95.setTop (mkF m 256 #[.val (.int p0), .val (.int p1), .val (.int p2), .val (.int p3), .val (.int M), .val (.ref b56), .val (.int (1 : Int32))] [(.int (1 : Int32))])) _
              refine XS.iload X95.here hx rfl (hb hby at_256) rfl  ?_
              show Steps p.tables e below (T95.setTop (mkF m 258 #[.val (.int p0), .val (.int p1), .val (.int p2), .val (.int p3), .val (.int M), .val (.ref b56), .val (.int (1 : Int32))] [(.int (1 : Int32)), (.int (1 : Int32))])) _
              refine XS.icmpNo X95.here hx rfl (hb hby at_258) rfl (teq (by decide : (1 : Int32) = (1 : Int32))).2 ?_
              refine XS.iconst X95.here hx rfl (hb hby at_261) ?_
              refine XS.goto X95.here hx rfl (pc0 := 262) (pc' := 266) rfl (hb hby at_262) (by decide) (by decide) ?_
              show Steps p.tables e below (T95.setTop (mkF m 266 #[.val (.int p0), .val (.int p1), .val (.int p2), .val (.int p3), .val (.int M), .val (.ref b56), .val (.int (1 : Int32))] [(.int (1 : Int32))])) _
              exact retN X95 hx (t := .boolean) Bd.returns (by simp) (hb hby at_266) hr
            · show Q_rm0 Z p0 p1 p2 p3 zc fm h0 n0 _ T95.heap _
              rw [e95]
              exact ⟨rfl, N95⟩
          · obtain ⟨_, _, ⟨T96, L96, k96, n96⟩, -, X96, ⟨Lc96, hQ96, l96, y96, z96⟩, st96⟩ := Jvm.LawKit.callS X85 hx (y := (⟨"com/example/abeyance/abeyance/model/Utf8ReaderMalformedAtPinLaw", "isEsc", "(II)Z"⟩ : MethodName)) hown (mvT hZ (hw _ (List.mem_of_getElem? (i := 57) rfl))) (mvT hZ (hw _ (List.mem_of_getElem? (i := 58) rfl))) (mvT hZ (hw _ (List.mem_of_getElem? (i := 43) rfl))) (mvT hZ (hw _ (List.mem_of_getElem? (i := 59) rfl))) (by decide) (backOf (W := 0) (rmIsEsc1 l Z a0 hw [] p1 (0 : Int32) h72 n0 f84 (if_neg hi1_p1).symm) hZ (hw _ (List.mem_of_getElem? (i := 59) rfl)) (hw _ (List.mem_of_getElem? (i := 43) rfl)) (by decide) (by decide)) (g := (mkF m 155 #[.val (.int p0), .val (.int p1), .val (.int p2), .val (.int p3), .val (.int M), .val (.ref b56), .val (.int (-1 : Int32))] [(.int (1 : Int32)), (.int p1)])) rfl (by rw [hml]; rfl) (argsL := [(.int p1), (.int (1 : Int32))]) (rest := []) (lenOf pd__II_Z rfl) rfl (by show 2 * 0 + _ ≤ _; exact Nat.le_of_eq rfl) (hb hby at_155) (fun _ _ => ⟨rfl, e85, (by decide : 1 + 0 ≤ _), (by decide : 4 + 0 ≤ _)⟩)
            dsimp only [Pt.U, Pt.locs, Pt.cells, Pt.slots] at X96 l96 y96 z96 st96 hQ96
            subst l96 y96 z96
            obtain ⟨rfl, Nq96, e96⟩ := hQ96
            have N96 := Fr.app N85 Nq96
            have pre97 : ∀ t, Steps p.tables e below (T96.setTop (mkF m 173 #[.val (.int p0), .val (.int p1), .val (.int p2), .val (.int p3), .val (.int M), .val (.ref b56), .val (.int (-1 : Int32))] [])) t → Steps p.tables e below (s₁.setTop (entryFrame m #[(.int p0), (.int p1), (.int p2), (.int p3)] maxLocals)) t := fun t kt => pre86 t (by
              show Steps p.tables e below (T85.setTop (mkF m 153 #[.val (.int p0), .val (.int p1), .val (.int p2), .val (.int p3), .val (.int M), .val (.ref b56), .val (.int (-1 : Int32))] [])) _
              refine XS.iloadN X85.here hx rfl (hb hby at_153) rfl  ?_
              refine XS.iconst X85.here hx rfl (hb hby at_154) ?_
              show Steps p.tables e below (T85.setTop (mkF m 155 #[.val (.int p0), .val (.int p1), .val (.int p2), .val (.int p3), .val (.int M), .val (.ref b56), .val (.int (-1 : Int32))] [(.int (1 : Int32)), (.int p1)])) _
              refine st96 _ ?_
              show Steps p.tables e below (T96.setTop (mkF m 158 #[.val (.int p0), .val (.int p1), .val (.int p2), .val (.int p3), .val (.int M), .val (.ref b56), .val (.int (-1 : Int32))] [(.int (0 : Int32))])) _
              refine XS.ifYes X96.here hx rfl (pc0 := 158) (pc' := 167) rfl (hb hby at_158) rfl ((if0 _ _).trans (teq (by decide : (0 : Int32) = (0 : Int32))).1) (by decide) (by decide) ?_
              refine XS.iload X96.here hx rfl (hb hby at_167) rfl  ?_
              refine XS.iconst X96.here hx rfl (hb hby at_169) ?_
              show Steps p.tables e below (T96.setTop (mkF m 170 #[.val (.int p0), .val (.int p1), .val (.int p2), .val (.int p3), .val (.int M), .val (.ref b56), .val (.int (-1 : Int32))] [(.int (2 : Int32)), (.int M)])) _
              refine XS.icmpNo X96.here hx rfl (hb hby at_170) rfl (flt (by rw [hM]; decide)).1 ?_
              exact kt)
            by_cases hi0_p2 : own_i0 p2
            · obtain ⟨_, _, ⟨T98, L98, k98, n98⟩, -, X98, ⟨Lc98, hQ98, l98, y98, z98⟩, st98⟩ := Jvm.LawKit.callS X96 hx (y := (⟨"com/example/abeyance/abeyance/model/Utf8ReaderMalformedAtPinLaw", "isEsc", "(II)Z"⟩ : MethodName)) hown (mvT hZ (hw _ (List.mem_of_getElem? (i := 57) rfl))) (mvT hZ (hw _ (List.mem_of_getElem? (i := 58) rfl))) (mvT hZ (hw _ (List.mem_of_getElem? (i := 43) rfl))) (mvT hZ (hw _ (List.mem_of_getElem? (i := 59) rfl))) (by decide) (backOf (W := 0) (rmIsEsc0 l Z a0 hw [] p2 (1 : Int32) h72 n0 f84 (if_pos hi0_p2).symm) hZ (hw _ (List.mem_of_getElem? (i := 59) rfl)) (hw _ (List.mem_of_getElem? (i := 43) rfl)) (by decide) (by decide)) (g := (mkF m 175 #[.val (.int p0), .val (.int p1), .val (.int p2), .val (.int p3), .val (.int M), .val (.ref b56), .val (.int (-1 : Int32))] [(.int (0 : Int32)), (.int p2)])) rfl (by rw [hml]; rfl) (argsL := [(.int p2), (.int (0 : Int32))]) (rest := []) (lenOf pd__II_Z rfl) rfl (by show 2 * 0 + _ ≤ _; exact Nat.le_of_eq rfl) (hb hby at_175) (fun _ _ => ⟨rfl, e96, (by decide : 1 + 0 ≤ _), (by decide : 4 + 0 ≤ _)⟩)
              dsimp only [Pt.U, Pt.locs, Pt.cells, Pt.slots] at X98 l98 y98 z98 st98 hQ98
              subst l98 y98 z98
              obtain ⟨rfl, Nq98, e98⟩ := hQ98
              have N98 := Fr.app N96 Nq98
              obtain ⟨T99, h99, X99, e99, E99, A99, D99, -, st99⟩ := newO X98 hx hZ hown (hw _ (List.mem_of_getElem? (i := 1) rfl)) (hw _ (List.mem_of_getElem? (i := 2) rfl)) (hw _ (List.mem_of_getElem? (i := 3) rfl)) e98 (g := (mkF m 244 #[.val (.int p0), .val (.int p1), .val (.int p2), .val (.int p3), .val (.int M), .val (.ref b56), .val (.int (2 : Int32))] [])) rfl (hb hby at_244) (by decide) (by decide)
              obtain ⟨b99, g99⟩ : ∃ z, z = h72.size := ⟨_, rfl⟩
              rw [← g99] at A99 D99 st99
              have ne99_b56 : b56 ≠ b99 := Nat.ne_of_lt (Nat.lt_of_lt_of_le V72.lt (Nat.le_of_eq g99.symm))
              have ge99 : n0 ≤ b99 := Nat.le_trans f84 (Nat.le_of_eq g99.symm)
              have F99_value : Fld Z h99 b99 "java/lang/String" "value" "[B" .null := D99 (Or.inr (hw _ (List.mem_of_getElem? (i := 16) rfl))) (ty := (.array .byte)) (by decide)
              have F99_coder : Fld Z h99 b99 "java/lang/String" "coder" "B" (.int (0 : Int32)) := D99 (Or.inr (hw _ (List.mem_of_getElem? (i := 17) rfl))) (ty := .byte) (by decide)
              have f100 := (V72.ext E99)
              have f101 := (Nat.le_trans f84 E99.1)
              have f102 := ((((((Ol.ext E56).wr W60 ge56).wr W64 ge56).wr W68 ge56).wr W72 ge56).ext E99)
              obtain ⟨_, _, ⟨T103, L103, k103, n103⟩, -, X103, ⟨Lc103, hQ103, l103, y103, z103⟩, st103⟩ := X99.specialBack hx (y := (⟨"java/lang/String", "<init>", "([C)V"⟩ : MethodName)) rfl hown (mvT hZ (hw _ (List.mem_of_getElem? (i := 4) rfl))) (mvT hZ (hw _ (List.mem_of_getElem? (i := 5) rfl))) (mvT hZ (hw _ (List.mem_of_getElem? (i := 6) rfl))) (by decide) (backOf (W := 1) (rmNew4 l Z a0 hw [] b99 b56 zc fm k56 ((own_v0 p1)) ((own_v1 p1)) ((own_v0 p2)) ((own_v1 p2)) h99 n0 f101 hSt f102 A99 F99_value F99_coder ge99 f100 (own_allc (own_vr _) (own_allc (own_vr _) (own_allc (own_vr _) (own_allc (own_vr _) (fun _ q => nomatch q)))))) hZ (hw _ (List.mem_of_getElem? (i := 6) rfl)) (hw _ (List.mem_of_getElem? (i := 3) rfl)) (by decide) (by decide)) (g := (mkF m 250 #[.val (.int p0), .val (.int p1), .val (.int p2), .val (.int p3), .val (.int M), .val (.ref b56), .val (.int (2 : Int32))] [(.ref b56), (.ref b99), (.ref b99)])) rfl (by rw [hml]; rfl) (Steps.refl _) (a := b99) (argsL := [(.ref b56)]) (rest := [(.ref b99)]) (lenOf pd___C_V rfl) rfl (by show 2 * 0 + _ ≤ _; exact Nat.le_of_eq rfl) (hb hby at_250) (fun _ _ => ⟨rfl, e99, (by decide : 2 + 2 ≤ _), (by decide : 8 + 12 ≤ _)⟩)
              dsimp only [Pt.U, Pt.locs, Pt.cells, Pt.slots] at X103 l103 y103 z103 st103 hQ103
              subst l103 y103 z103
              obtain ⟨rfl, Nq103, K103, hStr⟩ := hQ103
              have N103 := Fr.app N98 Nq103
              have hma : own_ma [own_v0 p1, own_v1 p1, own_v0 p2, own_v1 p2] 5 0 = own_mal [own_v0 p1, own_v1 p1, own_v0 p2, own_v1 p2] 0 := own_mal_eq [own_v0 p1, own_v1 p1, own_v0 p2, own_v1 p2] 5 0 (Nat.le_of_ble_eq_true rfl)
              have f104 := (Nat.le_trans f101 K103.1)
              have f105 := (f102.keep K103 (allS ge99 all0))
              obtain ⟨_, _, ⟨T106, L106, k106, n106⟩, -, X106, ⟨Lc106, hQ106, l106, y106, z106⟩, st106⟩ := Jvm.LawKit.callS X103 hx (y := (⟨"com/example/abeyance/abeyance/model/Utf8Reader", "malformedAt", "(Ljava/lang/CharSequence;)I"⟩ : MethodName)) hown (mvT hZ (hw _ (List.mem_of_getElem? (i := 22) rfl))) (mvT hZ (hw _ (List.mem_of_getElem? (i := 23) rfl))) (mvT hZ (hw _ (List.mem_of_getElem? (i := 24) rfl))) (mvT hZ (hw _ (List.mem_of_getElem? (i := 25) rfl))) (by decide) (backOf (W := 0) (rmMalAt l Z a0 hw [] b99 zc fm [own_v0 p1, own_v1 p1, own_v0 p2, own_v1 p2] (2 : Int32) T103.heap n0 f104 hSt f105 hStr (Nat.le_of_ble_eq_true rfl) ((hma.trans ((own_pairU p1 [own_v0 p2, own_v1 p2] 0).2.2 hi0_p1 hi1_p1)).trans ((own_pairU p2 [] 2).1 hi0_p2)).symm) hZ (hw _ (List.mem_of_getElem? (i := 25) rfl)) (hw _ (List.mem_of_getElem? (i := 24) rfl)) (by decide) (by decide)) (g := (mkF m 253 #[.val (.int p0), .val (.int p1), .val (.int p2), .val (.int p3), .val (.int M), .val (.ref b56), .val (.int (2 : Int32))] [(.ref b99)])) rfl (by rw [hml]; rfl) (argsL := [(.ref b99)]) (rest := []) (lenOf pd__Ljava_lang_CharSequence__I rfl) rfl (by show 2 * 0 + _ ≤ _; exact Nat.le_of_eq rfl) (hb hby at_253) (fun _ _ => ⟨rfl, rfl, (by decide : 4 + 0 ≤ _), (by decide : 20 + 0 ≤ _)⟩)
              dsimp only [Pt.U, Pt.locs, Pt.cells, Pt.slots] at X106 l106 y106 z106 st106 hQ106
              subst l106 y106 z106
              obtain ⟨rfl, Nq106, e106⟩ := hQ106
              have N106 := Fr.app N103 Nq106
              obtain ⟨fs, hr, hrun, hended, hW, hsame⟩ := X106.leave (v := some (.int (1 : Int32))) (fun h => by rw [Bd.returns] at h; cases h)
              refine ⟨_, _, pre97 _ ?_, hrun, hended, _, _, rfl, ?_, ReturnedEndW.of_narrow ⟨_, rfl⟩ hW (hsame.mono (by decide) (by decide))⟩
              · show Steps p.tables e below (T96.setTop (mkF m 173 #[.val (.int p0), .val (.int p1), .val (.int p2), .val (.int p3), .val (.int M), .val (.ref b56), .val (.int (-1 : Int32))] [])) _
                refine XS.iloadN X96.here hx rfl (hb hby at_173) rfl  ?_
                refine XS.iconst X96.here hx rfl (hb hby at_174) ?_
                show Steps p.tables e below (T96.setTop (mkF m 175 #[.val (.int p0), .val (.int p1), .val (.int p2), .val (.int p3), .val (.int M), .val (.ref b56), .val (.int (-1 : Int32))] [(.int (0 : Int32)), (.int p2)])) _
                refine st98 _ ?_
                show Steps p.tables e below (T98.setTop (mkF m 178 #[.val (.int p0), .val (.int p1), .val (.int p2), .val (.int p3), .val (.int M), .val (.ref b56), .val (.int (-1 : Int32))] [(.int (1 : Int32))])) _
                refine XS.ifNo X98.here hx rfl (hb hby at_178) rfl ((if0 _ _).trans (feq (by decide : ¬ ((1 : Int32) = (0 : Int32)))).1) ?_
                refine XS.iconst X98.here hx rfl (hb hby at_181) ?_
                refine XS.istore X98.here hx rfl (hb hby at_182) rfl (l' := #[.val (.int p0), .val (.int p1), .val (.int p2), .val (.int p3), .val (.int M), .val (.ref b56), .val (.int (2 : Int32))]) rfl ?_
                show Steps p.tables e below (T98.setTop (mkF m 184 #[.val (.int p0), .val (.int p1), .val (.int p2), .val (.int p3), .val (.int M), .val (.ref b56), .val (.int (2 : Int32))] [])) _
                refine XS.goto X98.here hx rfl (pc0 := 184) (pc' := 244) rfl (hb hby at_184) (by decide) (by decide) ?_
                show Steps p.tables e below (T98.setTop (mkF m 244 #[.val (.int p0), .val (.int p1), .val (.int p2), .val (.int p3), .val (.int M), .val (.ref b56), .val (.int (2 : Int32))] [])) _
                refine st99 _ ?_
                show Steps p.tables e below (T99.setTop (mkF m 247 #[.val (.int p0), .val (.int p1), .val (.int p2), .val (.int p3), .val (.int M), .val (.ref b56), .val (.int (2 : Int32))] [(.ref b99)])) _
                refine XS.dup X99.here hx rfl (hb hby at_247) rfl rfl ?_
                refine XS.aload X99.here hx rfl (hb hby at_248) rfl rfl ?_
                show Steps p.tables e below (T99.setTop (mkF m 250 #[.val (.int p0), .val (.int p1), .val (.int p2), .val (.int p3), .val (.int M), .val (.ref b56), .val (.int (2 : Int32))] [(.ref b56), (.ref b99), (.ref b99)])) _
                refine st103.trans ?_
                show Steps p.tables e below (T103.setTop (mkF m 253 #[.val (.int p0), .val (.int p1), .val (.int p2), .val (.int p3), .val (.int M), .val (.ref b56), .val (.int (2 : Int32))] [(.ref b99)])) _
                refine st106 _ ?_
                show Steps p.tables e below (T106.setTop (mkF m 256 #[.val (.int p0), .val (.int p1), .val (.int p2), .val (.int p3), .val (.int M), .val (.ref b56), .val (.int (2 : Int32))] [(.int (2 : Int32))])) _
                refine XS.iload X106.here hx rfl (hb hby at_256) rfl  ?_
                show Steps p.tables e below (T106.setTop (mkF m 258 #[.val (.int p0), .val (.int p1), .val (.int p2), .val (.int p3), .val (.int M), .val (.ref b56), .val (.int (2 : Int32))] [(.int (2 : Int32)), (.int (2 : Int32))])) _
                refine XS.icmpNo X106.here hx rfl (hb hby at_258) rfl (teq (by decide : (2 : Int32) = (2 : Int32))).2 ?_
                refine XS.iconst X106.here hx rfl (hb hby at_261) ?_
                refine XS.goto X106.here hx rfl (pc0 := 262) (pc' := 266) rfl (hb hby at_262) (by decide) (by decide) ?_
                show Steps p.tables e below (T106.setTop (mkF m 266 #[.val (.int p0), .val (.int p1), .val (.int p2), .val (.int p3), .val (.int M), .val (.ref b56), .val (.int (2 : Int32))] [(.int (1 : Int32))])) _
                exact retN X106 hx (t := .boolean) Bd.returns (by simp) (hb hby at_266) hr
              · show Q_rm0 Z p0 p1 p2 p3 zc fm h0 n0 _ T106.heap _
                rw [e106]
                exact ⟨rfl, N106⟩
            · obtain ⟨_, _, ⟨T107, L107, k107, n107⟩, -, X107, ⟨Lc107, hQ107, l107, y107, z107⟩, st107⟩ := Jvm.LawKit.callS X96 hx (y := (⟨"com/example/abeyance/abeyance/model/Utf8ReaderMalformedAtPinLaw", "isEsc", "(II)Z"⟩ : MethodName)) hown (mvT hZ (hw _ (List.mem_of_getElem? (i := 57) rfl))) (mvT hZ (hw _ (List.mem_of_getElem? (i := 58) rfl))) (mvT hZ (hw _ (List.mem_of_getElem? (i := 43) rfl))) (mvT hZ (hw _ (List.mem_of_getElem? (i := 59) rfl))) (by decide) (backOf (W := 0) (rmIsEsc0 l Z a0 hw [] p2 (0 : Int32) h72 n0 f84 (if_neg hi0_p2).symm) hZ (hw _ (List.mem_of_getElem? (i := 59) rfl)) (hw _ (List.mem_of_getElem? (i := 43) rfl)) (by decide) (by decide)) (g := (mkF m 175 #[.val (.int p0), .val (.int p1), .val (.int p2), .val (.int p3), .val (.int M), .val (.ref b56), .val (.int (-1 : Int32))] [(.int (0 : Int32)), (.int p2)])) rfl (by rw [hml]; rfl) (argsL := [(.int p2), (.int (0 : Int32))]) (rest := []) (lenOf pd__II_Z rfl) rfl (by show 2 * 0 + _ ≤ _; exact Nat.le_of_eq rfl) (hb hby at_175) (fun _ _ => ⟨rfl, e96, (by decide : 1 + 0 ≤ _), (by decide : 4 + 0 ≤ _)⟩)
              dsimp only [Pt.U, Pt.locs, Pt.cells, Pt.slots] at X107 l107 y107 z107 st107 hQ107
              subst l107 y107 z107
              obtain ⟨rfl, Nq107, e107⟩ := hQ107
              have N107 := Fr.app N96 Nq107
              have pre108 : ∀ t, Steps p.tables e below (T107.setTop (mkF m 193 #[.val (.int p0), .val (.int p1), .val (.int p2), .val (.int p3), .val (.int M), .val (.ref b56), .val (.int (-1 : Int32))] [])) t → Steps p.tables e below (s₁.setTop (entryFrame m #[(.int p0), (.int p1), (.int p2), (.int p3)] maxLocals)) t := fun t kt => pre97 t (by
                show Steps p.tables e below (T96.setTop (mkF m 173 #[.val (.int p0), .val (.int p1), .val (.int p2), .val (.int p3), .val (.int M), .val (.ref b56), .val (.int (-1 : Int32))] [])) _
                refine XS.iloadN X96.here hx rfl (hb hby at_173) rfl  ?_
                refine XS.iconst X96.here hx rfl (hb hby at_174) ?_
                show Steps p.tables e below (T96.setTop (mkF m 175 #[.val (.int p0), .val (.int p1), .val (.int p2), .val (.int p3), .val (.int M), .val (.ref b56), .val (.int (-1 : Int32))] [(.int (0 : Int32)), (.int p2)])) _
                refine st107 _ ?_
                show Steps p.tables e below (T107.setTop (mkF m 178 #[.val (.int p0), .val (.int p1), .val (.int p2), .val (.int p3), .val (.int M), .val (.ref b56), .val (.int (-1 : Int32))] [(.int (0 : Int32))])) _
                refine XS.ifYes X107.here hx rfl (pc0 := 178) (pc' := 187) rfl (hb hby at_178) rfl ((if0 _ _).trans (teq (by decide : (0 : Int32) = (0 : Int32))).1) (by decide) (by decide) ?_
                refine XS.iload X107.here hx rfl (hb hby at_187) rfl  ?_
                refine XS.iconst X107.here hx rfl (hb hby at_189) ?_
                show Steps p.tables e below (T107.setTop (mkF m 190 #[.val (.int p0), .val (.int p1), .val (.int p2), .val (.int p3), .val (.int M), .val (.ref b56), .val (.int (-1 : Int32))] [(.int (2 : Int32)), (.int M)])) _
                refine XS.icmpNo X107.here hx rfl (hb hby at_190) rfl (flt (by rw [hM]; decide)).1 ?_
                exact kt)
              by_cases hi1_p2 : own_i1 p2
              · obtain ⟨_, _, ⟨T109, L109, k109, n109⟩, -, X109, ⟨Lc109, hQ109, l109, y109, z109⟩, st109⟩ := Jvm.LawKit.callS X107 hx (y := (⟨"com/example/abeyance/abeyance/model/Utf8ReaderMalformedAtPinLaw", "isEsc", "(II)Z"⟩ : MethodName)) hown (mvT hZ (hw _ (List.mem_of_getElem? (i := 57) rfl))) (mvT hZ (hw _ (List.mem_of_getElem? (i := 58) rfl))) (mvT hZ (hw _ (List.mem_of_getElem? (i := 43) rfl))) (mvT hZ (hw _ (List.mem_of_getElem? (i := 59) rfl))) (by decide) (backOf (W := 0) (rmIsEsc1 l Z a0 hw [] p2 (1 : Int32) h72 n0 f84 (if_pos hi1_p2).symm) hZ (hw _ (List.mem_of_getElem? (i := 59) rfl)) (hw _ (List.mem_of_getElem? (i := 43) rfl)) (by decide) (by decide)) (g := (mkF m 195 #[.val (.int p0), .val (.int p1), .val (.int p2), .val (.int p3), .val (.int M), .val (.ref b56), .val (.int (-1 : Int32))] [(.int (1 : Int32)), (.int p2)])) rfl (by rw [hml]; rfl) (argsL := [(.int p2), (.int (1 : Int32))]) (rest := []) (lenOf pd__II_Z rfl) rfl (by show 2 * 0 + _ ≤ _; exact Nat.le_of_eq rfl) (hb hby at_195) (fun _ _ => ⟨rfl, e107, (by decide : 1 + 0 ≤ _), (by decide : 4 + 0 ≤ _)⟩)
                dsimp only [Pt.U, Pt.locs, Pt.cells, Pt.slots] at X109 l109 y109 z109 st109 hQ109
                subst l109 y109 z109
                obtain ⟨rfl, Nq109, e109⟩ := hQ109
                have N109 := Fr.app N107 Nq109
                obtain ⟨T110, h110, X110, e110, E110, A110, D110, -, st110⟩ := newO X109 hx hZ hown (hw _ (List.mem_of_getElem? (i := 1) rfl)) (hw _ (List.mem_of_getElem? (i := 2) rfl)) (hw _ (List.mem_of_getElem? (i := 3) rfl)) e109 (g := (mkF m 244 #[.val (.int p0), .val (.int p1), .val (.int p2), .val (.int p3), .val (.int M), .val (.ref b56), .val (.int (3 : Int32))] [])) rfl (hb hby at_244) (by decide) (by decide)
                obtain ⟨b110, g110⟩ : ∃ z, z = h72.size := ⟨_, rfl⟩
                rw [← g110] at A110 D110 st110
                have ne110_b56 : b56 ≠ b110 := Nat.ne_of_lt (Nat.lt_of_lt_of_le V72.lt (Nat.le_of_eq g110.symm))
                have ge110 : n0 ≤ b110 := Nat.le_trans f84 (Nat.le_of_eq g110.symm)
                have F110_value : Fld Z h110 b110 "java/lang/String" "value" "[B" .null := D110 (Or.inr (hw _ (List.mem_of_getElem? (i := 16) rfl))) (ty := (.array .byte)) (by decide)
                have F110_coder : Fld Z h110 b110 "java/lang/String" "coder" "B" (.int (0 : Int32)) := D110 (Or.inr (hw _ (List.mem_of_getElem? (i := 17) rfl))) (ty := .byte) (by decide)
                have f111 := (V72.ext E110)
                have f112 := (Nat.le_trans f84 E110.1)
                have f113 := ((((((Ol.ext E56).wr W60 ge56).wr W64 ge56).wr W68 ge56).wr W72 ge56).ext E110)
                obtain ⟨_, _, ⟨T114, L114, k114, n114⟩, -, X114, ⟨Lc114, hQ114, l114, y114, z114⟩, st114⟩ := X110.specialBack hx (y := (⟨"java/lang/String", "<init>", "([C)V"⟩ : MethodName)) rfl hown (mvT hZ (hw _ (List.mem_of_getElem? (i := 4) rfl))) (mvT hZ (hw _ (List.mem_of_getElem? (i := 5) rfl))) (mvT hZ (hw _ (List.mem_of_getElem? (i := 6) rfl))) (by decide) (backOf (W := 1) (rmNew4 l Z a0 hw [] b110 b56 zc fm k56 ((own_v0 p1)) ((own_v1 p1)) ((own_v0 p2)) ((own_v1 p2)) h110 n0 f112 hSt f113 A110 F110_value F110_coder ge110 f111 (own_allc (own_vr _) (own_allc (own_vr _) (own_allc (own_vr _) (own_allc (own_vr _) (fun _ q => nomatch q)))))) hZ (hw _ (List.mem_of_getElem? (i := 6) rfl)) (hw _ (List.mem_of_getElem? (i := 3) rfl)) (by decide) (by decide)) (g := (mkF m 250 #[.val (.int p0), .val (.int p1), .val (.int p2), .val (.int p3), .val (.int M), .val (.ref b56), .val (.int (3 : Int32))] [(.ref b56), (.ref b110), (.ref b110)])) rfl (by rw [hml]; rfl) (Steps.refl _) (a := b110) (argsL := [(.ref b56)]) (rest := [(.ref b110)]) (lenOf pd___C_V rfl) rfl (by show 2 * 0 + _ ≤ _; exact Nat.le_of_eq rfl) (hb hby at_250) (fun _ _ => ⟨rfl, e110, (by decide : 2 + 2 ≤ _), (by decide : 8 + 12 ≤ _)⟩)
                dsimp only [Pt.U, Pt.locs, Pt.cells, Pt.slots] at X114 l114 y114 z114 st114 hQ114
                subst l114 y114 z114
                obtain ⟨rfl, Nq114, K114, hStr⟩ := hQ114
                have N114 := Fr.app N109 Nq114
                have hma : own_ma [own_v0 p1, own_v1 p1, own_v0 p2, own_v1 p2] 5 0 = own_mal [own_v0 p1, own_v1 p1, own_v0 p2, own_v1 p2] 0 := own_mal_eq [own_v0 p1, own_v1 p1, own_v0 p2, own_v1 p2] 5 0 (Nat.le_of_ble_eq_true rfl)
                have f115 := (Nat.le_trans f112 K114.1)
                have f116 := (f113.keep K114 (allS ge110 all0))
                obtain ⟨_, _, ⟨T117, L117, k117, n117⟩, -, X117, ⟨Lc117, hQ117, l117, y117, z117⟩, st117⟩ := Jvm.LawKit.callS X114 hx (y := (⟨"com/example/abeyance/abeyance/model/Utf8Reader", "malformedAt", "(Ljava/lang/CharSequence;)I"⟩ : MethodName)) hown (mvT hZ (hw _ (List.mem_of_getElem? (i := 22) rfl))) (mvT hZ (hw _ (List.mem_of_getElem? (i := 23) rfl))) (mvT hZ (hw _ (List.mem_of_getElem? (i := 24) rfl))) (mvT hZ (hw _ (List.mem_of_getElem? (i := 25) rfl))) (by decide) (backOf (W := 0) (rmMalAt l Z a0 hw [] b110 zc fm [own_v0 p1, own_v1 p1, own_v0 p2, own_v1 p2] (3 : Int32) T114.heap n0 f115 hSt f116 hStr (Nat.le_of_ble_eq_true rfl) ((hma.trans ((own_pairU p1 [own_v0 p2, own_v1 p2] 0).2.2 hi0_p1 hi1_p1)).trans ((own_pairU p2 [] 2).2.1 hi0_p2 hi1_p2)).symm) hZ (hw _ (List.mem_of_getElem? (i := 25) rfl)) (hw _ (List.mem_of_getElem? (i := 24) rfl)) (by decide) (by decide)) (g := (mkF m 253 #[.val (.int p0), .val (.int p1), .val (.int p2), .val (.int p3), .val (.int M), .val (.ref b56), .val (.int (3 : Int32))] [(.ref b110)])) rfl (by rw [hml]; rfl) (argsL := [(.ref b110)]) (rest := []) (lenOf pd__Ljava_lang_CharSequence__I rfl) rfl (by show 2 * 0 + _ ≤ _; exact Nat.le_of_eq rfl) (hb hby at_253) (fun _ _ => ⟨rfl, rfl, (by decide : 4 + 0 ≤ _), (by decide : 20 + 0 ≤ _)⟩)
                dsimp only [Pt.U, Pt.locs, Pt.cells, Pt.slots] at X117 l117 y117 z117 st117 hQ117
                subst l117 y117 z117
                obtain ⟨rfl, Nq117, e117⟩ := hQ117
                have N117 := Fr.app N114 Nq117
                obtain ⟨fs, hr, hrun, hended, hW, hsame⟩ := X117.leave (v := some (.int (1 : Int32))) (fun h => by rw [Bd.returns] at h; cases h)
                refine ⟨_, _, pre108 _ ?_, hrun, hended, _, _, rfl, ?_, ReturnedEndW.of_narrow ⟨_, rfl⟩ hW (hsame.mono (by decide) (by decide))⟩
                · show Steps p.tables e below (T107.setTop (mkF m 193 #[.val (.int p0), .val (.int p1), .val (.int p2), .val (.int p3), .val (.int M), .val (.ref b56), .val (.int (-1 : Int32))] [])) _
                  refine XS.iloadN X107.here hx rfl (hb hby at_193) rfl  ?_
                  refine XS.iconst X107.here hx rfl (hb hby at_194) ?_
                  show Steps p.tables e below (T107.setTop (mkF m 195 #[.val (.int p0), .val (.int p1), .val (.int p2), .val (.int p3), .val (.int M), .val (.ref b56), .val (.int (-1 : Int32))] [(.int (1 : Int32)), (.int p2)])) _
                  refine st109 _ ?_
                  show Steps p.tables e below (T109.setTop (mkF m 198 #[.val (.int p0), .val (.int p1), .val (.int p2), .val (.int p3), .val (.int M), .val (.ref b56), .val (.int (-1 : Int32))] [(.int (1 : Int32))])) _
                  refine XS.ifNo X109.here hx rfl (hb hby at_198) rfl ((if0 _ _).trans (feq (by decide : ¬ ((1 : Int32) = (0 : Int32)))).1) ?_
                  refine XS.iconst X109.here hx rfl (hb hby at_201) ?_
                  refine XS.istore X109.here hx rfl (hb hby at_202) rfl (l' := #[.val (.int p0), .val (.int p1), .val (.int p2), .val (.int p3), .val (.int M), .val (.ref b56), .val (.int (3 : Int32))]) rfl ?_
                  show Steps p.tables e below (T109.setTop (mkF m 204 #[.val (.int p0), .val (.int p1), .val (.int p2), .val (.int p3), .val (.int M), .val (.ref b56), .val (.int (3 : Int32))] [])) _
                  refine XS.goto X109.here hx rfl (pc0 := 204) (pc' := 244) rfl (hb hby at_204) (by decide) (by decide) ?_
                  show Steps p.tables e below (T109.setTop (mkF m 244 #[.val (.int p0), .val (.int p1), .val (.int p2), .val (.int p3), .val (.int M), .val (.ref b56), .val (.int (3 : Int32))] [])) _
                  refine st110 _ ?_
                  show Steps p.tables e below (T110.setTop (mkF m 247 #[.val (.int p0), .val (.int p1), .val (.int p2), .val (.int p3), .val (.int M), .val (.ref b56), .val (.int (3 : Int32))] [(.ref b110)])) _
                  refine XS.dup X110.here hx rfl (hb hby at_247) rfl rfl ?_
                  refine XS.aload X110.here hx rfl (hb hby at_248) rfl rfl ?_
                  show Steps p.tables e below (T110.setTop (mkF m 250 #[.val (.int p0), .val (.int p1), .val (.int p2), .val (.int p3), .val (.int M), .val (.ref b56), .val (.int (3 : Int32))] [(.ref b56), (.ref b110), (.ref b110)])) _
                  refine st114.trans ?_
                  show Steps p.tables e below (T114.setTop (mkF m 253 #[.val (.int p0), .val (.int p1), .val (.int p2), .val (.int p3), .val (.int M), .val (.ref b56), .val (.int (3 : Int32))] [(.ref b110)])) _
                  refine st117 _ ?_
                  show Steps p.tables e below (T117.setTop (mkF m 256 #[.val (.int p0), .val (.int p1), .val (.int p2), .val (.int p3), .val (.int M), .val (.ref b56), .val (.int (3 : Int32))] [(.int (3 : Int32))])) _
                  refine XS.iload X117.here hx rfl (hb hby at_256) rfl  ?_
                  show Steps p.tables e below (T117.setTop (mkF m 258 #[.val (.int p0), .val (.int p1), .val (.int p2), .val (.int p3), .val (.int M), .val (.ref b56), .val (.int (3 : Int32))] [(.int (3 : Int32)), (.int (3 : Int32))])) _
                  refine XS.icmpNo X117.here hx rfl (hb hby at_258) rfl (teq (by decide : (3 : Int32) = (3 : Int32))).2 ?_
                  refine XS.iconst X117.here hx rfl (hb hby at_261) ?_
                  refine XS.goto X117.here hx rfl (pc0 := 262) (pc' := 266) rfl (hb hby at_262) (by decide) (by decide) ?_
                  show Steps p.tables e below (T117.setTop (mkF m 266 #[.val (.int p0), .val (.int p1), .val (.int p2), .val (.int p3), .val (.int M), .val (.ref b56), .val (.int (3 : Int32))] [(.int (1 : Int32))])) _
                  exact retN X117 hx (t := .boolean) Bd.returns (by simp) (hb hby at_266) hr
                · show Q_rm0 Z p0 p1 p2 p3 zc fm h0 n0 _ T117.heap _
                  rw [e117]
                  exact ⟨rfl, N117⟩
              · obtain ⟨_, _, ⟨T118, L118, k118, n118⟩, -, X118, ⟨Lc118, hQ118, l118, y118, z118⟩, st118⟩ := Jvm.LawKit.callS X107 hx (y := (⟨"com/example/abeyance/abeyance/model/Utf8ReaderMalformedAtPinLaw", "isEsc", "(II)Z"⟩ : MethodName)) hown (mvT hZ (hw _ (List.mem_of_getElem? (i := 57) rfl))) (mvT hZ (hw _ (List.mem_of_getElem? (i := 58) rfl))) (mvT hZ (hw _ (List.mem_of_getElem? (i := 43) rfl))) (mvT hZ (hw _ (List.mem_of_getElem? (i := 59) rfl))) (by decide) (backOf (W := 0) (rmIsEsc1 l Z a0 hw [] p2 (0 : Int32) h72 n0 f84 (if_neg hi1_p2).symm) hZ (hw _ (List.mem_of_getElem? (i := 59) rfl)) (hw _ (List.mem_of_getElem? (i := 43) rfl)) (by decide) (by decide)) (g := (mkF m 195 #[.val (.int p0), .val (.int p1), .val (.int p2), .val (.int p3), .val (.int M), .val (.ref b56), .val (.int (-1 : Int32))] [(.int (1 : Int32)), (.int p2)])) rfl (by rw [hml]; rfl) (argsL := [(.int p2), (.int (1 : Int32))]) (rest := []) (lenOf pd__II_Z rfl) rfl (by show 2 * 0 + _ ≤ _; exact Nat.le_of_eq rfl) (hb hby at_195) (fun _ _ => ⟨rfl, e107, (by decide : 1 + 0 ≤ _), (by decide : 4 + 0 ≤ _)⟩)
                dsimp only [Pt.U, Pt.locs, Pt.cells, Pt.slots] at X118 l118 y118 z118 st118 hQ118
                subst l118 y118 z118
                obtain ⟨rfl, Nq118, e118⟩ := hQ118
                have N118 := Fr.app N107 Nq118
                obtain ⟨T119, h119, X119, e119, E119, A119, D119, -, st119⟩ := newO X118 hx hZ hown (hw _ (List.mem_of_getElem? (i := 1) rfl)) (hw _ (List.mem_of_getElem? (i := 2) rfl)) (hw _ (List.mem_of_getElem? (i := 3) rfl)) e118 (g := (mkF m 244 #[.val (.int p0), .val (.int p1), .val (.int p2), .val (.int p3), .val (.int M), .val (.ref b56), .val (.int (-1 : Int32))] [])) rfl (hb hby at_244) (by decide) (by decide)
                obtain ⟨b119, g119⟩ : ∃ z, z = h72.size := ⟨_, rfl⟩
                rw [← g119] at A119 D119 st119
                have ne119_b56 : b56 ≠ b119 := Nat.ne_of_lt (Nat.lt_of_lt_of_le V72.lt (Nat.le_of_eq g119.symm))
                have ge119 : n0 ≤ b119 := Nat.le_trans f84 (Nat.le_of_eq g119.symm)
                have F119_value : Fld Z h119 b119 "java/lang/String" "value" "[B" .null := D119 (Or.inr (hw _ (List.mem_of_getElem? (i := 16) rfl))) (ty := (.array .byte)) (by decide)
                have F119_coder : Fld Z h119 b119 "java/lang/String" "coder" "B" (.int (0 : Int32)) := D119 (Or.inr (hw _ (List.mem_of_getElem? (i := 17) rfl))) (ty := .byte) (by decide)
                have f120 := (V72.ext E119)
                have f121 := (Nat.le_trans f84 E119.1)
                have f122 := ((((((Ol.ext E56).wr W60 ge56).wr W64 ge56).wr W68 ge56).wr W72 ge56).ext E119)
                obtain ⟨_, _, ⟨T123, L123, k123, n123⟩, -, X123, ⟨Lc123, hQ123, l123, y123, z123⟩, st123⟩ := X119.specialBack hx (y := (⟨"java/lang/String", "<init>", "([C)V"⟩ : MethodName)) rfl hown (mvT hZ (hw _ (List.mem_of_getElem? (i := 4) rfl))) (mvT hZ (hw _ (List.mem_of_getElem? (i := 5) rfl))) (mvT hZ (hw _ (List.mem_of_getElem? (i := 6) rfl))) (by decide) (backOf (W := 1) (rmNew4 l Z a0 hw [] b119 b56 zc fm k56 ((own_v0 p1)) ((own_v1 p1)) ((own_v0 p2)) ((own_v1 p2)) h119 n0 f121 hSt f122 A119 F119_value F119_coder ge119 f120 (own_allc (own_vr _) (own_allc (own_vr _) (own_allc (own_vr _) (own_allc (own_vr _) (fun _ q => nomatch q)))))) hZ (hw _ (List.mem_of_getElem? (i := 6) rfl)) (hw _ (List.mem_of_getElem? (i := 3) rfl)) (by decide) (by decide)) (g := (mkF m 250 #[.val (.int p0), .val (.int p1), .val (.int p2), .val (.int p3), .val (.int M), .val (.ref b56), .val (.int (-1 : Int32))] [(.ref b56), (.ref b119), (.ref b119)])) rfl (by rw [hml]; rfl) (Steps.refl _) (a := b119) (argsL := [(.ref b56)]) (rest := [(.ref b119)]) (lenOf pd___C_V rfl) rfl (by show 2 * 0 + _ ≤ _; exact Nat.le_of_eq rfl) (hb hby at_250) (fun _ _ => ⟨rfl, e119, (by decide : 2 + 2 ≤ _), (by decide : 8 + 12 ≤ _)⟩)
                dsimp only [Pt.U, Pt.locs, Pt.cells, Pt.slots] at X123 l123 y123 z123 st123 hQ123
                subst l123 y123 z123
                obtain ⟨rfl, Nq123, K123, hStr⟩ := hQ123
                have N123 := Fr.app N118 Nq123
                have hma : own_ma [own_v0 p1, own_v1 p1, own_v0 p2, own_v1 p2] 5 0 = own_mal [own_v0 p1, own_v1 p1, own_v0 p2, own_v1 p2] 0 := own_mal_eq [own_v0 p1, own_v1 p1, own_v0 p2, own_v1 p2] 5 0 (Nat.le_of_ble_eq_true rfl)
                have f124 := (Nat.le_trans f121 K123.1)
                have f125 := (f122.keep K123 (allS ge119 all0))
                obtain ⟨_, _, ⟨T126, L126, k126, n126⟩, -, X126, ⟨Lc126, hQ126, l126, y126, z126⟩, st126⟩ := Jvm.LawKit.callS X123 hx (y := (⟨"com/example/abeyance/abeyance/model/Utf8Reader", "malformedAt", "(Ljava/lang/CharSequence;)I"⟩ : MethodName)) hown (mvT hZ (hw _ (List.mem_of_getElem? (i := 22) rfl))) (mvT hZ (hw _ (List.mem_of_getElem? (i := 23) rfl))) (mvT hZ (hw _ (List.mem_of_getElem? (i := 24) rfl))) (mvT hZ (hw _ (List.mem_of_getElem? (i := 25) rfl))) (by decide) (backOf (W := 0) (rmMalAt l Z a0 hw [] b119 zc fm [own_v0 p1, own_v1 p1, own_v0 p2, own_v1 p2] (-1 : Int32) T123.heap n0 f124 hSt f125 hStr (Nat.le_of_ble_eq_true rfl) ((hma.trans ((own_pairU p1 [own_v0 p2, own_v1 p2] 0).2.2 hi0_p1 hi1_p1)).trans ((own_pairU p2 [] 2).2.2 hi0_p2 hi1_p2)).symm) hZ (hw _ (List.mem_of_getElem? (i := 25) rfl)) (hw _ (List.mem_of_getElem? (i := 24) rfl)) (by decide) (by decide)) (g := (mkF m 253 #[.val (.int p0), .val (.int p1), .val (.int p2), .val (.int p3), .val (.int M), .val (.ref b56), .val (.int (-1 : Int32))] [(.ref b119)])) rfl (by rw [hml]; rfl) (argsL := [(.ref b119)]) (rest := []) (lenOf pd__Ljava_lang_CharSequence__I rfl) rfl (by show 2 * 0 + _ ≤ _; exact Nat.le_of_eq rfl) (hb hby at_253) (fun _ _ => ⟨rfl, rfl, (by decide : 4 + 0 ≤ _), (by decide : 20 + 0 ≤ _)⟩)
                dsimp only [Pt.U, Pt.locs, Pt.cells, Pt.slots] at X126 l126 y126 z126 st126 hQ126
                subst l126 y126 z126
                obtain ⟨rfl, Nq126, e126⟩ := hQ126
                have N126 := Fr.app N123 Nq126
                obtain ⟨fs, hr, hrun, hended, hW, hsame⟩ := X126.leave (v := some (.int (1 : Int32))) (fun h => by rw [Bd.returns] at h; cases h)
                refine ⟨_, _, pre108 _ ?_, hrun, hended, _, _, rfl, ?_, ReturnedEndW.of_narrow ⟨_, rfl⟩ hW (hsame.mono (by decide) (by decide))⟩
                · show Steps p.tables e below (T107.setTop (mkF m 193 #[.val (.int p0), .val (.int p1), .val (.int p2), .val (.int p3), .val (.int M), .val (.ref b56), .val (.int (-1 : Int32))] [])) _
                  refine XS.iloadN X107.here hx rfl (hb hby at_193) rfl  ?_
                  refine XS.iconst X107.here hx rfl (hb hby at_194) ?_
                  show Steps p.tables e below (T107.setTop (mkF m 195 #[.val (.int p0), .val (.int p1), .val (.int p2), .val (.int p3), .val (.int M), .val (.ref b56), .val (.int (-1 : Int32))] [(.int (1 : Int32)), (.int p2)])) _
                  refine st118 _ ?_
                  show Steps p.tables e below (T118.setTop (mkF m 198 #[.val (.int p0), .val (.int p1), .val (.int p2), .val (.int p3), .val (.int M), .val (.ref b56), .val (.int (-1 : Int32))] [(.int (0 : Int32))])) _
                  refine XS.ifYes X118.here hx rfl (pc0 := 198) (pc' := 207) rfl (hb hby at_198) rfl ((if0 _ _).trans (teq (by decide : (0 : Int32) = (0 : Int32))).1) (by decide) (by decide) ?_
                  refine XS.iload X118.here hx rfl (hb hby at_207) rfl  ?_
                  refine XS.iconst X118.here hx rfl (hb hby at_209) ?_
                  show Steps p.tables e below (T118.setTop (mkF m 210 #[.val (.int p0), .val (.int p1), .val (.int p2), .val (.int p3), .val (.int M), .val (.ref b56), .val (.int (-1 : Int32))] [(.int (3 : Int32)), (.int M)])) _
                  refine XS.icmpYes X118.here hx rfl (pc0 := 210) (pc' := 227) rfl (hb hby at_210) rfl (tlt (by rw [hM]; decide)).1 (by decide) (by decide) ?_
                  refine XS.iload X118.here hx rfl (hb hby at_227) rfl  ?_
                  refine XS.iconst X118.here hx rfl (hb hby at_229) ?_
                  show Steps p.tables e below (T118.setTop (mkF m 230 #[.val (.int p0), .val (.int p1), .val (.int p2), .val (.int p3), .val (.int M), .val (.ref b56), .val (.int (-1 : Int32))] [(.int (3 : Int32)), (.int M)])) _
                  refine XS.icmpYes X118.here hx rfl (pc0 := 230) (pc' := 244) rfl (hb hby at_230) rfl (tlt (by rw [hM]; decide)).1 (by decide) (by decide) ?_
                  show Steps p.tables e below (T118.setTop (mkF m 244 #[.val (.int p0), .val (.int p1), .val (.int p2), .val (.int p3), .val (.int M), .val (.ref b56), .val (.int (-1 : Int32))] [])) _
                  refine st119 _ ?_
                  show Steps p.tables e below (T119.setTop (mkF m 247 #[.val (.int p0), .val (.int p1), .val (.int p2), .val (.int p3), .val (.int M), .val (.ref b56), .val (.int (-1 : Int32))] [(.ref b119)])) _
                  refine XS.dup X119.here hx rfl (hb hby at_247) rfl rfl ?_
                  refine XS.aload X119.here hx rfl (hb hby at_248) rfl rfl ?_
                  show Steps p.tables e below (T119.setTop (mkF m 250 #[.val (.int p0), .val (.int p1), .val (.int p2), .val (.int p3), .val (.int M), .val (.ref b56), .val (.int (-1 : Int32))] [(.ref b56), (.ref b119), (.ref b119)])) _
                  refine st123.trans ?_
                  show Steps p.tables e below (T123.setTop (mkF m 253 #[.val (.int p0), .val (.int p1), .val (.int p2), .val (.int p3), .val (.int M), .val (.ref b56), .val (.int (-1 : Int32))] [(.ref b119)])) _
                  refine st126 _ ?_
                  show Steps p.tables e below (T126.setTop (mkF m 256 #[.val (.int p0), .val (.int p1), .val (.int p2), .val (.int p3), .val (.int M), .val (.ref b56), .val (.int (-1 : Int32))] [(.int (-1 : Int32))])) _
                  refine XS.iload X126.here hx rfl (hb hby at_256) rfl  ?_
                  show Steps p.tables e below (T126.setTop (mkF m 258 #[.val (.int p0), .val (.int p1), .val (.int p2), .val (.int p3), .val (.int M), .val (.ref b56), .val (.int (-1 : Int32))] [(.int (-1 : Int32)), (.int (-1 : Int32))])) _
                  refine XS.icmpNo X126.here hx rfl (hb hby at_258) rfl (teq (by decide : (-1 : Int32) = (-1 : Int32))).2 ?_
                  refine XS.iconst X126.here hx rfl (hb hby at_261) ?_
                  refine XS.goto X126.here hx rfl (pc0 := 262) (pc' := 266) rfl (hb hby at_262) (by decide) (by decide) ?_
                  show Steps p.tables e below (T126.setTop (mkF m 266 #[.val (.int p0), .val (.int p1), .val (.int p2), .val (.int p3), .val (.int M), .val (.ref b56), .val (.int (-1 : Int32))] [(.int (1 : Int32))])) _
                  exact retN X126 hx (t := .boolean) Bd.returns (by simp) (hb hby at_266) hr
                · show Q_rm0 Z p0 p1 p2 p3 zc fm h0 n0 _ T126.heap _
                  rw [e126]
                  exact ⟨rfl, N126⟩
      · obtain ⟨T127, h127, k127, X127, e127, E127, A127, st127⟩ := newP X0 hx hZ (hw _ (List.mem_of_getElem? (i := 0) rfl)) e0 (g := (mkF m 48 #[.val (.int p0), .val (.int p1), .val (.int p2), .val (.int p3), .val (.int M), .unset, .unset] [(.int (6 : Int32))])) rfl (hb hby at_48) rfl (by decide) (cap := 6) (by decide) (by decide) (by decide) (by decide)
        obtain ⟨b127, g127⟩ : ∃ z, z = h0.size := ⟨_, rfl⟩
        rw [← g127] at A127 st127
        have ge127 : n0 ≤ b127 := Nat.le_trans Z0 (Nat.le_of_eq g127.symm)
        have V127 : Arv Z h127 b127 k127 .char (6 : Int32) [(.int (0 : Int32)), (.int (0 : Int32)), (.int (0 : Int32)), (.int (0 : Int32)), (.int (0 : Int32)), (.int (0 : Int32))] (.int (0 : Int32)) := (Arv.new A127 (by decide)).pad (pad_rep [] (.int (0 : Int32)) 6)
        have hM : M = (3 : Int32) := by rw [hM] at hM0 hM1 hM2 ⊢; exact own_mc p0 hM0 hM1 hM2
        have f128 := (Nat.le_trans Z0 E127.1)
        obtain ⟨_, _, ⟨T129, L129, k129, n129⟩, -, X129, ⟨Lc129, hQ129, l129, y129, z129⟩, st129⟩ := Jvm.LawKit.callS X127 hx (y := (⟨"com/example/abeyance/abeyance/model/Utf8ReaderMalformedAtPinLaw", "unit", "(II)C"⟩ : MethodName)) hown (mvT hZ (hw _ (List.mem_of_getElem? (i := 41) rfl))) (mvT hZ (hw _ (List.mem_of_getElem? (i := 42) rfl))) (mvT hZ (hw _ (List.mem_of_getElem? (i := 43) rfl))) (mvT hZ (hw _ (List.mem_of_getElem? (i := 44) rfl))) (by decide) (backOf (W := 2) (rmUnit0 l Z a0 hw [] p1 (own_u0 p1) h127 n0 f128 rfl) hZ (hw _ (List.mem_of_getElem? (i := 44) rfl)) (hw _ (List.mem_of_getElem? (i := 43) rfl)) (by decide) (by decide)) (g := (mkF m 63 #[.val (.int p0), .val (.int p1), .val (.int p2), .val (.int p3), .val (.int M), .val (.ref b127), .unset] [(.int (0 : Int32)), (.int p1), (.int (0 : Int32)), (.ref b127)])) rfl (by rw [hml]; rfl) (argsL := [(.int p1), (.int (0 : Int32))]) (rest := [(.int (0 : Int32)), (.ref b127)]) (lenOf pd__II_C rfl) rfl (by show 2 * 0 + _ ≤ _; exact Nat.le_of_eq rfl) (hb hby at_63) (fun _ _ => ⟨rfl, e127, (by decide : 1 + 0 ≤ _), (by decide : 6 + 0 ≤ _)⟩)
        dsimp only [Pt.U, Pt.locs, Pt.cells, Pt.slots] at X129 l129 y129 z129 st129 hQ129
        subst l129 y129 z129
        obtain ⟨rfl, Nq129, e129⟩ := hQ129
        have N129 := Fr.app N0 Nq129
        obtain ⟨cl130, Ar130, q130, S130, N130, H130, G130⟩ := id V127
        have hin130 : ¬ ((0 : Int32) < 0 ∨ cl130.slots.size ≤ ((0 : Int32)).toNatClampNeg) := inb_of S130 ⟨by decide, by decide⟩
        obtain ⟨T131, h131, X131, e131, W131, st131⟩ := stC X129 hx hZ e129 Ar130 (j := (0 : Int32)) hin130 (g := (mkF m 66 #[.val (.int p0), .val (.int p1), .val (.int p2), .val (.int p3), .val (.int M), .val (.ref b127), .unset] [(.int (own_u0 p1)), (.int (0 : Int32)), (.ref b127)])) rfl rfl (hb hby at_66)
        have N131 := Fr.snoc X131 N129 ge127
        have V131 : Arv Z h131 b127 k127 .char (6 : Int32) [(.int (own_v0 p1)), (.int (0 : Int32)), (.int (0 : Int32)), (.int (0 : Int32)), (.int (0 : Int32)), (.int (0 : Int32))] (.int (0 : Int32)) := Arv.set Ar130 q130 S130 N130 H130 G130 (fits_nar_char _) W131 0 rfl (Nat.le_of_ble_eq_true rfl)
        have f132 := (Nat.le_trans f128 (Keep.of_wr W131).1)
        obtain ⟨_, _, ⟨T133, L133, k133, n133⟩, -, X133, ⟨Lc133, hQ133, l133, y133, z133⟩, st133⟩ := Jvm.LawKit.callS X131 hx (y := (⟨"com/example/abeyance/abeyance/model/Utf8ReaderMalformedAtPinLaw", "unit", "(II)C"⟩ : MethodName)) hown (mvT hZ (hw _ (List.mem_of_getElem? (i := 41) rfl))) (mvT hZ (hw _ (List.mem_of_getElem? (i := 42) rfl))) (mvT hZ (hw _ (List.mem_of_getElem? (i := 43) rfl))) (mvT hZ (hw _ (List.mem_of_getElem? (i := 44) rfl))) (by decide) (backOf (W := 2) (rmUnit1 l Z a0 hw [] p1 (own_u1 p1) h131 n0 f132 rfl) hZ (hw _ (List.mem_of_getElem? (i := 44) rfl)) (hw _ (List.mem_of_getElem? (i := 43) rfl)) (by decide) (by decide)) (g := (mkF m 72 #[.val (.int p0), .val (.int p1), .val (.int p2), .val (.int p3), .val (.int M), .val (.ref b127), .unset] [(.int (1 : Int32)), (.int p1), (.int (1 : Int32)), (.ref b127)])) rfl (by rw [hml]; rfl) (argsL := [(.int p1), (.int (1 : Int32))]) (rest := [(.int (1 : Int32)), (.ref b127)]) (lenOf pd__II_C rfl) rfl (by show 2 * 0 + _ ≤ _; exact Nat.le_of_eq rfl) (hb hby at_72) (fun _ _ => ⟨rfl, e131, (by decide : 1 + 0 ≤ _), (by decide : 6 + 0 ≤ _)⟩)
        dsimp only [Pt.U, Pt.locs, Pt.cells, Pt.slots] at X133 l133 y133 z133 st133 hQ133
        subst l133 y133 z133
        obtain ⟨rfl, Nq133, e133⟩ := hQ133
        have N133 := Fr.app N131 Nq133
        obtain ⟨cl134, Ar134, q134, S134, N134, H134, G134⟩ := id V131
        have hin134 : ¬ ((1 : Int32) < 0 ∨ cl134.slots.size ≤ ((1 : Int32)).toNatClampNeg) := inb_of S134 ⟨by decide, by decide⟩
        obtain ⟨T135, h135, X135, e135, W135, st135⟩ := stC X133 hx hZ e133 Ar134 (j := (1 : Int32)) hin134 (g := (mkF m 75 #[.val (.int p0), .val (.int p1), .val (.int p2), .val (.int p3), .val (.int M), .val (.ref b127), .unset] [(.int (own_u1 p1)), (.int (1 : Int32)), (.ref b127)])) rfl rfl (hb hby at_75)
        have N135 := Fr.snoc X135 N133 ge127
        have V135 : Arv Z h135 b127 k127 .char (6 : Int32) [(.int (own_v0 p1)), (.int (own_v1 p1)), (.int (0 : Int32)), (.int (0 : Int32)), (.int (0 : Int32)), (.int (0 : Int32))] (.int (0 : Int32)) := Arv.set Ar134 q134 S134 N134 H134 G134 (fits_nar_char _) W135 1 rfl (Nat.le_of_ble_eq_true rfl)
        have f136 := (Nat.le_trans f132 (Keep.of_wr W135).1)
        obtain ⟨_, _, ⟨T137, L137, k137, n137⟩, -, X137, ⟨Lc137, hQ137, l137, y137, z137⟩, st137⟩ := Jvm.LawKit.callS X135 hx (y := (⟨"com/example/abeyance/abeyance/model/Utf8ReaderMalformedAtPinLaw", "unit", "(II)C"⟩ : MethodName)) hown (mvT hZ (hw _ (List.mem_of_getElem? (i := 41) rfl))) (mvT hZ (hw _ (List.mem_of_getElem? (i := 42) rfl))) (mvT hZ (hw _ (List.mem_of_getElem? (i := 43) rfl))) (mvT hZ (hw _ (List.mem_of_getElem? (i := 44) rfl))) (by decide) (backOf (W := 2) (rmUnit0 l Z a0 hw [] p2 (own_u0 p2) h135 n0 f136 rfl) hZ (hw _ (List.mem_of_getElem? (i := 44) rfl)) (hw _ (List.mem_of_getElem? (i := 43) rfl)) (by decide) (by decide)) (g := (mkF m 87 #[.val (.int p0), .val (.int p1), .val (.int p2), .val (.int p3), .val (.int M), .val (.ref b127), .unset] [(.int (0 : Int32)), (.int p2), (.int (2 : Int32)), (.ref b127)])) rfl (by rw [hml]; rfl) (argsL := [(.int p2), (.int (0 : Int32))]) (rest := [(.int (2 : Int32)), (.ref b127)]) (lenOf pd__II_C rfl) rfl (by show 2 * 0 + _ ≤ _; exact Nat.le_of_eq rfl) (hb hby at_87) (fun _ _ => ⟨rfl, e135, (by decide : 1 + 0 ≤ _), (by decide : 6 + 0 ≤ _)⟩)
        dsimp only [Pt.U, Pt.locs, Pt.cells, Pt.slots] at X137 l137 y137 z137 st137 hQ137
        subst l137 y137 z137
        obtain ⟨rfl, Nq137, e137⟩ := hQ137
        have N137 := Fr.app N135 Nq137
        obtain ⟨cl138, Ar138, q138, S138, N138, H138, G138⟩ := id V135
        have hin138 : ¬ ((2 : Int32) < 0 ∨ cl138.slots.size ≤ ((2 : Int32)).toNatClampNeg) := inb_of S138 ⟨by decide, by decide⟩
        obtain ⟨T139, h139, X139, e139, W139, st139⟩ := stC X137 hx hZ e137 Ar138 (j := (2 : Int32)) hin138 (g := (mkF m 90 #[.val (.int p0), .val (.int p1), .val (.int p2), .val (.int p3), .val (.int M), .val (.ref b127), .unset] [(.int (own_u0 p2)), (.int (2 : Int32)), (.ref b127)])) rfl rfl (hb hby at_90)
        have N139 := Fr.snoc X139 N137 ge127
        have V139 : Arv Z h139 b127 k127 .char (6 : Int32) [(.int (own_v0 p1)), (.int (own_v1 p1)), (.int (own_v0 p2)), (.int (0 : Int32)), (.int (0 : Int32)), (.int (0 : Int32))] (.int (0 : Int32)) := Arv.set Ar138 q138 S138 N138 H138 G138 (fits_nar_char _) W139 2 rfl (Nat.le_of_ble_eq_true rfl)
        have f140 := (Nat.le_trans f136 (Keep.of_wr W139).1)
        obtain ⟨_, _, ⟨T141, L141, k141, n141⟩, -, X141, ⟨Lc141, hQ141, l141, y141, z141⟩, st141⟩ := Jvm.LawKit.callS X139 hx (y := (⟨"com/example/abeyance/abeyance/model/Utf8ReaderMalformedAtPinLaw", "unit", "(II)C"⟩ : MethodName)) hown (mvT hZ (hw _ (List.mem_of_getElem? (i := 41) rfl))) (mvT hZ (hw _ (List.mem_of_getElem? (i := 42) rfl))) (mvT hZ (hw _ (List.mem_of_getElem? (i := 43) rfl))) (mvT hZ (hw _ (List.mem_of_getElem? (i := 44) rfl))) (by decide) (backOf (W := 2) (rmUnit1 l Z a0 hw [] p2 (own_u1 p2) h139 n0 f140 rfl) hZ (hw _ (List.mem_of_getElem? (i := 44) rfl)) (hw _ (List.mem_of_getElem? (i := 43) rfl)) (by decide) (by decide)) (g := (mkF m 96 #[.val (.int p0), .val (.int p1), .val (.int p2), .val (.int p3), .val (.int M), .val (.ref b127), .unset] [(.int (1 : Int32)), (.int p2), (.int (3 : Int32)), (.ref b127)])) rfl (by rw [hml]; rfl) (argsL := [(.int p2), (.int (1 : Int32))]) (rest := [(.int (3 : Int32)), (.ref b127)]) (lenOf pd__II_C rfl) rfl (by show 2 * 0 + _ ≤ _; exact Nat.le_of_eq rfl) (hb hby at_96) (fun _ _ => ⟨rfl, e139, (by decide : 1 + 0 ≤ _), (by decide : 6 + 0 ≤ _)⟩)
        dsimp only [Pt.U, Pt.locs, Pt.cells, Pt.slots] at X141 l141 y141 z141 st141 hQ141
        subst l141 y141 z141
        obtain ⟨rfl, Nq141, e141⟩ := hQ141
        have N141 := Fr.app N139 Nq141
        obtain ⟨cl142, Ar142, q142, S142, N142, H142, G142⟩ := id V139
        have hin142 : ¬ ((3 : Int32) < 0 ∨ cl142.slots.size ≤ ((3 : Int32)).toNatClampNeg) := inb_of S142 ⟨by decide, by decide⟩
        obtain ⟨T143, h143, X143, e143, W143, st143⟩ := stC X141 hx hZ e141 Ar142 (j := (3 : Int32)) hin142 (g := (mkF m 99 #[.val (.int p0), .val (.int p1), .val (.int p2), .val (.int p3), .val (.int M), .val (.ref b127), .unset] [(.int (own_u1 p2)), (.int (3 : Int32)), (.ref b127)])) rfl rfl (hb hby at_99)
        have N143 := Fr.snoc X143 N141 ge127
        have V143 : Arv Z h143 b127 k127 .char (6 : Int32) [(.int (own_v0 p1)), (.int (own_v1 p1)), (.int (own_v0 p2)), (.int (own_v1 p2)), (.int (0 : Int32)), (.int (0 : Int32))] (.int (0 : Int32)) := Arv.set Ar142 q142 S142 N142 H142 G142 (fits_nar_char _) W143 3 rfl (Nat.le_of_ble_eq_true rfl)
        have f144 := (Nat.le_trans f140 (Keep.of_wr W143).1)
        obtain ⟨_, _, ⟨T145, L145, k145, n145⟩, -, X145, ⟨Lc145, hQ145, l145, y145, z145⟩, st145⟩ := Jvm.LawKit.callS X143 hx (y := (⟨"com/example/abeyance/abeyance/model/Utf8ReaderMalformedAtPinLaw", "unit", "(II)C"⟩ : MethodName)) hown (mvT hZ (hw _ (List.mem_of_getElem? (i := 41) rfl))) (mvT hZ (hw _ (List.mem_of_getElem? (i := 42) rfl))) (mvT hZ (hw _ (List.mem_of_getElem? (i := 43) rfl))) (mvT hZ (hw _ (List.mem_of_getElem? (i := 44) rfl))) (by decide) (backOf (W := 2) (rmUnit0 l Z a0 hw [] p3 (own_u0 p3) h143 n0 f144 rfl) hZ (hw _ (List.mem_of_getElem? (i := 44) rfl)) (hw _ (List.mem_of_getElem? (i := 43) rfl)) (by decide) (by decide)) (g := (mkF m 111 #[.val (.int p0), .val (.int p1), .val (.int p2), .val (.int p3), .val (.int M), .val (.ref b127), .unset] [(.int (0 : Int32)), (.int p3), (.int (4 : Int32)), (.ref b127)])) rfl (by rw [hml]; rfl) (argsL := [(.int p3), (.int (0 : Int32))]) (rest := [(.int (4 : Int32)), (.ref b127)]) (lenOf pd__II_C rfl) rfl (by show 2 * 0 + _ ≤ _; exact Nat.le_of_eq rfl) (hb hby at_111) (fun _ _ => ⟨rfl, e143, (by decide : 1 + 0 ≤ _), (by decide : 6 + 0 ≤ _)⟩)
        dsimp only [Pt.U, Pt.locs, Pt.cells, Pt.slots] at X145 l145 y145 z145 st145 hQ145
        subst l145 y145 z145
        obtain ⟨rfl, Nq145, e145⟩ := hQ145
        have N145 := Fr.app N143 Nq145
        obtain ⟨cl146, Ar146, q146, S146, N146, H146, G146⟩ := id V143
        have hin146 : ¬ ((4 : Int32) < 0 ∨ cl146.slots.size ≤ ((4 : Int32)).toNatClampNeg) := inb_of S146 ⟨by decide, by decide⟩
        obtain ⟨T147, h147, X147, e147, W147, st147⟩ := stC X145 hx hZ e145 Ar146 (j := (4 : Int32)) hin146 (g := (mkF m 114 #[.val (.int p0), .val (.int p1), .val (.int p2), .val (.int p3), .val (.int M), .val (.ref b127), .unset] [(.int (own_u0 p3)), (.int (4 : Int32)), (.ref b127)])) rfl rfl (hb hby at_114)
        have N147 := Fr.snoc X147 N145 ge127
        have V147 : Arv Z h147 b127 k127 .char (6 : Int32) [(.int (own_v0 p1)), (.int (own_v1 p1)), (.int (own_v0 p2)), (.int (own_v1 p2)), (.int (own_v0 p3)), (.int (0 : Int32))] (.int (0 : Int32)) := Arv.set Ar146 q146 S146 N146 H146 G146 (fits_nar_char _) W147 4 rfl (Nat.le_of_ble_eq_true rfl)
        have f148 := (Nat.le_trans f144 (Keep.of_wr W147).1)
        obtain ⟨_, _, ⟨T149, L149, k149, n149⟩, -, X149, ⟨Lc149, hQ149, l149, y149, z149⟩, st149⟩ := Jvm.LawKit.callS X147 hx (y := (⟨"com/example/abeyance/abeyance/model/Utf8ReaderMalformedAtPinLaw", "unit", "(II)C"⟩ : MethodName)) hown (mvT hZ (hw _ (List.mem_of_getElem? (i := 41) rfl))) (mvT hZ (hw _ (List.mem_of_getElem? (i := 42) rfl))) (mvT hZ (hw _ (List.mem_of_getElem? (i := 43) rfl))) (mvT hZ (hw _ (List.mem_of_getElem? (i := 44) rfl))) (by decide) (backOf (W := 2) (rmUnit1 l Z a0 hw [] p3 (own_u1 p3) h147 n0 f148 rfl) hZ (hw _ (List.mem_of_getElem? (i := 44) rfl)) (hw _ (List.mem_of_getElem? (i := 43) rfl)) (by decide) (by decide)) (g := (mkF m 120 #[.val (.int p0), .val (.int p1), .val (.int p2), .val (.int p3), .val (.int M), .val (.ref b127), .unset] [(.int (1 : Int32)), (.int p3), (.int (5 : Int32)), (.ref b127)])) rfl (by rw [hml]; rfl) (argsL := [(.int p3), (.int (1 : Int32))]) (rest := [(.int (5 : Int32)), (.ref b127)]) (lenOf pd__II_C rfl) rfl (by show 2 * 0 + _ ≤ _; exact Nat.le_of_eq rfl) (hb hby at_120) (fun _ _ => ⟨rfl, e147, (by decide : 1 + 0 ≤ _), (by decide : 6 + 0 ≤ _)⟩)
        dsimp only [Pt.U, Pt.locs, Pt.cells, Pt.slots] at X149 l149 y149 z149 st149 hQ149
        subst l149 y149 z149
        obtain ⟨rfl, Nq149, e149⟩ := hQ149
        have N149 := Fr.app N147 Nq149
        obtain ⟨cl150, Ar150, q150, S150, N150, H150, G150⟩ := id V147
        have hin150 : ¬ ((5 : Int32) < 0 ∨ cl150.slots.size ≤ ((5 : Int32)).toNatClampNeg) := inb_of S150 ⟨by decide, by decide⟩
        obtain ⟨T151, h151, X151, e151, W151, st151⟩ := stC X149 hx hZ e149 Ar150 (j := (5 : Int32)) hin150 (g := (mkF m 123 #[.val (.int p0), .val (.int p1), .val (.int p2), .val (.int p3), .val (.int M), .val (.ref b127), .unset] [(.int (own_u1 p3)), (.int (5 : Int32)), (.ref b127)])) rfl rfl (hb hby at_123)
        have N151 := Fr.snoc X151 N149 ge127
        have V151 : Arv Z h151 b127 k127 .char (6 : Int32) [(.int (own_v0 p1)), (.int (own_v1 p1)), (.int (own_v0 p2)), (.int (own_v1 p2)), (.int (own_v0 p3)), (.int (own_v1 p3))] (.int (0 : Int32)) := Arv.set Ar150 q150 S150 N150 H150 G150 (fits_nar_char _) W151 5 rfl (Nat.le_of_ble_eq_true rfl)
        have pre152 : ∀ t, Steps p.tables e below (T151.setTop (mkF m 133 #[.val (.int p0), .val (.int p1), .val (.int p2), .val (.int p3), .val (.int M), .val (.ref b127), .val (.int (-1 : Int32))] [])) t → Steps p.tables e below (s₁.setTop (entryFrame m #[(.int p0), (.int p1), (.int p2), (.int p3)] maxLocals)) t := fun t kt => pre55 t (by
          show Steps p.tables e below (s₁.setTop (mkF m 35 #[.val (.int p0), .val (.int p1), .val (.int p2), .val (.int p3), .val (.int M), .unset, .unset] [(.int (2 : Int32)), (.int M)])) _
          refine XS.icmpYes X0.here hx rfl (pc0 := 35) (pc' := 46) rfl (hb hby at_35) rfl (feq hM2).2 (by decide) (by decide) ?_
          refine XS.bipush X0.here hx rfl (hb hby at_46) ?_
          show Steps p.tables e below (s₁.setTop (mkF m 48 #[.val (.int p0), .val (.int p1), .val (.int p2), .val (.int p3), .val (.int M), .unset, .unset] [(.int (6 : Int32))])) _
          refine st127 _ ?_
          show Steps p.tables e below (T127.setTop (mkF m 50 #[.val (.int p0), .val (.int p1), .val (.int p2), .val (.int p3), .val (.int M), .unset, .unset] [(.ref b127)])) _
          refine XS.astore X127.here hx rfl (hb hby at_50) rfl rfl (l' := #[.val (.int p0), .val (.int p1), .val (.int p2), .val (.int p3), .val (.int M), .val (.ref b127), .unset]) rfl ?_
          refine XS.iload X127.here hx rfl (hb hby at_52) rfl  ?_
          refine XS.iconst X127.here hx rfl (hb hby at_54) ?_
          show Steps p.tables e below (T127.setTop (mkF m 55 #[.val (.int p0), .val (.int p1), .val (.int p2), .val (.int p3), .val (.int M), .val (.ref b127), .unset] [(.int (1 : Int32)), (.int M)])) _
          refine XS.icmpNo X127.here hx rfl (hb hby at_55) rfl (flt (by rw [hM]; decide)).1 ?_
          refine XS.aload X127.here hx rfl (hb hby at_58) rfl rfl ?_
          refine XS.iconst X127.here hx rfl (hb hby at_60) ?_
          show Steps p.tables e below (T127.setTop (mkF m 61 #[.val (.int p0), .val (.int p1), .val (.int p2), .val (.int p3), .val (.int M), .val (.ref b127), .unset] [(.int (0 : Int32)), (.ref b127)])) _
          refine XS.iloadN X127.here hx rfl (hb hby at_61) rfl  ?_
          refine XS.iconst X127.here hx rfl (hb hby at_62) ?_
          show Steps p.tables e below (T127.setTop (mkF m 63 #[.val (.int p0), .val (.int p1), .val (.int p2), .val (.int p3), .val (.int M), .val (.ref b127), .unset] [(.int (0 : Int32)), (.int p1), (.int (0 : Int32)), (.ref b127)])) _
          refine st129 _ ?_
          show Steps p.tables e below (T129.setTop (mkF m 66 #[.val (.int p0), .val (.int p1), .val (.int p2), .val (.int p3), .val (.int M), .val (.ref b127), .unset] [(.int (own_u0 p1)), (.int (0 : Int32)), (.ref b127)])) _
          refine st131 _ ?_
          show Steps p.tables e below (T131.setTop (mkF m 67 #[.val (.int p0), .val (.int p1), .val (.int p2), .val (.int p3), .val (.int M), .val (.ref b127), .unset] [])) _
          refine XS.aload X131.here hx rfl (hb hby at_67) rfl rfl ?_
          refine XS.iconst X131.here hx rfl (hb hby at_69) ?_
          refine XS.iloadN X131.here hx rfl (hb hby at_70) rfl  ?_
          show Steps p.tables e below (T131.setTop (mkF m 71 #[.val (.int p0), .val (.int p1), .val (.int p2), .val (.int p3), .val (.int M), .val (.ref b127), .unset] [(.int p1), (.int (1 : Int32)), (.ref b127)])) _
          refine XS.iconst X131.here hx rfl (hb hby at_71) ?_
          show Steps p.tables e below (T131.setTop (mkF m 72 #[.val (.int p0), .val (.int p1), .val (.int p2), .val (.int p3), .val (.int M), .val (.ref b127), .unset] [(.int (1 : Int32)), (.int p1), (.int (1 : Int32)), (.ref b127)])) _
          refine st133 _ ?_
          show Steps p.tables e below (T133.setTop (mkF m 75 #[.val (.int p0), .val (.int p1), .val (.int p2), .val (.int p3), .val (.int M), .val (.ref b127), .unset] [(.int (own_u1 p1)), (.int (1 : Int32)), (.ref b127)])) _
          refine st135 _ ?_
          show Steps p.tables e below (T135.setTop (mkF m 76 #[.val (.int p0), .val (.int p1), .val (.int p2), .val (.int p3), .val (.int M), .val (.ref b127), .unset] [])) _
          refine XS.iload X135.here hx rfl (hb hby at_76) rfl  ?_
          refine XS.iconst X135.here hx rfl (hb hby at_78) ?_
          show Steps p.tables e below (T135.setTop (mkF m 79 #[.val (.int p0), .val (.int p1), .val (.int p2), .val (.int p3), .val (.int M), .val (.ref b127), .unset] [(.int (2 : Int32)), (.int M)])) _
          refine XS.icmpNo X135.here hx rfl (hb hby at_79) rfl (flt (by rw [hM]; decide)).1 ?_
          refine XS.aload X135.here hx rfl (hb hby at_82) rfl rfl ?_
          refine XS.iconst X135.here hx rfl (hb hby at_84) ?_
          show Steps p.tables e below (T135.setTop (mkF m 85 #[.val (.int p0), .val (.int p1), .val (.int p2), .val (.int p3), .val (.int M), .val (.ref b127), .unset] [(.int (2 : Int32)), (.ref b127)])) _
          refine XS.iloadN X135.here hx rfl (hb hby at_85) rfl  ?_
          refine XS.iconst X135.here hx rfl (hb hby at_86) ?_
          show Steps p.tables e below (T135.setTop (mkF m 87 #[.val (.int p0), .val (.int p1), .val (.int p2), .val (.int p3), .val (.int M), .val (.ref b127), .unset] [(.int (0 : Int32)), (.int p2), (.int (2 : Int32)), (.ref b127)])) _
          refine st137 _ ?_
          show Steps p.tables e below (T137.setTop (mkF m 90 #[.val (.int p0), .val (.int p1), .val (.int p2), .val (.int p3), .val (.int M), .val (.ref b127), .unset] [(.int (own_u0 p2)), (.int (2 : Int32)), (.ref b127)])) _
          refine st139 _ ?_
          show Steps p.tables e below (T139.setTop (mkF m 91 #[.val (.int p0), .val (.int p1), .val (.int p2), .val (.int p3), .val (.int M), .val (.ref b127), .unset] [])) _
          refine XS.aload X139.here hx rfl (hb hby at_91) rfl rfl ?_
          refine XS.iconst X139.here hx rfl (hb hby at_93) ?_
          refine XS.iloadN X139.here hx rfl (hb hby at_94) rfl  ?_
          show Steps p.tables e below (T139.setTop (mkF m 95 #[.val (.int p0), .val (.int p1), .val (.int p2), .val (.int p3), .val (.int M), .val (.ref b127), .unset] [(.int p2), (.int (3 : Int32)), (.ref b127)])) _
          refine XS.iconst X139.here hx rfl (hb hby at_95) ?_
          show Steps p.tables e below (T139.setTop (mkF m 96 #[.val (.int p0), .val (.int p1), .val (.int p2), .val (.int p3), .val (.int M), .val (.ref b127), .unset] [(.int (1 : Int32)), (.int p2), (.int (3 : Int32)), (.ref b127)])) _
          refine st141 _ ?_
          show Steps p.tables e below (T141.setTop (mkF m 99 #[.val (.int p0), .val (.int p1), .val (.int p2), .val (.int p3), .val (.int M), .val (.ref b127), .unset] [(.int (own_u1 p2)), (.int (3 : Int32)), (.ref b127)])) _
          refine st143 _ ?_
          show Steps p.tables e below (T143.setTop (mkF m 100 #[.val (.int p0), .val (.int p1), .val (.int p2), .val (.int p3), .val (.int M), .val (.ref b127), .unset] [])) _
          refine XS.iload X143.here hx rfl (hb hby at_100) rfl  ?_
          refine XS.iconst X143.here hx rfl (hb hby at_102) ?_
          show Steps p.tables e below (T143.setTop (mkF m 103 #[.val (.int p0), .val (.int p1), .val (.int p2), .val (.int p3), .val (.int M), .val (.ref b127), .unset] [(.int (3 : Int32)), (.int M)])) _
          refine XS.icmpNo X143.here hx rfl (hb hby at_103) rfl (flt (by rw [hM]; decide)).1 ?_
          refine XS.aload X143.here hx rfl (hb hby at_106) rfl rfl ?_
          refine XS.iconst X143.here hx rfl (hb hby at_108) ?_
          show Steps p.tables e below (T143.setTop (mkF m 109 #[.val (.int p0), .val (.int p1), .val (.int p2), .val (.int p3), .val (.int M), .val (.ref b127), .unset] [(.int (4 : Int32)), (.ref b127)])) _
          refine XS.iloadN X143.here hx rfl (hb hby at_109) rfl  ?_
          refine XS.iconst X143.here hx rfl (hb hby at_110) ?_
          show Steps p.tables e below (T143.setTop (mkF m 111 #[.val (.int p0), .val (.int p1), .val (.int p2), .val (.int p3), .val (.int M), .val (.ref b127), .unset] [(.int (0 : Int32)), (.int p3), (.int (4 : Int32)), (.ref b127)])) _
          refine st145 _ ?_
          show Steps p.tables e below (T145.setTop (mkF m 114 #[.val (.int p0), .val (.int p1), .val (.int p2), .val (.int p3), .val (.int M), .val (.ref b127), .unset] [(.int (own_u0 p3)), (.int (4 : Int32)), (.ref b127)])) _
          refine st147 _ ?_
          show Steps p.tables e below (T147.setTop (mkF m 115 #[.val (.int p0), .val (.int p1), .val (.int p2), .val (.int p3), .val (.int M), .val (.ref b127), .unset] [])) _
          refine XS.aload X147.here hx rfl (hb hby at_115) rfl rfl ?_
          refine XS.iconst X147.here hx rfl (hb hby at_117) ?_
          refine XS.iloadN X147.here hx rfl (hb hby at_118) rfl  ?_
          show Steps p.tables e below (T147.setTop (mkF m 119 #[.val (.int p0), .val (.int p1), .val (.int p2), .val (.int p3), .val (.int M), .val (.ref b127), .unset] [(.int p3), (.int (5 : Int32)), (.ref b127)])) _
          refine XS.iconst X147.here hx rfl (hb hby at_119) ?_
          show Steps p.tables e below (T147.setTop (mkF m 120 #[.val (.int p0), .val (.int p1), .val (.int p2), .val (.int p3), .val (.int M), .val (.ref b127), .unset] [(.int (1 : Int32)), (.int p3), (.int (5 : Int32)), (.ref b127)])) _
          refine st149 _ ?_
          show Steps p.tables e below (T149.setTop (mkF m 123 #[.val (.int p0), .val (.int p1), .val (.int p2), .val (.int p3), .val (.int M), .val (.ref b127), .unset] [(.int (own_u1 p3)), (.int (5 : Int32)), (.ref b127)])) _
          refine st151 _ ?_
          show Steps p.tables e below (T151.setTop (mkF m 124 #[.val (.int p0), .val (.int p1), .val (.int p2), .val (.int p3), .val (.int M), .val (.ref b127), .unset] [])) _
          refine XS.iconst X151.here hx rfl (hb hby at_124) ?_
          refine XS.istore X151.here hx rfl (hb hby at_125) rfl (l' := #[.val (.int p0), .val (.int p1), .val (.int p2), .val (.int p3), .val (.int M), .val (.ref b127), .val (.int (-1 : Int32))]) rfl ?_
          refine XS.iload X151.here hx rfl (hb hby at_127) rfl  ?_
          show Steps p.tables e below (T151.setTop (mkF m 129 #[.val (.int p0), .val (.int p1), .val (.int p2), .val (.int p3), .val (.int M), .val (.ref b127), .val (.int (-1 : Int32))] [(.int M)])) _
          refine XS.iconst X151.here hx rfl (hb hby at_129) ?_
          show Steps p.tables e below (T151.setTop (mkF m 130 #[.val (.int p0), .val (.int p1), .val (.int p2), .val (.int p3), .val (.int M), .val (.ref b127), .val (.int (-1 : Int32))] [(.int (1 : Int32)), (.int M)])) _
          refine XS.icmpNo X151.here hx rfl (hb hby at_130) rfl (flt (by rw [hM]; decide)).1 ?_
          exact kt)
        by_cases hi0_p1 : own_i0 p1
        · have f153 := (Nat.le_trans f148 (Keep.of_wr W151).1)
          obtain ⟨_, _, ⟨T154, L154, k154, n154⟩, -, X154, ⟨Lc154, hQ154, l154, y154, z154⟩, st154⟩ := Jvm.LawKit.callS X151 hx (y := (⟨"com/example/abeyance/abeyance/model/Utf8ReaderMalformedAtPinLaw", "isEsc", "(II)Z"⟩ : MethodName)) hown (mvT hZ (hw _ (List.mem_of_getElem? (i := 57) rfl))) (mvT hZ (hw _ (List.mem_of_getElem? (i := 58) rfl))) (mvT hZ (hw _ (List.mem_of_getElem? (i := 43) rfl))) (mvT hZ (hw _ (List.mem_of_getElem? (i := 59) rfl))) (by decide) (backOf (W := 0) (rmIsEsc0 l Z a0 hw [] p1 (1 : Int32) h151 n0 f153 (if_pos hi0_p1).symm) hZ (hw _ (List.mem_of_getElem? (i := 59) rfl)) (hw _ (List.mem_of_getElem? (i := 43) rfl)) (by decide) (by decide)) (g := (mkF m 135 #[.val (.int p0), .val (.int p1), .val (.int p2), .val (.int p3), .val (.int M), .val (.ref b127), .val (.int (-1 : Int32))] [(.int (0 : Int32)), (.int p1)])) rfl (by rw [hml]; rfl) (argsL := [(.int p1), (.int (0 : Int32))]) (rest := []) (lenOf pd__II_Z rfl) rfl (by show 2 * 0 + _ ≤ _; exact Nat.le_of_eq rfl) (hb hby at_135) (fun _ _ => ⟨rfl, e151, (by decide : 1 + 0 ≤ _), (by decide : 6 + 0 ≤ _)⟩)
          dsimp only [Pt.U, Pt.locs, Pt.cells, Pt.slots] at X154 l154 y154 z154 st154 hQ154
          subst l154 y154 z154
          obtain ⟨rfl, Nq154, e154⟩ := hQ154
          have N154 := Fr.app N151 Nq154
          obtain ⟨T155, h155, X155, e155, E155, A155, D155, -, st155⟩ := newO X154 hx hZ hown (hw _ (List.mem_of_getElem? (i := 1) rfl)) (hw _ (List.mem_of_getElem? (i := 2) rfl)) (hw _ (List.mem_of_getElem? (i := 3) rfl)) e154 (g := (mkF m 244 #[.val (.int p0), .val (.int p1), .val (.int p2), .val (.int p3), .val (.int M), .val (.ref b127), .val (.int (0 : Int32))] [])) rfl (hb hby at_244) (by decide) (by decide)
          obtain ⟨b155, g155⟩ : ∃ z, z = h151.size := ⟨_, rfl⟩
          rw [← g155] at A155 D155 st155
          have ne155_b127 : b127 ≠ b155 := Nat.ne_of_lt (Nat.lt_of_lt_of_le V151.lt (Nat.le_of_eq g155.symm))
          have ge155 : n0 ≤ b155 := Nat.le_trans f153 (Nat.le_of_eq g155.symm)
          have F155_value : Fld Z h155 b155 "java/lang/String" "value" "[B" .null := D155 (Or.inr (hw _ (List.mem_of_getElem? (i := 16) rfl))) (ty := (.array .byte)) (by decide)
          have F155_coder : Fld Z h155 b155 "java/lang/String" "coder" "B" (.int (0 : Int32)) := D155 (Or.inr (hw _ (List.mem_of_getElem? (i := 17) rfl))) (ty := .byte) (by decide)
          have f156 := (V151.ext E155)
          have f157 := (Nat.le_trans f153 E155.1)
          have f158 := ((((((((Ol.ext E127).wr W131 ge127).wr W135 ge127).wr W139 ge127).wr W143 ge127).wr W147 ge127).wr W151 ge127).ext E155)
          obtain ⟨_, _, ⟨T159, L159, k159, n159⟩, -, X159, ⟨Lc159, hQ159, l159, y159, z159⟩, st159⟩ := X155.specialBack hx (y := (⟨"java/lang/String", "<init>", "([C)V"⟩ : MethodName)) rfl hown (mvT hZ (hw _ (List.mem_of_getElem? (i := 4) rfl))) (mvT hZ (hw _ (List.mem_of_getElem? (i := 5) rfl))) (mvT hZ (hw _ (List.mem_of_getElem? (i := 6) rfl))) (by decide) (backOf (W := 1) (rmNew6 l Z a0 hw [] b155 b127 zc fm k127 ((own_v0 p1)) ((own_v1 p1)) ((own_v0 p2)) ((own_v1 p2)) ((own_v0 p3)) ((own_v1 p3)) h155 n0 f157 hSt f158 A155 F155_value F155_coder ge155 f156 (own_allc (own_vr _) (own_allc (own_vr _) (own_allc (own_vr _) (own_allc (own_vr _) (own_allc (own_vr _) (own_allc (own_vr _) (fun _ q => nomatch q)))))))) hZ (hw _ (List.mem_of_getElem? (i := 6) rfl)) (hw _ (List.mem_of_getElem? (i := 3) rfl)) (by decide) (by decide)) (g := (mkF m 250 #[.val (.int p0), .val (.int p1), .val (.int p2), .val (.int p3), .val (.int M), .val (.ref b127), .val (.int (0 : Int32))] [(.ref b127), (.ref b155), (.ref b155)])) rfl (by rw [hml]; rfl) (Steps.refl _) (a := b155) (argsL := [(.ref b127)]) (rest := [(.ref b155)]) (lenOf pd___C_V rfl) rfl (by show 2 * 0 + _ ≤ _; exact Nat.le_of_eq rfl) (hb hby at_250) (fun _ _ => ⟨rfl, e155, (by decide : 2 + 2 ≤ _), (by decide : 10 + 18 ≤ _)⟩)
          dsimp only [Pt.U, Pt.locs, Pt.cells, Pt.slots] at X159 l159 y159 z159 st159 hQ159
          subst l159 y159 z159
          obtain ⟨rfl, Nq159, K159, hStr⟩ := hQ159
          have N159 := Fr.app N154 Nq159
          have hma : own_ma [own_v0 p1, own_v1 p1, own_v0 p2, own_v1 p2, own_v0 p3, own_v1 p3] 7 0 = own_mal [own_v0 p1, own_v1 p1, own_v0 p2, own_v1 p2, own_v0 p3, own_v1 p3] 0 := own_mal_eq [own_v0 p1, own_v1 p1, own_v0 p2, own_v1 p2, own_v0 p3, own_v1 p3] 7 0 (Nat.le_of_ble_eq_true rfl)
          have f160 := (Nat.le_trans f157 K159.1)
          have f161 := (f158.keep K159 (allS ge155 all0))
          obtain ⟨_, _, ⟨T162, L162, k162, n162⟩, -, X162, ⟨Lc162, hQ162, l162, y162, z162⟩, st162⟩ := Jvm.LawKit.callS X159 hx (y := (⟨"com/example/abeyance/abeyance/model/Utf8Reader", "malformedAt", "(Ljava/lang/CharSequence;)I"⟩ : MethodName)) hown (mvT hZ (hw _ (List.mem_of_getElem? (i := 22) rfl))) (mvT hZ (hw _ (List.mem_of_getElem? (i := 23) rfl))) (mvT hZ (hw _ (List.mem_of_getElem? (i := 24) rfl))) (mvT hZ (hw _ (List.mem_of_getElem? (i := 25) rfl))) (by decide) (backOf (W := 0) (rmMalAt l Z a0 hw [] b155 zc fm [own_v0 p1, own_v1 p1, own_v0 p2, own_v1 p2, own_v0 p3, own_v1 p3] (0 : Int32) T159.heap n0 f160 hSt f161 hStr (Nat.le_of_ble_eq_true rfl) (hma.trans ((own_pairU p1 [own_v0 p2, own_v1 p2, own_v0 p3, own_v1 p3] 0).1 hi0_p1)).symm) hZ (hw _ (List.mem_of_getElem? (i := 25) rfl)) (hw _ (List.mem_of_getElem? (i := 24) rfl)) (by decide) (by decide)) (g := (mkF m 253 #[.val (.int p0), .val (.int p1), .val (.int p2), .val (.int p3), .val (.int M), .val (.ref b127), .val (.int (0 : Int32))] [(.ref b155)])) rfl (by rw [hml]; rfl) (argsL := [(.ref b155)]) (rest := []) (lenOf pd__Ljava_lang_CharSequence__I rfl) rfl (by show 2 * 0 + _ ≤ _; exact Nat.le_of_eq rfl) (hb hby at_253) (fun _ _ => ⟨rfl, rfl, (by decide : 4 + 0 ≤ _), (by decide : 28 + 0 ≤ _)⟩)
          dsimp only [Pt.U, Pt.locs, Pt.cells, Pt.slots] at X162 l162 y162 z162 st162 hQ162
          subst l162 y162 z162
          obtain ⟨rfl, Nq162, e162⟩ := hQ162
          have N162 := Fr.app N159 Nq162
          obtain ⟨fs, hr, hrun, hended, hW, hsame⟩ := X162.leave (v := some (.int (1 : Int32))) (fun h => by rw [Bd.returns] at h; cases h)
          refine ⟨_, _, pre152 _ ?_, hrun, hended, _, _, rfl, ?_, ReturnedEndW.of_narrow ⟨_, rfl⟩ hW (hsame.mono (by decide) (by decide))⟩
          · show Steps p.tables e below (T151.setTop (mkF m 133 #[.val (.int p0), .val (.int p1), .val (.int p2), .val (.int p3), .val (.int M), .val (.ref b127), .val (.int (-1 : Int32))] [])) _
            refine XS.iloadN X151.here hx rfl (hb hby at_133) rfl  ?_
            refine XS.iconst X151.here hx rfl (hb hby at_134) ?_
            show Steps p.tables e below (T151.setTop (mkF m 135 #[.val (.int p0), .val (.int p1), .val (.int p2), .val (.int p3), .val (.int M), .val (.ref b127), .val (.int (-1 : Int32))] [(.int (0 : Int32)), (.int p1)])) _
            refine st154 _ ?_
            show Steps p.tables e below (T154.setTop (mkF m 138 #[.val (.int p0), .val (.int p1), .val (.int p2), .val (.int p3), .val (.int M), .val (.ref b127), .val (.int (-1 : Int32))] [(.int (1 : Int32))])) _
            refine XS.ifNo X154.here hx rfl (hb hby at_138) rfl ((if0 _ _).trans (feq (by decide : ¬ ((1 : Int32) = (0 : Int32)))).1) ?_
            refine XS.iconst X154.here hx rfl (hb hby at_141) ?_
            refine XS.istore X154.here hx rfl (hb hby at_142) rfl (l' := #[.val (.int p0), .val (.int p1), .val (.int p2), .val (.int p3), .val (.int M), .val (.ref b127), .val (.int (0 : Int32))]) rfl ?_
            show Steps p.tables e below (T154.setTop (mkF m 144 #[.val (.int p0), .val (.int p1), .val (.int p2), .val (.int p3), .val (.int M), .val (.ref b127), .val (.int (0 : Int32))] [])) _
            refine XS.goto X154.here hx rfl (pc0 := 144) (pc' := 244) rfl (hb hby at_144) (by decide) (by decide) ?_
            show Steps p.tables e below (T154.setTop (mkF m 244 #[.val (.int p0), .val (.int p1), .val (.int p2), .val (.int p3), .val (.int M), .val (.ref b127), .val (.int (0 : Int32))] [])) _
            refine st155 _ ?_
            show Steps p.tables e below (T155.setTop (mkF m 247 #[.val (.int p0), .val (.int p1), .val (.int p2), .val (.int p3), .val (.int M), .val (.ref b127), .val (.int (0 : Int32))] [(.ref b155)])) _
            refine XS.dup X155.here hx rfl (hb hby at_247) rfl rfl ?_
            refine XS.aload X155.here hx rfl (hb hby at_248) rfl rfl ?_
            show Steps p.tables e below (T155.setTop (mkF m 250 #[.val (.int p0), .val (.int p1), .val (.int p2), .val (.int p3), .val (.int M), .val (.ref b127), .val (.int (0 : Int32))] [(.ref b127), (.ref b155), (.ref b155)])) _
            refine st159.trans ?_
            show Steps p.tables e below (T159.setTop (mkF m 253 #[.val (.int p0), .val (.int p1), .val (.int p2), .val (.int p3), .val (.int M), .val (.ref b127), .val (.int (0 : Int32))] [(.ref b155)])) _
            refine st162 _ ?_
            show Steps p.tables e below (T162.setTop (mkF m 256 #[.val (.int p0), .val (.int p1), .val (.int p2), .val (.int p3), .val (.int M), .val (.ref b127), .val (.int (0 : Int32))] [(.int (0 : Int32))])) _
            refine XS.iload X162.here hx rfl (hb hby at_256) rfl  ?_
            show Steps p.tables e below (T162.setTop (mkF m 258 #[.val (.int p0), .val (.int p1), .val (.int p2), .val (.int p3), .val (.int M), .val (.ref b127), .val (.int (0 : Int32))] [(.int (0 : Int32)), (.int (0 : Int32))])) _
            refine XS.icmpNo X162.here hx rfl (hb hby at_258) rfl (teq (by decide : (0 : Int32) = (0 : Int32))).2 ?_
            refine XS.iconst X162.here hx rfl (hb hby at_261) ?_
            refine XS.goto X162.here hx rfl (pc0 := 262) (pc' := 266) rfl (hb hby at_262) (by decide) (by decide) ?_
            show Steps p.tables e below (T162.setTop (mkF m 266 #[.val (.int p0), .val (.int p1), .val (.int p2), .val (.int p3), .val (.int M), .val (.ref b127), .val (.int (0 : Int32))] [(.int (1 : Int32))])) _
            exact retN X162 hx (t := .boolean) Bd.returns (by simp) (hb hby at_266) hr
          · show Q_rm0 Z p0 p1 p2 p3 zc fm h0 n0 _ T162.heap _
            rw [e162]
            exact ⟨rfl, N162⟩
        · have f163 := (Nat.le_trans f148 (Keep.of_wr W151).1)
          obtain ⟨_, _, ⟨T164, L164, k164, n164⟩, -, X164, ⟨Lc164, hQ164, l164, y164, z164⟩, st164⟩ := Jvm.LawKit.callS X151 hx (y := (⟨"com/example/abeyance/abeyance/model/Utf8ReaderMalformedAtPinLaw", "isEsc", "(II)Z"⟩ : MethodName)) hown (mvT hZ (hw _ (List.mem_of_getElem? (i := 57) rfl))) (mvT hZ (hw _ (List.mem_of_getElem? (i := 58) rfl))) (mvT hZ (hw _ (List.mem_of_getElem? (i := 43) rfl))) (mvT hZ (hw _ (List.mem_of_getElem? (i := 59) rfl))) (by decide) (backOf (W := 0) (rmIsEsc0 l Z a0 hw [] p1 (0 : Int32) h151 n0 f163 (if_neg hi0_p1).symm) hZ (hw _ (List.mem_of_getElem? (i := 59) rfl)) (hw _ (List.mem_of_getElem? (i := 43) rfl)) (by decide) (by decide)) (g := (mkF m 135 #[.val (.int p0), .val (.int p1), .val (.int p2), .val (.int p3), .val (.int M), .val (.ref b127), .val (.int (-1 : Int32))] [(.int (0 : Int32)), (.int p1)])) rfl (by rw [hml]; rfl) (argsL := [(.int p1), (.int (0 : Int32))]) (rest := []) (lenOf pd__II_Z rfl) rfl (by show 2 * 0 + _ ≤ _; exact Nat.le_of_eq rfl) (hb hby at_135) (fun _ _ => ⟨rfl, e151, (by decide : 1 + 0 ≤ _), (by decide : 6 + 0 ≤ _)⟩)
          dsimp only [Pt.U, Pt.locs, Pt.cells, Pt.slots] at X164 l164 y164 z164 st164 hQ164
          subst l164 y164 z164
          obtain ⟨rfl, Nq164, e164⟩ := hQ164
          have N164 := Fr.app N151 Nq164
          have pre165 : ∀ t, Steps p.tables e below (T164.setTop (mkF m 153 #[.val (.int p0), .val (.int p1), .val (.int p2), .val (.int p3), .val (.int M), .val (.ref b127), .val (.int (-1 : Int32))] [])) t → Steps p.tables e below (s₁.setTop (entryFrame m #[(.int p0), (.int p1), (.int p2), (.int p3)] maxLocals)) t := fun t kt => pre152 t (by
            show Steps p.tables e below (T151.setTop (mkF m 133 #[.val (.int p0), .val (.int p1), .val (.int p2), .val (.int p3), .val (.int M), .val (.ref b127), .val (.int (-1 : Int32))] [])) _
            refine XS.iloadN X151.here hx rfl (hb hby at_133) rfl  ?_
            refine XS.iconst X151.here hx rfl (hb hby at_134) ?_
            show Steps p.tables e below (T151.setTop (mkF m 135 #[.val (.int p0), .val (.int p1), .val (.int p2), .val (.int p3), .val (.int M), .val (.ref b127), .val (.int (-1 : Int32))] [(.int (0 : Int32)), (.int p1)])) _
            refine st164 _ ?_
            show Steps p.tables e below (T164.setTop (mkF m 138 #[.val (.int p0), .val (.int p1), .val (.int p2), .val (.int p3), .val (.int M), .val (.ref b127), .val (.int (-1 : Int32))] [(.int (0 : Int32))])) _
            refine XS.ifYes X164.here hx rfl (pc0 := 138) (pc' := 147) rfl (hb hby at_138) rfl ((if0 _ _).trans (teq (by decide : (0 : Int32) = (0 : Int32))).1) (by decide) (by decide) ?_
            refine XS.iload X164.here hx rfl (hb hby at_147) rfl  ?_
            refine XS.iconst X164.here hx rfl (hb hby at_149) ?_
            show Steps p.tables e below (T164.setTop (mkF m 150 #[.val (.int p0), .val (.int p1), .val (.int p2), .val (.int p3), .val (.int M), .val (.ref b127), .val (.int (-1 : Int32))] [(.int (1 : Int32)), (.int M)])) _
            refine XS.icmpNo X164.here hx rfl (hb hby at_150) rfl (flt (by rw [hM]; decide)).1 ?_
            exact kt)
          by_cases hi1_p1 : own_i1 p1
          · obtain ⟨_, _, ⟨T166, L166, k166, n166⟩, -, X166, ⟨Lc166, hQ166, l166, y166, z166⟩, st166⟩ := Jvm.LawKit.callS X164 hx (y := (⟨"com/example/abeyance/abeyance/model/Utf8ReaderMalformedAtPinLaw", "isEsc", "(II)Z"⟩ : MethodName)) hown (mvT hZ (hw _ (List.mem_of_getElem? (i := 57) rfl))) (mvT hZ (hw _ (List.mem_of_getElem? (i := 58) rfl))) (mvT hZ (hw _ (List.mem_of_getElem? (i := 43) rfl))) (mvT hZ (hw _ (List.mem_of_getElem? (i := 59) rfl))) (by decide) (backOf (W := 0) (rmIsEsc1 l Z a0 hw [] p1 (1 : Int32) h151 n0 f163 (if_pos hi1_p1).symm) hZ (hw _ (List.mem_of_getElem? (i := 59) rfl)) (hw _ (List.mem_of_getElem? (i := 43) rfl)) (by decide) (by decide)) (g := (mkF m 155 #[.val (.int p0), .val (.int p1), .val (.int p2), .val (.int p3), .val (.int M), .val (.ref b127), .val (.int (-1 : Int32))] [(.int (1 : Int32)), (.int p1)])) rfl (by rw [hml]; rfl) (argsL := [(.int p1), (.int (1 : Int32))]) (rest := []) (lenOf pd__II_Z rfl) rfl (by show 2 * 0 + _ ≤ _; exact Nat.le_of_eq rfl) (hb hby at_155) (fun _ _ => ⟨rfl, e164, (by decide : 1 + 0 ≤ _), (by decide : 6 + 0 ≤ _)⟩)
            dsimp only [Pt.U, Pt.locs, Pt.cells, Pt.slots] at X166 l166 y166 z166 st166 hQ166
            subst l166 y166 z166
            obtain ⟨rfl, Nq166, e166⟩ := hQ166
            have N166 := Fr.app N164 Nq166
            obtain ⟨T167, h167, X167, e167, E167, A167, D167, -, st167⟩ := newO X166 hx hZ hown (hw _ (List.mem_of_getElem? (i := 1) rfl)) (hw _ (List.mem_of_getElem? (i := 2) rfl)) (hw _ (List.mem_of_getElem? (i := 3) rfl)) e166 (g := (mkF m 244 #[.val (.int p0), .val (.int p1), .val (.int p2), .val (.int p3), .val (.int M), .val (.ref b127), .val (.int (1 : Int32))] [])) rfl (hb hby at_244) (by decide) (by decide)
            obtain ⟨b167, g167⟩ : ∃ z, z = h151.size := ⟨_, rfl⟩
            rw [← g167] at A167 D167 st167
            have ne167_b127 : b127 ≠ b167 := Nat.ne_of_lt (Nat.lt_of_lt_of_le V151.lt (Nat.le_of_eq g167.symm))
            have ge167 : n0 ≤ b167 := Nat.le_trans f163 (Nat.le_of_eq g167.symm)
            have F167_value : Fld Z h167 b167 "java/lang/String" "value" "[B" .null := D167 (Or.inr (hw _ (List.mem_of_getElem? (i := 16) rfl))) (ty := (.array .byte)) (by decide)
            have F167_coder : Fld Z h167 b167 "java/lang/String" "coder" "B" (.int (0 : Int32)) := D167 (Or.inr (hw _ (List.mem_of_getElem? (i := 17) rfl))) (ty := .byte) (by decide)
            have f168 := (V151.ext E167)
            have f169 := (Nat.le_trans f163 E167.1)
            have f170 := ((((((((Ol.ext E127).wr W131 ge127).wr W135 ge127).wr W139 ge127).wr W143 ge127).wr W147 ge127).wr W151 ge127).ext E167)
            obtain ⟨_, _, ⟨T171, L171, k171, n171⟩, -, X171, ⟨Lc171, hQ171, l171, y171, z171⟩, st171⟩ := X167.specialBack hx (y := (⟨"java/lang/String", "<init>", "([C)V"⟩ : MethodName)) rfl hown (mvT hZ (hw _ (List.mem_of_getElem? (i := 4) rfl))) (mvT hZ (hw _ (List.mem_of_getElem? (i := 5) rfl))) (mvT hZ (hw _ (List.mem_of_getElem? (i := 6) rfl))) (by decide) (backOf (W := 1) (rmNew6 l Z a0 hw [] b167 b127 zc fm k127 ((own_v0 p1)) ((own_v1 p1)) ((own_v0 p2)) ((own_v1 p2)) ((own_v0 p3)) ((own_v1 p3)) h167 n0 f169 hSt f170 A167 F167_value F167_coder ge167 f168 (own_allc (own_vr _) (own_allc (own_vr _) (own_allc (own_vr _) (own_allc (own_vr _) (own_allc (own_vr _) (own_allc (own_vr _) (fun _ q => nomatch q)))))))) hZ (hw _ (List.mem_of_getElem? (i := 6) rfl)) (hw _ (List.mem_of_getElem? (i := 3) rfl)) (by decide) (by decide)) (g := (mkF m 250 #[.val (.int p0), .val (.int p1), .val (.int p2), .val (.int p3), .val (.int M), .val (.ref b127), .val (.int (1 : Int32))] [(.ref b127), (.ref b167), (.ref b167)])) rfl (by rw [hml]; rfl) (Steps.refl _) (a := b167) (argsL := [(.ref b127)]) (rest := [(.ref b167)]) (lenOf pd___C_V rfl) rfl (by show 2 * 0 + _ ≤ _; exact Nat.le_of_eq rfl) (hb hby at_250) (fun _ _ => ⟨rfl, e167, (by decide : 2 + 2 ≤ _), (by decide : 10 + 18 ≤ _)⟩)
            dsimp only [Pt.U, Pt.locs, Pt.cells, Pt.slots] at X171 l171 y171 z171 st171 hQ171
            subst l171 y171 z171
            obtain ⟨rfl, Nq171, K171, hStr⟩ := hQ171
            have N171 := Fr.app N166 Nq171
            have hma : own_ma [own_v0 p1, own_v1 p1, own_v0 p2, own_v1 p2, own_v0 p3, own_v1 p3] 7 0 = own_mal [own_v0 p1, own_v1 p1, own_v0 p2, own_v1 p2, own_v0 p3, own_v1 p3] 0 := own_mal_eq [own_v0 p1, own_v1 p1, own_v0 p2, own_v1 p2, own_v0 p3, own_v1 p3] 7 0 (Nat.le_of_ble_eq_true rfl)
            have f172 := (Nat.le_trans f169 K171.1)
            have f173 := (f170.keep K171 (allS ge167 all0))
            obtain ⟨_, _, ⟨T174, L174, k174, n174⟩, -, X174, ⟨Lc174, hQ174, l174, y174, z174⟩, st174⟩ := Jvm.LawKit.callS X171 hx (y := (⟨"com/example/abeyance/abeyance/model/Utf8Reader", "malformedAt", "(Ljava/lang/CharSequence;)I"⟩ : MethodName)) hown (mvT hZ (hw _ (List.mem_of_getElem? (i := 22) rfl))) (mvT hZ (hw _ (List.mem_of_getElem? (i := 23) rfl))) (mvT hZ (hw _ (List.mem_of_getElem? (i := 24) rfl))) (mvT hZ (hw _ (List.mem_of_getElem? (i := 25) rfl))) (by decide) (backOf (W := 0) (rmMalAt l Z a0 hw [] b167 zc fm [own_v0 p1, own_v1 p1, own_v0 p2, own_v1 p2, own_v0 p3, own_v1 p3] (1 : Int32) T171.heap n0 f172 hSt f173 hStr (Nat.le_of_ble_eq_true rfl) (hma.trans ((own_pairU p1 [own_v0 p2, own_v1 p2, own_v0 p3, own_v1 p3] 0).2.1 hi0_p1 hi1_p1)).symm) hZ (hw _ (List.mem_of_getElem? (i := 25) rfl)) (hw _ (List.mem_of_getElem? (i := 24) rfl)) (by decide) (by decide)) (g := (mkF m 253 #[.val (.int p0), .val (.int p1), .val (.int p2), .val (.int p3), .val (.int M), .val (.ref b127), .val (.int (1 : Int32))] [(.ref b167)])) rfl (by rw [hml]; rfl) (argsL := [(.ref b167)]) (rest := []) (lenOf pd__Ljava_lang_CharSequence__I rfl) rfl (by show 2 * 0 + _ ≤ _; exact Nat.le_of_eq rfl) (hb hby at_253) (fun _ _ => ⟨rfl, rfl, (by decide : 4 + 0 ≤ _), (by decide : 28 + 0 ≤ _)⟩)
            dsimp only [Pt.U, Pt.locs, Pt.cells, Pt.slots] at X174 l174 y174 z174 st174 hQ174
            subst l174 y174 z174
            obtain ⟨rfl, Nq174, e174⟩ := hQ174
            have N174 := Fr.app N171 Nq174
            obtain ⟨fs, hr, hrun, hended, hW, hsame⟩ := X174.leave (v := some (.int (1 : Int32))) (fun h => by rw [Bd.returns] at h; cases h)
            refine ⟨_, _, pre165 _ ?_, hrun, hended, _, _, rfl, ?_, ReturnedEndW.of_narrow ⟨_, rfl⟩ hW (hsame.mono (by decide) (by decide))⟩
            · show Steps p.tables e below (T164.setTop (mkF m 153 #[.val (.int p0), .val (.int p1), .val (.int p2), .val (.int p3), .val (.int M), .val (.ref b127), .val (.int (-1 : Int32))] [])) _
              refine XS.iloadN X164.here hx rfl (hb hby at_153) rfl  ?_
              refine XS.iconst X164.here hx rfl (hb hby at_154) ?_
              show Steps p.tables e below (T164.setTop (mkF m 155 #[.val (.int p0), .val (.int p1), .val (.int p2), .val (.int p3), .val (.int M), .val (.ref b127), .val (.int (-1 : Int32))] [(.int (1 : Int32)), (.int p1)])) _
              refine st166 _ ?_
              show Steps p.tables e below (T166.setTop (mkF m 158 #[.val (.int p0), .val (.int p1), .val (.int p2), .val (.int p3), .val (.int M), .val (.ref b127), .val (.int (-1 : Int32))] [(.int (1 : Int32))])) _
              refine XS.ifNo X166.here hx rfl (hb hby at_158) rfl ((if0 _ _).trans (feq (by decide : ¬ ((1 : Int32) = (0 : Int32)))).1) ?_
              refine XS.iconst X166.here hx rfl (hb hby at_161) ?_
              refine XS.istore X166.here hx rfl (hb hby at_162) rfl (l' := #[.val (.int p0), .val (.int p1), .val (.int p2), .val (.int p3), .val (.int M), .val (.ref b127), .val (.int (1 : Int32))]) rfl ?_
              show Steps p.tables e below (T166.setTop (mkF m 164 #[.val (.int p0), .val (.int p1), .val (.int p2), .val (.int p3), .val (.int M), .val (.ref b127), .val (.int (1 : Int32))] [])) _
              refine XS.goto X166.here hx rfl (pc0 := 164) (pc' := 244) rfl (hb hby at_164) (by decide) (by decide) ?_
              show Steps p.tables e below (T166.setTop (mkF m 244 #[.val (.int p0), .val (.int p1), .val (.int p2), .val (.int p3), .val (.int M), .val (.ref b127), .val (.int (1 : Int32))] [])) _
              refine st167 _ ?_
              show Steps p.tables e below (T167.setTop (mkF m 247 #[.val (.int p0), .val (.int p1), .val (.int p2), .val (.int p3), .val (.int M), .val (.ref b127), .val (.int (1 : Int32))] [(.ref b167)])) _
              refine XS.dup X167.here hx rfl (hb hby at_247) rfl rfl ?_
              refine XS.aload X167.here hx rfl (hb hby at_248) rfl rfl ?_
              show Steps p.tables e below (T167.setTop (mkF m 250 #[.val (.int p0), .val (.int p1), .val (.int p2), .val (.int p3), .val (.int M), .val (.ref b127), .val (.int (1 : Int32))] [(.ref b127), (.ref b167), (.ref b167)])) _
              refine st171.trans ?_
              show Steps p.tables e below (T171.setTop (mkF m 253 #[.val (.int p0), .val (.int p1), .val (.int p2), .val (.int p3), .val (.int M), .val (.ref b127), .val (.int (1 : Int32))] [(.ref b167)])) _
              refine st174 _ ?_
              show Steps p.tables e below (T174.setTop (mkF m 256 #[.val (.int p0), .val (.int p1), .val (.int p2), .val (.int p3), .val (.int M), .val (.ref b127), .val (.int (1 : Int32))] [(.int (1 : Int32))])) _
              refine XS.iload X174.here hx rfl (hb hby at_256) rfl  ?_
              show Steps p.tables e below (T174.setTop (mkF m 258 #[.val (.int p0), .val (.int p1), .val (.int p2), .val (.int p3), .val (.int M), .val (.ref b127), .val (.int (1 : Int32))] [(.int (1 : Int32)), (.int (1 : Int32))])) _
              refine XS.icmpNo X174.here hx rfl (hb hby at_258) rfl (teq (by decide : (1 : Int32) = (1 : Int32))).2 ?_
              refine XS.iconst X174.here hx rfl (hb hby at_261) ?_
              refine XS.goto X174.here hx rfl (pc0 := 262) (pc' := 266) rfl (hb hby at_262) (by decide) (by decide) ?_
              show Steps p.tables e below (T174.setTop (mkF m 266 #[.val (.int p0), .val (.int p1), .val (.int p2), .val (.int p3), .val (.int M), .val (.ref b127), .val (.int (1 : Int32))] [(.int (1 : Int32))])) _
              exact retN X174 hx (t := .boolean) Bd.returns (by simp) (hb hby at_266) hr
            · show Q_rm0 Z p0 p1 p2 p3 zc fm h0 n0 _ T174.heap _
              rw [e174]
              exact ⟨rfl, N174⟩
          · obtain ⟨_, _, ⟨T175, L175, k175, n175⟩, -, X175, ⟨Lc175, hQ175, l175, y175, z175⟩, st175⟩ := Jvm.LawKit.callS X164 hx (y := (⟨"com/example/abeyance/abeyance/model/Utf8ReaderMalformedAtPinLaw", "isEsc", "(II)Z"⟩ : MethodName)) hown (mvT hZ (hw _ (List.mem_of_getElem? (i := 57) rfl))) (mvT hZ (hw _ (List.mem_of_getElem? (i := 58) rfl))) (mvT hZ (hw _ (List.mem_of_getElem? (i := 43) rfl))) (mvT hZ (hw _ (List.mem_of_getElem? (i := 59) rfl))) (by decide) (backOf (W := 0) (rmIsEsc1 l Z a0 hw [] p1 (0 : Int32) h151 n0 f163 (if_neg hi1_p1).symm) hZ (hw _ (List.mem_of_getElem? (i := 59) rfl)) (hw _ (List.mem_of_getElem? (i := 43) rfl)) (by decide) (by decide)) (g := (mkF m 155 #[.val (.int p0), .val (.int p1), .val (.int p2), .val (.int p3), .val (.int M), .val (.ref b127), .val (.int (-1 : Int32))] [(.int (1 : Int32)), (.int p1)])) rfl (by rw [hml]; rfl) (argsL := [(.int p1), (.int (1 : Int32))]) (rest := []) (lenOf pd__II_Z rfl) rfl (by show 2 * 0 + _ ≤ _; exact Nat.le_of_eq rfl) (hb hby at_155) (fun _ _ => ⟨rfl, e164, (by decide : 1 + 0 ≤ _), (by decide : 6 + 0 ≤ _)⟩)
            dsimp only [Pt.U, Pt.locs, Pt.cells, Pt.slots] at X175 l175 y175 z175 st175 hQ175
            subst l175 y175 z175
            obtain ⟨rfl, Nq175, e175⟩ := hQ175
            have N175 := Fr.app N164 Nq175
            have pre176 : ∀ t, Steps p.tables e below (T175.setTop (mkF m 173 #[.val (.int p0), .val (.int p1), .val (.int p2), .val (.int p3), .val (.int M), .val (.ref b127), .val (.int (-1 : Int32))] [])) t → Steps p.tables e below (s₁.setTop (entryFrame m #[(.int p0), (.int p1), (.int p2), (.int p3)] maxLocals)) t := fun t kt => pre165 t (by
              show Steps p.tables e below (T164.setTop (mkF m 153 #[.val (.int p0), .val (.int p1), .val (.int p2), .val (.int p3), .val (.int M), .val (.ref b127), .val (.int (-1 : Int32))] [])) _
              refine XS.iloadN X164.here hx rfl (hb hby at_153) rfl  ?_
              refine XS.iconst X164.here hx rfl (hb hby at_154) ?_
              show Steps p.tables e below (T164.setTop (mkF m 155 #[.val (.int p0), .val (.int p1), .val (.int p2), .val (.int p3), .val (.int M), .val (.ref b127), .val (.int (-1 : Int32))] [(.int (1 : Int32)), (.int p1)])) _
              refine st175 _ ?_
              show Steps p.tables e below (T175.setTop (mkF m 158 #[.val (.int p0), .val (.int p1), .val (.int p2), .val (.int p3), .val (.int M), .val (.ref b127), .val (.int (-1 : Int32))] [(.int (0 : Int32))])) _
              refine XS.ifYes X175.here hx rfl (pc0 := 158) (pc' := 167) rfl (hb hby at_158) rfl ((if0 _ _).trans (teq (by decide : (0 : Int32) = (0 : Int32))).1) (by decide) (by decide) ?_
              refine XS.iload X175.here hx rfl (hb hby at_167) rfl  ?_
              refine XS.iconst X175.here hx rfl (hb hby at_169) ?_
              show Steps p.tables e below (T175.setTop (mkF m 170 #[.val (.int p0), .val (.int p1), .val (.int p2), .val (.int p3), .val (.int M), .val (.ref b127), .val (.int (-1 : Int32))] [(.int (2 : Int32)), (.int M)])) _
              refine XS.icmpNo X175.here hx rfl (hb hby at_170) rfl (flt (by rw [hM]; decide)).1 ?_
              exact kt)
            by_cases hi0_p2 : own_i0 p2
            · obtain ⟨_, _, ⟨T177, L177, k177, n177⟩, -, X177, ⟨Lc177, hQ177, l177, y177, z177⟩, st177⟩ := Jvm.LawKit.callS X175 hx (y := (⟨"com/example/abeyance/abeyance/model/Utf8ReaderMalformedAtPinLaw", "isEsc", "(II)Z"⟩ : MethodName)) hown (mvT hZ (hw _ (List.mem_of_getElem? (i := 57) rfl))) (mvT hZ (hw _ (List.mem_of_getElem? (i := 58) rfl))) (mvT hZ (hw _ (List.mem_of_getElem? (i := 43) rfl))) (mvT hZ (hw _ (List.mem_of_getElem? (i := 59) rfl))) (by decide) (backOf (W := 0) (rmIsEsc0 l Z a0 hw [] p2 (1 : Int32) h151 n0 f163 (if_pos hi0_p2).symm) hZ (hw _ (List.mem_of_getElem? (i := 59) rfl)) (hw _ (List.mem_of_getElem? (i := 43) rfl)) (by decide) (by decide)) (g := (mkF m 175 #[.val (.int p0), .val (.int p1), .val (.int p2), .val (.int p3), .val (.int M), .val (.ref b127), .val (.int (-1 : Int32))] [(.int (0 : Int32)), (.int p2)])) rfl (by rw [hml]; rfl) (argsL := [(.int p2), (.int (0 : Int32))]) (rest := []) (lenOf pd__II_Z rfl) rfl (by show 2 * 0 + _ ≤ _; exact Nat.le_of_eq rfl) (hb hby at_175) (fun _ _ => ⟨rfl, e175, (by decide : 1 + 0 ≤ _), (by decide : 6 + 0 ≤ _)⟩)
              dsimp only [Pt.U, Pt.locs, Pt.cells, Pt.slots] at X177 l177 y177 z177 st177 hQ177
              subst l177 y177 z177
              obtain ⟨rfl, Nq177, e177⟩ := hQ177
              have N177 := Fr.app N175 Nq177
              obtain ⟨T178, h178, X178, e178, E178, A178, D178, -, st178⟩ := newO X177 hx hZ hown (hw _ (List.mem_of_getElem? (i := 1) rfl)) (hw _ (List.mem_of_getElem? (i := 2) rfl)) (hw _ (List.mem_of_getElem? (i := 3) rfl)) e177 (g := (mkF m 244 #[.val (.int p0), .val (.int p1), .val (.int p2), .val (.int p3), .val (.int M), .val (.ref b127), .val (.int (2 : Int32))] [])) rfl (hb hby at_244) (by decide) (by decide)
              obtain ⟨b178, g178⟩ : ∃ z, z = h151.size := ⟨_, rfl⟩
              rw [← g178] at A178 D178 st178
              have ne178_b127 : b127 ≠ b178 := Nat.ne_of_lt (Nat.lt_of_lt_of_le V151.lt (Nat.le_of_eq g178.symm))
              have ge178 : n0 ≤ b178 := Nat.le_trans f163 (Nat.le_of_eq g178.symm)
              have F178_value : Fld Z h178 b178 "java/lang/String" "value" "[B" .null := D178 (Or.inr (hw _ (List.mem_of_getElem? (i := 16) rfl))) (ty := (.array .byte)) (by decide)
              have F178_coder : Fld Z h178 b178 "java/lang/String" "coder" "B" (.int (0 : Int32)) := D178 (Or.inr (hw _ (List.mem_of_getElem? (i := 17) rfl))) (ty := .byte) (by decide)
              have f179 := (V151.ext E178)
              have f180 := (Nat.le_trans f163 E178.1)
              have f181 := ((((((((Ol.ext E127).wr W131 ge127).wr W135 ge127).wr W139 ge127).wr W143 ge127).wr W147 ge127).wr W151 ge127).ext E178)
              obtain ⟨_, _, ⟨T182, L182, k182, n182⟩, -, X182, ⟨Lc182, hQ182, l182, y182, z182⟩, st182⟩ := X178.specialBack hx (y := (⟨"java/lang/String", "<init>", "([C)V"⟩ : MethodName)) rfl hown (mvT hZ (hw _ (List.mem_of_getElem? (i := 4) rfl))) (mvT hZ (hw _ (List.mem_of_getElem? (i := 5) rfl))) (mvT hZ (hw _ (List.mem_of_getElem? (i := 6) rfl))) (by decide) (backOf (W := 1) (rmNew6 l Z a0 hw [] b178 b127 zc fm k127 ((own_v0 p1)) ((own_v1 p1)) ((own_v0 p2)) ((own_v1 p2)) ((own_v0 p3)) ((own_v1 p3)) h178 n0 f180 hSt f181 A178 F178_value F178_coder ge178 f179 (own_allc (own_vr _) (own_allc (own_vr _) (own_allc (own_vr _) (own_allc (own_vr _) (own_allc (own_vr _) (own_allc (own_vr _) (fun _ q => nomatch q)))))))) hZ (hw _ (List.mem_of_getElem? (i := 6) rfl)) (hw _ (List.mem_of_getElem? (i := 3) rfl)) (by decide) (by decide)) (g := (mkF m 250 #[.val (.int p0), .val (.int p1), .val (.int p2), .val (.int p3), .val (.int M), .val (.ref b127), .val (.int (2 : Int32))] [(.ref b127), (.ref b178), (.ref b178)])) rfl (by rw [hml]; rfl) (Steps.refl _) (a := b178) (argsL := [(.ref b127)]) (rest := [(.ref b178)]) (lenOf pd___C_V rfl) rfl (by show 2 * 0 + _ ≤ _; exact Nat.le_of_eq rfl) (hb hby at_250) (fun _ _ => ⟨rfl, e178, (by decide : 2 + 2 ≤ _), (by decide : 10 + 18 ≤ _)⟩)
              dsimp only [Pt.U, Pt.locs, Pt.cells, Pt.slots] at X182 l182 y182 z182 st182 hQ182
              subst l182 y182 z182
              obtain ⟨rfl, Nq182, K182, hStr⟩ := hQ182
              have N182 := Fr.app N177 Nq182
              have hma : own_ma [own_v0 p1, own_v1 p1, own_v0 p2, own_v1 p2, own_v0 p3, own_v1 p3] 7 0 = own_mal [own_v0 p1, own_v1 p1, own_v0 p2, own_v1 p2, own_v0 p3, own_v1 p3] 0 := own_mal_eq [own_v0 p1, own_v1 p1, own_v0 p2, own_v1 p2, own_v0 p3, own_v1 p3] 7 0 (Nat.le_of_ble_eq_true rfl)
              have f183 := (Nat.le_trans f180 K182.1)
              have f184 := (f181.keep K182 (allS ge178 all0))
              obtain ⟨_, _, ⟨T185, L185, k185, n185⟩, -, X185, ⟨Lc185, hQ185, l185, y185, z185⟩, st185⟩ := Jvm.LawKit.callS X182 hx (y := (⟨"com/example/abeyance/abeyance/model/Utf8Reader", "malformedAt", "(Ljava/lang/CharSequence;)I"⟩ : MethodName)) hown (mvT hZ (hw _ (List.mem_of_getElem? (i := 22) rfl))) (mvT hZ (hw _ (List.mem_of_getElem? (i := 23) rfl))) (mvT hZ (hw _ (List.mem_of_getElem? (i := 24) rfl))) (mvT hZ (hw _ (List.mem_of_getElem? (i := 25) rfl))) (by decide) (backOf (W := 0) (rmMalAt l Z a0 hw [] b178 zc fm [own_v0 p1, own_v1 p1, own_v0 p2, own_v1 p2, own_v0 p3, own_v1 p3] (2 : Int32) T182.heap n0 f183 hSt f184 hStr (Nat.le_of_ble_eq_true rfl) ((hma.trans ((own_pairU p1 [own_v0 p2, own_v1 p2, own_v0 p3, own_v1 p3] 0).2.2 hi0_p1 hi1_p1)).trans ((own_pairU p2 [own_v0 p3, own_v1 p3] 2).1 hi0_p2)).symm) hZ (hw _ (List.mem_of_getElem? (i := 25) rfl)) (hw _ (List.mem_of_getElem? (i := 24) rfl)) (by decide) (by decide)) (g := (mkF m 253 #[.val (.int p0), .val (.int p1), .val (.int p2), .val (.int p3), .val (.int M), .val (.ref b127), .val (.int (2 : Int32))] [(.ref b178)])) rfl (by rw [hml]; rfl) (argsL := [(.ref b178)]) (rest := []) (lenOf pd__Ljava_lang_CharSequence__I rfl) rfl (by show 2 * 0 + _ ≤ _; exact Nat.le_of_eq rfl) (hb hby at_253) (fun _ _ => ⟨rfl, rfl, (by decide : 4 + 0 ≤ _), (by decide : 28 + 0 ≤ _)⟩)
              dsimp only [Pt.U, Pt.locs, Pt.cells, Pt.slots] at X185 l185 y185 z185 st185 hQ185
              subst l185 y185 z185
              obtain ⟨rfl, Nq185, e185⟩ := hQ185
              have N185 := Fr.app N182 Nq185
              obtain ⟨fs, hr, hrun, hended, hW, hsame⟩ := X185.leave (v := some (.int (1 : Int32))) (fun h => by rw [Bd.returns] at h; cases h)
              refine ⟨_, _, pre176 _ ?_, hrun, hended, _, _, rfl, ?_, ReturnedEndW.of_narrow ⟨_, rfl⟩ hW (hsame.mono (by decide) (by decide))⟩
              · show Steps p.tables e below (T175.setTop (mkF m 173 #[.val (.int p0), .val (.int p1), .val (.int p2), .val (.int p3), .val (.int M), .val (.ref b127), .val (.int (-1 : Int32))] [])) _
                refine XS.iloadN X175.here hx rfl (hb hby at_173) rfl  ?_
                refine XS.iconst X175.here hx rfl (hb hby at_174) ?_
                show Steps p.tables e below (T175.setTop (mkF m 175 #[.val (.int p0), .val (.int p1), .val (.int p2), .val (.int p3), .val (.int M), .val (.ref b127), .val (.int (-1 : Int32))] [(.int (0 : Int32)), (.int p2)])) _
                refine st177 _ ?_
                show Steps p.tables e below (T177.setTop (mkF m 178 #[.val (.int p0), .val (.int p1), .val (.int p2), .val (.int p3), .val (.int M), .val (.ref b127), .val (.int (-1 : Int32))] [(.int (1 : Int32))])) _
                refine XS.ifNo X177.here hx rfl (hb hby at_178) rfl ((if0 _ _).trans (feq (by decide : ¬ ((1 : Int32) = (0 : Int32)))).1) ?_
                refine XS.iconst X177.here hx rfl (hb hby at_181) ?_
                refine XS.istore X177.here hx rfl (hb hby at_182) rfl (l' := #[.val (.int p0), .val (.int p1), .val (.int p2), .val (.int p3), .val (.int M), .val (.ref b127), .val (.int (2 : Int32))]) rfl ?_
                show Steps p.tables e below (T177.setTop (mkF m 184 #[.val (.int p0), .val (.int p1), .val (.int p2), .val (.int p3), .val (.int M), .val (.ref b127), .val (.int (2 : Int32))] [])) _
                refine XS.goto X177.here hx rfl (pc0 := 184) (pc' := 244) rfl (hb hby at_184) (by decide) (by decide) ?_
                show Steps p.tables e below (T177.setTop (mkF m 244 #[.val (.int p0), .val (.int p1), .val (.int p2), .val (.int p3), .val (.int M), .val (.ref b127), .val (.int (2 : Int32))] [])) _
                refine st178 _ ?_
                show Steps p.tables e below (T178.setTop (mkF m 247 #[.val (.int p0), .val (.int p1), .val (.int p2), .val (.int p3), .val (.int M), .val (.ref b127), .val (.int (2 : Int32))] [(.ref b178)])) _
                refine XS.dup X178.here hx rfl (hb hby at_247) rfl rfl ?_
                refine XS.aload X178.here hx rfl (hb hby at_248) rfl rfl ?_
                show Steps p.tables e below (T178.setTop (mkF m 250 #[.val (.int p0), .val (.int p1), .val (.int p2), .val (.int p3), .val (.int M), .val (.ref b127), .val (.int (2 : Int32))] [(.ref b127), (.ref b178), (.ref b178)])) _
                refine st182.trans ?_
                show Steps p.tables e below (T182.setTop (mkF m 253 #[.val (.int p0), .val (.int p1), .val (.int p2), .val (.int p3), .val (.int M), .val (.ref b127), .val (.int (2 : Int32))] [(.ref b178)])) _
                refine st185 _ ?_
                show Steps p.tables e below (T185.setTop (mkF m 256 #[.val (.int p0), .val (.int p1), .val (.int p2), .val (.int p3), .val (.int M), .val (.ref b127), .val (.int (2 : Int32))] [(.int (2 : Int32))])) _
                refine XS.iload X185.here hx rfl (hb hby at_256) rfl  ?_
                show Steps p.tables e below (T185.setTop (mkF m 258 #[.val (.int p0), .val (.int p1), .val (.int p2), .val (.int p3), .val (.int M), .val (.ref b127), .val (.int (2 : Int32))] [(.int (2 : Int32)), (.int (2 : Int32))])) _
                refine XS.icmpNo X185.here hx rfl (hb hby at_258) rfl (teq (by decide : (2 : Int32) = (2 : Int32))).2 ?_
                refine XS.iconst X185.here hx rfl (hb hby at_261) ?_
                refine XS.goto X185.here hx rfl (pc0 := 262) (pc' := 266) rfl (hb hby at_262) (by decide) (by decide) ?_
                show Steps p.tables e below (T185.setTop (mkF m 266 #[.val (.int p0), .val (.int p1), .val (.int p2), .val (.int p3), .val (.int M), .val (.ref b127), .val (.int (2 : Int32))] [(.int (1 : Int32))])) _
                exact retN X185 hx (t := .boolean) Bd.returns (by simp) (hb hby at_266) hr
              · show Q_rm0 Z p0 p1 p2 p3 zc fm h0 n0 _ T185.heap _
                rw [e185]
                exact ⟨rfl, N185⟩
            · obtain ⟨_, _, ⟨T186, L186, k186, n186⟩, -, X186, ⟨Lc186, hQ186, l186, y186, z186⟩, st186⟩ := Jvm.LawKit.callS X175 hx (y := (⟨"com/example/abeyance/abeyance/model/Utf8ReaderMalformedAtPinLaw", "isEsc", "(II)Z"⟩ : MethodName)) hown (mvT hZ (hw _ (List.mem_of_getElem? (i := 57) rfl))) (mvT hZ (hw _ (List.mem_of_getElem? (i := 58) rfl))) (mvT hZ (hw _ (List.mem_of_getElem? (i := 43) rfl))) (mvT hZ (hw _ (List.mem_of_getElem? (i := 59) rfl))) (by decide) (backOf (W := 0) (rmIsEsc0 l Z a0 hw [] p2 (0 : Int32) h151 n0 f163 (if_neg hi0_p2).symm) hZ (hw _ (List.mem_of_getElem? (i := 59) rfl)) (hw _ (List.mem_of_getElem? (i := 43) rfl)) (by decide) (by decide)) (g := (mkF m 175 #[.val (.int p0), .val (.int p1), .val (.int p2), .val (.int p3), .val (.int M), .val (.ref b127), .val (.int (-1 : Int32))] [(.int (0 : Int32)), (.int p2)])) rfl (by rw [hml]; rfl) (argsL := [(.int p2), (.int (0 : Int32))]) (rest := []) (lenOf pd__II_Z rfl) rfl (by show 2 * 0 + _ ≤ _; exact Nat.le_of_eq rfl) (hb hby at_175) (fun _ _ => ⟨rfl, e175, (by decide : 1 + 0 ≤ _), (by decide : 6 + 0 ≤ _)⟩)
              dsimp only [Pt.U, Pt.locs, Pt.cells, Pt.slots] at X186 l186 y186 z186 st186 hQ186
              subst l186 y186 z186
              obtain ⟨rfl, Nq186, e186⟩ := hQ186
              have N186 := Fr.app N175 Nq186
              have pre187 : ∀ t, Steps p.tables e below (T186.setTop (mkF m 193 #[.val (.int p0), .val (.int p1), .val (.int p2), .val (.int p3), .val (.int M), .val (.ref b127), .val (.int (-1 : Int32))] [])) t → Steps p.tables e below (s₁.setTop (entryFrame m #[(.int p0), (.int p1), (.int p2), (.int p3)] maxLocals)) t := fun t kt => pre176 t (by
                show Steps p.tables e below (T175.setTop (mkF m 173 #[.val (.int p0), .val (.int p1), .val (.int p2), .val (.int p3), .val (.int M), .val (.ref b127), .val (.int (-1 : Int32))] [])) _
                refine XS.iloadN X175.here hx rfl (hb hby at_173) rfl  ?_
                refine XS.iconst X175.here hx rfl (hb hby at_174) ?_
                show Steps p.tables e below (T175.setTop (mkF m 175 #[.val (.int p0), .val (.int p1), .val (.int p2), .val (.int p3), .val (.int M), .val (.ref b127), .val (.int (-1 : Int32))] [(.int (0 : Int32)), (.int p2)])) _
                refine st186 _ ?_
                show Steps p.tables e below (T186.setTop (mkF m 178 #[.val (.int p0), .val (.int p1), .val (.int p2), .val (.int p3), .val (.int M), .val (.ref b127), .val (.int (-1 : Int32))] [(.int (0 : Int32))])) _
                refine XS.ifYes X186.here hx rfl (pc0 := 178) (pc' := 187) rfl (hb hby at_178) rfl ((if0 _ _).trans (teq (by decide : (0 : Int32) = (0 : Int32))).1) (by decide) (by decide) ?_
                refine XS.iload X186.here hx rfl (hb hby at_187) rfl  ?_
                refine XS.iconst X186.here hx rfl (hb hby at_189) ?_
                show Steps p.tables e below (T186.setTop (mkF m 190 #[.val (.int p0), .val (.int p1), .val (.int p2), .val (.int p3), .val (.int M), .val (.ref b127), .val (.int (-1 : Int32))] [(.int (2 : Int32)), (.int M)])) _
                refine XS.icmpNo X186.here hx rfl (hb hby at_190) rfl (flt (by rw [hM]; decide)).1 ?_
                exact kt)
              by_cases hi1_p2 : own_i1 p2
              · obtain ⟨_, _, ⟨T188, L188, k188, n188⟩, -, X188, ⟨Lc188, hQ188, l188, y188, z188⟩, st188⟩ := Jvm.LawKit.callS X186 hx (y := (⟨"com/example/abeyance/abeyance/model/Utf8ReaderMalformedAtPinLaw", "isEsc", "(II)Z"⟩ : MethodName)) hown (mvT hZ (hw _ (List.mem_of_getElem? (i := 57) rfl))) (mvT hZ (hw _ (List.mem_of_getElem? (i := 58) rfl))) (mvT hZ (hw _ (List.mem_of_getElem? (i := 43) rfl))) (mvT hZ (hw _ (List.mem_of_getElem? (i := 59) rfl))) (by decide) (backOf (W := 0) (rmIsEsc1 l Z a0 hw [] p2 (1 : Int32) h151 n0 f163 (if_pos hi1_p2).symm) hZ (hw _ (List.mem_of_getElem? (i := 59) rfl)) (hw _ (List.mem_of_getElem? (i := 43) rfl)) (by decide) (by decide)) (g := (mkF m 195 #[.val (.int p0), .val (.int p1), .val (.int p2), .val (.int p3), .val (.int M), .val (.ref b127), .val (.int (-1 : Int32))] [(.int (1 : Int32)), (.int p2)])) rfl (by rw [hml]; rfl) (argsL := [(.int p2), (.int (1 : Int32))]) (rest := []) (lenOf pd__II_Z rfl) rfl (by show 2 * 0 + _ ≤ _; exact Nat.le_of_eq rfl) (hb hby at_195) (fun _ _ => ⟨rfl, e186, (by decide : 1 + 0 ≤ _), (by decide : 6 + 0 ≤ _)⟩)
                dsimp only [Pt.U, Pt.locs, Pt.cells, Pt.slots] at X188 l188 y188 z188 st188 hQ188
                subst l188 y188 z188
                obtain ⟨rfl, Nq188, e188⟩ := hQ188
                have N188 := Fr.app N186 Nq188
                obtain ⟨T189, h189, X189, e189, E189, A189, D189, -, st189⟩ := newO X188 hx hZ hown (hw _ (List.mem_of_getElem? (i := 1) rfl)) (hw _ (List.mem_of_getElem? (i := 2) rfl)) (hw _ (List.mem_of_getElem? (i := 3) rfl)) e188 (g := (mkF m 244 #[.val (.int p0), .val (.int p1), .val (.int p2), .val (.int p3), .val (.int M), .val (.ref b127), .val (.int (3 : Int32))] [])) rfl (hb hby at_244) (by decide) (by decide)
                obtain ⟨b189, g189⟩ : ∃ z, z = h151.size := ⟨_, rfl⟩
                rw [← g189] at A189 D189 st189
                have ne189_b127 : b127 ≠ b189 := Nat.ne_of_lt (Nat.lt_of_lt_of_le V151.lt (Nat.le_of_eq g189.symm))
                have ge189 : n0 ≤ b189 := Nat.le_trans f163 (Nat.le_of_eq g189.symm)
                have F189_value : Fld Z h189 b189 "java/lang/String" "value" "[B" .null := D189 (Or.inr (hw _ (List.mem_of_getElem? (i := 16) rfl))) (ty := (.array .byte)) (by decide)
                have F189_coder : Fld Z h189 b189 "java/lang/String" "coder" "B" (.int (0 : Int32)) := D189 (Or.inr (hw _ (List.mem_of_getElem? (i := 17) rfl))) (ty := .byte) (by decide)
                have f190 := (V151.ext E189)
                have f191 := (Nat.le_trans f163 E189.1)
                have f192 := ((((((((Ol.ext E127).wr W131 ge127).wr W135 ge127).wr W139 ge127).wr W143 ge127).wr W147 ge127).wr W151 ge127).ext E189)
                obtain ⟨_, _, ⟨T193, L193, k193, n193⟩, -, X193, ⟨Lc193, hQ193, l193, y193, z193⟩, st193⟩ := X189.specialBack hx (y := (⟨"java/lang/String", "<init>", "([C)V"⟩ : MethodName)) rfl hown (mvT hZ (hw _ (List.mem_of_getElem? (i := 4) rfl))) (mvT hZ (hw _ (List.mem_of_getElem? (i := 5) rfl))) (mvT hZ (hw _ (List.mem_of_getElem? (i := 6) rfl))) (by decide) (backOf (W := 1) (rmNew6 l Z a0 hw [] b189 b127 zc fm k127 ((own_v0 p1)) ((own_v1 p1)) ((own_v0 p2)) ((own_v1 p2)) ((own_v0 p3)) ((own_v1 p3)) h189 n0 f191 hSt f192 A189 F189_value F189_coder ge189 f190 (own_allc (own_vr _) (own_allc (own_vr _) (own_allc (own_vr _) (own_allc (own_vr _) (own_allc (own_vr _) (own_allc (own_vr _) (fun _ q => nomatch q)))))))) hZ (hw _ (List.mem_of_getElem? (i := 6) rfl)) (hw _ (List.mem_of_getElem? (i := 3) rfl)) (by decide) (by decide)) (g := (mkF m 250 #[.val (.int p0), .val (.int p1), .val (.int p2), .val (.int p3), .val (.int M), .val (.ref b127), .val (.int (3 : Int32))] [(.ref b127), (.ref b189), (.ref b189)])) rfl (by rw [hml]; rfl) (Steps.refl _) (a := b189) (argsL := [(.ref b127)]) (rest := [(.ref b189)]) (lenOf pd___C_V rfl) rfl (by show 2 * 0 + _ ≤ _; exact Nat.le_of_eq rfl) (hb hby at_250) (fun _ _ => ⟨rfl, e189, (by decide : 2 + 2 ≤ _), (by decide : 10 + 18 ≤ _)⟩)
                dsimp only [Pt.U, Pt.locs, Pt.cells, Pt.slots] at X193 l193 y193 z193 st193 hQ193
                subst l193 y193 z193
                obtain ⟨rfl, Nq193, K193, hStr⟩ := hQ193
                have N193 := Fr.app N188 Nq193
                have hma : own_ma [own_v0 p1, own_v1 p1, own_v0 p2, own_v1 p2, own_v0 p3, own_v1 p3] 7 0 = own_mal [own_v0 p1, own_v1 p1, own_v0 p2, own_v1 p2, own_v0 p3, own_v1 p3] 0 := own_mal_eq [own_v0 p1, own_v1 p1, own_v0 p2, own_v1 p2, own_v0 p3, own_v1 p3] 7 0 (Nat.le_of_ble_eq_true rfl)
                have f194 := (Nat.le_trans f191 K193.1)
                have f195 := (f192.keep K193 (allS ge189 all0))
                obtain ⟨_, _, ⟨T196, L196, k196, n196⟩, -, X196, ⟨Lc196, hQ196, l196, y196, z196⟩, st196⟩ := Jvm.LawKit.callS X193 hx (y := (⟨"com/example/abeyance/abeyance/model/Utf8Reader", "malformedAt", "(Ljava/lang/CharSequence;)I"⟩ : MethodName)) hown (mvT hZ (hw _ (List.mem_of_getElem? (i := 22) rfl))) (mvT hZ (hw _ (List.mem_of_getElem? (i := 23) rfl))) (mvT hZ (hw _ (List.mem_of_getElem? (i := 24) rfl))) (mvT hZ (hw _ (List.mem_of_getElem? (i := 25) rfl))) (by decide) (backOf (W := 0) (rmMalAt l Z a0 hw [] b189 zc fm [own_v0 p1, own_v1 p1, own_v0 p2, own_v1 p2, own_v0 p3, own_v1 p3] (3 : Int32) T193.heap n0 f194 hSt f195 hStr (Nat.le_of_ble_eq_true rfl) ((hma.trans ((own_pairU p1 [own_v0 p2, own_v1 p2, own_v0 p3, own_v1 p3] 0).2.2 hi0_p1 hi1_p1)).trans ((own_pairU p2 [own_v0 p3, own_v1 p3] 2).2.1 hi0_p2 hi1_p2)).symm) hZ (hw _ (List.mem_of_getElem? (i := 25) rfl)) (hw _ (List.mem_of_getElem? (i := 24) rfl)) (by decide) (by decide)) (g := (mkF m 253 #[.val (.int p0), .val (.int p1), .val (.int p2), .val (.int p3), .val (.int M), .val (.ref b127), .val (.int (3 : Int32))] [(.ref b189)])) rfl (by rw [hml]; rfl) (argsL := [(.ref b189)]) (rest := []) (lenOf pd__Ljava_lang_CharSequence__I rfl) rfl (by show 2 * 0 + _ ≤ _; exact Nat.le_of_eq rfl) (hb hby at_253) (fun _ _ => ⟨rfl, rfl, (by decide : 4 + 0 ≤ _), (by decide : 28 + 0 ≤ _)⟩)
                dsimp only [Pt.U, Pt.locs, Pt.cells, Pt.slots] at X196 l196 y196 z196 st196 hQ196
                subst l196 y196 z196
                obtain ⟨rfl, Nq196, e196⟩ := hQ196
                have N196 := Fr.app N193 Nq196
                obtain ⟨fs, hr, hrun, hended, hW, hsame⟩ := X196.leave (v := some (.int (1 : Int32))) (fun h => by rw [Bd.returns] at h; cases h)
                refine ⟨_, _, pre187 _ ?_, hrun, hended, _, _, rfl, ?_, ReturnedEndW.of_narrow ⟨_, rfl⟩ hW (hsame.mono (by decide) (by decide))⟩
                · show Steps p.tables e below (T186.setTop (mkF m 193 #[.val (.int p0), .val (.int p1), .val (.int p2), .val (.int p3), .val (.int M), .val (.ref b127), .val (.int (-1 : Int32))] [])) _
                  refine XS.iloadN X186.here hx rfl (hb hby at_193) rfl  ?_
                  refine XS.iconst X186.here hx rfl (hb hby at_194) ?_
                  show Steps p.tables e below (T186.setTop (mkF m 195 #[.val (.int p0), .val (.int p1), .val (.int p2), .val (.int p3), .val (.int M), .val (.ref b127), .val (.int (-1 : Int32))] [(.int (1 : Int32)), (.int p2)])) _
                  refine st188 _ ?_
                  show Steps p.tables e below (T188.setTop (mkF m 198 #[.val (.int p0), .val (.int p1), .val (.int p2), .val (.int p3), .val (.int M), .val (.ref b127), .val (.int (-1 : Int32))] [(.int (1 : Int32))])) _
                  refine XS.ifNo X188.here hx rfl (hb hby at_198) rfl ((if0 _ _).trans (feq (by decide : ¬ ((1 : Int32) = (0 : Int32)))).1) ?_
                  refine XS.iconst X188.here hx rfl (hb hby at_201) ?_
                  refine XS.istore X188.here hx rfl (hb hby at_202) rfl (l' := #[.val (.int p0), .val (.int p1), .val (.int p2), .val (.int p3), .val (.int M), .val (.ref b127), .val (.int (3 : Int32))]) rfl ?_
                  show Steps p.tables e below (T188.setTop (mkF m 204 #[.val (.int p0), .val (.int p1), .val (.int p2), .val (.int p3), .val (.int M), .val (.ref b127), .val (.int (3 : Int32))] [])) _
                  refine XS.goto X188.here hx rfl (pc0 := 204) (pc' := 244) rfl (hb hby at_204) (by decide) (by decide) ?_
                  show Steps p.tables e below (T188.setTop (mkF m 244 #[.val (.int p0), .val (.int p1), .val (.int p2), .val (.int p3), .val (.int M), .val (.ref b127), .val (.int (3 : Int32))] [])) _
                  refine st189 _ ?_
                  show Steps p.tables e below (T189.setTop (mkF m 247 #[.val (.int p0), .val (.int p1), .val (.int p2), .val (.int p3), .val (.int M), .val (.ref b127), .val (.int (3 : Int32))] [(.ref b189)])) _
                  refine XS.dup X189.here hx rfl (hb hby at_247) rfl rfl ?_
                  refine XS.aload X189.here hx rfl (hb hby at_248) rfl rfl ?_
                  show Steps p.tables e below (T189.setTop (mkF m 250 #[.val (.int p0), .val (.int p1), .val (.int p2), .val (.int p3), .val (.int M), .val (.ref b127), .val (.int (3 : Int32))] [(.ref b127), (.ref b189), (.ref b189)])) _
                  refine st193.trans ?_
                  show Steps p.tables e below (T193.setTop (mkF m 253 #[.val (.int p0), .val (.int p1), .val (.int p2), .val (.int p3), .val (.int M), .val (.ref b127), .val (.int (3 : Int32))] [(.ref b189)])) _
                  refine st196 _ ?_
                  show Steps p.tables e below (T196.setTop (mkF m 256 #[.val (.int p0), .val (.int p1), .val (.int p2), .val (.int p3), .val (.int M), .val (.ref b127), .val (.int (3 : Int32))] [(.int (3 : Int32))])) _
                  refine XS.iload X196.here hx rfl (hb hby at_256) rfl  ?_
                  show Steps p.tables e below (T196.setTop (mkF m 258 #[.val (.int p0), .val (.int p1), .val (.int p2), .val (.int p3), .val (.int M), .val (.ref b127), .val (.int (3 : Int32))] [(.int (3 : Int32)), (.int (3 : Int32))])) _
                  refine XS.icmpNo X196.here hx rfl (hb hby at_258) rfl (teq (by decide : (3 : Int32) = (3 : Int32))).2 ?_
                  refine XS.iconst X196.here hx rfl (hb hby at_261) ?_
                  refine XS.goto X196.here hx rfl (pc0 := 262) (pc' := 266) rfl (hb hby at_262) (by decide) (by decide) ?_
                  show Steps p.tables e below (T196.setTop (mkF m 266 #[.val (.int p0), .val (.int p1), .val (.int p2), .val (.int p3), .val (.int M), .val (.ref b127), .val (.int (3 : Int32))] [(.int (1 : Int32))])) _
                  exact retN X196 hx (t := .boolean) Bd.returns (by simp) (hb hby at_266) hr
                · show Q_rm0 Z p0 p1 p2 p3 zc fm h0 n0 _ T196.heap _
                  rw [e196]
                  exact ⟨rfl, N196⟩
              · obtain ⟨_, _, ⟨T197, L197, k197, n197⟩, -, X197, ⟨Lc197, hQ197, l197, y197, z197⟩, st197⟩ := Jvm.LawKit.callS X186 hx (y := (⟨"com/example/abeyance/abeyance/model/Utf8ReaderMalformedAtPinLaw", "isEsc", "(II)Z"⟩ : MethodName)) hown (mvT hZ (hw _ (List.mem_of_getElem? (i := 57) rfl))) (mvT hZ (hw _ (List.mem_of_getElem? (i := 58) rfl))) (mvT hZ (hw _ (List.mem_of_getElem? (i := 43) rfl))) (mvT hZ (hw _ (List.mem_of_getElem? (i := 59) rfl))) (by decide) (backOf (W := 0) (rmIsEsc1 l Z a0 hw [] p2 (0 : Int32) h151 n0 f163 (if_neg hi1_p2).symm) hZ (hw _ (List.mem_of_getElem? (i := 59) rfl)) (hw _ (List.mem_of_getElem? (i := 43) rfl)) (by decide) (by decide)) (g := (mkF m 195 #[.val (.int p0), .val (.int p1), .val (.int p2), .val (.int p3), .val (.int M), .val (.ref b127), .val (.int (-1 : Int32))] [(.int (1 : Int32)), (.int p2)])) rfl (by rw [hml]; rfl) (argsL := [(.int p2), (.int (1 : Int32))]) (rest := []) (lenOf pd__II_Z rfl) rfl (by show 2 * 0 + _ ≤ _; exact Nat.le_of_eq rfl) (hb hby at_195) (fun _ _ => ⟨rfl, e186, (by decide : 1 + 0 ≤ _), (by decide : 6 + 0 ≤ _)⟩)
                dsimp only [Pt.U, Pt.locs, Pt.cells, Pt.slots] at X197 l197 y197 z197 st197 hQ197
                subst l197 y197 z197
                obtain ⟨rfl, Nq197, e197⟩ := hQ197
                have N197 := Fr.app N186 Nq197
                have pre198 : ∀ t, Steps p.tables e below (T197.setTop (mkF m 213 #[.val (.int p0), .val (.int p1), .val (.int p2), .val (.int p3), .val (.int M), .val (.ref b127), .val (.int (-1 : Int32))] [])) t → Steps p.tables e below (s₁.setTop (entryFrame m #[(.int p0), (.int p1), (.int p2), (.int p3)] maxLocals)) t := fun t kt => pre187 t (by
                  show Steps p.tables e below (T186.setTop (mkF m 193 #[.val (.int p0), .val (.int p1), .val (.int p2), .val (.int p3), .val (.int M), .val (.ref b127), .val (.int (-1 : Int32))] [])) _
                  refine XS.iloadN X186.here hx rfl (hb hby at_193) rfl  ?_
                  refine XS.iconst X186.here hx rfl (hb hby at_194) ?_
                  show Steps p.tables e below (T186.setTop (mkF m 195 #[.val (.int p0), .val (.int p1), .val (.int p2), .val (.int p3), .val (.int M), .val (.ref b127), .val (.int (-1 : Int32))] [(.int (1 : Int32)), (.int p2)])) _
                  refine st197 _ ?_
                  show Steps p.tables e below (T197.setTop (mkF m 198 #[.val (.int p0), .val (.int p1), .val (.int p2), .val (.int p3), .val (.int M), .val (.ref b127), .val (.int (-1 : Int32))] [(.int (0 : Int32))])) _
                  refine XS.ifYes X197.here hx rfl (pc0 := 198) (pc' := 207) rfl (hb hby at_198) rfl ((if0 _ _).trans (teq (by decide : (0 : Int32) = (0 : Int32))).1) (by decide) (by decide) ?_
                  refine XS.iload X197.here hx rfl (hb hby at_207) rfl  ?_
                  refine XS.iconst X197.here hx rfl (hb hby at_209) ?_
                  show Steps p.tables e below (T197.setTop (mkF m 210 #[.val (.int p0), .val (.int p1), .val (.int p2), .val (.int p3), .val (.int M), .val (.ref b127), .val (.int (-1 : Int32))] [(.int (3 : Int32)), (.int M)])) _
                  refine XS.icmpNo X197.here hx rfl (hb hby at_210) rfl (flt (by rw [hM]; decide)).1 ?_
                  exact kt)
                by_cases hi0_p3 : own_i0 p3
                · obtain ⟨_, _, ⟨T199, L199, k199, n199⟩, -, X199, ⟨Lc199, hQ199, l199, y199, z199⟩, st199⟩ := Jvm.LawKit.callS X197 hx (y := (⟨"com/example/abeyance/abeyance/model/Utf8ReaderMalformedAtPinLaw", "isEsc", "(II)Z"⟩ : MethodName)) hown (mvT hZ (hw _ (List.mem_of_getElem? (i := 57) rfl))) (mvT hZ (hw _ (List.mem_of_getElem? (i := 58) rfl))) (mvT hZ (hw _ (List.mem_of_getElem? (i := 43) rfl))) (mvT hZ (hw _ (List.mem_of_getElem? (i := 59) rfl))) (by decide) (backOf (W := 0) (rmIsEsc0 l Z a0 hw [] p3 (1 : Int32) h151 n0 f163 (if_pos hi0_p3).symm) hZ (hw _ (List.mem_of_getElem? (i := 59) rfl)) (hw _ (List.mem_of_getElem? (i := 43) rfl)) (by decide) (by decide)) (g := (mkF m 215 #[.val (.int p0), .val (.int p1), .val (.int p2), .val (.int p3), .val (.int M), .val (.ref b127), .val (.int (-1 : Int32))] [(.int (0 : Int32)), (.int p3)])) rfl (by rw [hml]; rfl) (argsL := [(.int p3), (.int (0 : Int32))]) (rest := []) (lenOf pd__II_Z rfl) rfl (by show 2 * 0 + _ ≤ _; exact Nat.le_of_eq rfl) (hb hby at_215) (fun _ _ => ⟨rfl, e197, (by decide : 1 + 0 ≤ _), (by decide : 6 + 0 ≤ _)⟩)
                  dsimp only [Pt.U, Pt.locs, Pt.cells, Pt.slots] at X199 l199 y199 z199 st199 hQ199
                  subst l199 y199 z199
                  obtain ⟨rfl, Nq199, e199⟩ := hQ199
                  have N199 := Fr.app N197 Nq199
                  obtain ⟨T200, h200, X200, e200, E200, A200, D200, -, st200⟩ := newO X199 hx hZ hown (hw _ (List.mem_of_getElem? (i := 1) rfl)) (hw _ (List.mem_of_getElem? (i := 2) rfl)) (hw _ (List.mem_of_getElem? (i := 3) rfl)) e199 (g := (mkF m 244 #[.val (.int p0), .val (.int p1), .val (.int p2), .val (.int p3), .val (.int M), .val (.ref b127), .val (.int (4 : Int32))] [])) rfl (hb hby at_244) (by decide) (by decide)
                  obtain ⟨b200, g200⟩ : ∃ z, z = h151.size := ⟨_, rfl⟩
                  rw [← g200] at A200 D200 st200
                  have ne200_b127 : b127 ≠ b200 := Nat.ne_of_lt (Nat.lt_of_lt_of_le V151.lt (Nat.le_of_eq g200.symm))
                  have ge200 : n0 ≤ b200 := Nat.le_trans f163 (Nat.le_of_eq g200.symm)
                  have F200_value : Fld Z h200 b200 "java/lang/String" "value" "[B" .null := D200 (Or.inr (hw _ (List.mem_of_getElem? (i := 16) rfl))) (ty := (.array .byte)) (by decide)
                  have F200_coder : Fld Z h200 b200 "java/lang/String" "coder" "B" (.int (0 : Int32)) := D200 (Or.inr (hw _ (List.mem_of_getElem? (i := 17) rfl))) (ty := .byte) (by decide)
                  have f201 := (V151.ext E200)
                  have f202 := (Nat.le_trans f163 E200.1)
                  have f203 := ((((((((Ol.ext E127).wr W131 ge127).wr W135 ge127).wr W139 ge127).wr W143 ge127).wr W147 ge127).wr W151 ge127).ext E200)
                  obtain ⟨_, _, ⟨T204, L204, k204, n204⟩, -, X204, ⟨Lc204, hQ204, l204, y204, z204⟩, st204⟩ := X200.specialBack hx (y := (⟨"java/lang/String", "<init>", "([C)V"⟩ : MethodName)) rfl hown (mvT hZ (hw _ (List.mem_of_getElem? (i := 4) rfl))) (mvT hZ (hw _ (List.mem_of_getElem? (i := 5) rfl))) (mvT hZ (hw _ (List.mem_of_getElem? (i := 6) rfl))) (by decide) (backOf (W := 1) (rmNew6 l Z a0 hw [] b200 b127 zc fm k127 ((own_v0 p1)) ((own_v1 p1)) ((own_v0 p2)) ((own_v1 p2)) ((own_v0 p3)) ((own_v1 p3)) h200 n0 f202 hSt f203 A200 F200_value F200_coder ge200 f201 (own_allc (own_vr _) (own_allc (own_vr _) (own_allc (own_vr _) (own_allc (own_vr _) (own_allc (own_vr _) (own_allc (own_vr _) (fun _ q => nomatch q)))))))) hZ (hw _ (List.mem_of_getElem? (i := 6) rfl)) (hw _ (List.mem_of_getElem? (i := 3) rfl)) (by decide) (by decide)) (g := (mkF m 250 #[.val (.int p0), .val (.int p1), .val (.int p2), .val (.int p3), .val (.int M), .val (.ref b127), .val (.int (4 : Int32))] [(.ref b127), (.ref b200), (.ref b200)])) rfl (by rw [hml]; rfl) (Steps.refl _) (a := b200) (argsL := [(.ref b127)]) (rest := [(.ref b200)]) (lenOf pd___C_V rfl) rfl (by show 2 * 0 + _ ≤ _; exact Nat.le_of_eq rfl) (hb hby at_250) (fun _ _ => ⟨rfl, e200, (by decide : 2 + 2 ≤ _), (by decide : 10 + 18 ≤ _)⟩)
                  dsimp only [Pt.U, Pt.locs, Pt.cells, Pt.slots] at X204 l204 y204 z204 st204 hQ204
                  subst l204 y204 z204
                  obtain ⟨rfl, Nq204, K204, hStr⟩ := hQ204
                  have N204 := Fr.app N199 Nq204
                  have hma : own_ma [own_v0 p1, own_v1 p1, own_v0 p2, own_v1 p2, own_v0 p3, own_v1 p3] 7 0 = own_mal [own_v0 p1, own_v1 p1, own_v0 p2, own_v1 p2, own_v0 p3, own_v1 p3] 0 := own_mal_eq [own_v0 p1, own_v1 p1, own_v0 p2, own_v1 p2, own_v0 p3, own_v1 p3] 7 0 (Nat.le_of_ble_eq_true rfl)
                  have f205 := (Nat.le_trans f202 K204.1)
                  have f206 := (f203.keep K204 (allS ge200 all0))
                  obtain ⟨_, _, ⟨T207, L207, k207, n207⟩, -, X207, ⟨Lc207, hQ207, l207, y207, z207⟩, st207⟩ := Jvm.LawKit.callS X204 hx (y := (⟨"com/example/abeyance/abeyance/model/Utf8Reader", "malformedAt", "(Ljava/lang/CharSequence;)I"⟩ : MethodName)) hown (mvT hZ (hw _ (List.mem_of_getElem? (i := 22) rfl))) (mvT hZ (hw _ (List.mem_of_getElem? (i := 23) rfl))) (mvT hZ (hw _ (List.mem_of_getElem? (i := 24) rfl))) (mvT hZ (hw _ (List.mem_of_getElem? (i := 25) rfl))) (by decide) (backOf (W := 0) (rmMalAt l Z a0 hw [] b200 zc fm [own_v0 p1, own_v1 p1, own_v0 p2, own_v1 p2, own_v0 p3, own_v1 p3] (4 : Int32) T204.heap n0 f205 hSt f206 hStr (Nat.le_of_ble_eq_true rfl) (((hma.trans ((own_pairU p1 [own_v0 p2, own_v1 p2, own_v0 p3, own_v1 p3] 0).2.2 hi0_p1 hi1_p1)).trans ((own_pairU p2 [own_v0 p3, own_v1 p3] 2).2.2 hi0_p2 hi1_p2)).trans ((own_pairU p3 [] 4).1 hi0_p3)).symm) hZ (hw _ (List.mem_of_getElem? (i := 25) rfl)) (hw _ (List.mem_of_getElem? (i := 24) rfl)) (by decide) (by decide)) (g := (mkF m 253 #[.val (.int p0), .val (.int p1), .val (.int p2), .val (.int p3), .val (.int M), .val (.ref b127), .val (.int (4 : Int32))] [(.ref b200)])) rfl (by rw [hml]; rfl) (argsL := [(.ref b200)]) (rest := []) (lenOf pd__Ljava_lang_CharSequence__I rfl) rfl (by show 2 * 0 + _ ≤ _; exact Nat.le_of_eq rfl) (hb hby at_253) (fun _ _ => ⟨rfl, rfl, (by decide : 4 + 0 ≤ _), (by decide : 28 + 0 ≤ _)⟩)
                  dsimp only [Pt.U, Pt.locs, Pt.cells, Pt.slots] at X207 l207 y207 z207 st207 hQ207
                  subst l207 y207 z207
                  obtain ⟨rfl, Nq207, e207⟩ := hQ207
                  have N207 := Fr.app N204 Nq207
                  obtain ⟨fs, hr, hrun, hended, hW, hsame⟩ := X207.leave (v := some (.int (1 : Int32))) (fun h => by rw [Bd.returns] at h; cases h)
                  refine ⟨_, _, pre198 _ ?_, hrun, hended, _, _, rfl, ?_, ReturnedEndW.of_narrow ⟨_, rfl⟩ hW (hsame.mono (by decide) (by decide))⟩
                  · show Steps p.tables e below (T197.setTop (mkF m 213 #[.val (.int p0), .val (.int p1), .val (.int p2), .val (.int p3), .val (.int M), .val (.ref b127), .val (.int (-1 : Int32))] [])) _
                    refine XS.iloadN X197.here hx rfl (hb hby at_213) rfl  ?_
                    refine XS.iconst X197.here hx rfl (hb hby at_214) ?_
                    show Steps p.tables e below (T197.setTop (mkF m 215 #[.val (.int p0), .val (.int p1), .val (.int p2), .val (.int p3), .val (.int M), .val (.ref b127), .val (.int (-1 : Int32))] [(.int (0 : Int32)), (.int p3)])) _
                    refine st199 _ ?_
                    show Steps p.tables e below (T199.setTop (mkF m 218 #[.val (.int p0), .val (.int p1), .val (.int p2), .val (.int p3), .val (.int M), .val (.ref b127), .val (.int (-1 : Int32))] [(.int (1 : Int32))])) _
                    refine XS.ifNo X199.here hx rfl (hb hby at_218) rfl ((if0 _ _).trans (feq (by decide : ¬ ((1 : Int32) = (0 : Int32)))).1) ?_
                    refine XS.iconst X199.here hx rfl (hb hby at_221) ?_
                    refine XS.istore X199.here hx rfl (hb hby at_222) rfl (l' := #[.val (.int p0), .val (.int p1), .val (.int p2), .val (.int p3), .val (.int M), .val (.ref b127), .val (.int (4 : Int32))]) rfl ?_
                    show Steps p.tables e below (T199.setTop (mkF m 224 #[.val (.int p0), .val (.int p1), .val (.int p2), .val (.int p3), .val (.int M), .val (.ref b127), .val (.int (4 : Int32))] [])) _
                    refine XS.goto X199.here hx rfl (pc0 := 224) (pc' := 244) rfl (hb hby at_224) (by decide) (by decide) ?_
                    show Steps p.tables e below (T199.setTop (mkF m 244 #[.val (.int p0), .val (.int p1), .val (.int p2), .val (.int p3), .val (.int M), .val (.ref b127), .val (.int (4 : Int32))] [])) _
                    refine st200 _ ?_
                    show Steps p.tables e below (T200.setTop (mkF m 247 #[.val (.int p0), .val (.int p1), .val (.int p2), .val (.int p3), .val (.int M), .val (.ref b127), .val (.int (4 : Int32))] [(.ref b200)])) _
                    refine XS.dup X200.here hx rfl (hb hby at_247) rfl rfl ?_
                    refine XS.aload X200.here hx rfl (hb hby at_248) rfl rfl ?_
                    show Steps p.tables e below (T200.setTop (mkF m 250 #[.val (.int p0), .val (.int p1), .val (.int p2), .val (.int p3), .val (.int M), .val (.ref b127), .val (.int (4 : Int32))] [(.ref b127), (.ref b200), (.ref b200)])) _
                    refine st204.trans ?_
                    show Steps p.tables e below (T204.setTop (mkF m 253 #[.val (.int p0), .val (.int p1), .val (.int p2), .val (.int p3), .val (.int M), .val (.ref b127), .val (.int (4 : Int32))] [(.ref b200)])) _
                    refine st207 _ ?_
                    show Steps p.tables e below (T207.setTop (mkF m 256 #[.val (.int p0), .val (.int p1), .val (.int p2), .val (.int p3), .val (.int M), .val (.ref b127), .val (.int (4 : Int32))] [(.int (4 : Int32))])) _
                    refine XS.iload X207.here hx rfl (hb hby at_256) rfl  ?_
                    show Steps p.tables e below (T207.setTop (mkF m 258 #[.val (.int p0), .val (.int p1), .val (.int p2), .val (.int p3), .val (.int M), .val (.ref b127), .val (.int (4 : Int32))] [(.int (4 : Int32)), (.int (4 : Int32))])) _
                    refine XS.icmpNo X207.here hx rfl (hb hby at_258) rfl (teq (by decide : (4 : Int32) = (4 : Int32))).2 ?_
                    refine XS.iconst X207.here hx rfl (hb hby at_261) ?_
                    refine XS.goto X207.here hx rfl (pc0 := 262) (pc' := 266) rfl (hb hby at_262) (by decide) (by decide) ?_
                    show Steps p.tables e below (T207.setTop (mkF m 266 #[.val (.int p0), .val (.int p1), .val (.int p2), .val (.int p3), .val (.int M), .val (.ref b127), .val (.int (4 : Int32))] [(.int (1 : Int32))])) _
                    exact retN X207 hx (t := .boolean) Bd.returns (by simp) (hb hby at_266) hr
                  · show Q_rm0 Z p0 p1 p2 p3 zc fm h0 n0 _ T207.heap _
                    rw [e207]
                    exact ⟨rfl, N207⟩
                · obtain ⟨_, _, ⟨T208, L208, k208, n208⟩, -, X208, ⟨Lc208, hQ208, l208, y208, z208⟩, st208⟩ := Jvm.LawKit.callS X197 hx (y := (⟨"com/example/abeyance/abeyance/model/Utf8ReaderMalformedAtPinLaw", "isEsc", "(II)Z"⟩ : MethodName)) hown (mvT hZ (hw _ (List.mem_of_getElem? (i := 57) rfl))) (mvT hZ (hw _ (List.mem_of_getElem? (i := 58) rfl))) (mvT hZ (hw _ (List.mem_of_getElem? (i := 43) rfl))) (mvT hZ (hw _ (List.mem_of_getElem? (i := 59) rfl))) (by decide) (backOf (W := 0) (rmIsEsc0 l Z a0 hw [] p3 (0 : Int32) h151 n0 f163 (if_neg hi0_p3).symm) hZ (hw _ (List.mem_of_getElem? (i := 59) rfl)) (hw _ (List.mem_of_getElem? (i := 43) rfl)) (by decide) (by decide)) (g := (mkF m 215 #[.val (.int p0), .val (.int p1), .val (.int p2), .val (.int p3), .val (.int M), .val (.ref b127), .val (.int (-1 : Int32))] [(.int (0 : Int32)), (.int p3)])) rfl (by rw [hml]; rfl) (argsL := [(.int p3), (.int (0 : Int32))]) (rest := []) (lenOf pd__II_Z rfl) rfl (by show 2 * 0 + _ ≤ _; exact Nat.le_of_eq rfl) (hb hby at_215) (fun _ _ => ⟨rfl, e197, (by decide : 1 + 0 ≤ _), (by decide : 6 + 0 ≤ _)⟩)
                  dsimp only [Pt.U, Pt.locs, Pt.cells, Pt.slots] at X208 l208 y208 z208 st208 hQ208
                  subst l208 y208 z208
                  obtain ⟨rfl, Nq208, e208⟩ := hQ208
                  have N208 := Fr.app N197 Nq208
                  have pre209 : ∀ t, Steps p.tables e below (T208.setTop (mkF m 233 #[.val (.int p0), .val (.int p1), .val (.int p2), .val (.int p3), .val (.int M), .val (.ref b127), .val (.int (-1 : Int32))] [])) t → Steps p.tables e below (s₁.setTop (entryFrame m #[(.int p0), (.int p1), (.int p2), (.int p3)] maxLocals)) t := fun t kt => pre198 t (by
                    show Steps p.tables e below (T197.setTop (mkF m 213 #[.val (.int p0), .val (.int p1), .val (.int p2), .val (.int p3), .val (.int M), .val (.ref b127), .val (.int (-1 : Int32))] [])) _
                    refine XS.iloadN X197.here hx rfl (hb hby at_213) rfl  ?_
                    refine XS.iconst X197.here hx rfl (hb hby at_214) ?_
                    show Steps p.tables e below (T197.setTop (mkF m 215 #[.val (.int p0), .val (.int p1), .val (.int p2), .val (.int p3), .val (.int M), .val (.ref b127), .val (.int (-1 : Int32))] [(.int (0 : Int32)), (.int p3)])) _
                    refine st208 _ ?_
                    show Steps p.tables e below (T208.setTop (mkF m 218 #[.val (.int p0), .val (.int p1), .val (.int p2), .val (.int p3), .val (.int M), .val (.ref b127), .val (.int (-1 : Int32))] [(.int (0 : Int32))])) _
                    refine XS.ifYes X208.here hx rfl (pc0 := 218) (pc' := 227) rfl (hb hby at_218) rfl ((if0 _ _).trans (teq (by decide : (0 : Int32) = (0 : Int32))).1) (by decide) (by decide) ?_
                    refine XS.iload X208.here hx rfl (hb hby at_227) rfl  ?_
                    refine XS.iconst X208.here hx rfl (hb hby at_229) ?_
                    show Steps p.tables e below (T208.setTop (mkF m 230 #[.val (.int p0), .val (.int p1), .val (.int p2), .val (.int p3), .val (.int M), .val (.ref b127), .val (.int (-1 : Int32))] [(.int (3 : Int32)), (.int M)])) _
                    refine XS.icmpNo X208.here hx rfl (hb hby at_230) rfl (flt (by rw [hM]; decide)).1 ?_
                    exact kt)
                  by_cases hi1_p3 : own_i1 p3
                  · obtain ⟨_, _, ⟨T210, L210, k210, n210⟩, -, X210, ⟨Lc210, hQ210, l210, y210, z210⟩, st210⟩ := Jvm.LawKit.callS X208 hx (y := (⟨"com/example/abeyance/abeyance/model/Utf8ReaderMalformedAtPinLaw", "isEsc", "(II)Z"⟩ : MethodName)) hown (mvT hZ (hw _ (List.mem_of_getElem? (i := 57) rfl))) (mvT hZ (hw _ (List.mem_of_getElem? (i := 58) rfl))) (mvT hZ (hw _ (List.mem_of_getElem? (i := 43) rfl))) (mvT hZ (hw _ (List.mem_of_getElem? (i := 59) rfl))) (by decide) (backOf (W := 0) (rmIsEsc1 l Z a0 hw [] p3 (1 : Int32) h151 n0 f163 (if_pos hi1_p3).symm) hZ (hw _ (List.mem_of_getElem? (i := 59) rfl)) (hw _ (List.mem_of_getElem? (i := 43) rfl)) (by decide) (by decide)) (g := (mkF m 235 #[.val (.int p0), .val (.int p1), .val (.int p2), .val (.int p3), .val (.int M), .val (.ref b127), .val (.int (-1 : Int32))] [(.int (1 : Int32)), (.int p3)])) rfl (by rw [hml]; rfl) (argsL := [(.int p3), (.int (1 : Int32))]) (rest := []) (lenOf pd__II_Z rfl) rfl (by show 2 * 0 + _ ≤ _; exact Nat.le_of_eq rfl) (hb hby at_235) (fun _ _ => ⟨rfl, e208, (by decide : 1 + 0 ≤ _), (by decide : 6 + 0 ≤ _)⟩)
                    dsimp only [Pt.U, Pt.locs, Pt.cells, Pt.slots] at X210 l210 y210 z210 st210 hQ210
                    subst l210 y210 z210
                    obtain ⟨rfl, Nq210, e210⟩ := hQ210
                    have N210 := Fr.app N208 Nq210
                    obtain ⟨T211, h211, X211, e211, E211, A211, D211, -, st211⟩ := newO X210 hx hZ hown (hw _ (List.mem_of_getElem? (i := 1) rfl)) (hw _ (List.mem_of_getElem? (i := 2) rfl)) (hw _ (List.mem_of_getElem? (i := 3) rfl)) e210 (g := (mkF m 244 #[.val (.int p0), .val (.int p1), .val (.int p2), .val (.int p3), .val (.int M), .val (.ref b127), .val (.int (5 : Int32))] [])) rfl (hb hby at_244) (by decide) (by decide)
                    obtain ⟨b211, g211⟩ : ∃ z, z = h151.size := ⟨_, rfl⟩
                    rw [← g211] at A211 D211 st211
                    have ne211_b127 : b127 ≠ b211 := Nat.ne_of_lt (Nat.lt_of_lt_of_le V151.lt (Nat.le_of_eq g211.symm))
                    have ge211 : n0 ≤ b211 := Nat.le_trans f163 (Nat.le_of_eq g211.symm)
                    have F211_value : Fld Z h211 b211 "java/lang/String" "value" "[B" .null := D211 (Or.inr (hw _ (List.mem_of_getElem? (i := 16) rfl))) (ty := (.array .byte)) (by decide)
                    have F211_coder : Fld Z h211 b211 "java/lang/String" "coder" "B" (.int (0 : Int32)) := D211 (Or.inr (hw _ (List.mem_of_getElem? (i := 17) rfl))) (ty := .byte) (by decide)
                    have f212 := (V151.ext E211)
                    have f213 := (Nat.le_trans f163 E211.1)
                    have f214 := ((((((((Ol.ext E127).wr W131 ge127).wr W135 ge127).wr W139 ge127).wr W143 ge127).wr W147 ge127).wr W151 ge127).ext E211)
                    obtain ⟨_, _, ⟨T215, L215, k215, n215⟩, -, X215, ⟨Lc215, hQ215, l215, y215, z215⟩, st215⟩ := X211.specialBack hx (y := (⟨"java/lang/String", "<init>", "([C)V"⟩ : MethodName)) rfl hown (mvT hZ (hw _ (List.mem_of_getElem? (i := 4) rfl))) (mvT hZ (hw _ (List.mem_of_getElem? (i := 5) rfl))) (mvT hZ (hw _ (List.mem_of_getElem? (i := 6) rfl))) (by decide) (backOf (W := 1) (rmNew6 l Z a0 hw [] b211 b127 zc fm k127 ((own_v0 p1)) ((own_v1 p1)) ((own_v0 p2)) ((own_v1 p2)) ((own_v0 p3)) ((own_v1 p3)) h211 n0 f213 hSt f214 A211 F211_value F211_coder ge211 f212 (own_allc (own_vr _) (own_allc (own_vr _) (own_allc (own_vr _) (own_allc (own_vr _) (own_allc (own_vr _) (own_allc (own_vr _) (fun _ q => nomatch q)))))))) hZ (hw _ (List.mem_of_getElem? (i := 6) rfl)) (hw _ (List.mem_of_getElem? (i := 3) rfl)) (by decide) (by decide)) (g := (mkF m 250 #[.val (.int p0), .val (.int p1), .val (.int p2), .val (.int p3), .val (.int M), .val (.ref b127), .val (.int (5 : Int32))] [(.ref b127), (.ref b211), (.ref b211)])) rfl (by rw [hml]; rfl) (Steps.refl _) (a := b211) (argsL := [(.ref b127)]) (rest := [(.ref b211)]) (lenOf pd___C_V rfl) rfl (by show 2 * 0 + _ ≤ _; exact Nat.le_of_eq rfl) (hb hby at_250) (fun _ _ => ⟨rfl, e211, (by decide : 2 + 2 ≤ _), (by decide : 10 + 18 ≤ _)⟩)
                    dsimp only [Pt.U, Pt.locs, Pt.cells, Pt.slots] at X215 l215 y215 z215 st215 hQ215
                    subst l215 y215 z215
                    obtain ⟨rfl, Nq215, K215, hStr⟩ := hQ215
                    have N215 := Fr.app N210 Nq215
                    have hma : own_ma [own_v0 p1, own_v1 p1, own_v0 p2, own_v1 p2, own_v0 p3, own_v1 p3] 7 0 = own_mal [own_v0 p1, own_v1 p1, own_v0 p2, own_v1 p2, own_v0 p3, own_v1 p3] 0 := own_mal_eq [own_v0 p1, own_v1 p1, own_v0 p2, own_v1 p2, own_v0 p3, own_v1 p3] 7 0 (Nat.le_of_ble_eq_true rfl)
                    have f216 := (Nat.le_trans f213 K215.1)
                    have f217 := (f214.keep K215 (allS ge211 all0))
                    obtain ⟨_, _, ⟨T218, L218, k218, n218⟩, -, X218, ⟨Lc218, hQ218, l218, y218, z218⟩, st218⟩ := Jvm.LawKit.callS X215 hx (y := (⟨"com/example/abeyance/abeyance/model/Utf8Reader", "malformedAt", "(Ljava/lang/CharSequence;)I"⟩ : MethodName)) hown (mvT hZ (hw _ (List.mem_of_getElem? (i := 22) rfl))) (mvT hZ (hw _ (List.mem_of_getElem? (i := 23) rfl))) (mvT hZ (hw _ (List.mem_of_getElem? (i := 24) rfl))) (mvT hZ (hw _ (List.mem_of_getElem? (i := 25) rfl))) (by decide) (backOf (W := 0) (rmMalAt l Z a0 hw [] b211 zc fm [own_v0 p1, own_v1 p1, own_v0 p2, own_v1 p2, own_v0 p3, own_v1 p3] (5 : Int32) T215.heap n0 f216 hSt f217 hStr (Nat.le_of_ble_eq_true rfl) (((hma.trans ((own_pairU p1 [own_v0 p2, own_v1 p2, own_v0 p3, own_v1 p3] 0).2.2 hi0_p1 hi1_p1)).trans ((own_pairU p2 [own_v0 p3, own_v1 p3] 2).2.2 hi0_p2 hi1_p2)).trans ((own_pairU p3 [] 4).2.1 hi0_p3 hi1_p3)).symm) hZ (hw _ (List.mem_of_getElem? (i := 25) rfl)) (hw _ (List.mem_of_getElem? (i := 24) rfl)) (by decide) (by decide)) (g := (mkF m 253 #[.val (.int p0), .val (.int p1), .val (.int p2), .val (.int p3), .val (.int M), .val (.ref b127), .val (.int (5 : Int32))] [(.ref b211)])) rfl (by rw [hml]; rfl) (argsL := [(.ref b211)]) (rest := []) (lenOf pd__Ljava_lang_CharSequence__I rfl) rfl (by show 2 * 0 + _ ≤ _; exact Nat.le_of_eq rfl) (hb hby at_253) (fun _ _ => ⟨rfl, rfl, (by decide : 4 + 0 ≤ _), (by decide : 28 + 0 ≤ _)⟩)
                    dsimp only [Pt.U, Pt.locs, Pt.cells, Pt.slots] at X218 l218 y218 z218 st218 hQ218
                    subst l218 y218 z218
                    obtain ⟨rfl, Nq218, e218⟩ := hQ218
                    have N218 := Fr.app N215 Nq218
                    obtain ⟨fs, hr, hrun, hended, hW, hsame⟩ := X218.leave (v := some (.int (1 : Int32))) (fun h => by rw [Bd.returns] at h; cases h)
                    refine ⟨_, _, pre209 _ ?_, hrun, hended, _, _, rfl, ?_, ReturnedEndW.of_narrow ⟨_, rfl⟩ hW (hsame.mono (by decide) (by decide))⟩
                    · show Steps p.tables e below (T208.setTop (mkF m 233 #[.val (.int p0), .val (.int p1), .val (.int p2), .val (.int p3), .val (.int M), .val (.ref b127), .val (.int (-1 : Int32))] [])) _
                      refine XS.iloadN X208.here hx rfl (hb hby at_233) rfl  ?_
                      refine XS.iconst X208.here hx rfl (hb hby at_234) ?_
                      show Steps p.tables e below (T208.setTop (mkF m 235 #[.val (.int p0), .val (.int p1), .val (.int p2), .val (.int p3), .val (.int M), .val (.ref b127), .val (.int (-1 : Int32))] [(.int (1 : Int32)), (.int p3)])) _
                      refine st210 _ ?_
                      show Steps p.tables e below (T210.setTop (mkF m 238 #[.val (.int p0), .val (.int p1), .val (.int p2), .val (.int p3), .val (.int M), .val (.ref b127), .val (.int (-1 : Int32))] [(.int (1 : Int32))])) _
                      refine XS.ifNo X210.here hx rfl (hb hby at_238) rfl ((if0 _ _).trans (feq (by decide : ¬ ((1 : Int32) = (0 : Int32)))).1) ?_
                      refine XS.iconst X210.here hx rfl (hb hby at_241) ?_
                      refine XS.istore X210.here hx rfl (hb hby at_242) rfl (l' := #[.val (.int p0), .val (.int p1), .val (.int p2), .val (.int p3), .val (.int M), .val (.ref b127), .val (.int (5 : Int32))]) rfl ?_
                      show Steps p.tables e below (T210.setTop (mkF m 244 #[.val (.int p0), .val (.int p1), .val (.int p2), .val (.int p3), .val (.int M), .val (.ref b127), .val (.int (5 : Int32))] [])) _
                      refine st211 _ ?_
                      show Steps p.tables e below (T211.setTop (mkF m 247 #[.val (.int p0), .val (.int p1), .val (.int p2), .val (.int p3), .val (.int M), .val (.ref b127), .val (.int (5 : Int32))] [(.ref b211)])) _
                      refine XS.dup X211.here hx rfl (hb hby at_247) rfl rfl ?_
                      refine XS.aload X211.here hx rfl (hb hby at_248) rfl rfl ?_
                      show Steps p.tables e below (T211.setTop (mkF m 250 #[.val (.int p0), .val (.int p1), .val (.int p2), .val (.int p3), .val (.int M), .val (.ref b127), .val (.int (5 : Int32))] [(.ref b127), (.ref b211), (.ref b211)])) _
                      refine st215.trans ?_
                      show Steps p.tables e below (T215.setTop (mkF m 253 #[.val (.int p0), .val (.int p1), .val (.int p2), .val (.int p3), .val (.int M), .val (.ref b127), .val (.int (5 : Int32))] [(.ref b211)])) _
                      refine st218 _ ?_
                      show Steps p.tables e below (T218.setTop (mkF m 256 #[.val (.int p0), .val (.int p1), .val (.int p2), .val (.int p3), .val (.int M), .val (.ref b127), .val (.int (5 : Int32))] [(.int (5 : Int32))])) _
                      refine XS.iload X218.here hx rfl (hb hby at_256) rfl  ?_
                      show Steps p.tables e below (T218.setTop (mkF m 258 #[.val (.int p0), .val (.int p1), .val (.int p2), .val (.int p3), .val (.int M), .val (.ref b127), .val (.int (5 : Int32))] [(.int (5 : Int32)), (.int (5 : Int32))])) _
                      refine XS.icmpNo X218.here hx rfl (hb hby at_258) rfl (teq (by decide : (5 : Int32) = (5 : Int32))).2 ?_
                      refine XS.iconst X218.here hx rfl (hb hby at_261) ?_
                      refine XS.goto X218.here hx rfl (pc0 := 262) (pc' := 266) rfl (hb hby at_262) (by decide) (by decide) ?_
                      show Steps p.tables e below (T218.setTop (mkF m 266 #[.val (.int p0), .val (.int p1), .val (.int p2), .val (.int p3), .val (.int M), .val (.ref b127), .val (.int (5 : Int32))] [(.int (1 : Int32))])) _
                      exact retN X218 hx (t := .boolean) Bd.returns (by simp) (hb hby at_266) hr
                    · show Q_rm0 Z p0 p1 p2 p3 zc fm h0 n0 _ T218.heap _
                      rw [e218]
                      exact ⟨rfl, N218⟩
                  · obtain ⟨_, _, ⟨T219, L219, k219, n219⟩, -, X219, ⟨Lc219, hQ219, l219, y219, z219⟩, st219⟩ := Jvm.LawKit.callS X208 hx (y := (⟨"com/example/abeyance/abeyance/model/Utf8ReaderMalformedAtPinLaw", "isEsc", "(II)Z"⟩ : MethodName)) hown (mvT hZ (hw _ (List.mem_of_getElem? (i := 57) rfl))) (mvT hZ (hw _ (List.mem_of_getElem? (i := 58) rfl))) (mvT hZ (hw _ (List.mem_of_getElem? (i := 43) rfl))) (mvT hZ (hw _ (List.mem_of_getElem? (i := 59) rfl))) (by decide) (backOf (W := 0) (rmIsEsc1 l Z a0 hw [] p3 (0 : Int32) h151 n0 f163 (if_neg hi1_p3).symm) hZ (hw _ (List.mem_of_getElem? (i := 59) rfl)) (hw _ (List.mem_of_getElem? (i := 43) rfl)) (by decide) (by decide)) (g := (mkF m 235 #[.val (.int p0), .val (.int p1), .val (.int p2), .val (.int p3), .val (.int M), .val (.ref b127), .val (.int (-1 : Int32))] [(.int (1 : Int32)), (.int p3)])) rfl (by rw [hml]; rfl) (argsL := [(.int p3), (.int (1 : Int32))]) (rest := []) (lenOf pd__II_Z rfl) rfl (by show 2 * 0 + _ ≤ _; exact Nat.le_of_eq rfl) (hb hby at_235) (fun _ _ => ⟨rfl, e208, (by decide : 1 + 0 ≤ _), (by decide : 6 + 0 ≤ _)⟩)
                    dsimp only [Pt.U, Pt.locs, Pt.cells, Pt.slots] at X219 l219 y219 z219 st219 hQ219
                    subst l219 y219 z219
                    obtain ⟨rfl, Nq219, e219⟩ := hQ219
                    have N219 := Fr.app N208 Nq219
                    obtain ⟨T220, h220, X220, e220, E220, A220, D220, -, st220⟩ := newO X219 hx hZ hown (hw _ (List.mem_of_getElem? (i := 1) rfl)) (hw _ (List.mem_of_getElem? (i := 2) rfl)) (hw _ (List.mem_of_getElem? (i := 3) rfl)) e219 (g := (mkF m 244 #[.val (.int p0), .val (.int p1), .val (.int p2), .val (.int p3), .val (.int M), .val (.ref b127), .val (.int (-1 : Int32))] [])) rfl (hb hby at_244) (by decide) (by decide)
                    obtain ⟨b220, g220⟩ : ∃ z, z = h151.size := ⟨_, rfl⟩
                    rw [← g220] at A220 D220 st220
                    have ne220_b127 : b127 ≠ b220 := Nat.ne_of_lt (Nat.lt_of_lt_of_le V151.lt (Nat.le_of_eq g220.symm))
                    have ge220 : n0 ≤ b220 := Nat.le_trans f163 (Nat.le_of_eq g220.symm)
                    have F220_value : Fld Z h220 b220 "java/lang/String" "value" "[B" .null := D220 (Or.inr (hw _ (List.mem_of_getElem? (i := 16) rfl))) (ty := (.array .byte)) (by decide)
                    have F220_coder : Fld Z h220 b220 "java/lang/String" "coder" "B" (.int (0 : Int32)) := D220 (Or.inr (hw _ (List.mem_of_getElem? (i := 17) rfl))) (ty := .byte) (by decide)
                    have f221 := (V151.ext E220)
                    have f222 := (Nat.le_trans f163 E220.1)
                    have f223 := ((((((((Ol.ext E127).wr W131 ge127).wr W135 ge127).wr W139 ge127).wr W143 ge127).wr W147 ge127).wr W151 ge127).ext E220)
                    obtain ⟨_, _, ⟨T224, L224, k224, n224⟩, -, X224, ⟨Lc224, hQ224, l224, y224, z224⟩, st224⟩ := X220.specialBack hx (y := (⟨"java/lang/String", "<init>", "([C)V"⟩ : MethodName)) rfl hown (mvT hZ (hw _ (List.mem_of_getElem? (i := 4) rfl))) (mvT hZ (hw _ (List.mem_of_getElem? (i := 5) rfl))) (mvT hZ (hw _ (List.mem_of_getElem? (i := 6) rfl))) (by decide) (backOf (W := 1) (rmNew6 l Z a0 hw [] b220 b127 zc fm k127 ((own_v0 p1)) ((own_v1 p1)) ((own_v0 p2)) ((own_v1 p2)) ((own_v0 p3)) ((own_v1 p3)) h220 n0 f222 hSt f223 A220 F220_value F220_coder ge220 f221 (own_allc (own_vr _) (own_allc (own_vr _) (own_allc (own_vr _) (own_allc (own_vr _) (own_allc (own_vr _) (own_allc (own_vr _) (fun _ q => nomatch q)))))))) hZ (hw _ (List.mem_of_getElem? (i := 6) rfl)) (hw _ (List.mem_of_getElem? (i := 3) rfl)) (by decide) (by decide)) (g := (mkF m 250 #[.val (.int p0), .val (.int p1), .val (.int p2), .val (.int p3), .val (.int M), .val (.ref b127), .val (.int (-1 : Int32))] [(.ref b127), (.ref b220), (.ref b220)])) rfl (by rw [hml]; rfl) (Steps.refl _) (a := b220) (argsL := [(.ref b127)]) (rest := [(.ref b220)]) (lenOf pd___C_V rfl) rfl (by show 2 * 0 + _ ≤ _; exact Nat.le_of_eq rfl) (hb hby at_250) (fun _ _ => ⟨rfl, e220, (by decide : 2 + 2 ≤ _), (by decide : 10 + 18 ≤ _)⟩)
                    dsimp only [Pt.U, Pt.locs, Pt.cells, Pt.slots] at X224 l224 y224 z224 st224 hQ224
                    subst l224 y224 z224
                    obtain ⟨rfl, Nq224, K224, hStr⟩ := hQ224
                    have N224 := Fr.app N219 Nq224
                    have hma : own_ma [own_v0 p1, own_v1 p1, own_v0 p2, own_v1 p2, own_v0 p3, own_v1 p3] 7 0 = own_mal [own_v0 p1, own_v1 p1, own_v0 p2, own_v1 p2, own_v0 p3, own_v1 p3] 0 := own_mal_eq [own_v0 p1, own_v1 p1, own_v0 p2, own_v1 p2, own_v0 p3, own_v1 p3] 7 0 (Nat.le_of_ble_eq_true rfl)
                    have f225 := (Nat.le_trans f222 K224.1)
                    have f226 := (f223.keep K224 (allS ge220 all0))
                    obtain ⟨_, _, ⟨T227, L227, k227, n227⟩, -, X227, ⟨Lc227, hQ227, l227, y227, z227⟩, st227⟩ := Jvm.LawKit.callS X224 hx (y := (⟨"com/example/abeyance/abeyance/model/Utf8Reader", "malformedAt", "(Ljava/lang/CharSequence;)I"⟩ : MethodName)) hown (mvT hZ (hw _ (List.mem_of_getElem? (i := 22) rfl))) (mvT hZ (hw _ (List.mem_of_getElem? (i := 23) rfl))) (mvT hZ (hw _ (List.mem_of_getElem? (i := 24) rfl))) (mvT hZ (hw _ (List.mem_of_getElem? (i := 25) rfl))) (by decide) (backOf (W := 0) (rmMalAt l Z a0 hw [] b220 zc fm [own_v0 p1, own_v1 p1, own_v0 p2, own_v1 p2, own_v0 p3, own_v1 p3] (-1 : Int32) T224.heap n0 f225 hSt f226 hStr (Nat.le_of_ble_eq_true rfl) (((hma.trans ((own_pairU p1 [own_v0 p2, own_v1 p2, own_v0 p3, own_v1 p3] 0).2.2 hi0_p1 hi1_p1)).trans ((own_pairU p2 [own_v0 p3, own_v1 p3] 2).2.2 hi0_p2 hi1_p2)).trans ((own_pairU p3 [] 4).2.2 hi0_p3 hi1_p3)).symm) hZ (hw _ (List.mem_of_getElem? (i := 25) rfl)) (hw _ (List.mem_of_getElem? (i := 24) rfl)) (by decide) (by decide)) (g := (mkF m 253 #[.val (.int p0), .val (.int p1), .val (.int p2), .val (.int p3), .val (.int M), .val (.ref b127), .val (.int (-1 : Int32))] [(.ref b220)])) rfl (by rw [hml]; rfl) (argsL := [(.ref b220)]) (rest := []) (lenOf pd__Ljava_lang_CharSequence__I rfl) rfl (by show 2 * 0 + _ ≤ _; exact Nat.le_of_eq rfl) (hb hby at_253) (fun _ _ => ⟨rfl, rfl, (by decide : 4 + 0 ≤ _), (by decide : 28 + 0 ≤ _)⟩)
                    dsimp only [Pt.U, Pt.locs, Pt.cells, Pt.slots] at X227 l227 y227 z227 st227 hQ227
                    subst l227 y227 z227
                    obtain ⟨rfl, Nq227, e227⟩ := hQ227
                    have N227 := Fr.app N224 Nq227
                    obtain ⟨fs, hr, hrun, hended, hW, hsame⟩ := X227.leave (v := some (.int (1 : Int32))) (fun h => by rw [Bd.returns] at h; cases h)
                    refine ⟨_, _, pre209 _ ?_, hrun, hended, _, _, rfl, ?_, ReturnedEndW.of_narrow ⟨_, rfl⟩ hW (hsame.mono (by decide) (by decide))⟩
                    · show Steps p.tables e below (T208.setTop (mkF m 233 #[.val (.int p0), .val (.int p1), .val (.int p2), .val (.int p3), .val (.int M), .val (.ref b127), .val (.int (-1 : Int32))] [])) _
                      refine XS.iloadN X208.here hx rfl (hb hby at_233) rfl  ?_
                      refine XS.iconst X208.here hx rfl (hb hby at_234) ?_
                      show Steps p.tables e below (T208.setTop (mkF m 235 #[.val (.int p0), .val (.int p1), .val (.int p2), .val (.int p3), .val (.int M), .val (.ref b127), .val (.int (-1 : Int32))] [(.int (1 : Int32)), (.int p3)])) _
                      refine st219 _ ?_
                      show Steps p.tables e below (T219.setTop (mkF m 238 #[.val (.int p0), .val (.int p1), .val (.int p2), .val (.int p3), .val (.int M), .val (.ref b127), .val (.int (-1 : Int32))] [(.int (0 : Int32))])) _
                      refine XS.ifYes X219.here hx rfl (pc0 := 238) (pc' := 244) rfl (hb hby at_238) rfl ((if0 _ _).trans (teq (by decide : (0 : Int32) = (0 : Int32))).1) (by decide) (by decide) ?_
                      show Steps p.tables e below (T219.setTop (mkF m 244 #[.val (.int p0), .val (.int p1), .val (.int p2), .val (.int p3), .val (.int M), .val (.ref b127), .val (.int (-1 : Int32))] [])) _
                      refine st220 _ ?_
                      show Steps p.tables e below (T220.setTop (mkF m 247 #[.val (.int p0), .val (.int p1), .val (.int p2), .val (.int p3), .val (.int M), .val (.ref b127), .val (.int (-1 : Int32))] [(.ref b220)])) _
                      refine XS.dup X220.here hx rfl (hb hby at_247) rfl rfl ?_
                      refine XS.aload X220.here hx rfl (hb hby at_248) rfl rfl ?_
                      show Steps p.tables e below (T220.setTop (mkF m 250 #[.val (.int p0), .val (.int p1), .val (.int p2), .val (.int p3), .val (.int M), .val (.ref b127), .val (.int (-1 : Int32))] [(.ref b127), (.ref b220), (.ref b220)])) _
                      refine st224.trans ?_
                      show Steps p.tables e below (T224.setTop (mkF m 253 #[.val (.int p0), .val (.int p1), .val (.int p2), .val (.int p3), .val (.int M), .val (.ref b127), .val (.int (-1 : Int32))] [(.ref b220)])) _
                      refine st227 _ ?_
                      show Steps p.tables e below (T227.setTop (mkF m 256 #[.val (.int p0), .val (.int p1), .val (.int p2), .val (.int p3), .val (.int M), .val (.ref b127), .val (.int (-1 : Int32))] [(.int (-1 : Int32))])) _
                      refine XS.iload X227.here hx rfl (hb hby at_256) rfl  ?_
                      show Steps p.tables e below (T227.setTop (mkF m 258 #[.val (.int p0), .val (.int p1), .val (.int p2), .val (.int p3), .val (.int M), .val (.ref b127), .val (.int (-1 : Int32))] [(.int (-1 : Int32)), (.int (-1 : Int32))])) _
                      refine XS.icmpNo X227.here hx rfl (hb hby at_258) rfl (teq (by decide : (-1 : Int32) = (-1 : Int32))).2 ?_
                      refine XS.iconst X227.here hx rfl (hb hby at_261) ?_
                      refine XS.goto X227.here hx rfl (pc0 := 262) (pc' := 266) rfl (hb hby at_262) (by decide) (by decide) ?_
                      show Steps p.tables e below (T227.setTop (mkF m 266 #[.val (.int p0), .val (.int p1), .val (.int p2), .val (.int p3), .val (.int M), .val (.ref b127), .val (.int (-1 : Int32))] [(.int (1 : Int32))])) _
                      exact retN X227 hx (t := .boolean) Bd.returns (by simp) (hb hby at_266) hr
                    · show Q_rm0 Z p0 p1 p2 p3 zc fm h0 n0 _ T227.heap _
                      rw [e227]
                      exact ⟨rfl, N227⟩
set_option maxRecDepth 65536 in
set_option maxHeartbeats 40000000 in
theorem comes_1 {Post : Tables → Env → Array Value → State → Outcome → State → Prop} (hpost : ∀ tb e args s v u, (limb_1_1.after args s (.returned v) u = true ∧ limb_1_2.after args s (.returned v) u = true ∧ True) → FramedW s (.returned v) u (Jvm.fieldLocs frame_1_writes args s ++ Jvm.arrayLocs frame_1_arrays args s ++ Jvm.staticLocs frame_1_statics s) 24 1152 → Post tb e args s (.returned v) u) :
    ArmFor flags0 classFile x code maxLocals ret World_1 tables_1 room_1 Calls_1 rest_1 Pre_1 Post := by
  intro l hfl _ _ p e ha hc hk s m args below hf hA hF happ hP
  obtain ⟨hcalls, hrest, hpre⟩ := hP
  obtain ⟨-, -, -, hnamed, -, -, -, hat⟩ := (Spec.applies_iff hf).mp happ
  obtain ⟨hg, hn⟩ := and_e (Cond.before_iff.mp (show (Jvm.Cond.and given_1 narrow_1).before args s = true from hpre))
  obtain ⟨gc, gr0⟩ := and_e hg
  obtain ⟨ga0, gr1⟩ := and_e gr0
  obtain ⟨ga1, gr2⟩ := and_e gr1
  obtain ⟨ga2, gr3⟩ := and_e gr2
  obtain ⟨w0, w1, w2, w3, rfl⟩ : ∃ w0 w1 w2 w3 : Value, args = #[w0, w1, w2, w3] := by
    have hs : args.size = 4 := by simpa [Cond.value, given_1] using gc
    obtain ⟨L⟩ := args
    match L, hs with
    | [w0, w1, w2, w3], _ => exact ⟨w0, w1, w2, w3, rfl⟩
  have hw := fun d (hd : d ∈ tables_1) => atoms_spec (ws := Jvm.Cond.code x code maxLocals ret :: tables_1) hat d (List.mem_cons_of_mem _ hd)
  have hfit : Fit s := fun {y c} hc i hi => by
    obtain ⟨ha, rfl⟩ := Array.getElem?_eq_some_iff.mp hc
    have q := List.all_eq_true.mp ((Array.all_eq_true_iff_forall_mem.mp hF) _ (Array.getElem_mem ha)) i (List.mem_range.mpr hi)
    simpa [Array.getElem?_eq_getElem hi] using q
  obtain ⟨i0, ei0⟩ := is_v ga0
  obtain rfl : w0 = (.int i0) := Option.some.inj ei0
  obtain ⟨i1, ei1⟩ := is_v ga1
  obtain rfl : w1 = (.int i1) := Option.some.inj ei1
  obtain ⟨i2, ei2⟩ := is_v ga2
  obtain rfl : w2 = (.int i2) := Option.some.inj ei2
  obtain ⟨i3, ei3⟩ := is_v gr3
  obtain rfl : w3 = (.int i3) := Option.some.inj ei3
  obtain ⟨hsets, hown0⟩ := atoms_of _ (rest_1_c_eq ▸ (show rest_1_c.before _ s = true from hrest))
  obtain ⟨zc, evz⟩ := is_v (Cond.before_iff.mp (hsets _ (List.mem_of_getElem? (i := 1) rfl)))
  have hzc : ¬ zc = (0 : Int32) := fun q => by
    have h3 := not_v (Cond.before_iff.mp (hsets _ (List.mem_of_getElem? (i := 2) rfl)))
    rw [eq_i evz (Term.int_eval (0)) (by rw [q])] at h3; cases h3
  obtain ⟨fm, evf, hfm⟩ := isR_v (Cond.before_iff.mp (hsets _ (List.mem_of_getElem? (i := 8) rfl)))
  have hSt : own_St s zc fm := ⟨Sta.start evz (Or.inl (hsets _ (List.mem_of_getElem? (i := 0) rfl))), hzc, Sta.start evf (Or.inl (hsets _ (List.mem_of_getElem? (i := 7) rfl))), hfm, Sta.start (own_sti (Cond.before_iff.mp (hsets _ (List.mem_of_getElem? (i := 12) rfl)))) (Or.inl (hsets _ (List.mem_of_getElem? (i := 11) rfl))), Sta.start (own_sti (Cond.before_iff.mp (hsets _ (List.mem_of_getElem? (i := 15) rfl)))) (Or.inl (hsets _ (List.mem_of_getElem? (i := 14) rfl))), Sta.start (own_sti (Cond.before_iff.mp (hsets _ (List.mem_of_getElem? (i := 18) rfl)))) (Or.inl (hsets _ (List.mem_of_getElem? (i := 17) rfl)))⟩
  have hcw : Jvm.Lit.compactW.before _ s = true := (hsets _ (List.mem_of_getElem? (i := 2) rfl))
  have hheld : Jvm.Lit.constHeld s "java/lang/String" 7 := hcalls.1 ("java/lang/String", 7) (List.mem_cons_self ..)
  obtain ⟨n, o, h1, h2, h3, _, L, rfl, ⟨rfl, N⟩, hq⟩ := rm0 l s _ hw tables_1 i0 i1 i2 i3 zc fm s.heap s.heap.size (Nat.le_refl _) hSt (Old.start s) hheld hcw p e ha hc hk s m _ below hf ((Spec.applies_iff_loose hf).mp happ).1 ⟨rfl, State.Warmed39.refl s, rfl, rfl⟩ trivial
  refine ⟨n, _, h1, h2, h3, hpost _ _ _ _ _ _ ⟨Cond.after_iff.mpr rfl, Cond.after_iff.mpr (eq_i res_at (Term.int_eval (1)) rfl), trivial⟩ ⟨hq.1, hq.2.1, hq.2.2.1, (hq.2.2.2.sift fun y hy => Or.inr (N y hy)).mono (by decide) (by decide)⟩⟩
theorem main_1_1 : Claimed_1_1 := comes_1 fun _ _ _ _ _ _ h hF => ⟨h.1, hF⟩
theorem main_1_2 : Claimed_1_2 := comes_1 fun _ _ _ _ _ _ h hF => ⟨h.2.1, hF⟩
end Jvm.Pilot.@@N@@
namespace Jvm.Pilot.@@N@@
open Jvm Jvm.ClassFile Sem Op Lib Jvm.Free Jvm.Stand Jvm.Pilot.@@N@@.Jvm.D
/-! MADE BY PROGRAM (witnessworld.py) out of the Statement's table words and the real class files: 25 classes; the members and pool entries that the words name. The judged class is class 1, her method 6. -/
namespace start1
open Jvm.ClassFile
def u (s : String) : CpInfo := .utf8 (stringToUtf16 s)
/-- a pool by its gaps: so many unusable entries, then the entry; so many at the end -/
def gap : Nat → List CpInfo → List CpInfo
  | 0, r => r
  | n + 1, r => .unusable :: gap n r
def poolList (es : List (Nat × CpInfo)) (last : Nat) : List CpInfo := es.foldr (fun e r => gap e.1 (e.2 :: r)) (gap last [])
def pool (es : List (Nat × CpInfo)) (last : Nat) : Array CpInfo := ⟨poolList es last⟩
def fileOf (pool : Array CpInfo) (this : Nat) (attrs : Array Attribute := #[]) (ms : Array MethodInfo := #[]) (fl : Nat := 33) (sup : Nat := 0) (ifs : Array Nat := #[]) (fds : Array FieldInfo := #[]) : ClassFile where
  minorVersion := 0
  majorVersion := 65
  constantPool := pool
  accessFlags := fl
  thisClass := this
  superClass := sup
  interfaces := ifs
  fields := fds
  methods := ms
  attributes := attrs
def plain (name : String) (sup : Option ClassId) : Class where
  name := name
  kind := .ordinary
  loader := none
  accessFlags := 33
  super := sup
  interfaces := #[]
  cf := none
  fields := #[]
  methods := #[]
  instanceTypes := #[]
  staticTypes := #[]
  resolved := #[]
  callSites := []
  init := .initialized
  statics := none
  mirror := none

def pool0 : Array CpInfo := pool [(5, u "<init>"), (0, u "()V"), (1, .class_ 10), (1, u "java/lang/Object")] 113

def k0c0 : Code := { maxStack := 0, maxLocals := 1, code := object_method_1_code, exceptionTable := #[], attributes := #[] }
def k0m0 : Method := { name := "<init>", desc := "()V", sig := { parameters := [], returnType := none }, accessFlags := 1, code := some k0c0 }
/-- java/lang/Object -/
def k0 : Class := { plain "java/lang/Object" none with
  accessFlags := 33
  interfaces := #[]
  cf := some (fileOf pool0 8 #[] #[{ accessFlags := 1, nameIndex := 5, descriptorIndex := 6, attributes := #[] }] 33 0 #[] #[])
  fields := #[]
  methods := #[k0m0]
  instanceTypes := #[]
  staticTypes := #[]
  resolved := Array.replicate 124 none
  statics := none }

def pool1 : Array CpInfo := pool [(2, .class_ 4), (1, u "java/lang/Object"), (0, u "<init>"), (0, u "()V"), (0, .integer 65535), (0, .integer 55296), (0, .integer 57343), (0, .integer 56320), (0, .methodref 12 13), (0, .class_ 14), (0, .nameAndType 15 16), (0, u "com/example/abeyance/abeyance/model/Utf8ReaderMalformedAtPinLaw"), (0, u "kind"), (0, u "(I)I"), (0, .methodref 12 18), (0, .nameAndType 19 20), (0, u "bmp"), (0, u "(I)C"), (0, .methodref 12 22), (0, .nameAndType 23 20), (0, u "esc"), (0, .methodref 12 25), (0, .nameAndType 26 27), (0, u "unit"), (0, u "(II)C"), (0, .methodref 12 29), (0, .nameAndType 30 31), (0, u "isEsc"), (0, u "(II)Z"), (0, .class_ 33), (0, u "java/lang/String"), (0, .methodref 32 35), (0, .nameAndType 5 36), (0, u "([C)V"), (0, .methodref 38 39), (0, .class_ 40), (0, .nameAndType 41 42), (0, u "com/example/abeyance/abeyance/model/Utf8Reader"), (0, u "malformedAt"), (0, u "(Ljava/lang/CharSequence;)I"), (3, u "law"), (0, u "(IIII)Z")] 4

def k1m0 : Method := { name := "<init>", desc := "()V", sig := { parameters := [], returnType := none }, accessFlags := 1, code := none }
def k1c1 : Code := { maxStack := 2, maxLocals := 2, code := method_2_code, exceptionTable := #[], attributes := #[] }
def k1m1 : Method := { name := "kind", desc := "(I)I", sig := { parameters := [.int], returnType := some .int }, accessFlags := 10, code := some k1c1 }
def k1c2 : Code := { maxStack := 2, maxLocals := 2, code := method_3_code, exceptionTable := #[], attributes := #[] }
def k1m2 : Method := { name := "bmp", desc := "(I)C", sig := { parameters := [.int], returnType := some .char }, accessFlags := 10, code := some k1c2 }
def k1c3 : Code := { maxStack := 3, maxLocals := 1, code := method_4_code, exceptionTable := #[], attributes := #[] }
def k1m3 : Method := { name := "esc", desc := "(I)C", sig := { parameters := [.int], returnType := some .char }, accessFlags := 10, code := some k1c3 }
def k1c4 : Code := { maxStack := 3, maxLocals := 4, code := method_5_code, exceptionTable := #[], attributes := #[] }
def k1m4 : Method := { name := "unit", desc := "(II)C", sig := { parameters := [.int, .int], returnType := some .char }, accessFlags := 10, code := some k1c4 }
def k1c5 : Code := { maxStack := 2, maxLocals := 3, code := method_6_code, exceptionTable := #[], attributes := #[] }
def k1m5 : Method := { name := "isEsc", desc := "(II)Z", sig := { parameters := [.int, .int], returnType := some .boolean }, accessFlags := 10, code := some k1c5 }
def k1c6 : Code := { maxStack := 4, maxLocals := 7, code := code, exceptionTable := #[], attributes := #[] }
def k1m6 : Method := { name := "law", desc := "(IIII)Z", sig := { parameters := [.int, .int, .int, .int], returnType := some .boolean }, accessFlags := 9, code := some k1c6 }
/-- com/example/abeyance/abeyance/model/Utf8ReaderMalformedAtPinLaw -/
def k1 : Class := { plain "com/example/abeyance/abeyance/model/Utf8ReaderMalformedAtPinLaw" (some 0) with
  accessFlags := 49
  interfaces := #[]
  cf := some (fileOf pool1 12 #[] #[{ accessFlags := 1, nameIndex := 5, descriptorIndex := 6, attributes := #[] }, { accessFlags := 10, nameIndex := 15, descriptorIndex := 16, attributes := #[] }, { accessFlags := 10, nameIndex := 19, descriptorIndex := 20, attributes := #[] }, { accessFlags := 10, nameIndex := 23, descriptorIndex := 20, attributes := #[] }, { accessFlags := 10, nameIndex := 26, descriptorIndex := 27, attributes := #[] }, { accessFlags := 10, nameIndex := 30, descriptorIndex := 31, attributes := #[] }, { accessFlags := 9, nameIndex := 46, descriptorIndex := 47, attributes := #[] }] 49 2 #[] #[])
  fields := #[]
  methods := #[k1m0, k1m1, k1m2, k1m3, k1m4, k1m5, k1m6]
  instanceTypes := #[]
  staticTypes := #[]
  resolved := Array.replicate 52 none
  statics := none }

def pool2 : Array CpInfo := pool [(1, .class_ 2), (0, u "java/io/Serializable"), (0, .class_ 4), (0, u "java/lang/Object")] 2

/-- java/io/Serializable -/
def k2 : Class := { plain "java/io/Serializable" (some 0) with
  accessFlags := 1537
  interfaces := #[]
  cf := some (fileOf pool2 1 #[] #[] 1537 3 #[] #[])
  fields := #[]
  methods := #[]
  instanceTypes := #[]
  staticTypes := #[]
  resolved := Array.replicate 7 none
  statics := none }

def pool3 : Array CpInfo := pool [(1, .class_ 2), (0, u "java/lang/Comparable"), (0, .class_ 4), (0, u "java/lang/Object")] 7

/-- java/lang/Comparable -/
def k3 : Class := { plain "java/lang/Comparable" (some 0) with
  accessFlags := 1537
  interfaces := #[]
  cf := some (fileOf pool3 1 #[] #[] 1537 3 #[] #[])
  fields := #[]
  methods := #[]
  instanceTypes := #[]
  staticTypes := #[]
  resolved := Array.replicate 12 none
  statics := none }

def pool4 : Array CpInfo := pool [(2, .class_ 4), (1, u "java/lang/CharSequence"), (0, u "length"), (0, u "()I"), (38, u "charAt"), (0, u "(I)C"), (0, .class_ 48), (0, u "java/lang/CharSequence$1CodePointIterator"), (10, .class_ 60), (0, u "java/lang/CharSequence$1CharIterator"), (5, .class_ 67), (0, u "java/lang/Object")] 63

def k4m0 : Method := { name := "length", desc := "()I", sig := { parameters := [], returnType := some .int }, accessFlags := 1025, code := none }
def k4m1 : Method := { name := "charAt", desc := "(I)C", sig := { parameters := [.int], returnType := some .char }, accessFlags := 1025, code := none }
/-- java/lang/CharSequence -/
def k4 : Class := { plain "java/lang/CharSequence" (some 0) with
  accessFlags := 1537
  interfaces := #[]
  cf := some (fileOf pool4 2 #[.nestMembers #[47, 59]] #[{ accessFlags := 1025, nameIndex := 5, descriptorIndex := 6, attributes := #[] }, { accessFlags := 1025, nameIndex := 45, descriptorIndex := 46, attributes := #[] }] 1537 66 #[] #[])
  fields := #[]
  methods := #[k4m0, k4m1]
  instanceTypes := #[]
  staticTypes := #[]
  resolved := Array.replicate 131 none
  statics := none }

def pool5 : Array CpInfo := pool [(1, .class_ 2), (0, u "java/lang/constant/Constable"), (0, .class_ 4), (0, u "java/lang/Object")] 6

/-- java/lang/constant/Constable -/
def k5 : Class := { plain "java/lang/constant/Constable" (some 0) with
  accessFlags := 1537
  interfaces := #[]
  cf := some (fileOf pool5 1 #[] #[] 1537 3 #[] #[])
  fields := #[]
  methods := #[]
  instanceTypes := #[]
  staticTypes := #[]
  resolved := Array.replicate 11 none
  statics := none }

def pool6 : Array CpInfo := pool [(1, .class_ 2), (0, u "java/lang/constant/ConstantDesc"), (0, .class_ 4), (0, u "java/lang/Object")] 32

/-- java/lang/constant/ConstantDesc -/
def k6 : Class := { plain "java/lang/constant/ConstantDesc" (some 0) with
  accessFlags := 1537
  interfaces := #[]
  cf := some (fileOf pool6 1 #[] #[] 1537 3 #[] #[])
  fields := #[]
  methods := #[]
  instanceTypes := #[]
  staticTypes := #[]
  resolved := Array.replicate 37 none
  statics := none }

def pool7 : Array CpInfo := pool [(1, .methodref 2 3), (0, .class_ 4), (0, .nameAndType 5 6), (0, u "java/lang/Object"), (0, u "<init>"), (0, u "()V"), (0, .string 8), (0, u ""), (0, .fieldref 10 11), (0, .class_ 12), (0, .nameAndType 13 14), (0, u "java/lang/String"), (0, u "value"), (0, u "[B"), (0, .fieldref 10 16), (0, .nameAndType 17 18), (0, u "coder"), (0, u "B"), (2, u "hash"), (0, u "I"), (2, u "hashIsZero"), (0, u "Z"), (0, .methodref 10 28), (0, .nameAndType 5 29), (0, u "([CIILjava/lang/Void;)V"), (8, .fieldref 10 39), (0, .nameAndType 40 26), (0, u "COMPACT_STRINGS"), (1, .class_ 44), (1, u "java/lang/StringUTF16"), (0, u "compress"), (1, .methodref 42 48), (0, .nameAndType 49 50), (0, u "coderFromArrayLen"), (0, u "([BI)B"), (56, .class_ 109), (1, u "java/lang/StringLatin1"), (32, u "()Z"), (34, .methodref 42 178), (0, .nameAndType 45 179), (0, u "([CII)[B"), (154, u "()I"), (0, .methodref 10 336), (0, .nameAndType 17 337), (0, u "()B"), (25, u "([BI)C"), (27, u "(II)V"), (35, u "(I)C"), (64, .methodref 10 493), (0, .nameAndType 494 142), (0, u "isLatin1"), (0, .methodref 107 496), (0, .nameAndType 497 363), (0, u "charAt"), (0, .methodref 42 496), (2, u "checkIndex"), (5, u "length"), (67, .class_ 576), (0, u "java/lang/CharSequence"), (22, u "CASE_INSENSITIVE_ORDER"), (0, u "Ljava/util/Comparator;"), (409, u "([C)V"), (42, .fieldref 1054 1055), (0, .class_ 1056), (0, .nameAndType 1057 1058), (0, u "jdk/internal/util/Preconditions"), (0, u "SIOOBE_FORMATTER"), (0, u "Ljava/util/function/BiFunction;"), (0, .methodref 1054 1060), (0, .nameAndType 501 1061), (0, u "(IILjava/util/function/BiFunction;)I"), (39, u "serialPersistentFields"), (0, u "[Ljava/io/ObjectStreamField;"), (0, .class_ 1104), (0, u "java/lang/String$CaseInsensitiveComparator"), (1, .class_ 1107), (0, u "java/io/Serializable"), (0, .class_ 1109), (0, u "java/lang/Comparable"), (0, .class_ 1111), (0, u "java/lang/constant/Constable"), (0, .class_ 1113), (0, u "java/lang/constant/ConstantDesc"), (2, u "serialVersionUID"), (0, u "J"), (3, u "REPL"), (0, u "C"), (2, u "LATIN1"), (1, u "UTF16")] 323

def k7m0 : Method := { name := "<init>", desc := "()V", sig := { parameters := [], returnType := none }, accessFlags := 1, code := none }
def k7c1 : Code := { maxStack := 5, maxLocals := 2, code := jdk_42_method_3_code, exceptionTable := #[], attributes := #[] }
def k7m1 : Method := { name := "<init>", desc := "([C)V", sig := { parameters := [(.array .char)], returnType := none }, accessFlags := 1, code := some k7c1 }
def k7c2 : Code := { maxStack := 2, maxLocals := 1, code := jdk_42_method_54_code, exceptionTable := #[], attributes := #[] }
def k7m2 : Method := { name := "length", desc := "()I", sig := { parameters := [], returnType := some .int }, accessFlags := 1, code := some k7c2 }
def k7c3 : Code := { maxStack := 2, maxLocals := 2, code := jdk_42_method_56_code, exceptionTable := #[], attributes := #[] }
def k7m3 : Method := { name := "charAt", desc := "(I)C", sig := { parameters := [.int], returnType := some .char }, accessFlags := 1, code := some k7c3 }
def k7c4 : Code := { maxStack := 4, maxLocals := 6, code := jdk_42_method_149_code, exceptionTable := #[], attributes := #[] }
def k7m4 : Method := { name := "<init>", desc := "([CIILjava/lang/Void;)V", sig := { parameters := [(.array .char), .int, .int, (.object "java/lang/Void")], returnType := none }, accessFlags := 2, code := some k7c4 }
def k7c5 : Code := { maxStack := 1, maxLocals := 1, code := jdk_42_method_152_code, exceptionTable := #[], attributes := #[] }
def k7m5 : Method := { name := "coder", desc := "()B", sig := { parameters := [], returnType := some .byte }, accessFlags := 0, code := some k7c5 }
def k7c6 : Code := { maxStack := 1, maxLocals := 1, code := jdk_42_method_154_code, exceptionTable := #[], attributes := #[] }
def k7m6 : Method := { name := "isLatin1", desc := "()Z", sig := { parameters := [], returnType := some .boolean }, accessFlags := 0, code := some k7c6 }
def k7c7 : Code := { maxStack := 3, maxLocals := 2, code := jdk_42_method_155_code, exceptionTable := #[], attributes := #[] }
def k7m7 : Method := { name := "checkIndex", desc := "(II)V", sig := { parameters := [.int, .int], returnType := none }, accessFlags := 8, code := some k7c7 }
/-- java/lang/String -/
def k7 : Class := { plain "java/lang/String" (some 0) with
  accessFlags := 49
  interfaces := #[2, 3, 4, 5, 6]
  cf := some (fileOf pool7 10 #[.nestMembers #[1103]] #[{ accessFlags := 1, nameIndex := 5, descriptorIndex := 6, attributes := #[] }, { accessFlags := 1, nameIndex := 5, descriptorIndex := 1010, attributes := #[] }, { accessFlags := 1, nameIndex := 507, descriptorIndex := 334, attributes := #[] }, { accessFlags := 1, nameIndex := 497, descriptorIndex := 427, attributes := #[] }, { accessFlags := 2, nameIndex := 5, descriptorIndex := 29, attributes := #[] }, { accessFlags := 0, nameIndex := 17, descriptorIndex := 337, attributes := #[] }, { accessFlags := 0, nameIndex := 494, descriptorIndex := 142, attributes := #[] }, { accessFlags := 8, nameIndex := 501, descriptorIndex := 391, attributes := #[] }] 49 2 #[1106, 1108, 575, 1110, 1112] #[{ accessFlags := 18, nameIndex := 13, descriptorIndex := 14, attributes := #[] }, { accessFlags := 18, nameIndex := 17, descriptorIndex := 18, attributes := #[] }, { accessFlags := 2, nameIndex := 21, descriptorIndex := 22, attributes := #[] }, { accessFlags := 2, nameIndex := 25, descriptorIndex := 26, attributes := #[] }, { accessFlags := 26, nameIndex := 1116, descriptorIndex := 1117, attributes := #[] }, { accessFlags := 24, nameIndex := 40, descriptorIndex := 26, attributes := #[] }, { accessFlags := 26, nameIndex := 1101, descriptorIndex := 1102, attributes := #[] }, { accessFlags := 26, nameIndex := 1121, descriptorIndex := 1122, attributes := #[] }, { accessFlags := 25, nameIndex := 599, descriptorIndex := 600, attributes := #[] }, { accessFlags := 24, nameIndex := 1125, descriptorIndex := 18, attributes := #[] }, { accessFlags := 24, nameIndex := 1127, descriptorIndex := 18, attributes := #[] }])
  fields := #[{ name := "value", type := (.array .byte), accessFlags := 18, slot := 0, constantValue := 0 }, { name := "coder", type := .byte, accessFlags := 18, slot := 1, constantValue := 0 }, { name := "hash", type := .int, accessFlags := 2, slot := 2, constantValue := 0 }, { name := "hashIsZero", type := .boolean, accessFlags := 2, slot := 3, constantValue := 0 }, { name := "serialVersionUID", type := .long, accessFlags := 26, slot := 0, constantValue := 0 }, { name := "COMPACT_STRINGS", type := .boolean, accessFlags := 24, slot := 1, constantValue := 0 }, { name := "serialPersistentFields", type := (.array (.object "java/io/ObjectStreamField")), accessFlags := 26, slot := 2, constantValue := 0 }, { name := "REPL", type := .char, accessFlags := 26, slot := 3, constantValue := 0 }, { name := "CASE_INSENSITIVE_ORDER", type := (.object "java/util/Comparator"), accessFlags := 25, slot := 4, constantValue := 0 }, { name := "LATIN1", type := .byte, accessFlags := 24, slot := 5, constantValue := 0 }, { name := "UTF16", type := .byte, accessFlags := 24, slot := 6, constantValue := 0 }]
  methods := #[k7m0, k7m1, k7m2, k7m3, k7m4, k7m5, k7m6, k7m7]
  instanceTypes := #[(.array .byte), .byte, .int, .boolean]
  staticTypes := #[.long, .boolean, (.array (.object "java/io/ObjectStreamField")), .char, (.object "java/util/Comparator"), .byte, .byte]
  resolved := Array.replicate 1451 none
  statics := some 0 }

def pool8 : Array CpInfo := pool [(1, .class_ 2), (0, u "java/lang/Readable"), (0, .class_ 4), (0, u "java/lang/Object")] 7

/-- java/lang/Readable -/
def k8 : Class := { plain "java/lang/Readable" (some 0) with
  accessFlags := 1537
  interfaces := #[]
  cf := some (fileOf pool8 1 #[] #[] 1537 3 #[] #[])
  fields := #[]
  methods := #[]
  instanceTypes := #[]
  staticTypes := #[]
  resolved := Array.replicate 12 none
  statics := none }

def pool9 : Array CpInfo := pool [(1, .class_ 2), (0, u "java/lang/AutoCloseable"), (0, .class_ 4), (0, u "java/lang/Object")] 7

/-- java/lang/AutoCloseable -/
def k9 : Class := { plain "java/lang/AutoCloseable" (some 0) with
  accessFlags := 1537
  interfaces := #[]
  cf := some (fileOf pool9 1 #[] #[] 1537 3 #[] #[])
  fields := #[]
  methods := #[]
  instanceTypes := #[]
  staticTypes := #[]
  resolved := Array.replicate 12 none
  statics := none }

def pool10 : Array CpInfo := pool [(1, .class_ 2), (0, u "java/io/Closeable"), (0, .class_ 4), (0, u "java/lang/Object"), (0, .class_ 6), (0, u "java/lang/AutoCloseable")] 7

/-- java/io/Closeable -/
def k10 : Class := { plain "java/io/Closeable" (some 0) with
  accessFlags := 1537
  interfaces := #[9]
  cf := some (fileOf pool10 1 #[] #[] 1537 3 #[5] #[])
  fields := #[]
  methods := #[]
  instanceTypes := #[]
  staticTypes := #[]
  resolved := Array.replicate 14 none
  statics := none }

def pool11 : Array CpInfo := pool [(1, .class_ 2), (0, u "java/io/Reader$1"), (2, u "<init>"), (0, u "()V"), (1, .class_ 9), (0, u "java/lang/Object"), (1, .class_ 13), (1, u "java/io/Reader"), (0, u "skipBuffer"), (0, u "[C"), (2, u "lock"), (0, u "Ljava/lang/Object;"), (117, .class_ 138), (0, u "java/lang/Readable"), (0, .class_ 140), (0, u "java/io/Closeable"), (0, u "TRANSFER_BUFFER_SIZE"), (0, u "I"), (2, u "maxSkipBufferSize")] 59

def k11m0 : Method := { name := "<init>", desc := "()V", sig := { parameters := [], returnType := none }, accessFlags := 4, code := none }
/-- java/io/Reader -/
def k11 : Class := { plain "java/io/Reader" (some 0) with
  accessFlags := 1057
  interfaces := #[8, 10]
  cf := some (fileOf pool11 11 #[.nestMembers #[1]] #[{ accessFlags := 4, nameIndex := 5, descriptorIndex := 6, attributes := #[] }] 1057 8 #[137, 139] #[{ accessFlags := 26, nameIndex := 141, descriptorIndex := 142, attributes := #[] }, { accessFlags := 4, nameIndex := 18, descriptorIndex := 19, attributes := #[] }, { accessFlags := 26, nameIndex := 145, descriptorIndex := 142, attributes := #[] }, { accessFlags := 2, nameIndex := 14, descriptorIndex := 15, attributes := #[] }])
  fields := #[{ name := "TRANSFER_BUFFER_SIZE", type := .int, accessFlags := 26, slot := 0, constantValue := 0 }, { name := "lock", type := (.object "java/lang/Object"), accessFlags := 4, slot := 0, constantValue := 0 }, { name := "maxSkipBufferSize", type := .int, accessFlags := 26, slot := 1, constantValue := 0 }, { name := "skipBuffer", type := (.array .char), accessFlags := 2, slot := 1, constantValue := 0 }]
  methods := #[k11m0]
  instanceTypes := #[(.object "java/lang/Object"), (.array .char)]
  staticTypes := #[.int, .int]
  resolved := Array.replicate 205 none
  statics := none }

def pool12 : Array CpInfo := pool [(2, .class_ 4), (1, u "java/io/Reader"), (15, .class_ 22), (1, u "com/example/abeyance/abeyance/model/Utf8Reader"), (0, u "decoder"), (0, u "Ljava/nio/charset/CharsetDecoder;"), (8, u "bytes"), (0, u "Ljava/nio/ByteBuffer;"), (2, u "in"), (0, u "Ljava/io/InputStream;"), (2, u "BYTE_ORDER_MARK"), (0, u "[B"), (22, u "malformedAt"), (0, u "(Ljava/lang/CharSequence;)I"), (4, .interfaceMethodref 72 73), (0, .class_ 74), (0, .nameAndType 75 76), (0, u "java/lang/CharSequence"), (0, u "length"), (0, u "()I"), (0, .interfaceMethodref 72 78), (0, .nameAndType 79 80), (0, u "charAt"), (0, u "(I)C"), (0, .methodref 82 83), (0, .class_ 84), (0, .nameAndType 85 86), (0, u "java/lang/Character"), (0, u "isHighSurrogate"), (0, u "(C)Z"), (0, .methodref 82 88), (0, .nameAndType 89 86), (0, u "isLowSurrogate"), (9, u "endOfInput"), (0, u "Z"), (57, u "BYTE_ESCAPE"), (0, u "C")] 14

def k12c0 : Code := { maxStack := 2, maxLocals := 3, code := prog_13_method_3_code, exceptionTable := #[], attributes := #[] }
def k12m0 : Method := { name := "malformedAt", desc := "(Ljava/lang/CharSequence;)I", sig := { parameters := [(.object "java/lang/CharSequence")], returnType := some .int }, accessFlags := 8, code := some k12c0 }
/-- com/example/abeyance/abeyance/model/Utf8Reader -/
def k12 : Class := { plain "com/example/abeyance/abeyance/model/Utf8Reader" (some 11) with
  accessFlags := 48
  interfaces := #[]
  cf := some (fileOf pool12 20 #[] #[{ accessFlags := 8, nameIndex := 65, descriptorIndex := 66, attributes := #[] }] 48 2 #[] #[{ accessFlags := 26, nameIndex := 41, descriptorIndex := 42, attributes := #[] }, { accessFlags := 26, nameIndex := 158, descriptorIndex := 159, attributes := #[] }, { accessFlags := 18, nameIndex := 37, descriptorIndex := 38, attributes := #[] }, { accessFlags := 18, nameIndex := 23, descriptorIndex := 24, attributes := #[] }, { accessFlags := 18, nameIndex := 33, descriptorIndex := 34, attributes := #[] }, { accessFlags := 2, nameIndex := 99, descriptorIndex := 100, attributes := #[] }])
  fields := #[{ name := "BYTE_ORDER_MARK", type := (.array .byte), accessFlags := 26, slot := 0, constantValue := 0 }, { name := "BYTE_ESCAPE", type := .char, accessFlags := 26, slot := 1, constantValue := 0 }, { name := "in", type := (.object "java/io/InputStream"), accessFlags := 18, slot := 2, constantValue := 0 }, { name := "decoder", type := (.object "java/nio/charset/CharsetDecoder"), accessFlags := 18, slot := 3, constantValue := 0 }, { name := "bytes", type := (.object "java/nio/ByteBuffer"), accessFlags := 18, slot := 4, constantValue := 0 }, { name := "endOfInput", type := .boolean, accessFlags := 2, slot := 5, constantValue := 0 }]
  methods := #[k12m0]
  instanceTypes := #[(.object "java/lang/Object"), (.array .char), (.object "java/io/InputStream"), (.object "java/nio/charset/CharsetDecoder"), (.object "java/nio/ByteBuffer"), .boolean]
  staticTypes := #[(.array .byte), .char]
  resolved := Array.replicate 174 none
  statics := none }

def pool13 : Array CpInfo := pool [(3, .class_ 4), (0, u "java/lang/String"), (1, .class_ 8), (1, u "java/lang/Object"), (0, u "<init>"), (0, u "()V"), (0, .methodref 12 13), (0, .class_ 14), (0, .nameAndType 15 16), (0, u "java/lang/StringUTF16"), (0, u "newBytesLength"), (0, u "(I)I"), (3, .integer 1073741823), (23, .fieldref 12 45), (0, .nameAndType 46 47), (0, u "$assertionsDisabled"), (0, u "Z"), (0, .methodref 12 49), (0, .nameAndType 50 51), (0, u "length"), (0, u "([B)I"), (7, .fieldref 12 60), (0, .nameAndType 61 62), (0, u "HI_BYTE_SHIFT"), (0, u "I"), (0, .fieldref 12 64), (0, .nameAndType 65 62), (0, u "LO_BYTE_SHIFT"), (1, .methodref 12 68), (0, .nameAndType 69 70), (0, u "checkIndex"), (0, u "(I[B)V"), (0, .methodref 12 72), (0, .nameAndType 73 74), (0, u "getChar"), (0, u "([BI)C"), (32, .methodref 12 108), (0, .nameAndType 109 110), (0, u "newBytesFor"), (0, u "(I)[B"), (0, .methodref 12 112), (0, .nameAndType 113 114), (0, u "putChar"), (0, u "([BII)V"), (0, .methodref 12 116), (0, .nameAndType 117 118), (0, u "compress"), (0, u "([CI[BII)I"), (0, .methodref 12 120), (0, .nameAndType 121 122), (0, u "toBytes"), (0, u "([CII)[B"), (138, u "coderFromArrayLen"), (0, u "([BI)B"), (106, .class_ 371), (1, u "java/lang/StringUTF16$LinesSpliterator"), (20, u "charAt"), (21, .methodref 3 415), (0, .nameAndType 69 416), (0, u "(II)V"), (13, u "MAX_LENGTH"), (196, .class_ 628), (0, u "java/lang/StringUTF16$CodePointsSpliterator"), (0, .class_ 630), (0, u "java/lang/StringUTF16$CharsSpliterator")] 4

def k13m0 : Method := { name := "<init>", desc := "()V", sig := { parameters := [], returnType := none }, accessFlags := 0, code := none }
def k13c1 : Code := { maxStack := 1, maxLocals := 1, code := jdk_52_method_2_code, exceptionTable := #[], attributes := #[] }
def k13m1 : Method := { name := "newBytesFor", desc := "(I)[B", sig := { parameters := [.int], returnType := some (.array .byte) }, accessFlags := 9, code := some k13c1 }
def k13c2 : Code := { maxStack := 4, maxLocals := 1, code := jdk_52_method_3_code, exceptionTable := #[], attributes := #[] }
def k13m2 : Method := { name := "newBytesLength", desc := "(I)I", sig := { parameters := [.int], returnType := some .int }, accessFlags := 9, code := some k13c2 }
def k13c3 : Code := { maxStack := 4, maxLocals := 3, code := jdk_52_method_4_code, exceptionTable := #[], attributes := #[] }
def k13m3 : Method := { name := "putChar", desc := "([BII)V", sig := { parameters := [(.array .byte), .int, .int], returnType := none }, accessFlags := 8, code := some k13c3 }
def k13c4 : Code := { maxStack := 3, maxLocals := 2, code := jdk_52_method_5_code, exceptionTable := #[], attributes := #[] }
def k13m4 : Method := { name := "getChar", desc := "([BI)C", sig := { parameters := [(.array .byte), .int], returnType := some .char }, accessFlags := 8, code := some k13c4 }
def k13c5 : Code := { maxStack := 2, maxLocals := 1, code := jdk_52_method_6_code, exceptionTable := #[], attributes := #[] }
def k13m5 : Method := { name := "length", desc := "([B)I", sig := { parameters := [(.array .byte)], returnType := some .int }, accessFlags := 9, code := some k13c5 }
def k13c6 : Code := { maxStack := 4, maxLocals := 5, code := jdk_52_method_14_code, exceptionTable := #[], attributes := #[] }
def k13m6 : Method := { name := "toBytes", desc := "([CII)[B", sig := { parameters := [(.array .char), .int, .int], returnType := some (.array .byte) }, accessFlags := 9, code := some k13c6 }
def k13c7 : Code := { maxStack := 2, maxLocals := 2, code := jdk_52_method_15_code, exceptionTable := #[], attributes := #[] }
def k13m7 : Method := { name := "coderFromArrayLen", desc := "([BI)B", sig := { parameters := [(.array .byte), .int], returnType := some .byte }, accessFlags := 8, code := some k13c7 }
def k13c8 : Code := { maxStack := 5, maxLocals := 6, code := jdk_52_method_16_code, exceptionTable := #[], attributes := #[] }
def k13m8 : Method := { name := "compress", desc := "([CII)[B", sig := { parameters := [(.array .char), .int, .int], returnType := some (.array .byte) }, accessFlags := 9, code := some k13c8 }
def k13c9 : Code := { maxStack := 3, maxLocals := 7, code := jdk_52_method_21_code, exceptionTable := #[], attributes := #[] }
def k13m9 : Method := { name := "compress", desc := "([CI[BII)I", sig := { parameters := [(.array .char), .int, (.array .byte), .int, .int], returnType := some .int }, accessFlags := 9, code := some k13c9 }
def k13c10 : Code := { maxStack := 2, maxLocals := 2, code := jdk_52_method_83_code, exceptionTable := #[], attributes := #[] }
def k13m10 : Method := { name := "charAt", desc := "([BI)C", sig := { parameters := [(.array .byte), .int], returnType := some .char }, accessFlags := 9, code := some k13c10 }
def k13c11 : Code := { maxStack := 2, maxLocals := 2, code := jdk_52_method_91_code, exceptionTable := #[], attributes := #[] }
def k13m11 : Method := { name := "checkIndex", desc := "(I[B)V", sig := { parameters := [.int, (.array .byte)], returnType := none }, accessFlags := 9, code := some k13c11 }
/-- java/lang/StringUTF16 -/
def k13 : Class := { plain "java/lang/StringUTF16" (some 0) with
  accessFlags := 48
  interfaces := #[]
  cf := some (fileOf pool13 12 #[.nestMembers #[627, 629, 369]] #[{ accessFlags := 0, nameIndex := 9, descriptorIndex := 10, attributes := #[] }, { accessFlags := 9, nameIndex := 109, descriptorIndex := 110, attributes := #[] }, { accessFlags := 9, nameIndex := 15, descriptorIndex := 16, attributes := #[] }, { accessFlags := 8, nameIndex := 113, descriptorIndex := 114, attributes := #[] }, { accessFlags := 8, nameIndex := 73, descriptorIndex := 74, attributes := #[] }, { accessFlags := 9, nameIndex := 50, descriptorIndex := 51, attributes := #[] }, { accessFlags := 9, nameIndex := 121, descriptorIndex := 122, attributes := #[] }, { accessFlags := 8, nameIndex := 261, descriptorIndex := 262, attributes := #[] }, { accessFlags := 9, nameIndex := 117, descriptorIndex := 122, attributes := #[] }, { accessFlags := 9, nameIndex := 117, descriptorIndex := 118, attributes := #[] }, { accessFlags := 9, nameIndex := 392, descriptorIndex := 74, attributes := #[] }, { accessFlags := 9, nameIndex := 69, descriptorIndex := 70, attributes := #[] }] 48 6 #[] #[{ accessFlags := 26, nameIndex := 61, descriptorIndex := 62, attributes := #[] }, { accessFlags := 26, nameIndex := 65, descriptorIndex := 62, attributes := #[] }, { accessFlags := 24, nameIndex := 430, descriptorIndex := 62, attributes := #[] }, { accessFlags := 4120, nameIndex := 46, descriptorIndex := 47, attributes := #[] }])
  fields := #[{ name := "HI_BYTE_SHIFT", type := .int, accessFlags := 26, slot := 0, constantValue := 0 }, { name := "LO_BYTE_SHIFT", type := .int, accessFlags := 26, slot := 1, constantValue := 0 }, { name := "MAX_LENGTH", type := .int, accessFlags := 24, slot := 2, constantValue := 0 }, { name := "$assertionsDisabled", type := .boolean, accessFlags := 4120, slot := 3, constantValue := 0 }]
  methods := #[k13m0, k13m1, k13m2, k13m3, k13m4, k13m5, k13m6, k13m7, k13m8, k13m9, k13m10, k13m11]
  instanceTypes := #[]
  staticTypes := #[.int, .int, .int, .boolean]
  resolved := Array.replicate 635 none
  statics := some 1 }

def pool14 : Array CpInfo := pool [(2, .class_ 4), (1, u "java/lang/Object"), (0, u "<init>"), (0, u "()V"), (17, .class_ 26), (1, u "jdk/internal/util/Preconditions"), (6, u "checkIndex"), (21, .class_ 56), (0, u "jdk/internal/util/Preconditions$4"), (57, .class_ 115), (0, u "jdk/internal/util/Preconditions$1"), (7, u "SIOOBE_FORMATTER"), (0, u "Ljava/util/function/BiFunction;"), (0, .class_ 126), (0, u "jdk/internal/util/Preconditions$2"), (3, u "AIOOBE_FORMATTER"), (0, .class_ 132), (0, u "jdk/internal/util/Preconditions$3"), (3, u "IOOBE_FORMATTER"), (41, u "(IILjava/util/function/BiFunction;)I")] 15

def k14m0 : Method := { name := "<init>", desc := "()V", sig := { parameters := [], returnType := none }, accessFlags := 1, code := none }
def k14c1 : Code := { maxStack := 3, maxLocals := 3, code := jdk_41_method_11_code, exceptionTable := #[], attributes := #[] }
def k14m1 : Method := { name := "checkIndex", desc := "(IILjava/util/function/BiFunction;)I", sig := { parameters := [.int, .int, (.object "java/util/function/BiFunction")], returnType := some .int }, accessFlags := 9, code := some k14c1 }
/-- jdk/internal/util/Preconditions -/
def k14 : Class := { plain "jdk/internal/util/Preconditions" (some 0) with
  accessFlags := 33
  interfaces := #[]
  cf := some (fileOf pool14 24 #[.nestMembers #[55, 131, 125, 114]] #[{ accessFlags := 1, nameIndex := 5, descriptorIndex := 6, attributes := #[] }, { accessFlags := 9, nameIndex := 33, descriptorIndex := 178, attributes := #[] }] 33 2 #[] #[{ accessFlags := 25, nameIndex := 123, descriptorIndex := 124, attributes := #[] }, { accessFlags := 25, nameIndex := 130, descriptorIndex := 124, attributes := #[] }, { accessFlags := 25, nameIndex := 136, descriptorIndex := 124, attributes := #[] }])
  fields := #[{ name := "SIOOBE_FORMATTER", type := (.object "java/util/function/BiFunction"), accessFlags := 25, slot := 0, constantValue := 0 }, { name := "AIOOBE_FORMATTER", type := (.object "java/util/function/BiFunction"), accessFlags := 25, slot := 1, constantValue := 0 }, { name := "IOOBE_FORMATTER", type := (.object "java/util/function/BiFunction"), accessFlags := 25, slot := 2, constantValue := 0 }]
  methods := #[k14m0, k14m1]
  instanceTypes := #[]
  staticTypes := #[(.object "java/util/function/BiFunction"), (.object "java/util/function/BiFunction"), (.object "java/util/function/BiFunction")]
  resolved := Array.replicate 194 none
  statics := some 2 }

def pool15 : Array CpInfo := pool [(1, .class_ 2), (0, u "java/lang/Character"), (18, u "value"), (0, u "C"), (19, .class_ 44), (1, u "java/lang/Object"), (3, .class_ 50), (1, u "java/lang/Character$CharacterCache"), (24, .integer 55296), (0, .integer 56320), (0, .integer 57344), (2, u "isHighSurrogate"), (0, u "(C)Z"), (2, u "isLowSurrogate"), (199, u "$assertionsDisabled"), (0, u "Z"), (21, .class_ 309), (1, u "java/lang/Character$UnicodeBlock"), (73, u "TYPE"), (0, u "Ljava/lang/Class;"), (0, .class_ 386), (0, u "java/io/Serializable"), (0, .class_ 388), (0, u "java/lang/Comparable"), (0, .class_ 390), (0, u "java/lang/constant/Constable"), (0, u "MIN_RADIX"), (0, u "I"), (2, u "MAX_RADIX"), (1, u "MIN_VALUE"), (1, u "MAX_VALUE"), (3, u "UNASSIGNED"), (0, u "B"), (0, u "UPPERCASE_LETTER"), (1, u "LOWERCASE_LETTER"), (0, u "TITLECASE_LETTER"), (1, u "MODIFIER_LETTER"), (1, u "OTHER_LETTER"), (1, u "NON_SPACING_MARK"), (1, u "ENCLOSING_MARK"), (1, u "COMBINING_SPACING_MARK"), (1, u "DECIMAL_DIGIT_NUMBER"), (1, u "LETTER_NUMBER"), (1, u "OTHER_NUMBER"), (1, u "SPACE_SEPARATOR"), (1, u "LINE_SEPARATOR"), (1, u "PARAGRAPH_SEPARATOR"), (1, u "CONTROL"), (1, u "FORMAT"), (1, u "PRIVATE_USE"), (1, u "SURROGATE"), (1, u "DASH_PUNCTUATION"), (1, u "START_PUNCTUATION"), (1, u "END_PUNCTUATION"), (1, u "CONNECTOR_PUNCTUATION"), (1, u "OTHER_PUNCTUATION"), (1, u "MATH_SYMBOL"), (1, u "CURRENCY_SYMBOL"), (1, u "MODIFIER_SYMBOL"), (1, u "OTHER_SYMBOL"), (1, u "INITIAL_QUOTE_PUNCTUATION"), (1, u "FINAL_QUOTE_PUNCTUATION"), (1, u "ERROR"), (1, u "DIRECTIONALITY_UNDEFINED"), (0, u "DIRECTIONALITY_LEFT_TO_RIGHT"), (0, u "DIRECTIONALITY_RIGHT_TO_LEFT"), (0, u "DIRECTIONALITY_RIGHT_TO_LEFT_ARABIC"), (0, u "DIRECTIONALITY_EUROPEAN_NUMBER"), (0, u "DIRECTIONALITY_EUROPEAN_NUMBER_SEPARATOR"), (0, u "DIRECTIONALITY_EUROPEAN_NUMBER_TERMINATOR"), (0, u "DIRECTIONALITY_ARABIC_NUMBER"), (0, u "DIRECTIONALITY_COMMON_NUMBER_SEPARATOR"), (0, u "DIRECTIONALITY_NONSPACING_MARK"), (0, u "DIRECTIONALITY_BOUNDARY_NEUTRAL"), (0, u "DIRECTIONALITY_PARAGRAPH_SEPARATOR"), (0, u "DIRECTIONALITY_SEGMENT_SEPARATOR"), (0, u "DIRECTIONALITY_WHITESPACE"), (0, u "DIRECTIONALITY_OTHER_NEUTRALS"), (0, u "DIRECTIONALITY_LEFT_TO_RIGHT_EMBEDDING"), (0, u "DIRECTIONALITY_LEFT_TO_RIGHT_OVERRIDE"), (0, u "DIRECTIONALITY_RIGHT_TO_LEFT_EMBEDDING"), (0, u "DIRECTIONALITY_RIGHT_TO_LEFT_OVERRIDE"), (1, u "DIRECTIONALITY_POP_DIRECTIONAL_FORMAT"), (0, u "DIRECTIONALITY_LEFT_TO_RIGHT_ISOLATE"), (0, u "DIRECTIONALITY_RIGHT_TO_LEFT_ISOLATE"), (0, u "DIRECTIONALITY_FIRST_STRONG_ISOLATE"), (0, u "DIRECTIONALITY_POP_DIRECTIONAL_ISOLATE"), (0, u "MIN_HIGH_SURROGATE"), (0, u "MAX_HIGH_SURROGATE"), (1, u "MIN_LOW_SURROGATE"), (0, u "MAX_LOW_SURROGATE"), (1, u "MIN_SURROGATE"), (0, u "MAX_SURROGATE"), (0, u "MIN_SUPPLEMENTARY_CODE_POINT"), (0, u "MIN_CODE_POINT"), (0, u "MAX_CODE_POINT"), (1, u "serialVersionUID"), (0, u "J"), (2, u "SIZE"), (0, u "BYTES"), (88, .class_ 596), (0, u "java/lang/Character$UnicodeScript"), (0, .class_ 598), (0, u "java/lang/Character$Subset")] 5

def k15c0 : Code := { maxStack := 2, maxLocals := 1, code := jdk_89_method_14_code, exceptionTable := #[], attributes := #[] }
def k15m0 : Method := { name := "isHighSurrogate", desc := "(C)Z", sig := { parameters := [.char], returnType := some .boolean }, accessFlags := 9, code := some k15c0 }
def k15c1 : Code := { maxStack := 2, maxLocals := 1, code := jdk_89_method_15_code, exceptionTable := #[], attributes := #[] }
def k15m1 : Method := { name := "isLowSurrogate", desc := "(C)Z", sig := { parameters := [.char], returnType := some .boolean }, accessFlags := 9, code := some k15c1 }
/-- java/lang/Character -/
def k15 : Class := { plain "java/lang/Character" (some 0) with
  accessFlags := 49
  interfaces := #[2, 3, 5]
  cf := some (fileOf pool15 1 #[.nestMembers #[48, 595, 307, 597]] #[{ accessFlags := 9, nameIndex := 80, descriptorIndex := 81, attributes := #[] }, { accessFlags := 9, nameIndex := 84, descriptorIndex := 81, attributes := #[] }] 49 42 #[385, 387, 389] #[{ accessFlags := 25, nameIndex := 391, descriptorIndex := 392, attributes := #[] }, { accessFlags := 25, nameIndex := 395, descriptorIndex := 392, attributes := #[] }, { accessFlags := 25, nameIndex := 397, descriptorIndex := 22, attributes := #[] }, { accessFlags := 25, nameIndex := 399, descriptorIndex := 22, attributes := #[] }, { accessFlags := 25, nameIndex := 383, descriptorIndex := 384, attributes := #[] }, { accessFlags := 25, nameIndex := 403, descriptorIndex := 404, attributes := #[] }, { accessFlags := 25, nameIndex := 405, descriptorIndex := 404, attributes := #[] }, { accessFlags := 25, nameIndex := 407, descriptorIndex := 404, attributes := #[] }, { accessFlags := 25, nameIndex := 408, descriptorIndex := 404, attributes := #[] }, { accessFlags := 25, nameIndex := 410, descriptorIndex := 404, attributes := #[] }, { accessFlags := 25, nameIndex := 412, descriptorIndex := 404, attributes := #[] }, { accessFlags := 25, nameIndex := 414, descriptorIndex := 404, attributes := #[] }, { accessFlags := 25, nameIndex := 416, descriptorIndex := 404, attributes := #[] }, { accessFlags := 25, nameIndex := 418, descriptorIndex := 404, attributes := #[] }, { accessFlags := 25, nameIndex := 420, descriptorIndex := 404, attributes := #[] }, { accessFlags := 25, nameIndex := 422, descriptorIndex := 404, attributes := #[] }, { accessFlags := 25, nameIndex := 424, descriptorIndex := 404, attributes := #[] }, { accessFlags := 25, nameIndex := 426, descriptorIndex := 404, attributes := #[] }, { accessFlags := 25, nameIndex := 428, descriptorIndex := 404, attributes := #[] }, { accessFlags := 25, nameIndex := 430, descriptorIndex := 404, attributes := #[] }, { accessFlags := 25, nameIndex := 432, descriptorIndex := 404, attributes := #[] }, { accessFlags := 25, nameIndex := 434, descriptorIndex := 404, attributes := #[] }, { accessFlags := 25, nameIndex := 436, descriptorIndex := 404, attributes := #[] }, { accessFlags := 25, nameIndex := 438, descriptorIndex := 404, attributes := #[] }, { accessFlags := 25, nameIndex := 440, descriptorIndex := 404, attributes := #[] }, { accessFlags := 25, nameIndex := 442, descriptorIndex := 404, attributes := #[] }, { accessFlags := 25, nameIndex := 444, descriptorIndex := 404, attributes := #[] }, { accessFlags := 25, nameIndex := 446, descriptorIndex := 404, attributes := #[] }, { accessFlags := 25, nameIndex := 448, descriptorIndex := 404, attributes := #[] }, { accessFlags := 25, nameIndex := 450, descriptorIndex := 404, attributes := #[] }, { accessFlags := 25, nameIndex := 452, descriptorIndex := 404, attributes := #[] }, { accessFlags := 25, nameIndex := 454, descriptorIndex := 404, attributes := #[] }, { accessFlags := 25, nameIndex := 456, descriptorIndex := 404, attributes := #[] }, { accessFlags := 25, nameIndex := 458, descriptorIndex := 404, attributes := #[] }, { accessFlags := 25, nameIndex := 460, descriptorIndex := 404, attributes := #[] }, { accessFlags := 24, nameIndex := 462, descriptorIndex := 392, attributes := #[] }, { accessFlags := 25, nameIndex := 464, descriptorIndex := 404, attributes := #[] }, { accessFlags := 25, nameIndex := 465, descriptorIndex := 404, attributes := #[] }, { accessFlags := 25, nameIndex := 466, descriptorIndex := 404, attributes := #[] }, { accessFlags := 25, nameIndex := 467, descriptorIndex := 404, attributes := #[] }, { accessFlags := 25, nameIndex := 468, descriptorIndex := 404, attributes := #[] }, { accessFlags := 25, nameIndex := 469, descriptorIndex := 404, attributes := #[] }, { accessFlags := 25, nameIndex := 470, descriptorIndex := 404, attributes := #[] }, { accessFlags := 25, nameIndex := 471, descriptorIndex := 404, attributes := #[] }, { accessFlags := 25, nameIndex := 472, descriptorIndex := 404, attributes := #[] }, { accessFlags := 25, nameIndex := 473, descriptorIndex := 404, attributes := #[] }, { accessFlags := 25, nameIndex := 474, descriptorIndex := 404, attributes := #[] }, { accessFlags := 25, nameIndex := 475, descriptorIndex := 404, attributes := #[] }, { accessFlags := 25, nameIndex := 476, descriptorIndex := 404, attributes := #[] }, { accessFlags := 25, nameIndex := 477, descriptorIndex := 404, attributes := #[] }, { accessFlags := 25, nameIndex := 478, descriptorIndex := 404, attributes := #[] }, { accessFlags := 25, nameIndex := 479, descriptorIndex := 404, attributes := #[] }, { accessFlags := 25, nameIndex := 480, descriptorIndex := 404, attributes := #[] }, { accessFlags := 25, nameIndex := 481, descriptorIndex := 404, attributes := #[] }, { accessFlags := 25, nameIndex := 482, descriptorIndex := 404, attributes := #[] }, { accessFlags := 25, nameIndex := 484, descriptorIndex := 404, attributes := #[] }, { accessFlags := 25, nameIndex := 485, descriptorIndex := 404, attributes := #[] }, { accessFlags := 25, nameIndex := 486, descriptorIndex := 404, attributes := #[] }, { accessFlags := 25, nameIndex := 487, descriptorIndex := 404, attributes := #[] }, { accessFlags := 25, nameIndex := 488, descriptorIndex := 404, attributes := #[] }, { accessFlags := 25, nameIndex := 489, descriptorIndex := 22, attributes := #[] }, { accessFlags := 25, nameIndex := 490, descriptorIndex := 22, attributes := #[] }, { accessFlags := 25, nameIndex := 492, descriptorIndex := 22, attributes := #[] }, { accessFlags := 25, nameIndex := 493, descriptorIndex := 22, attributes := #[] }, { accessFlags := 25, nameIndex := 495, descriptorIndex := 22, attributes := #[] }, { accessFlags := 25, nameIndex := 496, descriptorIndex := 22, attributes := #[] }, { accessFlags := 25, nameIndex := 497, descriptorIndex := 392, attributes := #[] }, { accessFlags := 25, nameIndex := 498, descriptorIndex := 392, attributes := #[] }, { accessFlags := 25, nameIndex := 499, descriptorIndex := 392, attributes := #[] }, { accessFlags := 18, nameIndex := 21, descriptorIndex := 22, attributes := #[] }, { accessFlags := 26, nameIndex := 501, descriptorIndex := 502, attributes := #[] }, { accessFlags := 25, nameIndex := 505, descriptorIndex := 392, attributes := #[] }, { accessFlags := 25, nameIndex := 506, descriptorIndex := 392, attributes := #[] }, { accessFlags := 4120, nameIndex := 284, descriptorIndex := 285, attributes := #[] }])
  fields := #[{ name := "MIN_RADIX", type := .int, accessFlags := 25, slot := 0, constantValue := 0 }, { name := "MAX_RADIX", type := .int, accessFlags := 25, slot := 1, constantValue := 0 }, { name := "MIN_VALUE", type := .char, accessFlags := 25, slot := 2, constantValue := 0 }, { name := "MAX_VALUE", type := .char, accessFlags := 25, slot := 3, constantValue := 0 }, { name := "TYPE", type := (.object "java/lang/Class"), accessFlags := 25, slot := 4, constantValue := 0 }, { name := "UNASSIGNED", type := .byte, accessFlags := 25, slot := 5, constantValue := 0 }, { name := "UPPERCASE_LETTER", type := .byte, accessFlags := 25, slot := 6, constantValue := 0 }, { name := "LOWERCASE_LETTER", type := .byte, accessFlags := 25, slot := 7, constantValue := 0 }, { name := "TITLECASE_LETTER", type := .byte, accessFlags := 25, slot := 8, constantValue := 0 }, { name := "MODIFIER_LETTER", type := .byte, accessFlags := 25, slot := 9, constantValue := 0 }, { name := "OTHER_LETTER", type := .byte, accessFlags := 25, slot := 10, constantValue := 0 }, { name := "NON_SPACING_MARK", type := .byte, accessFlags := 25, slot := 11, constantValue := 0 }, { name := "ENCLOSING_MARK", type := .byte, accessFlags := 25, slot := 12, constantValue := 0 }, { name := "COMBINING_SPACING_MARK", type := .byte, accessFlags := 25, slot := 13, constantValue := 0 }, { name := "DECIMAL_DIGIT_NUMBER", type := .byte, accessFlags := 25, slot := 14, constantValue := 0 }, { name := "LETTER_NUMBER", type := .byte, accessFlags := 25, slot := 15, constantValue := 0 }, { name := "OTHER_NUMBER", type := .byte, accessFlags := 25, slot := 16, constantValue := 0 }, { name := "SPACE_SEPARATOR", type := .byte, accessFlags := 25, slot := 17, constantValue := 0 }, { name := "LINE_SEPARATOR", type := .byte, accessFlags := 25, slot := 18, constantValue := 0 }, { name := "PARAGRAPH_SEPARATOR", type := .byte, accessFlags := 25, slot := 19, constantValue := 0 }, { name := "CONTROL", type := .byte, accessFlags := 25, slot := 20, constantValue := 0 }, { name := "FORMAT", type := .byte, accessFlags := 25, slot := 21, constantValue := 0 }, { name := "PRIVATE_USE", type := .byte, accessFlags := 25, slot := 22, constantValue := 0 }, { name := "SURROGATE", type := .byte, accessFlags := 25, slot := 23, constantValue := 0 }, { name := "DASH_PUNCTUATION", type := .byte, accessFlags := 25, slot := 24, constantValue := 0 }, { name := "START_PUNCTUATION", type := .byte, accessFlags := 25, slot := 25, constantValue := 0 }, { name := "END_PUNCTUATION", type := .byte, accessFlags := 25, slot := 26, constantValue := 0 }, { name := "CONNECTOR_PUNCTUATION", type := .byte, accessFlags := 25, slot := 27, constantValue := 0 }, { name := "OTHER_PUNCTUATION", type := .byte, accessFlags := 25, slot := 28, constantValue := 0 }, { name := "MATH_SYMBOL", type := .byte, accessFlags := 25, slot := 29, constantValue := 0 }, { name := "CURRENCY_SYMBOL", type := .byte, accessFlags := 25, slot := 30, constantValue := 0 }, { name := "MODIFIER_SYMBOL", type := .byte, accessFlags := 25, slot := 31, constantValue := 0 }, { name := "OTHER_SYMBOL", type := .byte, accessFlags := 25, slot := 32, constantValue := 0 }, { name := "INITIAL_QUOTE_PUNCTUATION", type := .byte, accessFlags := 25, slot := 33, constantValue := 0 }, { name := "FINAL_QUOTE_PUNCTUATION", type := .byte, accessFlags := 25, slot := 34, constantValue := 0 }, { name := "ERROR", type := .int, accessFlags := 24, slot := 35, constantValue := 0 }, { name := "DIRECTIONALITY_UNDEFINED", type := .byte, accessFlags := 25, slot := 36, constantValue := 0 }, { name := "DIRECTIONALITY_LEFT_TO_RIGHT", type := .byte, accessFlags := 25, slot := 37, constantValue := 0 }, { name := "DIRECTIONALITY_RIGHT_TO_LEFT", type := .byte, accessFlags := 25, slot := 38, constantValue := 0 }, { name := "DIRECTIONALITY_RIGHT_TO_LEFT_ARABIC", type := .byte, accessFlags := 25, slot := 39, constantValue := 0 }, { name := "DIRECTIONALITY_EUROPEAN_NUMBER", type := .byte, accessFlags := 25, slot := 40, constantValue := 0 }, { name := "DIRECTIONALITY_EUROPEAN_NUMBER_SEPARATOR", type := .byte, accessFlags := 25, slot := 41, constantValue := 0 }, { name := "DIRECTIONALITY_EUROPEAN_NUMBER_TERMINATOR", type := .byte, accessFlags := 25, slot := 42, constantValue := 0 }, { name := "DIRECTIONALITY_ARABIC_NUMBER", type := .byte, accessFlags := 25, slot := 43, constantValue := 0 }, { name := "DIRECTIONALITY_COMMON_NUMBER_SEPARATOR", type := .byte, accessFlags := 25, slot := 44, constantValue := 0 }, { name := "DIRECTIONALITY_NONSPACING_MARK", type := .byte, accessFlags := 25, slot := 45, constantValue := 0 }, { name := "DIRECTIONALITY_BOUNDARY_NEUTRAL", type := .byte, accessFlags := 25, slot := 46, constantValue := 0 }, { name := "DIRECTIONALITY_PARAGRAPH_SEPARATOR", type := .byte, accessFlags := 25, slot := 47, constantValue := 0 }, { name := "DIRECTIONALITY_SEGMENT_SEPARATOR", type := .byte, accessFlags := 25, slot := 48, constantValue := 0 }, { name := "DIRECTIONALITY_WHITESPACE", type := .byte, accessFlags := 25, slot := 49, constantValue := 0 }, { name := "DIRECTIONALITY_OTHER_NEUTRALS", type := .byte, accessFlags := 25, slot := 50, constantValue := 0 }, { name := "DIRECTIONALITY_LEFT_TO_RIGHT_EMBEDDING", type := .byte, accessFlags := 25, slot := 51, constantValue := 0 }, { name := "DIRECTIONALITY_LEFT_TO_RIGHT_OVERRIDE", type := .byte, accessFlags := 25, slot := 52, constantValue := 0 }, { name := "DIRECTIONALITY_RIGHT_TO_LEFT_EMBEDDING", type := .byte, accessFlags := 25, slot := 53, constantValue := 0 }, { name := "DIRECTIONALITY_RIGHT_TO_LEFT_OVERRIDE", type := .byte, accessFlags := 25, slot := 54, constantValue := 0 }, { name := "DIRECTIONALITY_POP_DIRECTIONAL_FORMAT", type := .byte, accessFlags := 25, slot := 55, constantValue := 0 }, { name := "DIRECTIONALITY_LEFT_TO_RIGHT_ISOLATE", type := .byte, accessFlags := 25, slot := 56, constantValue := 0 }, { name := "DIRECTIONALITY_RIGHT_TO_LEFT_ISOLATE", type := .byte, accessFlags := 25, slot := 57, constantValue := 0 }, { name := "DIRECTIONALITY_FIRST_STRONG_ISOLATE", type := .byte, accessFlags := 25, slot := 58, constantValue := 0 }, { name := "DIRECTIONALITY_POP_DIRECTIONAL_ISOLATE", type := .byte, accessFlags := 25, slot := 59, constantValue := 0 }, { name := "MIN_HIGH_SURROGATE", type := .char, accessFlags := 25, slot := 60, constantValue := 0 }, { name := "MAX_HIGH_SURROGATE", type := .char, accessFlags := 25, slot := 61, constantValue := 0 }, { name := "MIN_LOW_SURROGATE", type := .char, accessFlags := 25, slot := 62, constantValue := 0 }, { name := "MAX_LOW_SURROGATE", type := .char, accessFlags := 25, slot := 63, constantValue := 0 }, { name := "MIN_SURROGATE", type := .char, accessFlags := 25, slot := 64, constantValue := 0 }, { name := "MAX_SURROGATE", type := .char, accessFlags := 25, slot := 65, constantValue := 0 }, { name := "MIN_SUPPLEMENTARY_CODE_POINT", type := .int, accessFlags := 25, slot := 66, constantValue := 0 }, { name := "MIN_CODE_POINT", type := .int, accessFlags := 25, slot := 67, constantValue := 0 }, { name := "MAX_CODE_POINT", type := .int, accessFlags := 25, slot := 68, constantValue := 0 }, { name := "value", type := .char, accessFlags := 18, slot := 0, constantValue := 0 }, { name := "serialVersionUID", type := .long, accessFlags := 26, slot := 69, constantValue := 0 }, { name := "SIZE", type := .int, accessFlags := 25, slot := 70, constantValue := 0 }, { name := "BYTES", type := .int, accessFlags := 25, slot := 71, constantValue := 0 }, { name := "$assertionsDisabled", type := .boolean, accessFlags := 4120, slot := 72, constantValue := 0 }]
  methods := #[k15m0, k15m1]
  instanceTypes := #[.char]
  staticTypes := #[.int, .int, .char, .char, (.object "java/lang/Class"), .byte, .byte, .byte, .byte, .byte, .byte, .byte, .byte, .byte, .byte, .byte, .byte, .byte, .byte, .byte, .byte, .byte, .byte, .byte, .byte, .byte, .byte, .byte, .byte, .byte, .byte, .byte, .byte, .byte, .byte, .int, .byte, .byte, .byte, .byte, .byte, .byte, .byte, .byte, .byte, .byte, .byte, .byte, .byte, .byte, .byte, .byte, .byte, .byte, .byte, .byte, .byte, .byte, .byte, .byte, .char, .char, .char, .char, .char, .char, .int, .int, .int, .long, .int, .int, .boolean]
  resolved := Array.replicate 604 none
  statics := none }

def pool16 : Array CpInfo := pool [(1, .class_ 2), (0, u "java/lang/String"), (1, .class_ 6), (1, u "java/lang/Object"), (0, u "<init>"), (0, u "()V"), (0, .methodref 1 10), (0, .nameAndType 11 12), (0, u "checkIndex"), (0, u "(II)V"), (1, .class_ 16), (1, u "java/lang/StringLatin1"), (36, u "([BI)C"), (67, u "$assertionsDisabled"), (0, u "Z"), (98, .class_ 223), (1, u "java/lang/StringLatin1$LinesSpliterator"), (28, u "charAt"), (137, .class_ 391), (0, u "java/lang/StringLatin1$CharsSpliterator")] 3

def k16m0 : Method := { name := "<init>", desc := "()V", sig := { parameters := [], returnType := none }, accessFlags := 0, code := none }
def k16c1 : Code := { maxStack := 2, maxLocals := 2, code := jdk_43_method_2_code, exceptionTable := #[], attributes := #[] }
def k16m1 : Method := { name := "charAt", desc := "([BI)C", sig := { parameters := [(.array .byte), .int], returnType := some .char }, accessFlags := 9, code := some k16c1 }
/-- java/lang/StringLatin1 -/
def k16 : Class := { plain "java/lang/StringLatin1" (some 0) with
  accessFlags := 48
  interfaces := #[]
  cf := some (fileOf pool16 14 #[.nestMembers #[390, 221]] #[{ accessFlags := 0, nameIndex := 7, descriptorIndex := 8, attributes := #[] }, { accessFlags := 9, nameIndex := 252, descriptorIndex := 53, attributes := #[] }] 48 4 #[] #[{ accessFlags := 4120, nameIndex := 121, descriptorIndex := 122, attributes := #[] }])
  fields := #[{ name := "$assertionsDisabled", type := .boolean, accessFlags := 4120, slot := 0, constantValue := 0 }]
  methods := #[k16m0, k16m1]
  instanceTypes := #[]
  staticTypes := #[.boolean]
  resolved := Array.replicate 395 none
  statics := none }

def pool17 : Array CpInfo := pool [(9, u "<init>"), (6, .class_ 18), (1, u "java/lang/Object"), (0, u "()V"), (1, .class_ 23), (1, u "jdk/internal/util/ArraysSupport"), (0, u "LOG2_ARRAY_LONG_INDEX_SCALE"), (0, u "I"), (2, u "U"), (0, u "Ljdk/internal/misc/Unsafe;"), (8, u "BIG_ENDIAN"), (0, u "Z"), (8, u "LOG2_BYTE_BIT_SIZE"), (4, u "LOG2_ARRAY_INT_INDEX_SCALE"), (54, u "JLA"), (0, u "Ljdk/internal/access/JavaLangAccess;"), (11, u "LOG2_ARRAY_BOOLEAN_INDEX_SCALE"), (9, u "LOG2_ARRAY_BYTE_INDEX_SCALE"), (5, u "LOG2_ARRAY_CHAR_INDEX_SCALE"), (5, u "LOG2_ARRAY_SHORT_INDEX_SCALE"), (18, u "LOG2_ARRAY_FLOAT_INDEX_SCALE"), (24, u "LOG2_ARRAY_DOUBLE_INDEX_SCALE"), (89, u "T_BOOLEAN"), (2, u "T_CHAR"), (1, u "T_FLOAT"), (1, u "T_DOUBLE"), (1, u "T_BYTE"), (1, u "T_SHORT"), (1, u "T_INT"), (1, u "T_LONG"), (1, u "SOFT_MAX_ARRAY_LENGTH")] 83

def k17m0 : Method := { name := "<init>", desc := "()V", sig := { parameters := [], returnType := none }, accessFlags := 2, code := none }
/-- jdk/internal/util/ArraysSupport -/
def k17 : Class := { plain "jdk/internal/util/ArraysSupport" (some 0) with
  accessFlags := 33
  interfaces := #[]
  cf := some (fileOf pool17 21 #[] #[{ accessFlags := 2, nameIndex := 9, descriptorIndex := 19, attributes := #[] }] 33 16 #[] #[{ accessFlags := 24, nameIndex := 28, descriptorIndex := 29, attributes := #[] }, { accessFlags := 26, nameIndex := 38, descriptorIndex := 39, attributes := #[] }, { accessFlags := 25, nameIndex := 121, descriptorIndex := 25, attributes := #[] }, { accessFlags := 25, nameIndex := 131, descriptorIndex := 25, attributes := #[] }, { accessFlags := 25, nameIndex := 137, descriptorIndex := 25, attributes := #[] }, { accessFlags := 25, nameIndex := 143, descriptorIndex := 25, attributes := #[] }, { accessFlags := 25, nameIndex := 53, descriptorIndex := 25, attributes := #[] }, { accessFlags := 25, nameIndex := 24, descriptorIndex := 25, attributes := #[] }, { accessFlags := 25, nameIndex := 162, descriptorIndex := 25, attributes := #[] }, { accessFlags := 25, nameIndex := 187, descriptorIndex := 25, attributes := #[] }, { accessFlags := 26, nameIndex := 48, descriptorIndex := 25, attributes := #[] }, { accessFlags := 25, nameIndex := 277, descriptorIndex := 25, attributes := #[] }, { accessFlags := 25, nameIndex := 280, descriptorIndex := 25, attributes := #[] }, { accessFlags := 25, nameIndex := 282, descriptorIndex := 25, attributes := #[] }, { accessFlags := 25, nameIndex := 284, descriptorIndex := 25, attributes := #[] }, { accessFlags := 25, nameIndex := 286, descriptorIndex := 25, attributes := #[] }, { accessFlags := 25, nameIndex := 288, descriptorIndex := 25, attributes := #[] }, { accessFlags := 25, nameIndex := 290, descriptorIndex := 25, attributes := #[] }, { accessFlags := 25, nameIndex := 292, descriptorIndex := 25, attributes := #[] }, { accessFlags := 26, nameIndex := 108, descriptorIndex := 109, attributes := #[] }, { accessFlags := 25, nameIndex := 294, descriptorIndex := 25, attributes := #[] }])
  fields := #[{ name := "U", type := (.object "jdk/internal/misc/Unsafe"), accessFlags := 24, slot := 0, constantValue := 0 }, { name := "BIG_ENDIAN", type := .boolean, accessFlags := 26, slot := 1, constantValue := 0 }, { name := "LOG2_ARRAY_BOOLEAN_INDEX_SCALE", type := .int, accessFlags := 25, slot := 2, constantValue := 0 }, { name := "LOG2_ARRAY_BYTE_INDEX_SCALE", type := .int, accessFlags := 25, slot := 3, constantValue := 0 }, { name := "LOG2_ARRAY_CHAR_INDEX_SCALE", type := .int, accessFlags := 25, slot := 4, constantValue := 0 }, { name := "LOG2_ARRAY_SHORT_INDEX_SCALE", type := .int, accessFlags := 25, slot := 5, constantValue := 0 }, { name := "LOG2_ARRAY_INT_INDEX_SCALE", type := .int, accessFlags := 25, slot := 6, constantValue := 0 }, { name := "LOG2_ARRAY_LONG_INDEX_SCALE", type := .int, accessFlags := 25, slot := 7, constantValue := 0 }, { name := "LOG2_ARRAY_FLOAT_INDEX_SCALE", type := .int, accessFlags := 25, slot := 8, constantValue := 0 }, { name := "LOG2_ARRAY_DOUBLE_INDEX_SCALE", type := .int, accessFlags := 25, slot := 9, constantValue := 0 }, { name := "LOG2_BYTE_BIT_SIZE", type := .int, accessFlags := 26, slot := 10, constantValue := 0 }, { name := "T_BOOLEAN", type := .int, accessFlags := 25, slot := 11, constantValue := 0 }, { name := "T_CHAR", type := .int, accessFlags := 25, slot := 12, constantValue := 0 }, { name := "T_FLOAT", type := .int, accessFlags := 25, slot := 13, constantValue := 0 }, { name := "T_DOUBLE", type := .int, accessFlags := 25, slot := 14, constantValue := 0 }, { name := "T_BYTE", type := .int, accessFlags := 25, slot := 15, constantValue := 0 }, { name := "T_SHORT", type := .int, accessFlags := 25, slot := 16, constantValue := 0 }, { name := "T_INT", type := .int, accessFlags := 25, slot := 17, constantValue := 0 }, { name := "T_LONG", type := .int, accessFlags := 25, slot := 18, constantValue := 0 }, { name := "JLA", type := (.object "jdk/internal/access/JavaLangAccess"), accessFlags := 26, slot := 19, constantValue := 0 }, { name := "SOFT_MAX_ARRAY_LENGTH", type := .int, accessFlags := 25, slot := 20, constantValue := 0 }]
  methods := #[k17m0]
  instanceTypes := #[]
  staticTypes := #[(.object "jdk/internal/misc/Unsafe"), .boolean, .int, .int, .int, .int, .int, .int, .int, .int, .int, .int, .int, .int, .int, .int, .int, .int, .int, (.object "jdk/internal/access/JavaLangAccess"), .int]
  resolved := Array.replicate 378 none
  statics := none }

def pool18 : Array CpInfo := pool [(1, u "java/lang/Cloneable"), (0, .class_ 1), (0, u "java/lang/Object"), (0, .class_ 3)] 3

/-- java/lang/Cloneable -/
def k18 : Class := { plain "java/lang/Cloneable" (some 0) with
  accessFlags := 1537
  interfaces := #[]
  cf := some (fileOf pool18 2 #[] #[] 1537 4 #[] #[])
  fields := #[]
  methods := #[]
  instanceTypes := #[]
  staticTypes := #[]
  resolved := Array.replicate 8 none
  statics := none }

/-- the primitive byte -/
def k19 : Class := { plain "byte" none with kind := .primitive 'B', accessFlags := 0x411 }
/-- [B -/
def k20 : Class := { plain "[B" (some 0) with kind := .array 19 .byte, interfaces := #[18, 2], accessFlags := 1041 }

/-- the primitive char -/
def k21 : Class := { plain "char" none with kind := .primitive 'C', accessFlags := 0x411 }
/-- [C -/
def k22 : Class := { plain "[C" (some 0) with kind := .array 21 .char, interfaces := #[18, 2], accessFlags := 1041 }

/-- the primitive int -/
def k23 : Class := { plain "int" none with kind := .primitive 'I', accessFlags := 0x411 }
/-- [I -/
def k24 : Class := { plain "[I" (some 0) with kind := .array 23 .int, interfaces := #[18, 2], accessFlags := 1041 }

def heap : Heap := #[{ cls := 7, slots := #[.long 0, .int 1, .null, .int 0, .null, .int 0, .int 0], vm := .statics 7 },
  { cls := 13, slots := #[.int 0, .int 8, .int 0, .int 1], vm := .statics 13 },
  { cls := 14, slots := #[.null, .null, .null], vm := .statics 14 }]
def classes : Array Class := #[k0, k1, k2, k3, k4, k5, k6, k7, k8, k9, k10, k11, k12, k13, k14, k15, k16, k17, k18, k19, k20, k21, k22, k23, k24]
def interned : List (Array UInt16 × Addr) := []
def slotsUsed : Nat := 14
def theMethod : MethodId := ⟨1, 6⟩
def args0 : Array Value := #[.int 5, .int 5, .int 5, .int 5]
def aboutOver (below : List Frame) : State where
  vm := { classes := classes, interned := interned.toArray }
  heap := heap
  slotsUsed := slotsUsed
  threads := #[{ frames := .invoking theMethod args0 :: below }]
def below0 : List Frame := [.native { method := ⟨0, 0⟩, args := #[] }]
def about1 : State := aboutOver below0
def p0 : Program := .bare "" "" ""
def e0 : Env := launch0.env 0 0 0
theorem w_frames : about1.frames = Frame.invoking theMethod args0 :: below0 := rfl
set_option maxRecDepth 65536 in
theorem w_args : argsFit about1.vm theMethod args0 = true := by decide +kernel
set_option maxRecDepth 65536 in
theorem w_heap : heapFits about1 = true := by decide +kernel
set_option maxRecDepth 65536 in
theorem w_runnable : about1.curStatus? = some .runnable := by decide +kernel
set_option maxRecDepth 65536 in
theorem w_alone : about1.alone = true := by decide +kernel
set_option maxRecDepth 65536 in
theorem w_named : about1.methodNamed? x = some theMethod := by decide +kernel
set_option maxRecDepth 65536 in
theorem w_hears : about1.hears theMethod below0 = true := by decide +kernel
set_option maxRecDepth 65536 in
theorem w_ripe : about1.ripe theMethod args0 below0 = true := by decide +kernel
theorem w_running : about1.status = .running := rfl
set_option maxRecDepth 65536 in
theorem w_room : about1.hasRoom e0.platform room_1 = true :=
  launch0.hasRoom_least _ room_1 (by decide +kernel) (by decide +kernel) (by decide +kernel) (by decide +kernel) (by decide +kernel) (by decide +kernel)
theorem allAtoms_all (ts : List Jvm.Cond) (a : Array Jvm.Value) (st : Jvm.State) : (allAtoms ts).before a st = ts.all (fun c => c.before a st) := by
  induction ts with
  | nil => rfl
  | cons c t ih =>
    show (Jvm.Cond.and c (allAtoms t)).before a st = _
    rw [Jvm.Cond.before_and, ih, List.all_cons]
def words1 : List Jvm.Cond := Jvm.Cond.code x code maxLocals ret :: tables_1
/-- a 'code' word, met by the world's own term for the bytes: nothing is compared byte by byte -/
theorem code_word {y : MethodName} {bytes : ByteArray} {mx : Nat} {rt : Option FieldType} {a : Array Value} {s : State} {m : MethodId} {meth : Method} {c : Code} (h1 : s.methodNamed? y = some m) (h2 : s.vm.method? m = some meth) (h3 : meth.code = some c) (h4 : c.code = bytes)
    (h5 : (c.maxLocals == mx && c.exceptionTable.isEmpty && decide (c.maxStack ≤ mostOperands) && decide (meth.sig.returnType = rt) && !meth.locks && decide (parseMethodDescriptor y.desc = some meth.sig)) = true) : (Jvm.Cond.code y bytes mx rt).before a s = true := by
  simp only [Bool.and_eq_true, beq_iff_eq, Bool.not_eq_true', decide_eq_true_eq] at h5
  obtain ⟨⟨⟨⟨⟨g1, g2⟩, g3⟩, g4⟩, g5⟩, g6⟩ := h5
  simp [Cond.before, Cond.holds, Cond.value, h1, h2, h3, h4, g1, g2, g3, g4, g5, g6]
def isCode : Jvm.Cond → Bool
  | .code _ _ _ _ => true
  | _ => false
theorem all_split {L : List Jvm.Cond} {P : Jvm.Cond → Bool} (h1 : L.all (fun c => isCode c || P c) = true) (h2 : ∀ c ∈ L.filter isCode, P c = true) : L.all P = true := by
  refine List.all_eq_true.mpr fun c hc => ?_
  have h := List.all_eq_true.mp h1 c hc
  rcases Bool.eq_false_or_eq_true (isCode c) with hi | hi
  · exact h2 c (List.mem_filter.mpr ⟨hc, hi⟩)
  · simpa [hi] using h
set_option maxRecDepth 65536 in
theorem w_c0 : (Jvm.Cond.code x code maxLocals ret).before args0 about1 = true := code_word (m := ⟨1, 6⟩) (meth := k1m6) (c := k1c6) (by decide +kernel) rfl rfl rfl (by decide +kernel)
set_option maxRecDepth 65536 in
theorem w_c1 : (Jvm.Cond.code ({ cls := "java/lang/String", name := "<init>", desc := "([C)V" } : Jvm.MethodName) jdk_42_method_3_code (2 : Nat) (Option.none : Option Jvm.ClassFile.FieldType)).before args0 about1 = true := code_word (m := ⟨7, 1⟩) (meth := k7m1) (c := k7c1) (by decide +kernel) rfl rfl rfl (by decide +kernel)
set_option maxRecDepth 65536 in
theorem w_c2 : (Jvm.Cond.code ({ cls := "java/lang/String", name := "<init>", desc := "([CIILjava/lang/Void;)V" } : Jvm.MethodName) jdk_42_method_149_code (6 : Nat) (Option.none : Option Jvm.ClassFile.FieldType)).before args0 about1 = true := code_word (m := ⟨7, 4⟩) (meth := k7m4) (c := k7c4) (by decide +kernel) rfl rfl rfl (by decide +kernel)
set_option maxRecDepth 65536 in
theorem w_c3 : (Jvm.Cond.code ({ cls := "java/lang/Object", name := "<init>", desc := "()V" } : Jvm.MethodName) object_method_1_code (1 : Nat) (Option.none : Option Jvm.ClassFile.FieldType)).before args0 about1 = true := code_word (m := ⟨0, 0⟩) (meth := k0m0) (c := k0c0) (by decide +kernel) rfl rfl rfl (by decide +kernel)
set_option maxRecDepth 65536 in
theorem w_c4 : (Jvm.Cond.code ({ cls := "com/example/abeyance/abeyance/model/Utf8Reader", name := "malformedAt", desc := "(Ljava/lang/CharSequence;)I" } : Jvm.MethodName) prog_13_method_3_code (3 : Nat) (Option.some Jvm.ClassFile.FieldType.int)).before args0 about1 = true := code_word (m := ⟨12, 0⟩) (meth := k12m0) (c := k12c0) (by decide +kernel) rfl rfl rfl (by decide +kernel)
set_option maxRecDepth 65536 in
theorem w_c5 : (Jvm.Cond.code ({ cls := "java/lang/String", name := "length", desc := "()I" } : Jvm.MethodName) jdk_42_method_54_code (1 : Nat) (Option.some Jvm.ClassFile.FieldType.int)).before args0 about1 = true := code_word (m := ⟨7, 2⟩) (meth := k7m2) (c := k7c2) (by decide +kernel) rfl rfl rfl (by decide +kernel)
set_option maxRecDepth 65536 in
theorem w_c6 : (Jvm.Cond.code ({ cls := "java/lang/String", name := "coder", desc := "()B" } : Jvm.MethodName) jdk_42_method_152_code (1 : Nat) (Option.some Jvm.ClassFile.FieldType.byte)).before args0 about1 = true := code_word (m := ⟨7, 5⟩) (meth := k7m5) (c := k7c5) (by decide +kernel) rfl rfl rfl (by decide +kernel)
set_option maxRecDepth 65536 in
theorem w_c7 : (Jvm.Cond.code ({ cls := "com/example/abeyance/abeyance/model/Utf8ReaderMalformedAtPinLaw", name := "unit", desc := "(II)C" } : Jvm.MethodName) method_5_code (4 : Nat) (Option.some Jvm.ClassFile.FieldType.char)).before args0 about1 = true := code_word (m := ⟨1, 4⟩) (meth := k1m4) (c := k1c4) (by decide +kernel) rfl rfl rfl (by decide +kernel)
set_option maxRecDepth 65536 in
theorem w_c8 : (Jvm.Cond.code ({ cls := "com/example/abeyance/abeyance/model/Utf8ReaderMalformedAtPinLaw", name := "kind", desc := "(I)I" } : Jvm.MethodName) method_2_code (2 : Nat) (Option.some Jvm.ClassFile.FieldType.int)).before args0 about1 = true := code_word (m := ⟨1, 1⟩) (meth := k1m1) (c := k1c1) (by decide +kernel) rfl rfl rfl (by decide +kernel)
set_option maxRecDepth 65536 in
theorem w_c9 : (Jvm.Cond.code ({ cls := "com/example/abeyance/abeyance/model/Utf8ReaderMalformedAtPinLaw", name := "bmp", desc := "(I)C" } : Jvm.MethodName) method_3_code (2 : Nat) (Option.some Jvm.ClassFile.FieldType.char)).before args0 about1 = true := code_word (m := ⟨1, 2⟩) (meth := k1m2) (c := k1c2) (by decide +kernel) rfl rfl rfl (by decide +kernel)
set_option maxRecDepth 65536 in
theorem w_c10 : (Jvm.Cond.code ({ cls := "com/example/abeyance/abeyance/model/Utf8ReaderMalformedAtPinLaw", name := "esc", desc := "(I)C" } : Jvm.MethodName) method_4_code (1 : Nat) (Option.some Jvm.ClassFile.FieldType.char)).before args0 about1 = true := code_word (m := ⟨1, 3⟩) (meth := k1m3) (c := k1c3) (by decide +kernel) rfl rfl rfl (by decide +kernel)
set_option maxRecDepth 65536 in
theorem w_c11 : (Jvm.Cond.code ({ cls := "com/example/abeyance/abeyance/model/Utf8ReaderMalformedAtPinLaw", name := "isEsc", desc := "(II)Z" } : Jvm.MethodName) method_6_code (3 : Nat) (Option.some Jvm.ClassFile.FieldType.boolean)).before args0 about1 = true := code_word (m := ⟨1, 5⟩) (meth := k1m5) (c := k1c5) (by decide +kernel) rfl rfl rfl (by decide +kernel)
set_option maxRecDepth 65536 in
theorem w_c12 : (Jvm.Cond.code ({ cls := "java/lang/StringUTF16", name := "compress", desc := "([CII)[B" } : Jvm.MethodName) jdk_52_method_16_code (6 : Nat) (Option.some (Jvm.ClassFile.FieldType.array Jvm.ClassFile.FieldType.byte))).before args0 about1 = true := code_word (m := ⟨13, 8⟩) (meth := k13m8) (c := k13c8) (by decide +kernel) rfl rfl rfl (by decide +kernel)
set_option maxRecDepth 65536 in
theorem w_c13 : (Jvm.Cond.code ({ cls := "java/lang/StringUTF16", name := "compress", desc := "([CI[BII)I" } : Jvm.MethodName) jdk_52_method_21_code (7 : Nat) (Option.some Jvm.ClassFile.FieldType.int)).before args0 about1 = true := code_word (m := ⟨13, 9⟩) (meth := k13m9) (c := k13c9) (by decide +kernel) rfl rfl rfl (by decide +kernel)
set_option maxRecDepth 65536 in
theorem w_c14 : (Jvm.Cond.code ({ cls := "java/lang/StringUTF16", name := "toBytes", desc := "([CII)[B" } : Jvm.MethodName) jdk_52_method_14_code (5 : Nat) (Option.some (Jvm.ClassFile.FieldType.array Jvm.ClassFile.FieldType.byte))).before args0 about1 = true := code_word (m := ⟨13, 6⟩) (meth := k13m6) (c := k13c6) (by decide +kernel) rfl rfl rfl (by decide +kernel)
set_option maxRecDepth 65536 in
theorem w_c15 : (Jvm.Cond.code ({ cls := "java/lang/StringUTF16", name := "newBytesFor", desc := "(I)[B" } : Jvm.MethodName) jdk_52_method_2_code (1 : Nat) (Option.some (Jvm.ClassFile.FieldType.array Jvm.ClassFile.FieldType.byte))).before args0 about1 = true := code_word (m := ⟨13, 1⟩) (meth := k13m1) (c := k13c1) (by decide +kernel) rfl rfl rfl (by decide +kernel)
set_option maxRecDepth 65536 in
theorem w_c16 : (Jvm.Cond.code ({ cls := "java/lang/StringUTF16", name := "newBytesLength", desc := "(I)I" } : Jvm.MethodName) jdk_52_method_3_code (1 : Nat) (Option.some Jvm.ClassFile.FieldType.int)).before args0 about1 = true := code_word (m := ⟨13, 2⟩) (meth := k13m2) (c := k13c2) (by decide +kernel) rfl rfl rfl (by decide +kernel)
set_option maxRecDepth 65536 in
theorem w_c17 : (Jvm.Cond.code ({ cls := "java/lang/StringUTF16", name := "putChar", desc := "([BII)V" } : Jvm.MethodName) jdk_52_method_4_code (3 : Nat) (Option.none : Option Jvm.ClassFile.FieldType)).before args0 about1 = true := code_word (m := ⟨13, 3⟩) (meth := k13m3) (c := k13c3) (by decide +kernel) rfl rfl rfl (by decide +kernel)
set_option maxRecDepth 65536 in
theorem w_c18 : (Jvm.Cond.code ({ cls := "java/lang/StringUTF16", name := "getChar", desc := "([BI)C" } : Jvm.MethodName) jdk_52_method_5_code (2 : Nat) (Option.some Jvm.ClassFile.FieldType.char)).before args0 about1 = true := code_word (m := ⟨13, 4⟩) (meth := k13m4) (c := k13c4) (by decide +kernel) rfl rfl rfl (by decide +kernel)
set_option maxRecDepth 65536 in
theorem w_c19 : (Jvm.Cond.code ({ cls := "java/lang/StringUTF16", name := "coderFromArrayLen", desc := "([BI)B" } : Jvm.MethodName) jdk_52_method_15_code (2 : Nat) (Option.some Jvm.ClassFile.FieldType.byte)).before args0 about1 = true := code_word (m := ⟨13, 7⟩) (meth := k13m7) (c := k13c7) (by decide +kernel) rfl rfl rfl (by decide +kernel)
set_option maxRecDepth 65536 in
theorem w_c20 : (Jvm.Cond.code ({ cls := "java/lang/String", name := "charAt", desc := "(I)C" } : Jvm.MethodName) jdk_42_method_56_code (2 : Nat) (Option.some Jvm.ClassFile.FieldType.char)).before args0 about1 = true := code_word (m := ⟨7, 3⟩) (meth := k7m3) (c := k7c3) (by decide +kernel) rfl rfl rfl (by decide +kernel)
set_option maxRecDepth 65536 in
theorem w_c21 : (Jvm.Cond.code ({ cls := "java/lang/String", name := "isLatin1", desc := "()Z" } : Jvm.MethodName) jdk_42_method_154_code (1 : Nat) (Option.some Jvm.ClassFile.FieldType.boolean)).before args0 about1 = true := code_word (m := ⟨7, 6⟩) (meth := k7m6) (c := k7c6) (by decide +kernel) rfl rfl rfl (by decide +kernel)
set_option maxRecDepth 65536 in
theorem w_c22 : (Jvm.Cond.code ({ cls := "java/lang/StringUTF16", name := "charAt", desc := "([BI)C" } : Jvm.MethodName) jdk_52_method_83_code (2 : Nat) (Option.some Jvm.ClassFile.FieldType.char)).before args0 about1 = true := code_word (m := ⟨13, 10⟩) (meth := k13m10) (c := k13c10) (by decide +kernel) rfl rfl rfl (by decide +kernel)
set_option maxRecDepth 65536 in
theorem w_c23 : (Jvm.Cond.code ({ cls := "java/lang/StringUTF16", name := "checkIndex", desc := "(I[B)V" } : Jvm.MethodName) jdk_52_method_91_code (2 : Nat) (Option.none : Option Jvm.ClassFile.FieldType)).before args0 about1 = true := code_word (m := ⟨13, 11⟩) (meth := k13m11) (c := k13c11) (by decide +kernel) rfl rfl rfl (by decide +kernel)
set_option maxRecDepth 65536 in
theorem w_c24 : (Jvm.Cond.code ({ cls := "java/lang/StringUTF16", name := "length", desc := "([B)I" } : Jvm.MethodName) jdk_52_method_6_code (1 : Nat) (Option.some Jvm.ClassFile.FieldType.int)).before args0 about1 = true := code_word (m := ⟨13, 5⟩) (meth := k13m5) (c := k13c5) (by decide +kernel) rfl rfl rfl (by decide +kernel)
set_option maxRecDepth 65536 in
theorem w_c25 : (Jvm.Cond.code ({ cls := "java/lang/String", name := "checkIndex", desc := "(II)V" } : Jvm.MethodName) jdk_42_method_155_code (2 : Nat) (Option.none : Option Jvm.ClassFile.FieldType)).before args0 about1 = true := code_word (m := ⟨7, 7⟩) (meth := k7m7) (c := k7c7) (by decide +kernel) rfl rfl rfl (by decide +kernel)
set_option maxRecDepth 65536 in
theorem w_c26 : (Jvm.Cond.code ({ cls := "jdk/internal/util/Preconditions", name := "checkIndex", desc := "(IILjava/util/function/BiFunction;)I" } : Jvm.MethodName) jdk_41_method_11_code (3 : Nat) (Option.some Jvm.ClassFile.FieldType.int)).before args0 about1 = true := code_word (m := ⟨14, 1⟩) (meth := k14m1) (c := k14c1) (by decide +kernel) rfl rfl rfl (by decide +kernel)
set_option maxRecDepth 65536 in
theorem w_c27 : (Jvm.Cond.code ({ cls := "java/lang/Character", name := "isHighSurrogate", desc := "(C)Z" } : Jvm.MethodName) jdk_89_method_14_code (1 : Nat) (Option.some Jvm.ClassFile.FieldType.boolean)).before args0 about1 = true := code_word (m := ⟨15, 0⟩) (meth := k15m0) (c := k15c0) (by decide +kernel) rfl rfl rfl (by decide +kernel)
set_option maxRecDepth 65536 in
theorem w_c28 : (Jvm.Cond.code ({ cls := "java/lang/Character", name := "isLowSurrogate", desc := "(C)Z" } : Jvm.MethodName) jdk_89_method_15_code (1 : Nat) (Option.some Jvm.ClassFile.FieldType.boolean)).before args0 about1 = true := code_word (m := ⟨15, 1⟩) (meth := k15m1) (c := k15c1) (by decide +kernel) rfl rfl rfl (by decide +kernel)
set_option maxRecDepth 65536 in
theorem w_c29 : (Jvm.Cond.code ({ cls := "java/lang/StringLatin1", name := "charAt", desc := "([BI)C" } : Jvm.MethodName) jdk_43_method_2_code (2 : Nat) (Option.some Jvm.ClassFile.FieldType.char)).before args0 about1 = true := code_word (m := ⟨16, 1⟩) (meth := k16m1) (c := k16c1) (by decide +kernel) rfl rfl rfl (by decide +kernel)
def codes1 : List Jvm.Cond := [Jvm.Cond.code x code maxLocals ret, Jvm.Cond.code ({ cls := "java/lang/String", name := "<init>", desc := "([C)V" } : Jvm.MethodName) jdk_42_method_3_code (2 : Nat) (Option.none : Option Jvm.ClassFile.FieldType), Jvm.Cond.code ({ cls := "java/lang/String", name := "<init>", desc := "([CIILjava/lang/Void;)V" } : Jvm.MethodName) jdk_42_method_149_code (6 : Nat) (Option.none : Option Jvm.ClassFile.FieldType), Jvm.Cond.code ({ cls := "java/lang/Object", name := "<init>", desc := "()V" } : Jvm.MethodName) object_method_1_code (1 : Nat) (Option.none : Option Jvm.ClassFile.FieldType), Jvm.Cond.code ({ cls := "com/example/abeyance/abeyance/model/Utf8Reader", name := "malformedAt", desc := "(Ljava/lang/CharSequence;)I" } : Jvm.MethodName) prog_13_method_3_code (3 : Nat) (Option.some Jvm.ClassFile.FieldType.int), Jvm.Cond.code ({ cls := "java/lang/String", name := "length", desc := "()I" } : Jvm.MethodName) jdk_42_method_54_code (1 : Nat) (Option.some Jvm.ClassFile.FieldType.int), Jvm.Cond.code ({ cls := "java/lang/String", name := "coder", desc := "()B" } : Jvm.MethodName) jdk_42_method_152_code (1 : Nat) (Option.some Jvm.ClassFile.FieldType.byte), Jvm.Cond.code ({ cls := "com/example/abeyance/abeyance/model/Utf8ReaderMalformedAtPinLaw", name := "unit", desc := "(II)C" } : Jvm.MethodName) method_5_code (4 : Nat) (Option.some Jvm.ClassFile.FieldType.char), Jvm.Cond.code ({ cls := "com/example/abeyance/abeyance/model/Utf8ReaderMalformedAtPinLaw", name := "kind", desc := "(I)I" } : Jvm.MethodName) method_2_code (2 : Nat) (Option.some Jvm.ClassFile.FieldType.int), Jvm.Cond.code ({ cls := "com/example/abeyance/abeyance/model/Utf8ReaderMalformedAtPinLaw", name := "bmp", desc := "(I)C" } : Jvm.MethodName) method_3_code (2 : Nat) (Option.some Jvm.ClassFile.FieldType.char), Jvm.Cond.code ({ cls := "com/example/abeyance/abeyance/model/Utf8ReaderMalformedAtPinLaw", name := "esc", desc := "(I)C" } : Jvm.MethodName) method_4_code (1 : Nat) (Option.some Jvm.ClassFile.FieldType.char), Jvm.Cond.code ({ cls := "com/example/abeyance/abeyance/model/Utf8ReaderMalformedAtPinLaw", name := "isEsc", desc := "(II)Z" } : Jvm.MethodName) method_6_code (3 : Nat) (Option.some Jvm.ClassFile.FieldType.boolean), Jvm.Cond.code ({ cls := "java/lang/StringUTF16", name := "compress", desc := "([CII)[B" } : Jvm.MethodName) jdk_52_method_16_code (6 : Nat) (Option.some (Jvm.ClassFile.FieldType.array Jvm.ClassFile.FieldType.byte)), Jvm.Cond.code ({ cls := "java/lang/StringUTF16", name := "compress", desc := "([CI[BII)I" } : Jvm.MethodName) jdk_52_method_21_code (7 : Nat) (Option.some Jvm.ClassFile.FieldType.int), Jvm.Cond.code ({ cls := "java/lang/StringUTF16", name := "toBytes", desc := "([CII)[B" } : Jvm.MethodName) jdk_52_method_14_code (5 : Nat) (Option.some (Jvm.ClassFile.FieldType.array Jvm.ClassFile.FieldType.byte)), Jvm.Cond.code ({ cls := "java/lang/StringUTF16", name := "newBytesFor", desc := "(I)[B" } : Jvm.MethodName) jdk_52_method_2_code (1 : Nat) (Option.some (Jvm.ClassFile.FieldType.array Jvm.ClassFile.FieldType.byte)), Jvm.Cond.code ({ cls := "java/lang/StringUTF16", name := "newBytesLength", desc := "(I)I" } : Jvm.MethodName) jdk_52_method_3_code (1 : Nat) (Option.some Jvm.ClassFile.FieldType.int), Jvm.Cond.code ({ cls := "java/lang/StringUTF16", name := "putChar", desc := "([BII)V" } : Jvm.MethodName) jdk_52_method_4_code (3 : Nat) (Option.none : Option Jvm.ClassFile.FieldType), Jvm.Cond.code ({ cls := "java/lang/StringUTF16", name := "getChar", desc := "([BI)C" } : Jvm.MethodName) jdk_52_method_5_code (2 : Nat) (Option.some Jvm.ClassFile.FieldType.char), Jvm.Cond.code ({ cls := "java/lang/StringUTF16", name := "coderFromArrayLen", desc := "([BI)B" } : Jvm.MethodName) jdk_52_method_15_code (2 : Nat) (Option.some Jvm.ClassFile.FieldType.byte), Jvm.Cond.code ({ cls := "java/lang/String", name := "charAt", desc := "(I)C" } : Jvm.MethodName) jdk_42_method_56_code (2 : Nat) (Option.some Jvm.ClassFile.FieldType.char), Jvm.Cond.code ({ cls := "java/lang/String", name := "isLatin1", desc := "()Z" } : Jvm.MethodName) jdk_42_method_154_code (1 : Nat) (Option.some Jvm.ClassFile.FieldType.boolean), Jvm.Cond.code ({ cls := "java/lang/StringUTF16", name := "charAt", desc := "([BI)C" } : Jvm.MethodName) jdk_52_method_83_code (2 : Nat) (Option.some Jvm.ClassFile.FieldType.char), Jvm.Cond.code ({ cls := "java/lang/StringUTF16", name := "checkIndex", desc := "(I[B)V" } : Jvm.MethodName) jdk_52_method_91_code (2 : Nat) (Option.none : Option Jvm.ClassFile.FieldType), Jvm.Cond.code ({ cls := "java/lang/StringUTF16", name := "length", desc := "([B)I" } : Jvm.MethodName) jdk_52_method_6_code (1 : Nat) (Option.some Jvm.ClassFile.FieldType.int), Jvm.Cond.code ({ cls := "java/lang/String", name := "checkIndex", desc := "(II)V" } : Jvm.MethodName) jdk_42_method_155_code (2 : Nat) (Option.none : Option Jvm.ClassFile.FieldType), Jvm.Cond.code ({ cls := "jdk/internal/util/Preconditions", name := "checkIndex", desc := "(IILjava/util/function/BiFunction;)I" } : Jvm.MethodName) jdk_41_method_11_code (3 : Nat) (Option.some Jvm.ClassFile.FieldType.int), Jvm.Cond.code ({ cls := "java/lang/Character", name := "isHighSurrogate", desc := "(C)Z" } : Jvm.MethodName) jdk_89_method_14_code (1 : Nat) (Option.some Jvm.ClassFile.FieldType.boolean), Jvm.Cond.code ({ cls := "java/lang/Character", name := "isLowSurrogate", desc := "(C)Z" } : Jvm.MethodName) jdk_89_method_15_code (1 : Nat) (Option.some Jvm.ClassFile.FieldType.boolean), Jvm.Cond.code ({ cls := "java/lang/StringLatin1", name := "charAt", desc := "([BI)C" } : Jvm.MethodName) jdk_43_method_2_code (2 : Nat) (Option.some Jvm.ClassFile.FieldType.char)]
set_option maxRecDepth 65536 in
theorem codes_eq : words1.filter isCode = codes1 := rfl
theorem w_codes : ∀ c ∈ words1.filter isCode, c.before args0 about1 = true := by
  rw [codes_eq]
  intro c hc
  simp only [codes1, List.mem_cons, List.not_mem_nil, or_false] at hc
  rcases hc with rfl | rfl | rfl | rfl | rfl | rfl | rfl | rfl | rfl | rfl | rfl | rfl | rfl | rfl | rfl | rfl | rfl | rfl | rfl | rfl | rfl | rfl | rfl | rfl | rfl | rfl | rfl | rfl | rfl | rfl
  · exact w_c0
  · exact w_c1
  · exact w_c2
  · exact w_c3
  · exact w_c4
  · exact w_c5
  · exact w_c6
  · exact w_c7
  · exact w_c8
  · exact w_c9
  · exact w_c10
  · exact w_c11
  · exact w_c12
  · exact w_c13
  · exact w_c14
  · exact w_c15
  · exact w_c16
  · exact w_c17
  · exact w_c18
  · exact w_c19
  · exact w_c20
  · exact w_c21
  · exact w_c22
  · exact w_c23
  · exact w_c24
  · exact w_c25
  · exact w_c26
  · exact w_c27
  · exact w_c28
  · exact w_c29
set_option maxRecDepth 65536 in
theorem w_t1 : (words1.take 24).all (fun c => isCode c || c.before args0 about1) = true := by decide +kernel
set_option maxRecDepth 65536 in
theorem w_t2 : ((words1.drop 24).take 24).all (fun c => isCode c || c.before args0 about1) = true := by decide +kernel
set_option maxRecDepth 65536 in
theorem w_t3 : (((words1.drop 24).drop 24).take 24).all (fun c => isCode c || c.before args0 about1) = true := by decide +kernel
set_option maxRecDepth 65536 in
theorem w_t4 : ((((words1.drop 24).drop 24).drop 24).take 24).all (fun c => isCode c || c.before args0 about1) = true := by decide +kernel
set_option maxRecDepth 65536 in
theorem w_t5 : (((((words1.drop 24).drop 24).drop 24).drop 24).take 24).all (fun c => isCode c || c.before args0 about1) = true := by decide +kernel
set_option maxRecDepth 65536 in
theorem w_t6 : (((((words1.drop 24).drop 24).drop 24).drop 24).drop 24).all (fun c => isCode c || c.before args0 about1) = true := by decide +kernel
theorem w_tables : (allAtoms (Jvm.Cond.code x code maxLocals ret :: tables_1)).before args0 about1 = true := by
  rw [allAtoms_all]
  show words1.all (fun c => c.before args0 about1) = true
  refine all_split ?_ w_codes
  rw [← List.take_append_drop 24 words1, List.all_append, w_t1, ← List.take_append_drop 24 (words1.drop 24), List.all_append, w_t2, ← List.take_append_drop 24 ((words1.drop 24).drop 24), List.all_append, w_t3, ← List.take_append_drop 24 (((words1.drop 24).drop 24).drop 24), List.all_append, w_t4, ← List.take_append_drop 24 ((((words1.drop 24).drop 24).drop 24).drop 24), List.all_append, w_t5, w_t6]
  rfl
set_option maxRecDepth 65536 in
theorem w_rest : rest_1_c.before args0 about1 = true := by decide +kernel
set_option maxRecDepth 65536 in
theorem w_case : (Jvm.Cond.and given_1 narrow_1).before args0 about1 = true := by decide +kernel
set_option maxRecDepth 65536 in
theorem w_consts : constsHeld consts_1 about1 := Jvm.Lit.constsHeldB_iff.mp (by decide +kernel)
theorem w_applies : (headSpec (Jvm.Cond.code x code maxLocals ret :: tables_1) room_1).applies x e0.platform about1 = true :=
  (Spec.applies_iff w_frames).mpr ⟨w_running, w_runnable, w_alone, w_named, w_hears, w_ripe, w_room, w_tables⟩
theorem atStart : AtStart classFile x code maxLocals ret World_1 tables_1 room_1 Calls_1 rest_1 Pre_1 launch0 p0 e0 about1 theMethod args0 below0 :=
  ⟨lists_1, trivial, launch0.admits_env _ _ _, launch0.least_env, fairChoices_fair.cas, fairChoices_fair.clock, w_frames, w_args, w_heap, w_applies, ⟨w_consts, trivial⟩, w_rest, w_case⟩
end start1
theorem witness_1 : WitnessClaimed_1 := ⟨start1.p0, start1.e0, start1.about1, start1.theMethod, start1.args0, start1.below0, start1.atStart⟩
end Jvm.Pilot.@@N@@
