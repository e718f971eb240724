import JvmDerived
import JvmDerived.Pilot.@@N@@Statement
import JvmDerived.Pilot.@@N@@Code
set_option linter.unusedVariables false
set_option linter.unusedSimpArgs false
namespace Jvm.RoadKit
open Sem ClassFile Op Lib Jvm.Stand Jvm.Free Jvm.LawKit
section New
variable {p : Program} {l : Launch} {e : Env} {R : Room} {s : State} {m : MethodId} {args : Array Value} {below : List Frame} {meth : Method} {c : Code} {T : State} {locs : List Loc} {cells slots : Nat}
theorem retI (X : Stand p l e R s m args below meth c T locs cells slots) (hx : p.tables.exec = Jvm.exec) {pc : Nat} {Ls : Array Slot} {z : Int32} {rest : List Value} (hret : meth.sig.returnType = some .int) (hd : decode c.code pc = .ok (.ireturn, 1)) {fs : List Frame}
    (hl : ∀ (f : JFrame) (acts : List Action), f.method = m → f.locked = none → f.entered = [] → (doReturn e (T.setTop f) acts (some (.int z))).1 = T.setFrames fs) : Steps p.tables e below (T.setTop (mkF m pc Ls (.int z :: rest))) (T.setFrames fs) := by
  have hm' : T.vm.method? m = some meth := X.method'
  have hn : narrow .int (.int z) = .int z := rfl
  show Steps p.tables e below (T.setTop { method := m, pc := pc, locals := Ls, stack := _ :: rest, locked := none }) _
  jvm_step X.here [X.here.top, hx, hd, hm', hret, hn]
  first | (intro acts; rw [hl _ acts rfl rfl rfl]) | rw [hl _ _ rfl rfl rfl]
  exact Steps.refl _
end New
end Jvm.RoadKit
namespace Jvm.Pilot.@@N@@
open Jvm Jvm.ClassFile Sem Op Lib Jvm.Free Jvm.Stand Jvm.LawKit Jvm.RoadKit Bundle Jvm.Pilot.@@N@@.Jvm.D
def own_b (c : Int32) : Int32 := nar .byte c.toInt8.toInt32
def own_wl (c : Int32) : Int32 := nar .byte (c >>> ((0 : Int32) &&& 31)).toInt8.toInt32
def own_wh (c : Int32) : Int32 := nar .byte (c >>> ((8 : Int32) &&& 31)).toInt8.toInt32
def own_nrw (cs : List Int32) : List Value := cs.map fun c => Value.int (own_b c)
def own_wide : List Int32 → List Value
  | [] => []
  | c :: r => .int (own_wl c) :: .int (own_wh c) :: own_wide r
def own_Cod (cs : List Int32) (cd z : Int32) (vs : List Value) : Prop := (cd = 0 ∧ z = Int32.ofNat cs.length ∧ vs = own_nrw cs ∧ ∀ c ∈ cs, ¬ (255 : Int32) < c) ∨ (cd = 1 ∧ z = Int32.ofNat (2 * cs.length) ∧ vs = own_wide cs)
def own_Chs (cs : List Int32) : Prop := (∀ c ∈ cs, ¬ c < (0 : Int32) ∧ ¬ (65535 : Int32) < c) ∧ cs.length < 1000
def own_Str (Z : State) (h : Heap) (x : Addr) (cs : List Int32) : Prop := ∃ (t : Addr) (k : ClassId) (cd z : Int32) (vs : List Value), Exa Z h x "java/lang/String" ∧ Fld Z h x "java/lang/String" "value" "[B" (.ref t) ∧ Fld Z h x "java/lang/String" "coder" "B" (.int cd) ∧ Arv Z h t k .byte z vs (.int (0 : Int32)) ∧ own_Cod cs cd z vs ∧ own_Chs cs
theorem own_Str.exa {Z : State} {h : Heap} {x : Addr} {cs : List Int32} (F : own_Str Z h x cs) : Exa Z h x "java/lang/String" := by obtain ⟨_, _, _, _, _, E, -⟩ := F; exact E
theorem own_Str.lt {Z : State} {h : Heap} {x : Addr} {cs : List Int32} (F : own_Str Z h x cs) : x < h.size := F.exa.lt
theorem own_Str.ext {Z : State} {h h' : Heap} {x : Addr} {cs : List Int32} (F : own_Str Z h x cs) (E : Ext h h') : own_Str Z h' x cs := by
  obtain ⟨t, k, cd, z, vs, e, f, g, a, r⟩ := F; exact ⟨t, k, cd, z, vs, e.ext E, f.ext E, g.ext E, a.ext E, r⟩
theorem own_Str.keep {Z : State} {h h' : Heap} {x : Addr} {cs : List Int32} {ws : List Addr} (F : own_Str Z h x cs) (K : Keep h h' ws) (q : ∀ w ∈ ws, h.size ≤ w) : own_Str Z h' x cs := by
  obtain ⟨t, k, cd, z, vs, e, f, g, a, r⟩ := F
  have n1 : x ∉ ws := fun hx => absurd e.lt (Nat.not_lt.mpr (q x hx))
  have n2 : t ∉ ws := fun hx => absurd a.lt (Nat.not_lt.mpr (q t hx))
  exact ⟨t, k, cd, z, vs, e.keep K, f.keep K n1, g.keep K n1, a.keep K n2, r⟩
theorem own_ofI {n : Nat} (h : n < 2 ^ 31) : (Int32.ofNat n).toInt = n := Int32.toInt_ofNat_of_lt h
theorem own_getb : ∀ (cs : List Int32) (j : Nat), j < cs.length → (own_nrw cs).getD j (.int (0 : Int32)) = .int (own_b (cs.getD j 0))
  | [], _, h => nomatch h
  | _ :: _, 0, _ => rfl
  | _ :: r, j + 1, h => own_getb r j (Nat.lt_of_succ_lt_succ h)
theorem own_getw : ∀ (cs : List Int32) (j : Nat), j < cs.length → (own_wide cs).getD (2 * j) (.int (0 : Int32)) = .int (own_wl (cs.getD j 0)) ∧ (own_wide cs).getD (2 * j + 1) (.int (0 : Int32)) = .int (own_wh (cs.getD j 0))
  | [], _, h => nomatch h
  | _ :: _, 0, _ => ⟨rfl, rfl⟩
  | _ :: r, j + 1, h => own_getw r j (Nat.lt_of_succ_lt_succ h)
theorem own_mem {cs : List Int32} {j : Nat} (h : j < cs.length) : cs.getD j 0 ∈ cs := by rw [List.getD_eq_getElem?_getD, List.getElem?_eq_getElem h]; exact List.getElem_mem h
theorem own_narc {c : Int32} (h : ¬ c < (0 : Int32) ∧ ¬ (65535 : Int32) < c) : nar .char c = c := by
  have q := c_i2c c
  have e0 : (0 : Int32).toInt = 0 := by decide
  have e1 : (65535 : Int32).toInt = 65535 := by decide
  simp only [Int32.lt_iff_toInt_lt] at h
  exact Int32.toInt_inj.mp (by show (c.toUInt32.toUInt16.toUInt32.toInt32).toInt = _; omega)
theorem own_rec8 {c : Int32} (h0 : ¬ c < (0 : Int32)) (h1 : ¬ (255 : Int32) < c) : nar .char (own_b c &&& (255 : Int32)).toUInt32.toUInt16.toUInt32.toInt32 = c := by
  have e0 : (0 : Int32).toInt = 0 := by decide
  have e1 : (255 : Int32).toInt = 255 := by decide
  simp only [Int32.lt_iff_toInt_lt] at h0 h1
  have a1 := c_i2b c
  have a2 := c_i2b c.toInt8.toInt32
  have a3 := c_mask (own_b c) 255 8 (by decide) (by decide)
  have e : own_b c = (c.toInt8.toInt32).toInt8.toInt32 := rfl
  rw [← e] at a2
  have a4 := c_i2c (own_b c &&& 255)
  have hh : (own_b c &&& (255 : Int32)).toUInt32.toUInt16.toUInt32.toInt32 = c := Int32.toInt_inj.mp (by omega)
  rw [hh]; exact own_narc ⟨by simp only [Int32.lt_iff_toInt_lt]; omega, by
    have e2 : (65535 : Int32).toInt = 65535 := by decide
    simp only [Int32.lt_iff_toInt_lt]; omega⟩
theorem own_len0 {n : Nat} (h : n < 1000) : Int32.ofNat n = Int32.ofNat n >>> ((0 : Int32) &&& 31) := by
  have a := c_ishr (Int32.ofNat n) 0 0 (by decide)
  exact Int32.toInt_inj.mp (by rw [a]; simp)
theorem own_len1 {n : Nat} (h : n < 1000) : Int32.ofNat n = Int32.ofNat (2 * n) >>> ((1 : Int32) &&& 31) := by
  have a := c_ishr (Int32.ofNat (2 * n)) 1 1 (by decide)
  exact Int32.toInt_inj.mp (by rw [a, own_ofI (by omega), own_ofI (by omega)]; omega)
theorem own_inr {i : Int32} {n : Nat} (h0 : ¬ i < 0) (h : i.toNatClampNeg < n) (hn : n < 1000) : i < Int32.ofNat n := by
  have := nat_of h0
  rw [Int32.lt_iff_toInt_lt, own_ofI (by omega)]; omega
theorem own_jin {i : Int32} {j : Nat} (hi : i = Int32.ofNat j) (hj : j < 2000) : ¬ i < (0 : Int32) ∧ i.toNatClampNeg = j := by
  subst hi
  have e0 : (0 : Int32).toInt = 0 := by decide
  have e := own_ofI (n := j) (by omega)
  simp only [Int32.lt_iff_toInt_lt, Int32.toNatClampNeg]; omega
theorem own_ofne {j n : Nat} (h : j < n) (hn : n < 1000) : ¬ Int32.ofNat j = Int32.ofNat n := fun q => by
  have e1 := own_ofI (n := j) (by omega)
  have e2 := own_ofI (n := n) (by omega)
  rw [q] at e1; omega
theorem own_shl {i : Int32} {n : Nat} (h0 : ¬ i < 0) (h : i.toNatClampNeg < n) (hn : n < 1000) : (i <<< ((1 : Int32) &&& 31)).toNatClampNeg = 2 * i.toNatClampNeg ∧ ((i <<< ((1 : Int32) &&& 31)) + (1 : Int32)).toNatClampNeg = 2 * i.toNatClampNeg + 1 ∧ (¬ (i <<< ((1 : Int32) &&& 31)) < 0 ∧ (i <<< ((1 : Int32) &&& 31)) < Int32.ofNat (2 * n)) ∧ (¬ ((i <<< ((1 : Int32) &&& 31)) + (1 : Int32)) < 0 ∧ ((i <<< ((1 : Int32) &&& 31)) + (1 : Int32)) < Int32.ofNat (2 * n)) := by
  have a := nat_of h0
  have b := c_ishl i 1 1 (by decide)
  have r := rng32 (i <<< ((1 : Int32) &&& 31))
  have c := c_iadd (i <<< ((1 : Int32) &&& 31)) 1
  have r2 := rng32 ((i <<< ((1 : Int32) &&& 31)) + 1)
  have e0 : (0 : Int32).toInt = 0 := by decide
  have e1 : (1 : Int32).toInt = 1 := by decide
  have e2 := own_ofI (n := 2 * n) (by omega)
  simp only [Int32.lt_iff_toInt_lt, Int32.toNatClampNeg] at *
  refine ⟨?_, ?_, ⟨?_, ?_⟩, ?_, ?_⟩ <;> omega
theorem own_rec16 {c : Int32} (h0 : ¬ c < (0 : Int32)) (h1 : ¬ (65535 : Int32) < c) : nar .char (((own_wl c &&& (255 : Int32)) <<< ((0 : Int32) &&& 31)) ||| ((own_wh c &&& (255 : Int32)) <<< ((8 : Int32) &&& 31))).toUInt32.toUInt16.toUInt32.toInt32 = c := by
  have e0 : (0 : Int32).toInt = 0 := by decide
  have e1 : (65535 : Int32).toInt = 65535 := by decide
  have hc : ¬ c < (0 : Int32) ∧ ¬ (65535 : Int32) < c := ⟨h0, h1⟩
  simp only [Int32.lt_iff_toInt_lt] at h0 h1
  have s0 := c_ishr c 0 0 (by decide)
  have s8 := c_ishr c 8 8 (by decide)
  have a1 := c_i2b (c >>> ((0 : Int32) &&& 31))
  have a2 := c_i2b (c >>> ((0 : Int32) &&& 31)).toInt8.toInt32
  have a3 := c_i2b (c >>> ((8 : Int32) &&& 31))
  have a4 := c_i2b (c >>> ((8 : Int32) &&& 31)).toInt8.toInt32
  have el : own_wl c = ((c >>> ((0 : Int32) &&& 31)).toInt8.toInt32).toInt8.toInt32 := rfl
  have eh : own_wh c = ((c >>> ((8 : Int32) &&& 31)).toInt8.toInt32).toInt8.toInt32 := rfl
  rw [← el] at a2; rw [← eh] at a4
  have m1 := c_mask (own_wl c) 255 8 (by decide) (by decide)
  have m2 := c_mask (own_wh c) 255 8 (by decide) (by decide)
  have l0 := c_ishl (own_wl c &&& 255) 0 0 (by decide)
  have l8 := c_ishl (own_wh c &&& 255) 8 8 (by decide)
  have r0 := rng32 ((own_wl c &&& 255) <<< ((0 : Int32) &&& 31))
  have r8 := rng32 ((own_wh c &&& 255) <<< ((8 : Int32) &&& 31))
  have o := c_or' ((own_wl c &&& 255) <<< ((0 : Int32) &&& 31)) ((own_wh c &&& 255) <<< ((8 : Int32) &&& 31)) 8 (by decide) 256 (by decide) (by omega) (by omega) (by omega)
  have ro := rng32 (((own_wl c &&& 255) <<< ((0 : Int32) &&& 31)) ||| ((own_wh c &&& 255) <<< ((8 : Int32) &&& 31)))
  have ch := c_i2c (((own_wl c &&& 255) <<< ((0 : Int32) &&& 31)) ||| ((own_wh c &&& 255) <<< ((8 : Int32) &&& 31)))
  have hh : (((own_wl c &&& (255 : Int32)) <<< ((0 : Int32) &&& 31)) ||| ((own_wh c &&& (255 : Int32)) <<< ((8 : Int32) &&& 31))).toUInt32.toUInt16.toUInt32.toInt32 = c := Int32.toInt_inj.mp (by omega)
  rw [hh]; exact own_narc hc
def own_St (Z : State) (zc : Int32) (fm : Value) : Prop := Sta Z Z.heap "java/lang/String" "COMPACT_STRINGS" "Z" (.int zc) ∧ ¬ zc = (0 : Int32) ∧ Sta Z Z.heap "jdk/internal/util/Preconditions" "SIOOBE_FORMATTER" "Ljava/util/function/BiFunction;" fm ∧ fm.isRef = true ∧ Sta Z Z.heap "java/lang/StringUTF16" "$assertionsDisabled" "Z" (.int (1 : Int32)) ∧ Sta Z Z.heap "java/lang/StringUTF16" "HI_BYTE_SHIFT" "I" (.int (0 : Int32)) ∧ Sta Z Z.heap "java/lang/StringUTF16" "LO_BYTE_SHIFT" "I" (.int (8 : Int32))
theorem own_allc {P : Int32 → Prop} {c : Int32} {L : List Int32} (h : P c) (r : ∀ x ∈ L, P x) : ∀ x ∈ c :: L, P x := fun x hx => (List.mem_cons.mp hx).elim (fun u => u ▸ h) (r x)
theorem own_nrwOf {Z : State} {h : Heap} {x : Addr} (F : Fld Z h x "java/lang/String" "coder" "B" (.int (0 : Int32))) : ∀ (t : Addr) (cd : Int32), Fld Z h x "java/lang/String" "coder" "B" (.int cd) → ¬ cd = 1 := fun _ cd G e => by
  subst e
  obtain ⟨c1, _, _, _, _, h1, h2, -, -, -, -, h7⟩ := F
  obtain ⟨c2, _, _, _, _, g1, g2, -, -, -, -, g7⟩ := G
  cases h1.symm.trans g1; cases h2.symm.trans g2; cases h7.symm.trans g7
def own_ma (cs : List Int32) : Nat → Nat → Int32
  | 0, _ => -1
  | k + 1, j => if j < cs.length then (if (¬ (cs.getD j 0) < (55296 : Int32) ∧ (cs.getD j 0) < (56320 : Int32)) then own_ma cs k (j + 2) else if (¬ (cs.getD j 0) < (56320 : Int32) ∧ (cs.getD j 0) < (57344 : Int32)) then Int32.ofNat j else own_ma cs k (j + 1)) else -1
theorem own_os {z0 z1 : Value} {s2 : Slot} {v : Int32} (h : One s2) : storeLocals #[.val z0, .val z1, s2] 2 (.int v) = some #[.val z0, .val z1, .val (.int v)] := by
  rcases h with rfl | ⟨w, rfl, hw⟩
  · rfl
  · cases w <;> first | rfl | (simp [Value.category] at hw)
theorem own_jlt {i : Int32} {j n : Nat} (hi : i = Int32.ofNat j) (hj : j < 2000) (hn : n < 1000) : i < Int32.ofNat n ↔ j < n := by
  subst hi; rw [Int32.lt_iff_toInt_lt, own_ofI (by omega), own_ofI (by omega)]; omega
theorem own_jup {i : Int32} {j : Nat} (hi : i = Int32.ofNat j) (hj : j < 2000) : i + (1 : Int32) = Int32.ofNat (j + 1) := by
  subst hi
  have e1 : (1 : Int32).toInt = 1 := by decide
  have e := own_ofI (n := j) (by omega)
  have e' := own_ofI (n := j + 1) (by omega)
  have a := c_iadd (Int32.ofNat j) 1
  have r := rng32 (Int32.ofNat j + 1)
  exact Int32.toInt_inj.mp (by omega)
def own_mal : List Int32 → Nat → Int32
  | [], _ => -1
  | [c], j => if (¬ c < (55296 : Int32) ∧ c < (56320 : Int32)) then -1 else if (¬ c < (56320 : Int32) ∧ c < (57344 : Int32)) then Int32.ofNat j else -1
  | c :: d :: r, j => if (¬ c < (55296 : Int32) ∧ c < (56320 : Int32)) then own_mal r (j + 2) else if (¬ c < (56320 : Int32) ∧ c < (57344 : Int32)) then Int32.ofNat j else own_mal (d :: r) (j + 1)
theorem own_mal1 {c : Int32} {r : List Int32} {j : Nat} (h1 : ¬ (¬ c < (55296 : Int32) ∧ c < (56320 : Int32))) (h2 : ¬ (¬ c < (56320 : Int32) ∧ c < (57344 : Int32))) : own_mal (c :: r) j = own_mal r (j + 1) := by
  cases r with
  | nil => simp only [own_mal, if_neg h1, if_neg h2]
  | cons d r => simp only [own_mal, if_neg h1, if_neg h2]
theorem own_mal2 {c : Int32} {r : List Int32} {j : Nat} (h1 : ¬ (¬ c < (55296 : Int32) ∧ c < (56320 : Int32))) (h2 : (¬ c < (56320 : Int32) ∧ c < (57344 : Int32))) : own_mal (c :: r) j = Int32.ofNat j := by
  cases r with
  | nil => simp only [own_mal, if_neg h1, if_pos h2]
  | cons d r => simp only [own_mal, if_neg h1, if_pos h2]
theorem own_mal_eq (cs : List Int32) : ∀ (k j : Nat), cs.length < j + k → own_ma cs k j = own_mal (cs.drop j) j := by
  intro k; induction k with
  | zero => intro j h; rw [List.drop_eq_nil_of_le (by omega)]; rfl
  | succ k ih =>
    intro j h
    by_cases hj : j < cs.length
    · have hd : cs.drop j = cs.getD j 0 :: cs.drop (j + 1) := by
        rw [List.getD_eq_getElem?_getD, List.getElem?_eq_getElem hj]; exact List.drop_eq_getElem_cons hj
      rw [own_ma, if_pos hj, hd]
      by_cases h1 : (¬ (cs.getD j 0) < (55296 : Int32) ∧ (cs.getD j 0) < (56320 : Int32))
      · rw [if_pos h1, ih _ (by omega)]
        by_cases hj2 : j + 1 < cs.length
        · have hd2 : cs.drop (j + 1) = cs.getD (j + 1) 0 :: cs.drop (j + 2) := by
            rw [List.getD_eq_getElem?_getD, List.getElem?_eq_getElem hj2]; exact List.drop_eq_getElem_cons hj2
          rw [hd2, own_mal, if_pos h1]
        · rw [List.drop_eq_nil_of_le (as := cs) (i := j + 1) (by omega), List.drop_eq_nil_of_le (by omega)]
          simp only [own_mal, if_pos h1]
      · rw [if_neg h1]
        by_cases h2 : (¬ (cs.getD j 0) < (56320 : Int32) ∧ (cs.getD j 0) < (57344 : Int32))
        · rw [if_pos h2, own_mal2 h1 h2]
        · rw [if_neg h2, own_mal1 h1 h2, ih _ (by omega)]
    · rw [own_ma, if_neg hj, List.drop_eq_nil_of_le (by omega)]; rfl
theorem own_hi {c : Int32} (h : 55296 ≤ c.toInt ∧ c.toInt < 56320) : (¬ c < (55296 : Int32) ∧ c < (56320 : Int32)) := by
  have e1 : (55296 : Int32).toInt = 55296 := by decide
  have e2 : (56320 : Int32).toInt = 56320 := by decide
  simp only [Int32.lt_iff_toInt_lt]; omega
theorem own_nhi {c : Int32} (h : c.toInt < 55296 ∨ 56320 ≤ c.toInt) : ¬ (¬ c < (55296 : Int32) ∧ c < (56320 : Int32)) := by
  have e1 : (55296 : Int32).toInt = 55296 := by decide
  have e2 : (56320 : Int32).toInt = 56320 := by decide
  simp only [Int32.lt_iff_toInt_lt]; omega
theorem own_lo {c : Int32} (h : 56320 ≤ c.toInt ∧ c.toInt < 57344) : (¬ c < (56320 : Int32) ∧ c < (57344 : Int32)) := by
  have e1 : (57344 : Int32).toInt = 57344 := by decide
  have e2 : (56320 : Int32).toInt = 56320 := by decide
  simp only [Int32.lt_iff_toInt_lt]; omega
theorem own_nlo {c : Int32} (h : c.toInt < 56320 ∨ 57344 ≤ c.toInt) : ¬ (¬ c < (56320 : Int32) ∧ c < (57344 : Int32)) := by
  have e1 : (57344 : Int32).toInt = 57344 := by decide
  have e2 : (56320 : Int32).toInt = 56320 := by decide
  simp only [Int32.lt_iff_toInt_lt]; omega
theorem own_IB {Z s : State} {vm : Vm} (hI : s.vm.interned = Z.vm.interned) (hW : s.WarmedH vm) : IB Z vm [] := ⟨#[], by rw [hW.interned_eq, hI]; simp, fun q hq => by simp at hq⟩
theorem own_wS {a0 : Array Value} {Z : State} (hw : ∀ d ∈ tables_1, d.before a0 Z = true) : ∀ a ∈ Bundle.stringAtoms, a.before a0 Z = true := by
  intro a ha
  simp only [Bundle.stringAtoms, Bundle.sN, List.mem_cons, List.not_mem_nil, or_false] at ha
  rcases ha with rfl | rfl | rfl | rfl | rfl | rfl | rfl
  · exact (hw _ (List.mem_of_getElem? (i := 1) rfl))
  · exact (hw _ (List.mem_of_getElem? (i := 2) rfl))
  · exact (hw _ (List.mem_of_getElem? (i := 3) rfl))
  · exact (hw _ (List.mem_of_getElem? (i := 4) rfl))
  · exact (hw _ (List.mem_of_getElem? (i := 5) rfl))
  · exact (hw _ (List.mem_of_getElem? (i := 6) rfl))
  · exact (hw _ (List.mem_of_getElem? (i := 7) rfl))
theorem own_sti {args : Array Value} {s : State} {C n d : String} {k : Int32} (h : (Jvm.Cond.eq (.static C n d) (.int k)).value args s none s [] = some true) : (Term.static C n d).eval args s none [] s = some (.int k) := by
  simp only [Cond.value, Term.int_eval] at h
  cases hq : (Term.static C n d).eval args s none [] s with
  | none => simp [hq] at h
  | some v => cases v <;> simp [hq] at h ⊢; exact h
def own_pl (x : Int32) : Int32 := nar .char (if x < (55296 : Int32) then (x.toUInt32.toUInt16.toUInt32.toInt32) else if (57343 : Int32) < x then (x.toUInt32.toUInt16.toUInt32.toInt32) else ((x - (2048 : Int32)).toUInt32.toUInt16.toUInt32.toInt32))
def own_x (p : Int32) : Int32 := own_pl (((p.toUInt32 >>> ((10 : Int32) &&& 31).toUInt32).toInt32) &&& (65535 : Int32))
def own_e (p : Int32) : Int32 := (((56320 : Int32) + (((p.toUInt32 >>> ((2 : Int32) &&& 31).toUInt32).toInt32) &&& (255 : Int32))).toUInt32.toUInt16.toUInt32.toInt32)
def own_h (p : Int32) : Int32 := (((55296 : Int32) + (((p.toUInt32 >>> ((10 : Int32) &&& 31).toUInt32).toInt32) &&& (1023 : Int32))).toUInt32.toUInt16.toUInt32.toInt32)
def own_l (p : Int32) : Int32 := (((56320 : Int32) + (((p.toUInt32 >>> ((20 : Int32) &&& 31).toUInt32).toInt32) &&& (1023 : Int32))).toUInt32.toUInt16.toUInt32.toInt32)
def own_k (p : Int32) : Int32 := (p &&& (3 : Int32))
def own_pa (p : Int32) : Int32 := nar .char (if own_k p = 0 then own_x p else if own_k p = 1 then own_h p else if own_k p = 2 then own_e p else own_x p)
def own_pb (p : Int32) : Int32 := nar .char (if own_k p = 0 then own_x p else if own_k p = 1 then own_l p else if own_k p = 2 then own_x p else own_e p)
def own_exp (p : Int32) : Int32 := if own_k p < 2 then -1 else (((p.toUInt32 >>> ((2 : Int32) &&& 31).toUInt32).toInt32) &&& (255 : Int32))
theorem own_i2c {x : Int32} (h : 0 ≤ x.toInt ∧ x.toInt < 65536) : x.toUInt32.toUInt16.toUInt32.toInt32 = x := by
  have a := c_i2c x
  exact Int32.toInt_inj.mp (by omega)
theorem own_nari {x : Int32} (h : 0 ≤ x.toInt ∧ x.toInt < 65536) : nar .char x = x := own_i2c h
theorem own_xr (p : Int32) : 0 ≤ (own_x p).toInt ∧ (own_x p).toInt < 65536 ∧ ((own_x p).toInt < 55296 ∨ 57344 ≤ (own_x p).toInt) := by
  have m := c_mask ((p.toUInt32 >>> ((10 : Int32) &&& 31).toUInt32).toInt32) 65535 16 (by decide) (by decide)
  unfold own_x; generalize ((p.toUInt32 >>> ((10 : Int32) &&& 31).toUInt32).toInt32 &&& (65535 : Int32)) = x at *
  have e1 : (55296 : Int32).toInt = 55296 := by decide
  have e2 : (57343 : Int32).toInt = 57343 := by decide
  have e3 : (2048 : Int32).toInt = 2048 := by decide
  have s := c_isub x 2048
  have r := rng32 (x - 2048)
  unfold own_pl; simp only [Int32.lt_iff_toInt_lt]
  by_cases h1 : x.toInt < (55296 : Int32).toInt
  · rw [if_pos h1, own_i2c (by omega), own_nari (by omega)]; omega
  · rw [if_neg h1]
    by_cases h2 : (57343 : Int32).toInt < x.toInt
    · rw [if_pos h2, own_i2c (by omega), own_nari (by omega)]; omega
    · rw [if_neg h2, own_i2c (by omega), own_nari (by omega)]; omega
theorem own_er (p : Int32) : (own_e p).toInt = 56320 + (((p.toUInt32 >>> ((2 : Int32) &&& 31).toUInt32).toInt32) &&& (255 : Int32)).toInt ∧ 56320 ≤ (own_e p).toInt ∧ (own_e p).toInt < 56576 := by
  have m := c_mask ((p.toUInt32 >>> ((2 : Int32) &&& 31).toUInt32).toInt32) 255 8 (by decide) (by decide)
  unfold own_e; generalize ((p.toUInt32 >>> ((2 : Int32) &&& 31).toUInt32).toInt32 &&& (255 : Int32)) = x at *
  have e1 : (56320 : Int32).toInt = 56320 := by decide
  have s := c_iadd 56320 x
  have r := rng32 (56320 + x)
  rw [own_i2c (by omega)]; omega
theorem own_hr (p : Int32) : 55296 ≤ (own_h p).toInt ∧ (own_h p).toInt < 56320 := by
  have m := c_mask ((p.toUInt32 >>> ((10 : Int32) &&& 31).toUInt32).toInt32) 1023 10 (by decide) (by decide)
  unfold own_h; generalize ((p.toUInt32 >>> ((10 : Int32) &&& 31).toUInt32).toInt32 &&& (1023 : Int32)) = x at *
  have e1 : (55296 : Int32).toInt = 55296 := by decide
  have s := c_iadd 55296 x
  have r := rng32 (55296 + x)
  rw [own_i2c (by omega)]; omega
theorem own_lr (p : Int32) : 56320 ≤ (own_l p).toInt ∧ (own_l p).toInt < 57344 := by
  have m := c_mask ((p.toUInt32 >>> ((20 : Int32) &&& 31).toUInt32).toInt32) 1023 10 (by decide) (by decide)
  unfold own_l; generalize ((p.toUInt32 >>> ((20 : Int32) &&& 31).toUInt32).toInt32 &&& (1023 : Int32)) = x at *
  have e1 : (56320 : Int32).toInt = 56320 := by decide
  have s := c_iadd 56320 x
  have r := rng32 (56320 + x)
  rw [own_i2c (by omega)]; omega
theorem own_par (p : Int32) : ¬ own_pa p < (0 : Int32) ∧ ¬ (65535 : Int32) < own_pa p := by
  have q := c_i2c (if own_k p = 0 then own_x p else if own_k p = 1 then own_h p else if own_k p = 2 then own_e p else own_x p)
  have e0 : (0 : Int32).toInt = 0 := by decide
  have e1 : (65535 : Int32).toInt = 65535 := by decide
  simp only [Int32.lt_iff_toInt_lt]; show ¬ (_ : Int) < _ ∧ ¬ (_ : Int) < _
  unfold own_pa; show ¬ (Int32.toInt (_ : Int32)) < _ ∧ _
  exact ⟨by rw [e0]; exact Int.not_lt.mpr q.2.1, by rw [e1]; have := q.2.2; exact Int.not_lt.mpr (Int.le_of_lt_add_one this)⟩
theorem own_pbr (p : Int32) : ¬ own_pb p < (0 : Int32) ∧ ¬ (65535 : Int32) < own_pb p := by
  have q := c_i2c (if own_k p = 0 then own_x p else if own_k p = 1 then own_l p else if own_k p = 2 then own_x p else own_e p)
  have e0 : (0 : Int32).toInt = 0 := by decide
  have e1 : (65535 : Int32).toInt = 65535 := by decide
  simp only [Int32.lt_iff_toInt_lt]
  unfold own_pb
  exact ⟨by rw [e0]; exact Int.not_lt.mpr q.2.1, by rw [e1]; have := q.2.2; exact Int.not_lt.mpr (Int.le_of_lt_add_one this)⟩
theorem own_kc (p : Int32) : own_k p = 0 ∨ own_k p = 1 ∨ own_k p = 2 ∨ own_k p = 3 := by
  have h := c_mask p 3 2 (by decide) (by decide)
  have q : (own_k p).toInt = 0 ∨ (own_k p).toInt = 1 ∨ (own_k p).toInt = 2 ∨ (own_k p).toInt = 3 := by unfold own_k; omega
  rcases q with q | q | q | q
  · exact Or.inl (Int32.toInt_inj.mp (q.trans (by decide)))
  · exact Or.inr (Or.inl (Int32.toInt_inj.mp (q.trans (by decide))))
  · exact Or.inr (Or.inr (Or.inl (Int32.toInt_inj.mp (q.trans (by decide)))))
  · exact Or.inr (Or.inr (Or.inr (Int32.toInt_inj.mp (q.trans (by decide)))))
theorem own_pair (p : Int32) (r : List Int32) (j : Nat) : (own_k p < 2 → own_exp p = -1 ∧ own_mal (own_pa p :: own_pb p :: r) j = own_mal r (j + 2)) ∧ (¬ own_k p < 2 → ¬ own_exp p < 0 ∧ ((own_mal (own_pa p :: own_pb p :: r) j = Int32.ofNat j ∧ own_pa p - (56320 : Int32) = own_exp p) ∨ (own_mal (own_pa p :: own_pb p :: r) j = Int32.ofNat (j + 1) ∧ own_pb p - (56320 : Int32) = own_exp p))) := by
  have hx := own_xr p
  have he := own_er p
  have hh := own_hr p
  have hl := own_lr p
  have nx : nar .char (own_x p) = own_x p := own_nari (by omega)
  have ne_ : nar .char (own_e p) = own_e p := own_nari (by omega)
  have nh : nar .char (own_h p) = own_h p := own_nari (by omega)
  have nl : nar .char (own_l p) = own_l p := own_nari (by omega)
  have hex : ¬ own_k p < 2 → ¬ own_exp p < 0 ∧ own_e p - (56320 : Int32) = own_exp p := fun h => by
    unfold own_exp; rw [if_neg h]
    have e1 : (56320 : Int32).toInt = 56320 := by decide
    have e0 : (0 : Int32).toInt = 0 := by decide
    have s := c_isub (own_e p) 56320
    have r := rng32 (own_e p - 56320)
    refine ⟨?_, Int32.toInt_inj.mp (by omega)⟩
    simp only [Int32.lt_iff_toInt_lt]; omega
  rcases own_kc p with k | k | k | k
  · have ha : own_pa p = own_x p := by unfold own_pa; rw [k]; exact nx
    have hb : own_pb p = own_x p := by unfold own_pb; rw [k]; exact nx
    refine ⟨fun h => ⟨by unfold own_exp; rw [if_pos h], ?_⟩, fun h => absurd (by rw [k]; decide) h⟩
    rw [ha, hb, own_mal1 (own_nhi (by omega)) (own_nlo (by omega)), own_mal1 (own_nhi (by omega)) (own_nlo (by omega))]
  · have ha : own_pa p = own_h p := by unfold own_pa; rw [k]; exact nh
    have hb : own_pb p = own_l p := by unfold own_pb; rw [k]; exact nl
    refine ⟨fun h => ⟨by unfold own_exp; rw [if_pos h], ?_⟩, fun h => absurd (by rw [k]; decide) h⟩
    rw [ha, hb, own_mal, if_pos (own_hi hh)]
  · have ha : own_pa p = own_e p := by unfold own_pa; rw [k]; exact ne_
    have h2 : ¬ own_k p < 2 := by rw [k]; decide
    refine ⟨fun h => absurd h h2, fun h => ⟨(hex h).1, Or.inl ⟨?_, ?_⟩⟩⟩
    · rw [ha, own_mal2 (own_nhi (by omega)) (own_lo (by omega))]
    · rw [ha]; exact (hex h).2
  · have ha : own_pa p = own_x p := by unfold own_pa; rw [k]; exact nx
    have hb : own_pb p = own_e p := by unfold own_pb; rw [k]; exact ne_
    have h2 : ¬ own_k p < 2 := by rw [k]; decide
    refine ⟨fun h => absurd h h2, fun h => ⟨(hex h).1, Or.inr ⟨?_, ?_⟩⟩⟩
    · rw [ha, hb, own_mal1 (own_nhi (by omega)) (own_nlo (by omega)), own_mal2 (own_nhi (by omega)) (own_lo (by omega))]
    · rw [hb]; exact (hex h).2
def own_mb (cs : List Int32) : Int32 := if own_ma cs (cs.length + 1) 0 < 0 then -1 else cs.getD (own_ma cs (cs.length + 1) 0).toNatClampNeg 0 - (56320 : Int32)
theorem own_fin {L : List Int32} {m : Int32} {j : Nat} (hm : m = Int32.ofNat j) (hj : j < 1000) : (if m < 0 then (-1 : Int32) else L.getD m.toNatClampNeg 0 - (56320 : Int32)) = L.getD j 0 - (56320 : Int32) := by
  have h := own_jin hm (by omega)
  rw [if_neg h.1, h.2]
theorem own_three (p q r : Int32) : own_mb [own_pa p, own_pb p, own_pa q, own_pb q, own_pa r, own_pb r] = (if own_exp p < 0 then (if own_exp q < 0 then own_exp r else own_exp q) else own_exp p) ∧ (¬ own_ma [own_pa p, own_pb p, own_pa q, own_pb q, own_pa r, own_pb r] 7 0 < 0 → (own_ma [own_pa p, own_pb p, own_pa q, own_pb q, own_pa r, own_pb r] 7 0).toNatClampNeg < 6) := by
  have e := own_mal_eq [own_pa p, own_pb p, own_pa q, own_pb q, own_pa r, own_pb r] 7 0 (Nat.le_of_ble_eq_true rfl)
  unfold own_mb
  rw [show ([own_pa p, own_pb p, own_pa q, own_pb q, own_pa r, own_pb r] : List Int32).length + 1 = 7 from rfl, e]
  have H1 := own_pair p [own_pa q, own_pb q, own_pa r, own_pb r] 0
  have H2 := own_pair q [own_pa r, own_pb r] (0 + 2)
  have H3 := own_pair r [] (0 + 2 + 2)
  clear e
  simp only [List.drop_zero]
  generalize own_pa p = a1 at *
  generalize own_pb p = a2 at *
  generalize own_pa q = a3 at *
  generalize own_pb q = a4 at *
  generalize own_pa r = a5 at *
  generalize own_pb r = a6 at *
  generalize own_exp p = x1 at *
  generalize own_exp q = x2 at *
  generalize own_exp r = x3 at *
  by_cases kp : own_k p < 2
  · obtain ⟨ep, mp⟩ := H1.1 kp
    rw [mp, if_pos (show x1 < 0 by rw [ep]; decide)]
    by_cases kq : own_k q < 2
    · obtain ⟨eq, mq⟩ := H2.1 kq
      rw [mq, if_pos (show x2 < 0 by rw [eq]; decide)]
      by_cases kr : own_k r < 2
      · obtain ⟨er, mr⟩ := H3.1 kr
        rw [mr]; exact ⟨(if_pos (show own_mal [] (0 + 2 + 2 + 2) < 0 by decide)).trans er.symm, fun h => absurd (show own_mal [] (0 + 2 + 2 + 2) < 0 by decide) h⟩
      · obtain ⟨er, ⟨mr, vr⟩ | ⟨mr, vr⟩⟩ := H3.2 kr
        · rw [mr]; exact ⟨(own_fin rfl (by decide)).trans vr, fun _ => by decide⟩
        · rw [mr]; exact ⟨(own_fin rfl (by decide)).trans vr, fun _ => by decide⟩
    · obtain ⟨eq, ⟨mq, vq⟩ | ⟨mq, vq⟩⟩ := H2.2 kq
      · rw [mq, if_neg eq]; exact ⟨(own_fin rfl (by decide)).trans vq, fun _ => by decide⟩
      · rw [mq, if_neg eq]; exact ⟨(own_fin rfl (by decide)).trans vq, fun _ => by decide⟩
  · obtain ⟨ep, ⟨mp, vp⟩ | ⟨mp, vp⟩⟩ := H1.2 kp
    · rw [mp, if_neg ep]; exact ⟨(own_fin rfl (by decide)).trans vp, fun _ => by decide⟩
    · rw [mp, if_neg ep]; exact ⟨(own_fin rfl (by decide)).trans vp, fun _ => by decide⟩
theorem pn_com_example_abeyance_abeyance_model_Utf8ReaderMalformedBytePinLaw : plainName "com/example/abeyance/abeyance/model/Utf8ReaderMalformedBytePinLaw" = true := by first | (simp [plainName, overriddenIn]; done) | decide +kernel
theorem pn_com_example_abeyance_abeyance_model_Utf8Reader : plainName "com/example/abeyance/abeyance/model/Utf8Reader" = true := by first | (simp [plainName, overriddenIn]; done) | decide +kernel
theorem pn_java_lang_Character : plainName "java/lang/Character" = true := by first | (simp [plainName, overriddenIn]; done) | decide +kernel
theorem pn_java_lang_StringUTF16 : plainName "java/lang/StringUTF16" = true := by first | (simp [plainName, overriddenIn]; done) | decide +kernel
theorem pn_java_lang_StringLatin1 : plainName "java/lang/StringLatin1" = true := by first | (simp [plainName, overriddenIn]; done) | decide +kernel
theorem pn_java_lang_String : plainName "java/lang/String" = true := by first | (simp [plainName, overriddenIn]; done) | decide +kernel
theorem pn_jdk_internal_util_Preconditions : plainName "jdk/internal/util/Preconditions" = true := by first | (simp [plainName, overriddenIn]; done) | decide +kernel
theorem ef_rmPre (m : MethodId) (p0 : Int32) (p1 : Int32) (fm : Value) (hfm : fm.isRef = true) : entryFrame m #[(.int p0), (.int p1), fm] 3 = mkF m 0 #[.val (.int p0), .val (.int p1), .val fm] [] := by rcases ref_cases hfm with rfl | ⟨z, rfl⟩ <;> first | (simp [entryFrame, mkF, argsToLocals, Value.category]; done) | rfl
theorem d25_0 : decode jdk_41_method_11_code 0 = .ok (.iload_n 0, 1) := by decide +kernel
theorem d25_1 : decode jdk_41_method_11_code 1 = .ok (.ifCond .lt 8, 3) := by decide +kernel
theorem d25_4 : decode jdk_41_method_11_code 4 = .ok (.iload_n 0, 1) := by decide +kernel
theorem d25_5 : decode jdk_41_method_11_code 5 = .ok (.iload_n 1, 1) := by decide +kernel
theorem d25_6 : decode jdk_41_method_11_code 6 = .ok (.if_icmp .lt 10, 3) := by decide +kernel
theorem d25_16 : decode jdk_41_method_11_code 16 = .ok (.iload_n 0, 1) := by decide +kernel
theorem d25_17 : decode jdk_41_method_11_code 17 = .ok (.ireturn, 1) := by decide +kernel
def Q_rmPre (Z : State) (p0 : Int32) (p1 : Int32) (fm : Value) (h0 : Heap) (n0 : Nat) (v : Option Value) (h : Heap) (L : List Loc) : Prop := v = some (.int p0) ∧ Fr n0 L ∧ h = h0
set_option maxRecDepth 65536 in
set_option maxHeartbeats 40000000 in
theorem rmPre (l : Launch) (Z : State) (a0 : Array Value) (hw : ∀ d ∈ tables_1, d.before a0 Z = true) (ws : List Jvm.Cond) (p0 : Int32) (p1 : Int32) (fm : Value) (h0 : Heap) (n0 : Nat) (Z0 : n0 ≤ h0.size) (hfm : fm.isRef = true) (h0_ : ¬ p0 < (0 : Int32)) (h1_ : p0 < p1) :
    MetFree l (⟨"jdk/internal/util/Preconditions", "checkIndex", "(IILjava/util/function/BiFunction;)I"⟩ : MethodName) (head1 (Jvm.Cond.code (⟨"jdk/internal/util/Preconditions", "checkIndex", "(IILjava/util/function/BiFunction;)I"⟩ : MethodName) jdk_41_method_11_code 3 (some .int) :: ws) ({ frames := 0, cells := 0, slots := 0, locals := 0 } : Room)) (fun a U => a = #[(.int p0), (.int p1), fm] ∧ Z.Warmed39 U.vm ∧ U.heap = h0) (fun _ _ _ _ _ => True) (fun _ U o U' => ∃ v L, o = .returned v ∧ Q_rmPre Z p0 p1 fm h0 n0 v U'.heap L ∧ FrameEnd U o U' L ({ frames := 0, cells := 0, slots := 0, locals := 0 } : Room).cells ({ frames := 0, cells := 0, slots := 0, locals := 0 } : Room).slots) := by
  refine MetFree.of_bodySF (plainFor_of_name pn_jdk_internal_util_Preconditions) hisR ?_
  intro p e s m args below meth c s₁ Bd hml0 hP hK
  obtain ⟨rfl, hZ, hh⟩ := hP
  have hx := Bd.exec
  have hby := Bd.bytes
  have hml : c.maxLocals = 3 := hml0
  have hown : s.vm.findClass "jdk/internal/util/Preconditions" = some m.cls := findClass_of_methodNamed Bd.named
  have hnm := (name_of_methodNamed Bd.named Bd.method).1
  have hZo := hZ
  have howno := hown
  have X0 : Stand p l e ({ frames := 0, cells := 0, slots := 0, locals := 0 } : Room) s m #[(.int p0), (.int p1), fm] below meth c s₁ [] 0 0 := Stand.of_body Bd
  have e0 : s₁.heap = h0 := by rw [← hh, Bd.state]; rfl
  have N0 := Fr.nil n0
  have pre0 : ∀ t, Steps p.tables e below (s₁.setTop (mkF m 0 #[.val (.int p0), .val (.int p1), .val fm] [])) t → Steps p.tables e below (s₁.setTop (entryFrame m #[(.int p0), (.int p1), fm] 3)) t := fun t k => castTop (ef_rmPre m p0 p1 fm hfm) k
  obtain ⟨fs, hr, hrun, hended, hW, hsame⟩ := X0.leave (v := some (.int p0)) (fun h => by rw [Bd.returns] at h; cases h)
  refine ⟨_, _, pre0 _ ?_, hrun, hended, _, _, rfl, ?_, ⟨_, rfl⟩, hW, hsame.mono (by decide) (by decide)⟩
  · show Steps p.tables e below (s₁.setTop (mkF m 0 #[.val (.int p0), .val (.int p1), .val fm] [])) _
    refine XS.iloadN X0.here hx rfl (hb hby d25_0) rfl  ?_
    show Steps p.tables e below (s₁.setTop (mkF m 1 #[.val (.int p0), .val (.int p1), .val fm] [(.int p0)])) _
    refine XS.ifNo X0.here hx rfl (hb hby d25_1) rfl ((if0 _ _).trans (flt h0_).1) ?_
    show Steps p.tables e below (s₁.setTop (mkF m 4 #[.val (.int p0), .val (.int p1), .val fm] [])) _
    refine XS.iloadN X0.here hx rfl (hb hby d25_4) rfl  ?_
    show Steps p.tables e below (s₁.setTop (mkF m 5 #[.val (.int p0), .val (.int p1), .val fm] [(.int p0)])) _
    refine XS.iloadN X0.here hx rfl (hb hby d25_5) rfl  ?_
    show Steps p.tables e below (s₁.setTop (mkF m 6 #[.val (.int p0), .val (.int p1), .val fm] [(.int p1), (.int p0)])) _
    refine XS.icmpYes X0.here hx rfl (pc0 := 6) (pc' := 16) rfl (hb hby d25_6) rfl (tlt h1_).1 (by decide) (by decide) ?_
    show Steps p.tables e below (s₁.setTop (mkF m 16 #[.val (.int p0), .val (.int p1), .val fm] [])) _
    refine XS.iloadN X0.here hx rfl (hb hby d25_16) rfl  ?_
    show Steps p.tables e below (s₁.setTop (mkF m 17 #[.val (.int p0), .val (.int p1), .val fm] [(.int p0)])) _
    exact retI X0 hx Bd.returns (hb hby d25_17) hr
  · show Q_rmPre Z p0 p1 fm h0 n0 _ s₁.heap _
    rw [e0]
    exact ⟨rfl, N0, rfl⟩
theorem ef_rmChk (m : MethodId) (p0 : Int32) (p1 : Int32) : entryFrame m #[(.int p0), (.int p1)] 2 = mkF m 0 #[.val (.int p0), .val (.int p1)] [] := by first | (simp [entryFrame, mkF, argsToLocals, Value.category]; done) | rfl
theorem d24_0 : decode jdk_42_method_155_code 0 = .ok (.iload_n 0, 1) := by decide +kernel
theorem d24_1 : decode jdk_42_method_155_code 1 = .ok (.iload_n 1, 1) := by decide +kernel
theorem d24_2 : decode jdk_42_method_155_code 2 = .ok (.getstatic 1053, 3) := by decide +kernel
theorem pd__IILjava_util_function_BiFunction__I : parseMethodDescriptor "(IILjava/util/function/BiFunction;)I" = some ⟨[.int, .int, (.object "java/util/function/BiFunction")], some .int⟩ := by decide +kernel
theorem d24_5 : decode jdk_42_method_155_code 5 = .ok (.invokestatic 1059, 3) := by decide +kernel
theorem d24_8 : decode jdk_42_method_155_code 8 = .ok (.pop, 1) := by decide +kernel
theorem d24_9 : decode jdk_42_method_155_code 9 = .ok (.return_, 1) := by decide +kernel
def Q_rmChk (Z : State) (p0 : Int32) (p1 : Int32) (zc : Int32) (fm : Value) (h0 : Heap) (n0 : Nat) (v : Option Value) (h : Heap) (L : List Loc) : Prop := v = none ∧ Fr n0 L ∧ h = h0
set_option maxRecDepth 65536 in
set_option maxHeartbeats 40000000 in
theorem rmChk (l : Launch) (Z : State) (a0 : Array Value) (hw : ∀ d ∈ tables_1, d.before a0 Z = true) (ws : List Jvm.Cond) (p0 : Int32) (p1 : Int32) (zc : Int32) (fm : Value) (h0 : Heap) (n0 : Nat) (Z0 : n0 ≤ h0.size) (hSt : own_St Z zc fm) (Ol : Old Z n0 h0) (h0_ : ¬ p0 < (0 : Int32)) (h1_ : p0 < p1) :
    MetFree l (⟨"java/lang/String", "checkIndex", "(II)V"⟩ : MethodName) (head1 (Jvm.Cond.code (⟨"java/lang/String", "checkIndex", "(II)V"⟩ : MethodName) jdk_42_method_155_code 2 none :: ws) ({ frames := 1, cells := 0, slots := 0, locals := 14 } : Room)) (fun a U => a = #[(.int p0), (.int p1)] ∧ Z.Warmed39 U.vm ∧ U.heap = h0) (fun _ _ _ _ _ => True) (fun _ U o U' => ∃ v L, o = .returned v ∧ Q_rmChk Z p0 p1 zc fm h0 n0 v U'.heap L ∧ FrameEnd U o U' L ({ frames := 1, cells := 0, slots := 0, locals := 14 } : Room).cells ({ frames := 1, cells := 0, slots := 0, locals := 14 } : Room).slots) := by
  refine MetFree.of_bodySF (plainFor_of_name pn_java_lang_String) hisR ?_
  intro p e s m args below meth c s₁ Bd hml0 hP hK
  obtain ⟨rfl, hZ, hh⟩ := hP
  have hx := Bd.exec
  have hby := Bd.bytes
  have hml : c.maxLocals = 2 := hml0
  have hown : s.vm.findClass "java/lang/String" = some m.cls := findClass_of_methodNamed Bd.named
  have hnm := (name_of_methodNamed Bd.named Bd.method).1
  have hZo := hZ
  have howno := hown
  have X0 : Stand p l e ({ frames := 1, cells := 0, slots := 0, locals := 14 } : Room) s m #[(.int p0), (.int p1)] below meth c s₁ [] 0 0 := Stand.of_body Bd
  have e0 : s₁.heap = h0 := by rw [← hh, Bd.state]; rfl
  have N0 := Fr.nil n0
  have pre0 : ∀ t, Steps p.tables e below (s₁.setTop (mkF m 0 #[.val (.int p0), .val (.int p1)] [])) t → Steps p.tables e below (s₁.setTop (entryFrame m #[(.int p0), (.int p1)] 2)) t := fun t k => castTop (ef_rmChk m p0 p1 ) k
  obtain ⟨T1, X1, e1, st1⟩ := getS2 X0 hx hZ hown (host := "") (Or.inl (hw _ (List.mem_of_getElem? (i := 111) rfl))) Via.refl e0 (hSt.2.2.1.ext Ol.2) (g := (mkF m 2 #[.val (.int p0), .val (.int p1)] [(.int p1), (.int p0)])) rfl (hb hby d24_2)
  obtain ⟨_, _, ⟨T2, L2, k2, n2⟩, -, X2, ⟨Lc2, hQ2, l2, y2, z2⟩, st2⟩ := Jvm.LawKit.callS X1 hx (y := (⟨"jdk/internal/util/Preconditions", "checkIndex", "(IILjava/util/function/BiFunction;)I"⟩ : MethodName)) hown (mvT hZ (hw _ (List.mem_of_getElem? (i := 113) rfl))) (mvT hZ (hw _ (List.mem_of_getElem? (i := 114) rfl))) (mvT hZ (hw _ (List.mem_of_getElem? (i := 112) rfl))) (mvT hZ (hw _ (List.mem_of_getElem? (i := 115) rfl))) (by decide) (backOf (W := 0) (rmPre l Z a0 hw [] p0 p1 fm h0 n0 Z0 hSt.2.2.2.1 h0_ h1_) hZ (hw _ (List.mem_of_getElem? (i := 115) rfl)) (hw _ (List.mem_of_getElem? (i := 112) rfl)) (by decide) (by decide)) (g := (mkF m 5 #[.val (.int p0), .val (.int p1)] [fm, (.int p1), (.int p0)])) rfl (by rw [hml]; rfl) (argsL := [(.int p0), (.int p1), fm]) (rest := []) (lenOf pd__IILjava_util_function_BiFunction__I rfl) rfl (by show 2 * 0 + _ ≤ _; exact Nat.le_of_eq rfl) (hb hby d24_5) (fun _ _ => ⟨rfl, e1, (by decide : 0 + 0 ≤ _), (by decide : 0 + 0 ≤ _)⟩)
  dsimp only [Pt.U, Pt.locs, Pt.cells, Pt.slots] at X2 l2 y2 z2 st2 hQ2
  subst l2 y2 z2
  obtain ⟨rfl, Nq2, e2⟩ := hQ2
  have N2 := Fr.app N0 Nq2
  obtain ⟨fs, hr, hrun, hended, hW, hsame⟩ := X2.leave (v := none) (fun _ => rfl)
  refine ⟨_, _, pre0 _ ?_, hrun, hended, _, _, rfl, ?_, ⟨_, rfl⟩, hW, hsame.mono (by decide) (by decide)⟩
  · show Steps p.tables e below (s₁.setTop (mkF m 0 #[.val (.int p0), .val (.int p1)] [])) _
    refine XS.iloadN X0.here hx rfl (hb hby d24_0) rfl  ?_
    show Steps p.tables e below (s₁.setTop (mkF m 1 #[.val (.int p0), .val (.int p1)] [(.int p0)])) _
    refine XS.iloadN X0.here hx rfl (hb hby d24_1) rfl  ?_
    show Steps p.tables e below (s₁.setTop (mkF m 2 #[.val (.int p0), .val (.int p1)] [(.int p1), (.int p0)])) _
    refine st1 _ ?_
    show Steps p.tables e below (T1.setTop (mkF m 5 #[.val (.int p0), .val (.int p1)] [fm, (.int p1), (.int p0)])) _
    refine st2 _ ?_
    show Steps p.tables e below (T2.setTop (mkF m 8 #[.val (.int p0), .val (.int p1)] [(.int p0)])) _
    refine XS.pop X2.here hx rfl (hb hby d24_8) rfl rfl ?_
    show Steps p.tables e below (T2.setTop (mkF m 9 #[.val (.int p0), .val (.int p1)] [])) _
    exact X2.returnOut hx Bd.returns (hb hby d24_9) hr
  · show Q_rmChk Z p0 p1 zc fm h0 n0 _ T2.heap _
    rw [e2]
    exact ⟨rfl, N2, rfl⟩
theorem ef_rmCoder (m : MethodId) (p0 : Addr) : entryFrame m #[(.ref p0)] 1 = mkF m 0 #[.val (.ref p0)] [] := by first | (simp [entryFrame, mkF, argsToLocals, Value.category]; done) | rfl
theorem d4_0 : decode jdk_42_method_152_code 0 = .ok (.getstatic 38, 3) := by decide +kernel
theorem d4_3 : decode jdk_42_method_152_code 3 = .ok (.ifCond .eq 10, 3) := by decide +kernel
theorem d4_6 : decode jdk_42_method_152_code 6 = .ok (.aload_n 0, 1) := by decide +kernel
theorem d4_7 : decode jdk_42_method_152_code 7 = .ok (.getfield 15, 3) := by decide +kernel
theorem d4_10 : decode jdk_42_method_152_code 10 = .ok (.goto 4, 3) := by decide +kernel
theorem d4_14 : decode jdk_42_method_152_code 14 = .ok (.ireturn, 1) := by decide +kernel
def Q_rmCoder (Z : State) (p0 : Addr) (zc : Int32) (fm : Value) (cd : Int32) (h0 : Heap) (n0 : Nat) (v : Option Value) (h : Heap) (L : List Loc) : Prop := v = some (.int cd) ∧ Fr n0 L ∧ h = h0
set_option maxRecDepth 65536 in
set_option maxHeartbeats 40000000 in
theorem rmCoder (l : Launch) (Z : State) (a0 : Array Value) (hw : ∀ d ∈ tables_1, d.before a0 Z = true) (ws : List Jvm.Cond) (p0 : Addr) (zc : Int32) (fm : Value) (cd : Int32) (h0 : Heap) (n0 : Nat) (Z0 : n0 ≤ h0.size) (hSt : own_St Z zc fm) (Ol : Old Z n0 h0) (Fc : Fld Z h0 p0 "java/lang/String" "coder" "B" (.int cd)) (hcd : nar .byte cd = cd) :
    MetFree l (⟨"java/lang/String", "coder", "()B"⟩ : MethodName) (head1 (Jvm.Cond.code (⟨"java/lang/String", "coder", "()B"⟩ : MethodName) jdk_42_method_152_code 1 (some .byte) :: ws) ({ frames := 0, cells := 0, slots := 0, locals := 0 } : Room)) (fun a U => a = #[(.ref p0)] ∧ Z.Warmed39 U.vm ∧ U.heap = h0) (fun _ _ _ _ _ => True) (fun _ U o U' => ∃ v L, o = .returned v ∧ Q_rmCoder Z p0 zc fm cd h0 n0 v U'.heap L ∧ FrameEnd U o U' L ({ frames := 0, cells := 0, slots := 0, locals := 0 } : Room).cells ({ frames := 0, cells := 0, slots := 0, locals := 0 } : Room).slots) := by
  refine MetFree.of_bodySF (plainFor_of_name pn_java_lang_String) hisR ?_
  intro p e s m args below meth c s₁ Bd hml0 hP hK
  obtain ⟨rfl, hZ, hh⟩ := hP
  have hx := Bd.exec
  have hby := Bd.bytes
  have hml : c.maxLocals = 1 := hml0
  have hown : s.vm.findClass "java/lang/String" = some m.cls := findClass_of_methodNamed Bd.named
  have hnm := (name_of_methodNamed Bd.named Bd.method).1
  have hZo := hZ
  have howno := hown
  have X0 : Stand p l e ({ frames := 0, cells := 0, slots := 0, locals := 0 } : Room) s m #[(.ref p0)] below meth c s₁ [] 0 0 := Stand.of_body Bd
  have e0 : s₁.heap = h0 := by rw [← hh, Bd.state]; rfl
  have N0 := Fr.nil n0
  have pre0 : ∀ t, Steps p.tables e below (s₁.setTop (mkF m 0 #[.val (.ref p0)] [])) t → Steps p.tables e below (s₁.setTop (entryFrame m #[(.ref p0)] 1)) t := fun t k => castTop (ef_rmCoder m p0 ) k
  obtain ⟨T1, X1, e1, st1⟩ := getS2 X0 hx hZ hown (host := "") (Or.inl (hw _ (List.mem_of_getElem? (i := 30) rfl))) Via.refl e0 (hSt.1.ext Ol.2) (g := (mkF m 0 #[.val (.ref p0)] [])) rfl (hb hby d4_0)
  obtain ⟨T2, X2, e2, st2⟩ := getF X1 hx hZ hown (host := "") (Or.inl (hw _ (List.mem_of_getElem? (i := 31) rfl))) Via.refl e1 Fc (g := (mkF m 7 #[.val (.ref p0)] [(.ref p0)])) rfl rfl (hb hby d4_7)
  obtain ⟨fs, hr, hrun, hended, hW, hsame⟩ := X2.leave (v := some (.int (nar .byte cd))) (fun h => by rw [Bd.returns] at h; cases h)
  refine ⟨_, _, pre0 _ ?_, hrun, hended, _, _, rfl, ?_, ⟨_, rfl⟩, hW, hsame.mono (by decide) (by decide)⟩
  · show Steps p.tables e below (s₁.setTop (mkF m 0 #[.val (.ref p0)] [])) _
    refine st1 _ ?_
    show Steps p.tables e below (T1.setTop (mkF m 3 #[.val (.ref p0)] [(.int zc)])) _
    refine XS.ifNo X1.here hx rfl (hb hby d4_3) rfl ((if0 _ _).trans (feq hSt.2.1).1) ?_
    show Steps p.tables e below (T1.setTop (mkF m 6 #[.val (.ref p0)] [])) _
    refine XS.aloadN X1.here hx rfl (hb hby d4_6) rfl rfl ?_
    show Steps p.tables e below (T1.setTop (mkF m 7 #[.val (.ref p0)] [(.ref p0)])) _
    refine st2 _ ?_
    show Steps p.tables e below (T2.setTop (mkF m 10 #[.val (.ref p0)] [(.int cd)])) _
    refine XS.goto X2.here hx rfl (pc0 := 10) (pc' := 14) rfl (hb hby d4_10) (by decide) (by decide) ?_
    show Steps p.tables e below (T2.setTop (mkF m 14 #[.val (.ref p0)] [(.int cd)])) _
    exact retN X2 hx (t := .byte) Bd.returns (by simp) (hb hby d4_14) hr
  · show Q_rmCoder Z p0 zc fm cd h0 n0 _ T2.heap _
    rw [e2]
    exact ⟨by rw [hcd], N0, rfl⟩
theorem ef_rmLat (m : MethodId) (p0 : Addr) : entryFrame m #[(.ref p0)] 1 = mkF m 0 #[.val (.ref p0)] [] := by first | (simp [entryFrame, mkF, argsToLocals, Value.category]; done) | rfl
theorem d20_0 : decode jdk_42_method_154_code 0 = .ok (.getstatic 38, 3) := by decide +kernel
theorem d20_3 : decode jdk_42_method_154_code 3 = .ok (.ifCond .eq 14, 3) := by decide +kernel
theorem d20_6 : decode jdk_42_method_154_code 6 = .ok (.aload_n 0, 1) := by decide +kernel
theorem d20_7 : decode jdk_42_method_154_code 7 = .ok (.getfield 15, 3) := by decide +kernel
theorem d20_10 : decode jdk_42_method_154_code 10 = .ok (.ifCond .ne 7, 3) := by decide +kernel
theorem d20_13 : decode jdk_42_method_154_code 13 = .ok (.iconst 1, 1) := by decide +kernel
theorem d20_14 : decode jdk_42_method_154_code 14 = .ok (.goto 4, 3) := by decide +kernel
theorem d20_18 : decode jdk_42_method_154_code 18 = .ok (.ireturn, 1) := by decide +kernel
theorem d20_17 : decode jdk_42_method_154_code 17 = .ok (.iconst 0, 1) := by decide +kernel
def Q_rmLat (Z : State) (p0 : Addr) (zc : Int32) (fm : Value) (cd : Int32) (r : Int32) (h0 : Heap) (n0 : Nat) (v : Option Value) (h : Heap) (L : List Loc) : Prop := v = some (.int r) ∧ Fr n0 L ∧ h = h0
set_option maxRecDepth 65536 in
set_option maxHeartbeats 40000000 in
theorem rmLat (l : Launch) (Z : State) (a0 : Array Value) (hw : ∀ d ∈ tables_1, d.before a0 Z = true) (ws : List Jvm.Cond) (p0 : Addr) (zc : Int32) (fm : Value) (cd : Int32) (r : Int32) (h0 : Heap) (n0 : Nat) (Z0 : n0 ≤ h0.size) (hSt : own_St Z zc fm) (Ol : Old Z n0 h0) (Fc : Fld Z h0 p0 "java/lang/String" "coder" "B" (.int cd)) (hres : r = if cd = 0 then 1 else 0) :
    MetFree l (⟨"java/lang/String", "isLatin1", "()Z"⟩ : MethodName) (head1 (Jvm.Cond.code (⟨"java/lang/String", "isLatin1", "()Z"⟩ : MethodName) jdk_42_method_154_code 1 (some .boolean) :: ws) ({ frames := 0, cells := 0, slots := 0, locals := 0 } : Room)) (fun a U => a = #[(.ref p0)] ∧ Z.Warmed39 U.vm ∧ U.heap = h0) (fun _ _ _ _ _ => True) (fun _ U o U' => ∃ v L, o = .returned v ∧ Q_rmLat Z p0 zc fm cd r h0 n0 v U'.heap L ∧ FrameEnd U o U' L ({ frames := 0, cells := 0, slots := 0, locals := 0 } : Room).cells ({ frames := 0, cells := 0, slots := 0, locals := 0 } : Room).slots) := by
  refine MetFree.of_bodySF (plainFor_of_name pn_java_lang_String) hisR ?_
  intro p e s m args below meth c s₁ Bd hml0 hP hK
  obtain ⟨rfl, hZ, hh⟩ := hP
  have hx := Bd.exec
  have hby := Bd.bytes
  have hml : c.maxLocals = 1 := hml0
  have hown : s.vm.findClass "java/lang/String" = some m.cls := findClass_of_methodNamed Bd.named
  have hnm := (name_of_methodNamed Bd.named Bd.method).1
  have hZo := hZ
  have howno := hown
  have X0 : Stand p l e ({ frames := 0, cells := 0, slots := 0, locals := 0 } : Room) s m #[(.ref p0)] below meth c s₁ [] 0 0 := Stand.of_body Bd
  have e0 : s₁.heap = h0 := by rw [← hh, Bd.state]; rfl
  have N0 := Fr.nil n0
  have pre0 : ∀ t, Steps p.tables e below (s₁.setTop (mkF m 0 #[.val (.ref p0)] [])) t → Steps p.tables e below (s₁.setTop (entryFrame m #[(.ref p0)] 1)) t := fun t k => castTop (ef_rmLat m p0 ) k
  obtain ⟨T1, X1, e1, st1⟩ := getS2 X0 hx hZ hown (host := "") (Or.inl (hw _ (List.mem_of_getElem? (i := 30) rfl))) Via.refl e0 (hSt.1.ext Ol.2) (g := (mkF m 0 #[.val (.ref p0)] [])) rfl (hb hby d20_0)
  obtain ⟨T2, X2, e2, st2⟩ := getF X1 hx hZ hown (host := "") (Or.inl (hw _ (List.mem_of_getElem? (i := 31) rfl))) Via.refl e1 Fc (g := (mkF m 7 #[.val (.ref p0)] [(.ref p0)])) rfl rfl (hb hby d20_7)
  have pre4 : ∀ t, Steps p.tables e below (T2.setTop (mkF m 10 #[.val (.ref p0)] [(.int cd)])) t → Steps p.tables e below (s₁.setTop (entryFrame m #[(.ref p0)] 1)) t := fun t kt => pre0 t (by
    show Steps p.tables e below (s₁.setTop (mkF m 0 #[.val (.ref p0)] [])) _
    refine st1 _ ?_
    show Steps p.tables e below (T1.setTop (mkF m 3 #[.val (.ref p0)] [(.int zc)])) _
    refine XS.ifNo X1.here hx rfl (hb hby d20_3) rfl ((if0 _ _).trans (feq hSt.2.1).1) ?_
    show Steps p.tables e below (T1.setTop (mkF m 6 #[.val (.ref p0)] [])) _
    refine XS.aloadN X1.here hx rfl (hb hby d20_6) rfl rfl ?_
    show Steps p.tables e below (T1.setTop (mkF m 7 #[.val (.ref p0)] [(.ref p0)])) _
    refine st2 _ ?_
    exact kt)
  by_cases hc10_3 : cd = (0 : Int32)
  · obtain ⟨fs, hr, hrun, hended, hW, hsame⟩ := X2.leave (v := some (.int (1 : Int32))) (fun h => by rw [Bd.returns] at h; cases h)
    refine ⟨_, _, pre4 _ ?_, hrun, hended, _, _, rfl, ?_, ⟨_, rfl⟩, hW, hsame.mono (by decide) (by decide)⟩
    · show Steps p.tables e below (T2.setTop (mkF m 10 #[.val (.ref p0)] [(.int cd)])) _
      refine XS.ifNo X2.here hx rfl (hb hby d20_10) rfl ((if0 _ _).trans (teq hc10_3).2) ?_
      show Steps p.tables e below (T2.setTop (mkF m 13 #[.val (.ref p0)] [])) _
      refine XS.iconst X2.here hx rfl (hb hby d20_13) ?_
      show Steps p.tables e below (T2.setTop (mkF m 14 #[.val (.ref p0)] [(.int (1 : Int32))])) _
      refine XS.goto X2.here hx rfl (pc0 := 14) (pc' := 18) rfl (hb hby d20_14) (by decide) (by decide) ?_
      show Steps p.tables e below (T2.setTop (mkF m 18 #[.val (.ref p0)] [(.int (1 : Int32))])) _
      exact retN X2 hx (t := .boolean) Bd.returns (by simp) (hb hby d20_18) hr
    · show Q_rmLat Z p0 zc fm cd r h0 n0 _ T2.heap _
      rw [e2]
      exact ⟨by rw [hres, if_pos hc10_3], N0, rfl⟩
  · obtain ⟨fs, hr, hrun, hended, hW, hsame⟩ := X2.leave (v := some (.int (0 : Int32))) (fun h => by rw [Bd.returns] at h; cases h)
    refine ⟨_, _, pre4 _ ?_, hrun, hended, _, _, rfl, ?_, ⟨_, rfl⟩, hW, hsame.mono (by decide) (by decide)⟩
    · show Steps p.tables e below (T2.setTop (mkF m 10 #[.val (.ref p0)] [(.int cd)])) _
      refine XS.ifYes X2.here hx rfl (pc0 := 10) (pc' := 17) rfl (hb hby d20_10) rfl ((if0 _ _).trans (feq hc10_3).2) (by decide) (by decide) ?_
      show Steps p.tables e below (T2.setTop (mkF m 17 #[.val (.ref p0)] [])) _
      refine XS.iconst X2.here hx rfl (hb hby d20_17) ?_
      show Steps p.tables e below (T2.setTop (mkF m 18 #[.val (.ref p0)] [(.int (0 : Int32))])) _
      exact retN X2 hx (t := .boolean) Bd.returns (by simp) (hb hby d20_18) hr
    · show Q_rmLat Z p0 zc fm cd r h0 n0 _ T2.heap _
      rw [e2]
      exact ⟨by rw [hres, if_neg hc10_3], N0, rfl⟩
theorem ef_rmLen (m : MethodId) (p0 : Addr) : entryFrame m #[(.ref p0)] 1 = mkF m 0 #[.val (.ref p0)] [] := by first | (simp [entryFrame, mkF, argsToLocals, Value.category]; done) | rfl
theorem d3_0 : decode jdk_42_method_54_code 0 = .ok (.aload_n 0, 1) := by decide +kernel
theorem d3_1 : decode jdk_42_method_54_code 1 = .ok (.getfield 9, 3) := by decide +kernel
theorem d3_4 : decode jdk_42_method_54_code 4 = .ok (.arraylength, 1) := by decide +kernel
theorem d3_5 : decode jdk_42_method_54_code 5 = .ok (.aload_n 0, 1) := by decide +kernel
theorem pd___B : parseMethodDescriptor "()B" = some ⟨[], some .byte⟩ := by decide +kernel
theorem d3_6 : decode jdk_42_method_54_code 6 = .ok (.invokevirtual 335, 3) := by decide +kernel
theorem d3_9 : decode jdk_42_method_54_code 9 = .ok (.ishr, 1) := by decide +kernel
theorem d3_10 : decode jdk_42_method_54_code 10 = .ok (.ireturn, 1) := by decide +kernel
def Q_rmLen (Z : State) (p0 : Addr) (zc : Int32) (fm : Value) (cs : List Int32) (r : Int32) (h0 : Heap) (n0 : Nat) (v : Option Value) (h : Heap) (L : List Loc) : Prop := v = some (.int r) ∧ Fr n0 L ∧ h = h0
set_option maxRecDepth 65536 in
set_option maxHeartbeats 40000000 in
theorem rmLen (l : Launch) (Z : State) (a0 : Array Value) (hw : ∀ d ∈ tables_1, d.before a0 Z = true) (ws : List Jvm.Cond) (p0 : Addr) (zc : Int32) (fm : Value) (cs : List Int32) (r : Int32) (h0 : Heap) (n0 : Nat) (Z0 : n0 ≤ h0.size) (hSt : own_St Z zc fm) (Ol : Old Z n0 h0) (hS : own_Str Z h0 p0 cs) (hres : r = Int32.ofNat cs.length) :
    MetFree l (⟨"java/lang/String", "length", "()I"⟩ : MethodName) (head1 (Jvm.Cond.code (⟨"java/lang/String", "length", "()I"⟩ : MethodName) jdk_42_method_54_code 1 (some .int) :: ws) ({ frames := 1, cells := 0, slots := 0, locals := 13 } : Room)) (fun a U => a = #[(.ref p0)] ∧ Z.Warmed39 U.vm ∧ U.heap = h0) (fun _ _ _ _ _ => True) (fun _ U o U' => ∃ v L, o = .returned v ∧ Q_rmLen Z p0 zc fm cs r h0 n0 v U'.heap L ∧ FrameEnd U o U' L ({ frames := 1, cells := 0, slots := 0, locals := 13 } : Room).cells ({ frames := 1, cells := 0, slots := 0, locals := 13 } : Room).slots) := by
  refine MetFree.of_bodySF (plainFor_of_name pn_java_lang_String) hisR ?_
  intro p e s m args below meth c s₁ Bd hml0 hP hK
  obtain ⟨rfl, hZ, hh⟩ := hP
  have hx := Bd.exec
  have hby := Bd.bytes
  have hml : c.maxLocals = 1 := hml0
  have hown : s.vm.findClass "java/lang/String" = some m.cls := findClass_of_methodNamed Bd.named
  have hnm := (name_of_methodNamed Bd.named Bd.method).1
  have hZo := hZ
  have howno := hown
  have X0 : Stand p l e ({ frames := 1, cells := 0, slots := 0, locals := 13 } : Room) s m #[(.ref p0)] below meth c s₁ [] 0 0 := Stand.of_body Bd
  have e0 : s₁.heap = h0 := by rw [← hh, Bd.state]; rfl
  have N0 := Fr.nil n0
  have pre0 : ∀ t, Steps p.tables e below (s₁.setTop (mkF m 0 #[.val (.ref p0)] [])) t → Steps p.tables e below (s₁.setTop (entryFrame m #[(.ref p0)] 1)) t := fun t k => castTop (ef_rmLen m p0 ) k
  obtain ⟨t, k, cd, z, vs, E0, Fv, Fc, A0, hcod, hch, hln⟩ := hS
  rcases hcod with ⟨rfl, rfl, rfl, hle⟩ | ⟨rfl, rfl, rfl⟩
  · obtain ⟨T1, X1, e1, st1⟩ := getF X0 hx hZ hown (host := "") (Or.inl (hw _ (List.mem_of_getElem? (i := 24) rfl))) Via.refl e0 Fv (g := (mkF m 1 #[.val (.ref p0)] [(.ref p0)])) rfl rfl (hb hby d3_1)
    obtain ⟨cl2, Ar2, -, S2, N2, -, -⟩ := id A0
    obtain ⟨cq3, kq3, q3a, q3b, q3c⟩ := isOf hZ e1 E0
    obtain ⟨_, _, ⟨T3, L3, k3, n3⟩, -, X3, ⟨Lc3, hQ3, l3, y3, z3⟩, st3⟩ := X1.virtualBack hx (y := (⟨"java/lang/String", "coder", "()B"⟩ : MethodName)) (z := (⟨"java/lang/String", "coder", "()B"⟩ : MethodName)) hown (mvT hZ (hw _ (List.mem_of_getElem? (i := 25) rfl))) (mvT hZ (hw _ (List.mem_of_getElem? (i := 26) rfl))) (notFace_of_selects (args := #[]) (mvT hZ (hw _ (List.mem_of_getElem? (i := 28) rfl)))) (mvT hZ (hw _ (List.mem_of_getElem? (i := 28) rfl))) (mvT hZ (hw _ (List.mem_of_getElem? (i := 27) rfl))) (by decide) (backOf (W := 1) (rmCoder l Z a0 hw [] p0 zc fm (0 : Int32) h0 n0 Z0 hSt Ol Fc (by decide)) hZ (hw _ (List.mem_of_getElem? (i := 29) rfl)) (hw _ (List.mem_of_getElem? (i := 1) rfl)) (by decide) (by decide)) q3a q3c (g := (mkF m 6 #[.val (.ref p0)] [(.ref p0), (.int (Int32.ofNat cs.length))])) rfl (by rw [hml]; rfl) (Steps.refl _) (argsL := []) (rest := [(.int (Int32.ofNat cs.length))]) (lenOf pd___B rfl) rfl (by show 2 * 0 + _ ≤ _; exact Nat.le_of_eq rfl) (hb hby d3_6) (fun _ _ => ⟨rfl, e1, (by decide : 0 + 0 ≤ _), (by decide : 0 + 0 ≤ _)⟩)
    dsimp only [Pt.U, Pt.locs, Pt.cells, Pt.slots] at X3 l3 y3 z3 st3 hQ3
    subst l3 y3 z3
    obtain ⟨rfl, Nq3, e3⟩ := hQ3
    have N3 := Fr.app N0 Nq3
    obtain ⟨fs, hr, hrun, hended, hW, hsame⟩ := X3.leave (v := some (.int ((Int32.ofNat cs.length) >>> ((0 : Int32) &&& 31)))) (fun h => by rw [Bd.returns] at h; cases h)
    refine ⟨_, _, pre0 _ ?_, hrun, hended, _, _, rfl, ?_, ⟨_, rfl⟩, hW, hsame.mono (by decide) (by decide)⟩
    · show Steps p.tables e below (s₁.setTop (mkF m 0 #[.val (.ref p0)] [])) _
      refine XS.aloadN X0.here hx rfl (hb hby d3_0) rfl rfl ?_
      show Steps p.tables e below (s₁.setTop (mkF m 1 #[.val (.ref p0)] [(.ref p0)])) _
      refine st1 _ ?_
      show Steps p.tables e below (T1.setTop (mkF m 4 #[.val (.ref p0)] [(.ref t)])) _
      refine X1.arraylength hx (by rw [e1]; exact Ar2.1) (State.isArrayOf_alike hZ.alike Ar2.2.1) (g := (mkF m 4 #[.val (.ref p0)] [(.ref t)])) rfl rfl (hb hby d3_4) _ ?_
      rw [len_of S2 N2]
      show Steps p.tables e below (T1.setTop (mkF m 5 #[.val (.ref p0)] [(.int (Int32.ofNat cs.length))])) _
      refine XS.aloadN X1.here hx rfl (hb hby d3_5) rfl rfl ?_
      show Steps p.tables e below (T1.setTop (mkF m 6 #[.val (.ref p0)] [(.ref p0), (.int (Int32.ofNat cs.length))])) _
      refine st3.trans ?_
      show Steps p.tables e below (T3.setTop (mkF m 9 #[.val (.ref p0)] [(.int (0 : Int32)), (.int (Int32.ofNat cs.length))])) _
      refine XS.ishr X3.here hx rfl (hb hby d3_9) rfl ?_
      show Steps p.tables e below (T3.setTop (mkF m 10 #[.val (.ref p0)] [(.int ((Int32.ofNat cs.length) >>> ((0 : Int32) &&& 31)))])) _
      exact retI X3 hx Bd.returns (hb hby d3_10) hr
    · show Q_rmLen Z p0 zc fm cs r h0 n0 _ T3.heap _
      rw [e3]
      exact ⟨by rw [hres, ← own_len0 hln], N3, rfl⟩
  · obtain ⟨T4, X4, e4, st4⟩ := getF X0 hx hZ hown (host := "") (Or.inl (hw _ (List.mem_of_getElem? (i := 24) rfl))) Via.refl e0 Fv (g := (mkF m 1 #[.val (.ref p0)] [(.ref p0)])) rfl rfl (hb hby d3_1)
    obtain ⟨cl5, Ar5, -, S5, N5, -, -⟩ := id A0
    obtain ⟨cq6, kq6, q6a, q6b, q6c⟩ := isOf hZ e4 E0
    obtain ⟨_, _, ⟨T6, L6, k6, n6⟩, -, X6, ⟨Lc6, hQ6, l6, y6, z6⟩, st6⟩ := X4.virtualBack hx (y := (⟨"java/lang/String", "coder", "()B"⟩ : MethodName)) (z := (⟨"java/lang/String", "coder", "()B"⟩ : MethodName)) hown (mvT hZ (hw _ (List.mem_of_getElem? (i := 25) rfl))) (mvT hZ (hw _ (List.mem_of_getElem? (i := 26) rfl))) (notFace_of_selects (args := #[]) (mvT hZ (hw _ (List.mem_of_getElem? (i := 28) rfl)))) (mvT hZ (hw _ (List.mem_of_getElem? (i := 28) rfl))) (mvT hZ (hw _ (List.mem_of_getElem? (i := 27) rfl))) (by decide) (backOf (W := 1) (rmCoder l Z a0 hw [] p0 zc fm (1 : Int32) h0 n0 Z0 hSt Ol Fc (by decide)) hZ (hw _ (List.mem_of_getElem? (i := 29) rfl)) (hw _ (List.mem_of_getElem? (i := 1) rfl)) (by decide) (by decide)) q6a q6c (g := (mkF m 6 #[.val (.ref p0)] [(.ref p0), (.int (Int32.ofNat (2 * cs.length)))])) rfl (by rw [hml]; rfl) (Steps.refl _) (argsL := []) (rest := [(.int (Int32.ofNat (2 * cs.length)))]) (lenOf pd___B rfl) rfl (by show 2 * 0 + _ ≤ _; exact Nat.le_of_eq rfl) (hb hby d3_6) (fun _ _ => ⟨rfl, e4, (by decide : 0 + 0 ≤ _), (by decide : 0 + 0 ≤ _)⟩)
    dsimp only [Pt.U, Pt.locs, Pt.cells, Pt.slots] at X6 l6 y6 z6 st6 hQ6
    subst l6 y6 z6
    obtain ⟨rfl, Nq6, e6⟩ := hQ6
    have N6 := Fr.app N0 Nq6
    obtain ⟨fs, hr, hrun, hended, hW, hsame⟩ := X6.leave (v := some (.int ((Int32.ofNat (2 * cs.length)) >>> ((1 : Int32) &&& 31)))) (fun h => by rw [Bd.returns] at h; cases h)
    refine ⟨_, _, pre0 _ ?_, hrun, hended, _, _, rfl, ?_, ⟨_, rfl⟩, hW, hsame.mono (by decide) (by decide)⟩
    · show Steps p.tables e below (s₁.setTop (mkF m 0 #[.val (.ref p0)] [])) _
      refine XS.aloadN X0.here hx rfl (hb hby d3_0) rfl rfl ?_
      show Steps p.tables e below (s₁.setTop (mkF m 1 #[.val (.ref p0)] [(.ref p0)])) _
      refine st4 _ ?_
      show Steps p.tables e below (T4.setTop (mkF m 4 #[.val (.ref p0)] [(.ref t)])) _
      refine X4.arraylength hx (by rw [e4]; exact Ar5.1) (State.isArrayOf_alike hZ.alike Ar5.2.1) (g := (mkF m 4 #[.val (.ref p0)] [(.ref t)])) rfl rfl (hb hby d3_4) _ ?_
      rw [len_of S5 N5]
      show Steps p.tables e below (T4.setTop (mkF m 5 #[.val (.ref p0)] [(.int (Int32.ofNat (2 * cs.length)))])) _
      refine XS.aloadN X4.here hx rfl (hb hby d3_5) rfl rfl ?_
      show Steps p.tables e below (T4.setTop (mkF m 6 #[.val (.ref p0)] [(.ref p0), (.int (Int32.ofNat (2 * cs.length)))])) _
      refine st6.trans ?_
      show Steps p.tables e below (T6.setTop (mkF m 9 #[.val (.ref p0)] [(.int (1 : Int32)), (.int (Int32.ofNat (2 * cs.length)))])) _
      refine XS.ishr X6.here hx rfl (hb hby d3_9) rfl ?_
      show Steps p.tables e below (T6.setTop (mkF m 10 #[.val (.ref p0)] [(.int ((Int32.ofNat (2 * cs.length)) >>> ((1 : Int32) &&& 31)))])) _
      exact retI X6 hx Bd.returns (hb hby d3_10) hr
    · show Q_rmLen Z p0 zc fm cs r h0 n0 _ T6.heap _
      rw [e6]
      exact ⟨by rw [hres, ← own_len1 hln], N6, rfl⟩
theorem ef_rmLCh (m : MethodId) (p0 : Addr) (p1 : Int32) : entryFrame m #[(.ref p0), (.int p1)] 2 = mkF m 0 #[.val (.ref p0), .val (.int p1)] [] := by first | (simp [entryFrame, mkF, argsToLocals, Value.category]; done) | rfl
theorem d29_0 : decode jdk_43_method_2_code 0 = .ok (.iload_n 1, 1) := by decide +kernel
theorem d29_1 : decode jdk_43_method_2_code 1 = .ok (.aload_n 0, 1) := by decide +kernel
theorem d29_2 : decode jdk_43_method_2_code 2 = .ok (.arraylength, 1) := by decide +kernel
theorem pd__II_V : parseMethodDescriptor "(II)V" = some ⟨[.int, .int], none⟩ := by decide +kernel
theorem d29_3 : decode jdk_43_method_2_code 3 = .ok (.invokestatic 9, 3) := by decide +kernel
theorem d29_6 : decode jdk_43_method_2_code 6 = .ok (.aload_n 0, 1) := by decide +kernel
theorem d29_7 : decode jdk_43_method_2_code 7 = .ok (.iload_n 1, 1) := by decide +kernel
theorem d29_8 : decode jdk_43_method_2_code 8 = .ok (.baload, 1) := by decide +kernel
theorem d29_9 : decode jdk_43_method_2_code 9 = .ok (.sipush 255, 3) := by decide +kernel
theorem d29_12 : decode jdk_43_method_2_code 12 = .ok (.iand, 1) := by decide +kernel
theorem d29_13 : decode jdk_43_method_2_code 13 = .ok (.i2c, 1) := by decide +kernel
theorem d29_14 : decode jdk_43_method_2_code 14 = .ok (.ireturn, 1) := by decide +kernel
def Q_rmLCh (Z : State) (p0 : Addr) (p1 : Int32) (zc : Int32) (fm : Value) (k : ClassId) (z : Int32) (vs : List Value) (b : Int32) (r : Int32) (h0 : Heap) (n0 : Nat) (v : Option Value) (h : Heap) (L : List Loc) : Prop := v = some (.int r) ∧ Fr n0 L ∧ h = h0
set_option maxRecDepth 65536 in
set_option maxHeartbeats 40000000 in
theorem rmLCh (l : Launch) (Z : State) (a0 : Array Value) (hw : ∀ d ∈ tables_1, d.before a0 Z = true) (ws : List Jvm.Cond) (p0 : Addr) (p1 : Int32) (zc : Int32) (fm : Value) (k : ClassId) (z : Int32) (vs : List Value) (b : Int32) (r : Int32) (h0 : Heap) (n0 : Nat) (Z0 : n0 ≤ h0.size) (hSt : own_St Z zc fm) (Ol : Old Z n0 h0) (A0 : Arv Z h0 p0 k .byte z vs (.int (0 : Int32))) (hi : ¬ p1 < (0 : Int32) ∧ p1 < z) (hat : vs.getD p1.toNatClampNeg (.int (0 : Int32)) = .int b) (hres : r = nar .char (b &&& (255 : Int32)).toUInt32.toUInt16.toUInt32.toInt32) :
    MetFree l (⟨"java/lang/StringLatin1", "charAt", "([BI)C"⟩ : MethodName) (head1 (Jvm.Cond.code (⟨"java/lang/StringLatin1", "charAt", "([BI)C"⟩ : MethodName) jdk_43_method_2_code 2 (some .char) :: ws) ({ frames := 2, cells := 0, slots := 0, locals := 27 } : Room)) (fun a U => a = #[(.ref p0), (.int p1)] ∧ Z.Warmed39 U.vm ∧ U.heap = h0) (fun _ _ _ _ _ => True) (fun _ U o U' => ∃ v L, o = .returned v ∧ Q_rmLCh Z p0 p1 zc fm k z vs b r h0 n0 v U'.heap L ∧ FrameEnd U o U' L ({ frames := 2, cells := 0, slots := 0, locals := 27 } : Room).cells ({ frames := 2, cells := 0, slots := 0, locals := 27 } : Room).slots) := by
  refine MetFree.of_bodySF (plainFor_of_name pn_java_lang_StringLatin1) hisR ?_
  intro p e s m args below meth c s₁ Bd hml0 hP hK
  obtain ⟨rfl, hZ, hh⟩ := hP
  have hx := Bd.exec
  have hby := Bd.bytes
  have hml : c.maxLocals = 2 := hml0
  have hown : s.vm.findClass "java/lang/StringLatin1" = some m.cls := findClass_of_methodNamed Bd.named
  have hnm := (name_of_methodNamed Bd.named Bd.method).1
  have hZo := hZ
  have howno := hown
  have X0 : Stand p l e ({ frames := 2, cells := 0, slots := 0, locals := 27 } : Room) s m #[(.ref p0), (.int p1)] below meth c s₁ [] 0 0 := Stand.of_body Bd
  have e0 : s₁.heap = h0 := by rw [← hh, Bd.state]; rfl
  have N0 := Fr.nil n0
  have pre0 : ∀ t, Steps p.tables e below (s₁.setTop (mkF m 0 #[.val (.ref p0), .val (.int p1)] [])) t → Steps p.tables e below (s₁.setTop (entryFrame m #[(.ref p0), (.int p1)] 2)) t := fun t k => castTop (ef_rmLCh m p0 p1 ) k
  obtain ⟨cl1, Ar1, -, S1, N1, -, -⟩ := id A0
  obtain ⟨_, _, ⟨T2, L2, k2, n2⟩, -, X2, ⟨Lc2, hQ2, l2, y2, z2⟩, st2⟩ := Jvm.LawKit.callS X0 hx (y := (⟨"java/lang/String", "checkIndex", "(II)V"⟩ : MethodName)) hown (mvT hZ (hw _ (List.mem_of_getElem? (i := 135) rfl))) (mvT hZ (hw _ (List.mem_of_getElem? (i := 109) rfl))) (mvT hZ (hw _ (List.mem_of_getElem? (i := 1) rfl))) (mvT hZ (hw _ (List.mem_of_getElem? (i := 110) rfl))) (by decide) (backOf (W := 0) (rmChk l Z a0 hw [] p1 z zc fm  h0 n0 Z0 hSt Ol hi.1 hi.2) hZ (hw _ (List.mem_of_getElem? (i := 110) rfl)) (hw _ (List.mem_of_getElem? (i := 1) rfl)) (by decide) (by decide)) (g := (mkF m 3 #[.val (.ref p0), .val (.int p1)] [(.int z), (.int p1)])) rfl (by rw [hml]; rfl) (argsL := [(.int p1), (.int z)]) (rest := []) (lenOf pd__II_V rfl) rfl (by show 2 * 0 + _ ≤ _; exact Nat.le_of_eq rfl) (hb hby d29_3) (fun _ _ => ⟨rfl, e0, (by decide : 0 + 0 ≤ _), (by decide : 0 + 0 ≤ _)⟩)
  dsimp only [Pt.U, Pt.locs, Pt.cells, Pt.slots] at X2 l2 y2 z2 st2 hQ2
  subst l2 y2 z2
  obtain ⟨rfl, Nq2, e2⟩ := hQ2
  have N2 := Fr.app N0 Nq2
  obtain ⟨cl3, Ar3, q3, S3, N3, H3, G3⟩ := id A0
  have hin3 : ¬ (p1 < 0 ∨ cl3.slots.size ≤ (p1).toNatClampNeg) := inb_of S3 hi
  have hat3 : cl3.slots[(p1).toNatClampNeg]? = some (.int b) := Has.at H3 hin3 hat
  obtain ⟨fs, hr, hrun, hended, hW, hsame⟩ := X2.leave (v := some (.int (nar .char ((b &&& (255 : Int32)).toUInt32.toUInt16.toUInt32.toInt32)))) (fun h => by rw [Bd.returns] at h; cases h)
  refine ⟨_, _, pre0 _ ?_, hrun, hended, _, _, rfl, ?_, ⟨_, rfl⟩, hW, hsame.mono (by decide) (by decide)⟩
  · show Steps p.tables e below (s₁.setTop (mkF m 0 #[.val (.ref p0), .val (.int p1)] [])) _
    refine XS.iloadN X0.here hx rfl (hb hby d29_0) rfl  ?_
    show Steps p.tables e below (s₁.setTop (mkF m 1 #[.val (.ref p0), .val (.int p1)] [(.int p1)])) _
    refine XS.aloadN X0.here hx rfl (hb hby d29_1) rfl rfl ?_
    show Steps p.tables e below (s₁.setTop (mkF m 2 #[.val (.ref p0), .val (.int p1)] [(.ref p0), (.int p1)])) _
    refine X0.arraylength hx (by rw [e0]; exact Ar1.1) (State.isArrayOf_alike hZ.alike Ar1.2.1) (g := (mkF m 2 #[.val (.ref p0), .val (.int p1)] [(.ref p0), (.int p1)])) rfl rfl (hb hby d29_2) _ ?_
    rw [len_of S1 N1]
    show Steps p.tables e below (s₁.setTop (mkF m 3 #[.val (.ref p0), .val (.int p1)] [(.int z), (.int p1)])) _
    refine st2 _ ?_
    show Steps p.tables e below (T2.setTop (mkF m 6 #[.val (.ref p0), .val (.int p1)] [])) _
    refine XS.aloadN X2.here hx rfl (hb hby d29_6) rfl rfl ?_
    show Steps p.tables e below (T2.setTop (mkF m 7 #[.val (.ref p0), .val (.int p1)] [(.ref p0)])) _
    refine XS.iloadN X2.here hx rfl (hb hby d29_7) rfl  ?_
    show Steps p.tables e below (T2.setTop (mkF m 8 #[.val (.ref p0), .val (.int p1)] [(.int p1), (.ref p0)])) _
    refine X2.baloadBytes hx (j := p1) (v := (.int b)) (by rw [e2]; exact Ar3.1) (State.isArrayOf_alike hZ.alike Ar3.2.1) Ar3.2.2 hin3 hat3 (g := (mkF m 8 #[.val (.ref p0), .val (.int p1)] [(.int p1), (.ref p0)])) rfl rfl (hb hby d29_8) _ ?_
    show Steps p.tables e below (T2.setTop (mkF m 9 #[.val (.ref p0), .val (.int p1)] [(.int b)])) _
    refine XS.sipush X2.here hx rfl (hb hby d29_9) ?_
    show Steps p.tables e below (T2.setTop (mkF m 12 #[.val (.ref p0), .val (.int p1)] [(.int (255 : Int32)), (.int b)])) _
    refine XS.iand X2.here hx rfl (hb hby d29_12) rfl ?_
    show Steps p.tables e below (T2.setTop (mkF m 13 #[.val (.ref p0), .val (.int p1)] [(.int (b &&& (255 : Int32)))])) _
    refine XS.i2c X2.here hx rfl (hb hby d29_13) rfl ?_
    show Steps p.tables e below (T2.setTop (mkF m 14 #[.val (.ref p0), .val (.int p1)] [(.int ((b &&& (255 : Int32)).toUInt32.toUInt16.toUInt32.toInt32))])) _
    exact retN X2 hx (t := .char) Bd.returns (by simp) (hb hby d29_14) hr
  · show Q_rmLCh Z p0 p1 zc fm k z vs b r h0 n0 _ T2.heap _
    rw [e2]
    exact ⟨by rw [hres], N2, rfl⟩
theorem ef_rmULen (m : MethodId) (p0 : Addr) : entryFrame m #[(.ref p0)] 1 = mkF m 0 #[.val (.ref p0)] [] := by first | (simp [entryFrame, mkF, argsToLocals, Value.category]; done) | rfl
theorem d23_0 : decode jdk_52_method_6_code 0 = .ok (.aload_n 0, 1) := by decide +kernel
theorem d23_1 : decode jdk_52_method_6_code 1 = .ok (.arraylength, 1) := by decide +kernel
theorem d23_2 : decode jdk_52_method_6_code 2 = .ok (.iconst 1, 1) := by decide +kernel
theorem d23_3 : decode jdk_52_method_6_code 3 = .ok (.ishr, 1) := by decide +kernel
theorem d23_4 : decode jdk_52_method_6_code 4 = .ok (.ireturn, 1) := by decide +kernel
def Q_rmULen (Z : State) (p0 : Addr) (zc : Int32) (fm : Value) (k : ClassId) (z : Int32) (vs : List Value) (r : Int32) (h0 : Heap) (n0 : Nat) (v : Option Value) (h : Heap) (L : List Loc) : Prop := v = some (.int r) ∧ Fr n0 L ∧ h = h0
set_option maxRecDepth 65536 in
set_option maxHeartbeats 40000000 in
theorem rmULen (l : Launch) (Z : State) (a0 : Array Value) (hw : ∀ d ∈ tables_1, d.before a0 Z = true) (ws : List Jvm.Cond) (p0 : Addr) (zc : Int32) (fm : Value) (k : ClassId) (z : Int32) (vs : List Value) (r : Int32) (h0 : Heap) (n0 : Nat) (Z0 : n0 ≤ h0.size) (hSt : own_St Z zc fm) (Ol : Old Z n0 h0) (A0 : Arv Z h0 p0 k .byte z vs (.int (0 : Int32))) (hres : r = z >>> ((1 : Int32) &&& 31)) :
    MetFree l (⟨"java/lang/StringUTF16", "length", "([B)I"⟩ : MethodName) (head1 (Jvm.Cond.code (⟨"java/lang/StringUTF16", "length", "([B)I"⟩ : MethodName) jdk_52_method_6_code 1 (some .int) :: ws) ({ frames := 0, cells := 0, slots := 0, locals := 0 } : Room)) (fun a U => a = #[(.ref p0)] ∧ Z.Warmed39 U.vm ∧ U.heap = h0) (fun _ _ _ _ _ => True) (fun _ U o U' => ∃ v L, o = .returned v ∧ Q_rmULen Z p0 zc fm k z vs r h0 n0 v U'.heap L ∧ FrameEnd U o U' L ({ frames := 0, cells := 0, slots := 0, locals := 0 } : Room).cells ({ frames := 0, cells := 0, slots := 0, locals := 0 } : Room).slots) := by
  refine MetFree.of_bodySF (plainFor_of_name pn_java_lang_StringUTF16) hisR ?_
  intro p e s m args below meth c s₁ Bd hml0 hP hK
  obtain ⟨rfl, hZ, hh⟩ := hP
  have hx := Bd.exec
  have hby := Bd.bytes
  have hml : c.maxLocals = 1 := hml0
  have hown : s.vm.findClass "java/lang/StringUTF16" = some m.cls := findClass_of_methodNamed Bd.named
  have hnm := (name_of_methodNamed Bd.named Bd.method).1
  have hZo := hZ
  have howno := hown
  have X0 : Stand p l e ({ frames := 0, cells := 0, slots := 0, locals := 0 } : Room) s m #[(.ref p0)] below meth c s₁ [] 0 0 := Stand.of_body Bd
  have e0 : s₁.heap = h0 := by rw [← hh, Bd.state]; rfl
  have N0 := Fr.nil n0
  have pre0 : ∀ t, Steps p.tables e below (s₁.setTop (mkF m 0 #[.val (.ref p0)] [])) t → Steps p.tables e below (s₁.setTop (entryFrame m #[(.ref p0)] 1)) t := fun t k => castTop (ef_rmULen m p0 ) k
  obtain ⟨cl1, Ar1, -, S1, N1, -, -⟩ := id A0
  obtain ⟨fs, hr, hrun, hended, hW, hsame⟩ := X0.leave (v := some (.int (z >>> ((1 : Int32) &&& 31)))) (fun h => by rw [Bd.returns] at h; cases h)
  refine ⟨_, _, pre0 _ ?_, hrun, hended, _, _, rfl, ?_, ⟨_, rfl⟩, hW, hsame.mono (by decide) (by decide)⟩
  · show Steps p.tables e below (s₁.setTop (mkF m 0 #[.val (.ref p0)] [])) _
    refine XS.aloadN X0.here hx rfl (hb hby d23_0) rfl rfl ?_
    show Steps p.tables e below (s₁.setTop (mkF m 1 #[.val (.ref p0)] [(.ref p0)])) _
    refine X0.arraylength hx (by rw [e0]; exact Ar1.1) (State.isArrayOf_alike hZ.alike Ar1.2.1) (g := (mkF m 1 #[.val (.ref p0)] [(.ref p0)])) rfl rfl (hb hby d23_1) _ ?_
    rw [len_of S1 N1]
    show Steps p.tables e below (s₁.setTop (mkF m 2 #[.val (.ref p0)] [(.int z)])) _
    refine XS.iconst X0.here hx rfl (hb hby d23_2) ?_
    show Steps p.tables e below (s₁.setTop (mkF m 3 #[.val (.ref p0)] [(.int (1 : Int32)), (.int z)])) _
    refine XS.ishr X0.here hx rfl (hb hby d23_3) rfl ?_
    show Steps p.tables e below (s₁.setTop (mkF m 4 #[.val (.ref p0)] [(.int (z >>> ((1 : Int32) &&& 31)))])) _
    exact retI X0 hx Bd.returns (hb hby d23_4) hr
  · show Q_rmULen Z p0 zc fm k z vs r h0 n0 _ s₁.heap _
    rw [e0]
    exact ⟨by rw [hres], N0, rfl⟩
theorem ef_rmUChk (m : MethodId) (p0 : Int32) (p1 : Addr) : entryFrame m #[(.int p0), (.ref p1)] 2 = mkF m 0 #[.val (.int p0), .val (.ref p1)] [] := by first | (simp [entryFrame, mkF, argsToLocals, Value.category]; done) | rfl
theorem d22_0 : decode jdk_52_method_91_code 0 = .ok (.iload_n 0, 1) := by decide +kernel
theorem d22_1 : decode jdk_52_method_91_code 1 = .ok (.aload_n 1, 1) := by decide +kernel
theorem pd___B_I : parseMethodDescriptor "([B)I" = some ⟨[(.array .byte)], some .int⟩ := by decide +kernel
theorem d22_2 : decode jdk_52_method_91_code 2 = .ok (.invokestatic 48, 3) := by decide +kernel
theorem d22_5 : decode jdk_52_method_91_code 5 = .ok (.invokestatic 414, 3) := by decide +kernel
theorem d22_8 : decode jdk_52_method_91_code 8 = .ok (.return_, 1) := by decide +kernel
def Q_rmUChk (Z : State) (p0 : Int32) (p1 : Addr) (zc : Int32) (fm : Value) (k : ClassId) (z : Int32) (vs : List Value) (n : Int32) (h0 : Heap) (n0 : Nat) (v : Option Value) (h : Heap) (L : List Loc) : Prop := v = none ∧ Fr n0 L ∧ h = h0
set_option maxRecDepth 65536 in
set_option maxHeartbeats 40000000 in
theorem rmUChk (l : Launch) (Z : State) (a0 : Array Value) (hw : ∀ d ∈ tables_1, d.before a0 Z = true) (ws : List Jvm.Cond) (p0 : Int32) (p1 : Addr) (zc : Int32) (fm : Value) (k : ClassId) (z : Int32) (vs : List Value) (n : Int32) (h0 : Heap) (n0 : Nat) (Z0 : n0 ≤ h0.size) (hSt : own_St Z zc fm) (Ol : Old Z n0 h0) (A0 : Arv Z h0 p1 k .byte z vs (.int (0 : Int32))) (hn : n = z >>> ((1 : Int32) &&& 31)) (hi : ¬ p0 < (0 : Int32) ∧ p0 < n) :
    MetFree l (⟨"java/lang/StringUTF16", "checkIndex", "(I[B)V"⟩ : MethodName) (head1 (Jvm.Cond.code (⟨"java/lang/StringUTF16", "checkIndex", "(I[B)V"⟩ : MethodName) jdk_52_method_91_code 2 none :: ws) ({ frames := 2, cells := 0, slots := 0, locals := 27 } : Room)) (fun a U => a = #[(.int p0), (.ref p1)] ∧ Z.Warmed39 U.vm ∧ U.heap = h0) (fun _ _ _ _ _ => True) (fun _ U o U' => ∃ v L, o = .returned v ∧ Q_rmUChk Z p0 p1 zc fm k z vs n h0 n0 v U'.heap L ∧ FrameEnd U o U' L ({ frames := 2, cells := 0, slots := 0, locals := 27 } : Room).cells ({ frames := 2, cells := 0, slots := 0, locals := 27 } : Room).slots) := by
  refine MetFree.of_bodySF (plainFor_of_name pn_java_lang_StringUTF16) hisR ?_
  intro p e s m args below meth c s₁ Bd hml0 hP hK
  obtain ⟨rfl, hZ, hh⟩ := hP
  have hx := Bd.exec
  have hby := Bd.bytes
  have hml : c.maxLocals = 2 := hml0
  have hown : s.vm.findClass "java/lang/StringUTF16" = some m.cls := findClass_of_methodNamed Bd.named
  have hnm := (name_of_methodNamed Bd.named Bd.method).1
  have hZo := hZ
  have howno := hown
  have X0 : Stand p l e ({ frames := 2, cells := 0, slots := 0, locals := 27 } : Room) s m #[(.int p0), (.ref p1)] below meth c s₁ [] 0 0 := Stand.of_body Bd
  have e0 : s₁.heap = h0 := by rw [← hh, Bd.state]; rfl
  have N0 := Fr.nil n0
  have pre0 : ∀ t, Steps p.tables e below (s₁.setTop (mkF m 0 #[.val (.int p0), .val (.ref p1)] [])) t → Steps p.tables e below (s₁.setTop (entryFrame m #[(.int p0), (.ref p1)] 2)) t := fun t k => castTop (ef_rmUChk m p0 p1 ) k
  obtain ⟨_, _, ⟨T1, L1, k1, n1⟩, -, X1, ⟨Lc1, hQ1, l1, y1, z1⟩, st1⟩ := Jvm.LawKit.callS X0 hx (y := (⟨"java/lang/StringUTF16", "length", "([B)I"⟩ : MethodName)) hown (mvT hZ (hw _ (List.mem_of_getElem? (i := 105) rfl))) (mvT hZ (hw _ (List.mem_of_getElem? (i := 106) rfl))) (mvT hZ (hw _ (List.mem_of_getElem? (i := 59) rfl))) (mvT hZ (hw _ (List.mem_of_getElem? (i := 107) rfl))) (by decide) (backOf (W := 1) (rmULen l Z a0 hw [] p1 zc fm k z vs n h0 n0 Z0 hSt Ol A0 hn) hZ (hw _ (List.mem_of_getElem? (i := 107) rfl)) (hw _ (List.mem_of_getElem? (i := 59) rfl)) (by decide) (by decide)) (g := (mkF m 2 #[.val (.int p0), .val (.ref p1)] [(.ref p1), (.int p0)])) rfl (by rw [hml]; rfl) (argsL := [(.ref p1)]) (rest := [(.int p0)]) (lenOf pd___B_I rfl) rfl (by show 2 * 0 + _ ≤ _; exact Nat.le_of_eq rfl) (hb hby d22_2) (fun _ _ => ⟨rfl, e0, (by decide : 0 + 0 ≤ _), (by decide : 0 + 0 ≤ _)⟩)
  dsimp only [Pt.U, Pt.locs, Pt.cells, Pt.slots] at X1 l1 y1 z1 st1 hQ1
  subst l1 y1 z1
  obtain ⟨rfl, Nq1, e1⟩ := hQ1
  have N1 := Fr.app N0 Nq1
  obtain ⟨_, _, ⟨T2, L2, k2, n2⟩, -, X2, ⟨Lc2, hQ2, l2, y2, z2⟩, st2⟩ := Jvm.LawKit.callS X1 hx (y := (⟨"java/lang/String", "checkIndex", "(II)V"⟩ : MethodName)) hown (mvT hZ (hw _ (List.mem_of_getElem? (i := 108) rfl))) (mvT hZ (hw _ (List.mem_of_getElem? (i := 109) rfl))) (mvT hZ (hw _ (List.mem_of_getElem? (i := 1) rfl))) (mvT hZ (hw _ (List.mem_of_getElem? (i := 110) rfl))) (by decide) (backOf (W := 0) (rmChk l Z a0 hw [] p0 n zc fm  h0 n0 Z0 hSt Ol hi.1 hi.2) hZ (hw _ (List.mem_of_getElem? (i := 110) rfl)) (hw _ (List.mem_of_getElem? (i := 1) rfl)) (by decide) (by decide)) (g := (mkF m 5 #[.val (.int p0), .val (.ref p1)] [(.int n), (.int p0)])) rfl (by rw [hml]; rfl) (argsL := [(.int p0), (.int n)]) (rest := []) (lenOf pd__II_V rfl) rfl (by show 2 * 0 + _ ≤ _; exact Nat.le_of_eq rfl) (hb hby d22_5) (fun _ _ => ⟨rfl, e1, (by decide : 0 + 0 ≤ _), (by decide : 0 + 0 ≤ _)⟩)
  dsimp only [Pt.U, Pt.locs, Pt.cells, Pt.slots] at X2 l2 y2 z2 st2 hQ2
  subst l2 y2 z2
  obtain ⟨rfl, Nq2, e2⟩ := hQ2
  have N2 := Fr.app N1 Nq2
  obtain ⟨fs, hr, hrun, hended, hW, hsame⟩ := X2.leave (v := none) (fun _ => rfl)
  refine ⟨_, _, pre0 _ ?_, hrun, hended, _, _, rfl, ?_, ⟨_, rfl⟩, hW, hsame.mono (by decide) (by decide)⟩
  · show Steps p.tables e below (s₁.setTop (mkF m 0 #[.val (.int p0), .val (.ref p1)] [])) _
    refine XS.iloadN X0.here hx rfl (hb hby d22_0) rfl  ?_
    show Steps p.tables e below (s₁.setTop (mkF m 1 #[.val (.int p0), .val (.ref p1)] [(.int p0)])) _
    refine XS.aloadN X0.here hx rfl (hb hby d22_1) rfl rfl ?_
    show Steps p.tables e below (s₁.setTop (mkF m 2 #[.val (.int p0), .val (.ref p1)] [(.ref p1), (.int p0)])) _
    refine st1 _ ?_
    show Steps p.tables e below (T1.setTop (mkF m 5 #[.val (.int p0), .val (.ref p1)] [(.int n), (.int p0)])) _
    refine st2 _ ?_
    show Steps p.tables e below (T2.setTop (mkF m 8 #[.val (.int p0), .val (.ref p1)] [])) _
    exact X2.returnOut hx Bd.returns (hb hby d22_8) hr
  · show Q_rmUChk Z p0 p1 zc fm k z vs n h0 n0 _ T2.heap _
    rw [e2]
    exact ⟨rfl, N2, rfl⟩
theorem ef_rmGet (m : MethodId) (p0 : Addr) (p1 : Int32) : entryFrame m #[(.ref p0), (.int p1)] 2 = mkF m 0 #[.val (.ref p0), .val (.int p1)] [] := by first | (simp [entryFrame, mkF, argsToLocals, Value.category]; done) | rfl
theorem d17_0 : decode jdk_52_method_5_code 0 = .ok (.getstatic 44, 3) := by decide +kernel
theorem d17_3 : decode jdk_52_method_5_code 3 = .ok (.ifCond .ne 25, 3) := by decide +kernel
theorem d17_28 : decode jdk_52_method_5_code 28 = .ok (.iload_n 1, 1) := by decide +kernel
theorem d17_29 : decode jdk_52_method_5_code 29 = .ok (.iconst 1, 1) := by decide +kernel
theorem d17_30 : decode jdk_52_method_5_code 30 = .ok (.ishl, 1) := by decide +kernel
theorem d17_31 : decode jdk_52_method_5_code 31 = .ok (.istore_n 1, 1) := by decide +kernel
theorem d17_32 : decode jdk_52_method_5_code 32 = .ok (.aload_n 0, 1) := by decide +kernel
theorem d17_33 : decode jdk_52_method_5_code 33 = .ok (.iload_n 1, 1) := by decide +kernel
theorem d17_34 : decode jdk_52_method_5_code 34 = .ok (.iinc 1 1, 3) := by decide +kernel
theorem d17_37 : decode jdk_52_method_5_code 37 = .ok (.baload, 1) := by decide +kernel
theorem d17_38 : decode jdk_52_method_5_code 38 = .ok (.sipush 255, 3) := by decide +kernel
theorem d17_41 : decode jdk_52_method_5_code 41 = .ok (.iand, 1) := by decide +kernel
theorem d17_42 : decode jdk_52_method_5_code 42 = .ok (.getstatic 59, 3) := by decide +kernel
theorem d17_45 : decode jdk_52_method_5_code 45 = .ok (.ishl, 1) := by decide +kernel
theorem d17_46 : decode jdk_52_method_5_code 46 = .ok (.aload_n 0, 1) := by decide +kernel
theorem d17_47 : decode jdk_52_method_5_code 47 = .ok (.iload_n 1, 1) := by decide +kernel
theorem d17_48 : decode jdk_52_method_5_code 48 = .ok (.baload, 1) := by decide +kernel
theorem d17_49 : decode jdk_52_method_5_code 49 = .ok (.sipush 255, 3) := by decide +kernel
theorem d17_52 : decode jdk_52_method_5_code 52 = .ok (.iand, 1) := by decide +kernel
theorem d17_53 : decode jdk_52_method_5_code 53 = .ok (.getstatic 63, 3) := by decide +kernel
theorem d17_56 : decode jdk_52_method_5_code 56 = .ok (.ishl, 1) := by decide +kernel
theorem d17_57 : decode jdk_52_method_5_code 57 = .ok (.ior, 1) := by decide +kernel
theorem d17_58 : decode jdk_52_method_5_code 58 = .ok (.i2c, 1) := by decide +kernel
theorem d17_59 : decode jdk_52_method_5_code 59 = .ok (.ireturn, 1) := by decide +kernel
def Q_rmGet (Z : State) (p0 : Addr) (p1 : Int32) (zc : Int32) (fm : Value) (k : ClassId) (z : Int32) (vs : List Value) (b : Int32) (d : Int32) (r : Int32) (h0 : Heap) (n0 : Nat) (v : Option Value) (h : Heap) (L : List Loc) : Prop := v = some (.int r) ∧ Fr n0 L ∧ h = h0
set_option maxRecDepth 65536 in
set_option maxHeartbeats 40000000 in
theorem rmGet (l : Launch) (Z : State) (a0 : Array Value) (hw : ∀ d ∈ tables_1, d.before a0 Z = true) (ws : List Jvm.Cond) (p0 : Addr) (p1 : Int32) (zc : Int32) (fm : Value) (k : ClassId) (z : Int32) (vs : List Value) (b : Int32) (d : Int32) (r : Int32) (h0 : Heap) (n0 : Nat) (Z0 : n0 ≤ h0.size) (hSt : own_St Z zc fm) (Ol : Old Z n0 h0) (A0 : Arv Z h0 p0 k .byte z vs (.int (0 : Int32))) (hi1 : ¬ (p1 <<< ((1 : Int32) &&& 31)) < (0 : Int32) ∧ (p1 <<< ((1 : Int32) &&& 31)) < z) (hi2 : ¬ ((p1 <<< ((1 : Int32) &&& 31)) + (1 : Int32)) < (0 : Int32) ∧ ((p1 <<< ((1 : Int32) &&& 31)) + (1 : Int32)) < z) (hab1 : vs.getD (p1 <<< ((1 : Int32) &&& 31)).toNatClampNeg (.int (0 : Int32)) = .int b) (hab2 : vs.getD ((p1 <<< ((1 : Int32) &&& 31)) + (1 : Int32)).toNatClampNeg (.int (0 : Int32)) = .int d) (hres : r = nar .char (((b &&& (255 : Int32)) <<< ((0 : Int32) &&& 31)) ||| ((d &&& (255 : Int32)) <<< ((8 : Int32) &&& 31))).toUInt32.toUInt16.toUInt32.toInt32) :
    MetFree l (⟨"java/lang/StringUTF16", "getChar", "([BI)C"⟩ : MethodName) (head1 (Jvm.Cond.code (⟨"java/lang/StringUTF16", "getChar", "([BI)C"⟩ : MethodName) jdk_52_method_5_code 2 (some .char) :: ws) ({ frames := 0, cells := 0, slots := 0, locals := 0 } : Room)) (fun a U => a = #[(.ref p0), (.int p1)] ∧ Z.Warmed39 U.vm ∧ U.heap = h0) (fun _ _ _ _ _ => True) (fun _ U o U' => ∃ v L, o = .returned v ∧ Q_rmGet Z p0 p1 zc fm k z vs b d r h0 n0 v U'.heap L ∧ FrameEnd U o U' L ({ frames := 0, cells := 0, slots := 0, locals := 0 } : Room).cells ({ frames := 0, cells := 0, slots := 0, locals := 0 } : Room).slots) := by
  refine MetFree.of_bodySF (plainFor_of_name pn_java_lang_StringUTF16) hisR ?_
  intro p e s m args below meth c s₁ Bd hml0 hP hK
  obtain ⟨rfl, hZ, hh⟩ := hP
  have hx := Bd.exec
  have hby := Bd.bytes
  have hml : c.maxLocals = 2 := hml0
  have hown : s.vm.findClass "java/lang/StringUTF16" = some m.cls := findClass_of_methodNamed Bd.named
  have hnm := (name_of_methodNamed Bd.named Bd.method).1
  have hZo := hZ
  have howno := hown
  have X0 : Stand p l e ({ frames := 0, cells := 0, slots := 0, locals := 0 } : Room) s m #[(.ref p0), (.int p1)] below meth c s₁ [] 0 0 := Stand.of_body Bd
  have e0 : s₁.heap = h0 := by rw [← hh, Bd.state]; rfl
  have N0 := Fr.nil n0
  have pre0 : ∀ t, Steps p.tables e below (s₁.setTop (mkF m 0 #[.val (.ref p0), .val (.int p1)] [])) t → Steps p.tables e below (s₁.setTop (entryFrame m #[(.ref p0), (.int p1)] 2)) t := fun t k => castTop (ef_rmGet m p0 p1 ) k
  obtain ⟨T1, X1, e1, st1⟩ := getS2 X0 hx hZ hown (host := "") (Or.inl (hw _ (List.mem_of_getElem? (i := 77) rfl))) Via.refl e0 (hSt.2.2.2.2.1.ext Ol.2) (g := (mkF m 0 #[.val (.ref p0), .val (.int p1)] [])) rfl (hb hby d17_0)
  obtain ⟨cl2, Ar2, q2, S2, N2, H2, G2⟩ := id A0
  have hin2 : ¬ ((p1 <<< ((1 : Int32) &&& 31)) < 0 ∨ cl2.slots.size ≤ ((p1 <<< ((1 : Int32) &&& 31))).toNatClampNeg) := inb_of S2 hi1
  have hat2 : cl2.slots[((p1 <<< ((1 : Int32) &&& 31))).toNatClampNeg]? = some (.int b) := Has.at H2 hin2 hab1
  obtain ⟨T3, X3, e3, st3⟩ := getS2 X1 hx hZ hown (host := "") (Or.inl (hw _ (List.mem_of_getElem? (i := 78) rfl))) Via.refl e1 (hSt.2.2.2.2.2.1.ext Ol.2) (g := (mkF m 42 #[.val (.ref p0), .val (.int ((p1 <<< ((1 : Int32) &&& 31)) + (1 : Int32)))] [(.int (b &&& (255 : Int32)))])) rfl (hb hby d17_42)
  obtain ⟨cl4, Ar4, q4, S4, N4, H4, G4⟩ := id A0
  have hin4 : ¬ (((p1 <<< ((1 : Int32) &&& 31)) + (1 : Int32)) < 0 ∨ cl4.slots.size ≤ (((p1 <<< ((1 : Int32) &&& 31)) + (1 : Int32))).toNatClampNeg) := inb_of S4 hi2
  have hat4 : cl4.slots[(((p1 <<< ((1 : Int32) &&& 31)) + (1 : Int32))).toNatClampNeg]? = some (.int d) := Has.at H4 hin4 hab2
  obtain ⟨T5, X5, e5, st5⟩ := getS2 X3 hx hZ hown (host := "") (Or.inl (hw _ (List.mem_of_getElem? (i := 79) rfl))) Via.refl e3 (hSt.2.2.2.2.2.2.ext Ol.2) (g := (mkF m 53 #[.val (.ref p0), .val (.int ((p1 <<< ((1 : Int32) &&& 31)) + (1 : Int32)))] [(.int (d &&& (255 : Int32))), (.int ((b &&& (255 : Int32)) <<< ((0 : Int32) &&& 31)))])) rfl (hb hby d17_53)
  obtain ⟨fs, hr, hrun, hended, hW, hsame⟩ := X5.leave (v := some (.int (nar .char ((((b &&& (255 : Int32)) <<< ((0 : Int32) &&& 31)) ||| ((d &&& (255 : Int32)) <<< ((8 : Int32) &&& 31))).toUInt32.toUInt16.toUInt32.toInt32)))) (fun h => by rw [Bd.returns] at h; cases h)
  refine ⟨_, _, pre0 _ ?_, hrun, hended, _, _, rfl, ?_, ⟨_, rfl⟩, hW, hsame.mono (by decide) (by decide)⟩
  · show Steps p.tables e below (s₁.setTop (mkF m 0 #[.val (.ref p0), .val (.int p1)] [])) _
    refine st1 _ ?_
    show Steps p.tables e below (T1.setTop (mkF m 3 #[.val (.ref p0), .val (.int p1)] [(.int (1 : Int32))])) _
    refine XS.ifYes X1.here hx rfl (pc0 := 3) (pc' := 28) rfl (hb hby d17_3) rfl ((if0 _ _).trans (feq (by decide : ¬ ((1 : Int32) = (0 : Int32)))).2) (by decide) (by decide) ?_
    show Steps p.tables e below (T1.setTop (mkF m 28 #[.val (.ref p0), .val (.int p1)] [])) _
    refine XS.iloadN X1.here hx rfl (hb hby d17_28) rfl  ?_
    show Steps p.tables e below (T1.setTop (mkF m 29 #[.val (.ref p0), .val (.int p1)] [(.int p1)])) _
    refine XS.iconst X1.here hx rfl (hb hby d17_29) ?_
    show Steps p.tables e below (T1.setTop (mkF m 30 #[.val (.ref p0), .val (.int p1)] [(.int (1 : Int32)), (.int p1)])) _
    refine XS.ishl X1.here hx rfl (hb hby d17_30) rfl ?_
    show Steps p.tables e below (T1.setTop (mkF m 31 #[.val (.ref p0), .val (.int p1)] [(.int (p1 <<< ((1 : Int32) &&& 31)))])) _
    refine XS.istoreN X1.here hx rfl (hb hby d17_31) rfl (l' := #[.val (.ref p0), .val (.int (p1 <<< ((1 : Int32) &&& 31)))]) rfl ?_
    show Steps p.tables e below (T1.setTop (mkF m 32 #[.val (.ref p0), .val (.int (p1 <<< ((1 : Int32) &&& 31)))] [])) _
    refine XS.aloadN X1.here hx rfl (hb hby d17_32) rfl rfl ?_
    show Steps p.tables e below (T1.setTop (mkF m 33 #[.val (.ref p0), .val (.int (p1 <<< ((1 : Int32) &&& 31)))] [(.ref p0)])) _
    refine XS.iloadN X1.here hx rfl (hb hby d17_33) rfl  ?_
    show Steps p.tables e below (T1.setTop (mkF m 34 #[.val (.ref p0), .val (.int (p1 <<< ((1 : Int32) &&& 31)))] [(.int (p1 <<< ((1 : Int32) &&& 31))), (.ref p0)])) _
    refine XS.iinc X1.here hx rfl (hb hby d17_34) rfl (l' := #[.val (.ref p0), .val (.int ((p1 <<< ((1 : Int32) &&& 31)) + (1 : Int32)))]) rfl ?_
    show Steps p.tables e below (T1.setTop (mkF m 37 #[.val (.ref p0), .val (.int ((p1 <<< ((1 : Int32) &&& 31)) + (1 : Int32)))] [(.int (p1 <<< ((1 : Int32) &&& 31))), (.ref p0)])) _
    refine X1.baloadBytes hx (j := (p1 <<< ((1 : Int32) &&& 31))) (v := (.int b)) (by rw [e1]; exact Ar2.1) (State.isArrayOf_alike hZ.alike Ar2.2.1) Ar2.2.2 hin2 hat2 (g := (mkF m 37 #[.val (.ref p0), .val (.int ((p1 <<< ((1 : Int32) &&& 31)) + (1 : Int32)))] [(.int (p1 <<< ((1 : Int32) &&& 31))), (.ref p0)])) rfl rfl (hb hby d17_37) _ ?_
    show Steps p.tables e below (T1.setTop (mkF m 38 #[.val (.ref p0), .val (.int ((p1 <<< ((1 : Int32) &&& 31)) + (1 : Int32)))] [(.int b)])) _
    refine XS.sipush X1.here hx rfl (hb hby d17_38) ?_
    show Steps p.tables e below (T1.setTop (mkF m 41 #[.val (.ref p0), .val (.int ((p1 <<< ((1 : Int32) &&& 31)) + (1 : Int32)))] [(.int (255 : Int32)), (.int b)])) _
    refine XS.iand X1.here hx rfl (hb hby d17_41) rfl ?_
    show Steps p.tables e below (T1.setTop (mkF m 42 #[.val (.ref p0), .val (.int ((p1 <<< ((1 : Int32) &&& 31)) + (1 : Int32)))] [(.int (b &&& (255 : Int32)))])) _
    refine st3 _ ?_
    show Steps p.tables e below (T3.setTop (mkF m 45 #[.val (.ref p0), .val (.int ((p1 <<< ((1 : Int32) &&& 31)) + (1 : Int32)))] [(.int (0 : Int32)), (.int (b &&& (255 : Int32)))])) _
    refine XS.ishl X3.here hx rfl (hb hby d17_45) rfl ?_
    show Steps p.tables e below (T3.setTop (mkF m 46 #[.val (.ref p0), .val (.int ((p1 <<< ((1 : Int32) &&& 31)) + (1 : Int32)))] [(.int ((b &&& (255 : Int32)) <<< ((0 : Int32) &&& 31)))])) _
    refine XS.aloadN X3.here hx rfl (hb hby d17_46) rfl rfl ?_
    show Steps p.tables e below (T3.setTop (mkF m 47 #[.val (.ref p0), .val (.int ((p1 <<< ((1 : Int32) &&& 31)) + (1 : Int32)))] [(.ref p0), (.int ((b &&& (255 : Int32)) <<< ((0 : Int32) &&& 31)))])) _
    refine XS.iloadN X3.here hx rfl (hb hby d17_47) rfl  ?_
    show Steps p.tables e below (T3.setTop (mkF m 48 #[.val (.ref p0), .val (.int ((p1 <<< ((1 : Int32) &&& 31)) + (1 : Int32)))] [(.int ((p1 <<< ((1 : Int32) &&& 31)) + (1 : Int32))), (.ref p0), (.int ((b &&& (255 : Int32)) <<< ((0 : Int32) &&& 31)))])) _
    refine X3.baloadBytes hx (j := ((p1 <<< ((1 : Int32) &&& 31)) + (1 : Int32))) (v := (.int d)) (by rw [e3]; exact Ar4.1) (State.isArrayOf_alike hZ.alike Ar4.2.1) Ar4.2.2 hin4 hat4 (g := (mkF m 48 #[.val (.ref p0), .val (.int ((p1 <<< ((1 : Int32) &&& 31)) + (1 : Int32)))] [(.int ((p1 <<< ((1 : Int32) &&& 31)) + (1 : Int32))), (.ref p0), (.int ((b &&& (255 : Int32)) <<< ((0 : Int32) &&& 31)))])) rfl rfl (hb hby d17_48) _ ?_
    show Steps p.tables e below (T3.setTop (mkF m 49 #[.val (.ref p0), .val (.int ((p1 <<< ((1 : Int32) &&& 31)) + (1 : Int32)))] [(.int d), (.int ((b &&& (255 : Int32)) <<< ((0 : Int32) &&& 31)))])) _
    refine XS.sipush X3.here hx rfl (hb hby d17_49) ?_
    show Steps p.tables e below (T3.setTop (mkF m 52 #[.val (.ref p0), .val (.int ((p1 <<< ((1 : Int32) &&& 31)) + (1 : Int32)))] [(.int (255 : Int32)), (.int d), (.int ((b &&& (255 : Int32)) <<< ((0 : Int32) &&& 31)))])) _
    refine XS.iand X3.here hx rfl (hb hby d17_52) rfl ?_
    show Steps p.tables e below (T3.setTop (mkF m 53 #[.val (.ref p0), .val (.int ((p1 <<< ((1 : Int32) &&& 31)) + (1 : Int32)))] [(.int (d &&& (255 : Int32))), (.int ((b &&& (255 : Int32)) <<< ((0 : Int32) &&& 31)))])) _
    refine st5 _ ?_
    show Steps p.tables e below (T5.setTop (mkF m 56 #[.val (.ref p0), .val (.int ((p1 <<< ((1 : Int32) &&& 31)) + (1 : Int32)))] [(.int (8 : Int32)), (.int (d &&& (255 : Int32))), (.int ((b &&& (255 : Int32)) <<< ((0 : Int32) &&& 31)))])) _
    refine XS.ishl X5.here hx rfl (hb hby d17_56) rfl ?_
    show Steps p.tables e below (T5.setTop (mkF m 57 #[.val (.ref p0), .val (.int ((p1 <<< ((1 : Int32) &&& 31)) + (1 : Int32)))] [(.int ((d &&& (255 : Int32)) <<< ((8 : Int32) &&& 31))), (.int ((b &&& (255 : Int32)) <<< ((0 : Int32) &&& 31)))])) _
    refine XS.ior X5.here hx rfl (hb hby d17_57) rfl ?_
    show Steps p.tables e below (T5.setTop (mkF m 58 #[.val (.ref p0), .val (.int ((p1 <<< ((1 : Int32) &&& 31)) + (1 : Int32)))] [(.int (((b &&& (255 : Int32)) <<< ((0 : Int32) &&& 31)) ||| ((d &&& (255 : Int32)) <<< ((8 : Int32) &&& 31))))])) _
    refine XS.i2c X5.here hx rfl (hb hby d17_58) rfl ?_
    show Steps p.tables e below (T5.setTop (mkF m 59 #[.val (.ref p0), .val (.int ((p1 <<< ((1 : Int32) &&& 31)) + (1 : Int32)))] [(.int ((((b &&& (255 : Int32)) <<< ((0 : Int32) &&& 31)) ||| ((d &&& (255 : Int32)) <<< ((8 : Int32) &&& 31))).toUInt32.toUInt16.toUInt32.toInt32))])) _
    exact retN X5 hx (t := .char) Bd.returns (by simp) (hb hby d17_59) hr
  · show Q_rmGet Z p0 p1 zc fm k z vs b d r h0 n0 _ T5.heap _
    rw [e5]
    exact ⟨by rw [hres], N0, rfl⟩
theorem ef_rmUCh (m : MethodId) (p0 : Addr) (p1 : Int32) : entryFrame m #[(.ref p0), (.int p1)] 2 = mkF m 0 #[.val (.ref p0), .val (.int p1)] [] := by first | (simp [entryFrame, mkF, argsToLocals, Value.category]; done) | rfl
theorem d21_0 : decode jdk_52_method_83_code 0 = .ok (.iload_n 1, 1) := by decide +kernel
theorem d21_1 : decode jdk_52_method_83_code 1 = .ok (.aload_n 0, 1) := by decide +kernel
theorem pd__I_B_V : parseMethodDescriptor "(I[B)V" = some ⟨[.int, (.array .byte)], none⟩ := by decide +kernel
theorem d21_2 : decode jdk_52_method_83_code 2 = .ok (.invokestatic 67, 3) := by decide +kernel
theorem d21_5 : decode jdk_52_method_83_code 5 = .ok (.aload_n 0, 1) := by decide +kernel
theorem d21_6 : decode jdk_52_method_83_code 6 = .ok (.iload_n 1, 1) := by decide +kernel
theorem pd___BI_C : parseMethodDescriptor "([BI)C" = some ⟨[(.array .byte), .int], some .char⟩ := by decide +kernel
theorem d21_7 : decode jdk_52_method_83_code 7 = .ok (.invokestatic 71, 3) := by decide +kernel
theorem d21_10 : decode jdk_52_method_83_code 10 = .ok (.ireturn, 1) := by decide +kernel
def Q_rmUCh (Z : State) (p0 : Addr) (p1 : Int32) (zc : Int32) (fm : Value) (k : ClassId) (z : Int32) (vs : List Value) (n : Int32) (b : Int32) (d : Int32) (r' : Int32) (r : Int32) (h0 : Heap) (n0 : Nat) (v : Option Value) (h : Heap) (L : List Loc) : Prop := v = some (.int r) ∧ Fr n0 L ∧ h = h0
set_option maxRecDepth 65536 in
set_option maxHeartbeats 40000000 in
theorem rmUCh (l : Launch) (Z : State) (a0 : Array Value) (hw : ∀ d ∈ tables_1, d.before a0 Z = true) (ws : List Jvm.Cond) (p0 : Addr) (p1 : Int32) (zc : Int32) (fm : Value) (k : ClassId) (z : Int32) (vs : List Value) (n : Int32) (b : Int32) (d : Int32) (r' : Int32) (r : Int32) (h0 : Heap) (n0 : Nat) (Z0 : n0 ≤ h0.size) (hSt : own_St Z zc fm) (Ol : Old Z n0 h0) (A0 : Arv Z h0 p0 k .byte z vs (.int (0 : Int32))) (hn : n = z >>> ((1 : Int32) &&& 31)) (hi : ¬ p1 < (0 : Int32) ∧ p1 < n) (hi1 : ¬ (p1 <<< ((1 : Int32) &&& 31)) < (0 : Int32) ∧ (p1 <<< ((1 : Int32) &&& 31)) < z) (hi2 : ¬ ((p1 <<< ((1 : Int32) &&& 31)) + (1 : Int32)) < (0 : Int32) ∧ ((p1 <<< ((1 : Int32) &&& 31)) + (1 : Int32)) < z) (hab1 : vs.getD (p1 <<< ((1 : Int32) &&& 31)).toNatClampNeg (.int (0 : Int32)) = .int b) (hab2 : vs.getD ((p1 <<< ((1 : Int32) &&& 31)) + (1 : Int32)).toNatClampNeg (.int (0 : Int32)) = .int d) (hr' : r' = nar .char (((b &&& (255 : Int32)) <<< ((0 : Int32) &&& 31)) ||| ((d &&& (255 : Int32)) <<< ((8 : Int32) &&& 31))).toUInt32.toUInt16.toUInt32.toInt32) (hres : r = nar .char r') :
    MetFree l (⟨"java/lang/StringUTF16", "charAt", "([BI)C"⟩ : MethodName) (head1 (Jvm.Cond.code (⟨"java/lang/StringUTF16", "charAt", "([BI)C"⟩ : MethodName) jdk_52_method_83_code 2 (some .char) :: ws) ({ frames := 3, cells := 0, slots := 0, locals := 40 } : Room)) (fun a U => a = #[(.ref p0), (.int p1)] ∧ Z.Warmed39 U.vm ∧ U.heap = h0) (fun _ _ _ _ _ => True) (fun _ U o U' => ∃ v L, o = .returned v ∧ Q_rmUCh Z p0 p1 zc fm k z vs n b d r' r h0 n0 v U'.heap L ∧ FrameEnd U o U' L ({ frames := 3, cells := 0, slots := 0, locals := 40 } : Room).cells ({ frames := 3, cells := 0, slots := 0, locals := 40 } : Room).slots) := by
  refine MetFree.of_bodySF (plainFor_of_name pn_java_lang_StringUTF16) hisR ?_
  intro p e s m args below meth c s₁ Bd hml0 hP hK
  obtain ⟨rfl, hZ, hh⟩ := hP
  have hx := Bd.exec
  have hby := Bd.bytes
  have hml : c.maxLocals = 2 := hml0
  have hown : s.vm.findClass "java/lang/StringUTF16" = some m.cls := findClass_of_methodNamed Bd.named
  have hnm := (name_of_methodNamed Bd.named Bd.method).1
  have hZo := hZ
  have howno := hown
  have X0 : Stand p l e ({ frames := 3, cells := 0, slots := 0, locals := 40 } : Room) s m #[(.ref p0), (.int p1)] below meth c s₁ [] 0 0 := Stand.of_body Bd
  have e0 : s₁.heap = h0 := by rw [← hh, Bd.state]; rfl
  have N0 := Fr.nil n0
  have pre0 : ∀ t, Steps p.tables e below (s₁.setTop (mkF m 0 #[.val (.ref p0), .val (.int p1)] [])) t → Steps p.tables e below (s₁.setTop (entryFrame m #[(.ref p0), (.int p1)] 2)) t := fun t k => castTop (ef_rmUCh m p0 p1 ) k
  obtain ⟨_, _, ⟨T1, L1, k1, n1⟩, -, X1, ⟨Lc1, hQ1, l1, y1, z1⟩, st1⟩ := Jvm.LawKit.callS X0 hx (y := (⟨"java/lang/StringUTF16", "checkIndex", "(I[B)V"⟩ : MethodName)) hown (mvT hZ (hw _ (List.mem_of_getElem? (i := 102) rfl))) (mvT hZ (hw _ (List.mem_of_getElem? (i := 103) rfl))) (mvT hZ (hw _ (List.mem_of_getElem? (i := 59) rfl))) (mvT hZ (hw _ (List.mem_of_getElem? (i := 104) rfl))) (by decide) (backOf (W := 0) (rmUChk l Z a0 hw [] p1 p0 zc fm k z vs n h0 n0 Z0 hSt Ol A0 hn hi) hZ (hw _ (List.mem_of_getElem? (i := 104) rfl)) (hw _ (List.mem_of_getElem? (i := 59) rfl)) (by decide) (by decide)) (g := (mkF m 2 #[.val (.ref p0), .val (.int p1)] [(.ref p0), (.int p1)])) rfl (by rw [hml]; rfl) (argsL := [(.int p1), (.ref p0)]) (rest := []) (lenOf pd__I_B_V rfl) rfl (by show 2 * 0 + _ ≤ _; exact Nat.le_of_eq rfl) (hb hby d21_2) (fun _ _ => ⟨rfl, e0, (by decide : 0 + 0 ≤ _), (by decide : 0 + 0 ≤ _)⟩)
  dsimp only [Pt.U, Pt.locs, Pt.cells, Pt.slots] at X1 l1 y1 z1 st1 hQ1
  subst l1 y1 z1
  obtain ⟨rfl, Nq1, e1⟩ := hQ1
  have N1 := Fr.app N0 Nq1
  obtain ⟨_, _, ⟨T2, L2, k2, n2⟩, -, X2, ⟨Lc2, hQ2, l2, y2, z2⟩, st2⟩ := Jvm.LawKit.callS X1 hx (y := (⟨"java/lang/StringUTF16", "getChar", "([BI)C"⟩ : MethodName)) hown (mvT hZ (hw _ (List.mem_of_getElem? (i := 80) rfl))) (mvT hZ (hw _ (List.mem_of_getElem? (i := 81) rfl))) (mvT hZ (hw _ (List.mem_of_getElem? (i := 59) rfl))) (mvT hZ (hw _ (List.mem_of_getElem? (i := 82) rfl))) (by decide) (backOf (W := 0) (rmGet l Z a0 hw [] p0 p1 zc fm k z vs b d r' h0 n0 Z0 hSt Ol A0 hi1 hi2 hab1 hab2 hr') hZ (hw _ (List.mem_of_getElem? (i := 82) rfl)) (hw _ (List.mem_of_getElem? (i := 59) rfl)) (by decide) (by decide)) (g := (mkF m 7 #[.val (.ref p0), .val (.int p1)] [(.int p1), (.ref p0)])) rfl (by rw [hml]; rfl) (argsL := [(.ref p0), (.int p1)]) (rest := []) (lenOf pd___BI_C rfl) rfl (by show 2 * 0 + _ ≤ _; exact Nat.le_of_eq rfl) (hb hby d21_7) (fun _ _ => ⟨rfl, e1, (by decide : 0 + 0 ≤ _), (by decide : 0 + 0 ≤ _)⟩)
  dsimp only [Pt.U, Pt.locs, Pt.cells, Pt.slots] at X2 l2 y2 z2 st2 hQ2
  subst l2 y2 z2
  obtain ⟨rfl, Nq2, e2⟩ := hQ2
  have N2 := Fr.app N1 Nq2
  obtain ⟨fs, hr, hrun, hended, hW, hsame⟩ := X2.leave (v := some (.int (nar .char r'))) (fun h => by rw [Bd.returns] at h; cases h)
  refine ⟨_, _, pre0 _ ?_, hrun, hended, _, _, rfl, ?_, ⟨_, rfl⟩, hW, hsame.mono (by decide) (by decide)⟩
  · show Steps p.tables e below (s₁.setTop (mkF m 0 #[.val (.ref p0), .val (.int p1)] [])) _
    refine XS.iloadN X0.here hx rfl (hb hby d21_0) rfl  ?_
    show Steps p.tables e below (s₁.setTop (mkF m 1 #[.val (.ref p0), .val (.int p1)] [(.int p1)])) _
    refine XS.aloadN X0.here hx rfl (hb hby d21_1) rfl rfl ?_
    show Steps p.tables e below (s₁.setTop (mkF m 2 #[.val (.ref p0), .val (.int p1)] [(.ref p0), (.int p1)])) _
    refine st1 _ ?_
    show Steps p.tables e below (T1.setTop (mkF m 5 #[.val (.ref p0), .val (.int p1)] [])) _
    refine XS.aloadN X1.here hx rfl (hb hby d21_5) rfl rfl ?_
    show Steps p.tables e below (T1.setTop (mkF m 6 #[.val (.ref p0), .val (.int p1)] [(.ref p0)])) _
    refine XS.iloadN X1.here hx rfl (hb hby d21_6) rfl  ?_
    show Steps p.tables e below (T1.setTop (mkF m 7 #[.val (.ref p0), .val (.int p1)] [(.int p1), (.ref p0)])) _
    refine st2 _ ?_
    show Steps p.tables e below (T2.setTop (mkF m 10 #[.val (.ref p0), .val (.int p1)] [(.int r')])) _
    exact retN X2 hx (t := .char) Bd.returns (by simp) (hb hby d21_10) hr
  · show Q_rmUCh Z p0 p1 zc fm k z vs n b d r' r h0 n0 _ T2.heap _
    rw [e2]
    exact ⟨by rw [hres], N2, rfl⟩
theorem ef_rmCharAt (m : MethodId) (p0 : Addr) (p1 : Int32) : entryFrame m #[(.ref p0), (.int p1)] 2 = mkF m 0 #[.val (.ref p0), .val (.int p1)] [] := by first | (simp [entryFrame, mkF, argsToLocals, Value.category]; done) | rfl
theorem d19_0 : decode jdk_42_method_56_code 0 = .ok (.aload_n 0, 1) := by decide +kernel
theorem pd___Z : parseMethodDescriptor "()Z" = some ⟨[], some .boolean⟩ := by decide +kernel
theorem d19_1 : decode jdk_42_method_56_code 1 = .ok (.invokevirtual 492, 3) := by decide +kernel
theorem d19_4 : decode jdk_42_method_56_code 4 = .ok (.ifCond .eq 12, 3) := by decide +kernel
theorem d19_7 : decode jdk_42_method_56_code 7 = .ok (.aload_n 0, 1) := by decide +kernel
theorem d19_8 : decode jdk_42_method_56_code 8 = .ok (.getfield 9, 3) := by decide +kernel
theorem d19_11 : decode jdk_42_method_56_code 11 = .ok (.iload_n 1, 1) := by decide +kernel
theorem d19_12 : decode jdk_42_method_56_code 12 = .ok (.invokestatic 495, 3) := by decide +kernel
theorem d19_15 : decode jdk_42_method_56_code 15 = .ok (.ireturn, 1) := by decide +kernel
theorem d19_16 : decode jdk_42_method_56_code 16 = .ok (.aload_n 0, 1) := by decide +kernel
theorem d19_17 : decode jdk_42_method_56_code 17 = .ok (.getfield 9, 3) := by decide +kernel
theorem d19_20 : decode jdk_42_method_56_code 20 = .ok (.iload_n 1, 1) := by decide +kernel
theorem d19_21 : decode jdk_42_method_56_code 21 = .ok (.invokestatic 498, 3) := by decide +kernel
theorem d19_24 : decode jdk_42_method_56_code 24 = .ok (.ireturn, 1) := by decide +kernel
def Q_rmCharAt (Z : State) (p0 : Addr) (p1 : Int32) (zc : Int32) (fm : Value) (cs : List Int32) (r : Int32) (h0 : Heap) (n0 : Nat) (v : Option Value) (h : Heap) (L : List Loc) : Prop := v = some (.int r) ∧ Fr n0 L ∧ h = h0
set_option maxRecDepth 65536 in
set_option maxHeartbeats 40000000 in
theorem rmCharAt (l : Launch) (Z : State) (a0 : Array Value) (hw : ∀ d ∈ tables_1, d.before a0 Z = true) (ws : List Jvm.Cond) (p0 : Addr) (p1 : Int32) (zc : Int32) (fm : Value) (cs : List Int32) (r : Int32) (h0 : Heap) (n0 : Nat) (Z0 : n0 ≤ h0.size) (hSt : own_St Z zc fm) (Ol : Old Z n0 h0) (hS : own_Str Z h0 p0 cs) (hi : ¬ p1 < (0 : Int32) ∧ p1.toNatClampNeg < cs.length) (hres : r = cs.getD p1.toNatClampNeg 0) :
    MetFree l (⟨"java/lang/String", "charAt", "(I)C"⟩ : MethodName) (head1 (Jvm.Cond.code (⟨"java/lang/String", "charAt", "(I)C"⟩ : MethodName) jdk_42_method_56_code 2 (some .char) :: ws) ({ frames := 4, cells := 0, slots := 0, locals := 53 } : Room)) (fun a U => a = #[(.ref p0), (.int p1)] ∧ Z.Warmed39 U.vm ∧ U.heap = h0) (fun _ _ _ _ _ => True) (fun _ U o U' => ∃ v L, o = .returned v ∧ Q_rmCharAt Z p0 p1 zc fm cs r h0 n0 v U'.heap L ∧ FrameEnd U o U' L ({ frames := 4, cells := 0, slots := 0, locals := 53 } : Room).cells ({ frames := 4, cells := 0, slots := 0, locals := 53 } : Room).slots) := by
  refine MetFree.of_bodySF (plainFor_of_name pn_java_lang_String) hisR ?_
  intro p e s m args below meth c s₁ Bd hml0 hP hK
  obtain ⟨rfl, hZ, hh⟩ := hP
  have hx := Bd.exec
  have hby := Bd.bytes
  have hml : c.maxLocals = 2 := hml0
  have hown : s.vm.findClass "java/lang/String" = some m.cls := findClass_of_methodNamed Bd.named
  have hnm := (name_of_methodNamed Bd.named Bd.method).1
  have hZo := hZ
  have howno := hown
  have X0 : Stand p l e ({ frames := 4, cells := 0, slots := 0, locals := 53 } : Room) s m #[(.ref p0), (.int p1)] below meth c s₁ [] 0 0 := Stand.of_body Bd
  have e0 : s₁.heap = h0 := by rw [← hh, Bd.state]; rfl
  have N0 := Fr.nil n0
  have pre0 : ∀ t, Steps p.tables e below (s₁.setTop (mkF m 0 #[.val (.ref p0), .val (.int p1)] [])) t → Steps p.tables e below (s₁.setTop (entryFrame m #[(.ref p0), (.int p1)] 2)) t := fun t k => castTop (ef_rmCharAt m p0 p1 ) k
  obtain ⟨t, k, cd, z, vs, E0, Fv, Fc, A0, hcod, hch, hln⟩ := hS
  rcases hcod with ⟨rfl, rfl, rfl, hle⟩ | ⟨rfl, rfl, rfl⟩
  · obtain ⟨cq1, kq1, q1a, q1b, q1c⟩ := isOf hZ e0 E0
    obtain ⟨_, _, ⟨T1, L1, k1, n1⟩, -, X1, ⟨Lc1, hQ1, l1, y1, z1⟩, st1⟩ := X0.virtualBack hx (y := (⟨"java/lang/String", "isLatin1", "()Z"⟩ : MethodName)) (z := (⟨"java/lang/String", "isLatin1", "()Z"⟩ : MethodName)) hown (mvT hZ (hw _ (List.mem_of_getElem? (i := 94) rfl))) (mvT hZ (hw _ (List.mem_of_getElem? (i := 95) rfl))) (notFace_of_selects (args := #[]) (mvT hZ (hw _ (List.mem_of_getElem? (i := 97) rfl)))) (mvT hZ (hw _ (List.mem_of_getElem? (i := 97) rfl))) (mvT hZ (hw _ (List.mem_of_getElem? (i := 96) rfl))) (by decide) (backOf (W := 0) (rmLat l Z a0 hw [] p0 zc fm (0 : Int32) (1 : Int32) h0 n0 Z0 hSt Ol Fc (by decide)) hZ (hw _ (List.mem_of_getElem? (i := 98) rfl)) (hw _ (List.mem_of_getElem? (i := 1) rfl)) (by decide) (by decide)) q1a q1c (g := (mkF m 1 #[.val (.ref p0), .val (.int p1)] [(.ref p0)])) rfl (by rw [hml]; rfl) (Steps.refl _) (argsL := []) (rest := []) (lenOf pd___Z rfl) rfl (by show 2 * 0 + _ ≤ _; exact Nat.le_of_eq rfl) (hb hby d19_1) (fun _ _ => ⟨rfl, e0, (by decide : 0 + 0 ≤ _), (by decide : 0 + 0 ≤ _)⟩)
    dsimp only [Pt.U, Pt.locs, Pt.cells, Pt.slots] at X1 l1 y1 z1 st1 hQ1
    subst l1 y1 z1
    obtain ⟨rfl, Nq1, e1⟩ := hQ1
    have N1 := Fr.app N0 Nq1
    obtain ⟨T2, X2, e2, st2⟩ := getF X1 hx hZ hown (host := "") (Or.inl (hw _ (List.mem_of_getElem? (i := 24) rfl))) Via.refl e1 Fv (g := (mkF m 8 #[.val (.ref p0), .val (.int p1)] [(.ref p0)])) rfl rfl (hb hby d19_8)
    have hcm := hch _ (own_mem hi.2)
    obtain ⟨_, _, ⟨T3, L3, k3, n3⟩, -, X3, ⟨Lc3, hQ3, l3, y3, z3⟩, st3⟩ := Jvm.LawKit.callS X2 hx (y := (⟨"java/lang/StringLatin1", "charAt", "([BI)C"⟩ : MethodName)) hown (mvT hZ (hw _ (List.mem_of_getElem? (i := 131) rfl))) (mvT hZ (hw _ (List.mem_of_getElem? (i := 132) rfl))) (mvT hZ (hw _ (List.mem_of_getElem? (i := 133) rfl))) (mvT hZ (hw _ (List.mem_of_getElem? (i := 134) rfl))) (by decide) (backOf (W := 0) (rmLCh l Z a0 hw [] t p1 zc fm k (Int32.ofNat cs.length) (own_nrw cs) (own_b (cs.getD p1.toNatClampNeg 0)) (cs.getD p1.toNatClampNeg 0) h0 n0 Z0 hSt Ol A0 ⟨hi.1, own_inr hi.1 hi.2 hln⟩ (own_getb cs _ hi.2) (own_rec8 hcm.1 (hle _ (own_mem hi.2))).symm) hZ (hw _ (List.mem_of_getElem? (i := 134) rfl)) (hw _ (List.mem_of_getElem? (i := 133) rfl)) (by decide) (by decide)) (g := (mkF m 12 #[.val (.ref p0), .val (.int p1)] [(.int p1), (.ref t)])) rfl (by rw [hml]; rfl) (argsL := [(.ref t), (.int p1)]) (rest := []) (lenOf pd___BI_C rfl) rfl (by show 2 * 0 + _ ≤ _; exact Nat.le_of_eq rfl) (hb hby d19_12) (fun _ _ => ⟨rfl, e2, (by decide : 0 + 0 ≤ _), (by decide : 0 + 0 ≤ _)⟩)
    dsimp only [Pt.U, Pt.locs, Pt.cells, Pt.slots] at X3 l3 y3 z3 st3 hQ3
    subst l3 y3 z3
    obtain ⟨rfl, Nq3, e3⟩ := hQ3
    have N3 := Fr.app N1 Nq3
    obtain ⟨fs, hr, hrun, hended, hW, hsame⟩ := X3.leave (v := some (.int (nar .char (cs.getD p1.toNatClampNeg 0)))) (fun h => by rw [Bd.returns] at h; cases h)
    refine ⟨_, _, pre0 _ ?_, hrun, hended, _, _, rfl, ?_, ⟨_, rfl⟩, hW, hsame.mono (by decide) (by decide)⟩
    · show Steps p.tables e below (s₁.setTop (mkF m 0 #[.val (.ref p0), .val (.int p1)] [])) _
      refine XS.aloadN X0.here hx rfl (hb hby d19_0) rfl rfl ?_
      show Steps p.tables e below (s₁.setTop (mkF m 1 #[.val (.ref p0), .val (.int p1)] [(.ref p0)])) _
      refine st1.trans ?_
      show Steps p.tables e below (T1.setTop (mkF m 4 #[.val (.ref p0), .val (.int p1)] [(.int (1 : Int32))])) _
      refine XS.ifNo X1.here hx rfl (hb hby d19_4) rfl ((if0 _ _).trans (feq (by decide : ¬ ((1 : Int32) = (0 : Int32)))).1) ?_
      show Steps p.tables e below (T1.setTop (mkF m 7 #[.val (.ref p0), .val (.int p1)] [])) _
      refine XS.aloadN X1.here hx rfl (hb hby d19_7) rfl rfl ?_
      show Steps p.tables e below (T1.setTop (mkF m 8 #[.val (.ref p0), .val (.int p1)] [(.ref p0)])) _
      refine st2 _ ?_
      show Steps p.tables e below (T2.setTop (mkF m 11 #[.val (.ref p0), .val (.int p1)] [(.ref t)])) _
      refine XS.iloadN X2.here hx rfl (hb hby d19_11) rfl  ?_
      show Steps p.tables e below (T2.setTop (mkF m 12 #[.val (.ref p0), .val (.int p1)] [(.int p1), (.ref t)])) _
      refine st3 _ ?_
      show Steps p.tables e below (T3.setTop (mkF m 15 #[.val (.ref p0), .val (.int p1)] [(.int (cs.getD p1.toNatClampNeg 0))])) _
      exact retN X3 hx (t := .char) Bd.returns (by simp) (hb hby d19_15) hr
    · show Q_rmCharAt Z p0 p1 zc fm cs r h0 n0 _ T3.heap _
      rw [e3]
      exact ⟨by rw [hres, own_narc hcm], N3, rfl⟩
  · obtain ⟨cq4, kq4, q4a, q4b, q4c⟩ := isOf hZ e0 E0
    obtain ⟨_, _, ⟨T4, L4, k4, n4⟩, -, X4, ⟨Lc4, hQ4, l4, y4, z4⟩, st4⟩ := X0.virtualBack hx (y := (⟨"java/lang/String", "isLatin1", "()Z"⟩ : MethodName)) (z := (⟨"java/lang/String", "isLatin1", "()Z"⟩ : MethodName)) hown (mvT hZ (hw _ (List.mem_of_getElem? (i := 94) rfl))) (mvT hZ (hw _ (List.mem_of_getElem? (i := 95) rfl))) (notFace_of_selects (args := #[]) (mvT hZ (hw _ (List.mem_of_getElem? (i := 97) rfl)))) (mvT hZ (hw _ (List.mem_of_getElem? (i := 97) rfl))) (mvT hZ (hw _ (List.mem_of_getElem? (i := 96) rfl))) (by decide) (backOf (W := 0) (rmLat l Z a0 hw [] p0 zc fm (1 : Int32) (0 : Int32) h0 n0 Z0 hSt Ol Fc (by decide)) hZ (hw _ (List.mem_of_getElem? (i := 98) rfl)) (hw _ (List.mem_of_getElem? (i := 1) rfl)) (by decide) (by decide)) q4a q4c (g := (mkF m 1 #[.val (.ref p0), .val (.int p1)] [(.ref p0)])) rfl (by rw [hml]; rfl) (Steps.refl _) (argsL := []) (rest := []) (lenOf pd___Z rfl) rfl (by show 2 * 0 + _ ≤ _; exact Nat.le_of_eq rfl) (hb hby d19_1) (fun _ _ => ⟨rfl, e0, (by decide : 0 + 0 ≤ _), (by decide : 0 + 0 ≤ _)⟩)
    dsimp only [Pt.U, Pt.locs, Pt.cells, Pt.slots] at X4 l4 y4 z4 st4 hQ4
    subst l4 y4 z4
    obtain ⟨rfl, Nq4, e4⟩ := hQ4
    have N4 := Fr.app N0 Nq4
    obtain ⟨T5, X5, e5, st5⟩ := getF X4 hx hZ hown (host := "") (Or.inl (hw _ (List.mem_of_getElem? (i := 24) rfl))) Via.refl e4 Fv (g := (mkF m 17 #[.val (.ref p0), .val (.int p1)] [(.ref p0)])) rfl rfl (hb hby d19_17)
    have hcm := hch _ (own_mem hi.2)
    have hsh := own_shl hi.1 hi.2 hln
    obtain ⟨_, _, ⟨T6, L6, k6, n6⟩, -, X6, ⟨Lc6, hQ6, l6, y6, z6⟩, st6⟩ := Jvm.LawKit.callS X5 hx (y := (⟨"java/lang/StringUTF16", "charAt", "([BI)C"⟩ : MethodName)) hown (mvT hZ (hw _ (List.mem_of_getElem? (i := 99) rfl))) (mvT hZ (hw _ (List.mem_of_getElem? (i := 100) rfl))) (mvT hZ (hw _ (List.mem_of_getElem? (i := 59) rfl))) (mvT hZ (hw _ (List.mem_of_getElem? (i := 101) rfl))) (by decide) (backOf (W := 0) (rmUCh l Z a0 hw [] t p1 zc fm k (Int32.ofNat (2 * cs.length)) (own_wide cs) (Int32.ofNat cs.length) (own_wl (cs.getD p1.toNatClampNeg 0)) (own_wh (cs.getD p1.toNatClampNeg 0)) (cs.getD p1.toNatClampNeg 0) (cs.getD p1.toNatClampNeg 0) h0 n0 Z0 hSt Ol A0 (own_len1 hln) ⟨hi.1, own_inr hi.1 hi.2 hln⟩ hsh.2.2.1 hsh.2.2.2 (by rw [hsh.1]; exact (own_getw cs _ hi.2).1) (by rw [hsh.2.1]; exact (own_getw cs _ hi.2).2) (own_rec16 hcm.1 hcm.2).symm (own_narc hcm).symm) hZ (hw _ (List.mem_of_getElem? (i := 101) rfl)) (hw _ (List.mem_of_getElem? (i := 59) rfl)) (by decide) (by decide)) (g := (mkF m 21 #[.val (.ref p0), .val (.int p1)] [(.int p1), (.ref t)])) rfl (by rw [hml]; rfl) (argsL := [(.ref t), (.int p1)]) (rest := []) (lenOf pd___BI_C rfl) rfl (by show 2 * 0 + _ ≤ _; exact Nat.le_of_eq rfl) (hb hby d19_21) (fun _ _ => ⟨rfl, e5, (by decide : 0 + 0 ≤ _), (by decide : 0 + 0 ≤ _)⟩)
    dsimp only [Pt.U, Pt.locs, Pt.cells, Pt.slots] at X6 l6 y6 z6 st6 hQ6
    subst l6 y6 z6
    obtain ⟨rfl, Nq6, e6⟩ := hQ6
    have N6 := Fr.app N4 Nq6
    obtain ⟨fs, hr, hrun, hended, hW, hsame⟩ := X6.leave (v := some (.int (nar .char (cs.getD p1.toNatClampNeg 0)))) (fun h => by rw [Bd.returns] at h; cases h)
    refine ⟨_, _, pre0 _ ?_, hrun, hended, _, _, rfl, ?_, ⟨_, rfl⟩, hW, hsame.mono (by decide) (by decide)⟩
    · show Steps p.tables e below (s₁.setTop (mkF m 0 #[.val (.ref p0), .val (.int p1)] [])) _
      refine XS.aloadN X0.here hx rfl (hb hby d19_0) rfl rfl ?_
      show Steps p.tables e below (s₁.setTop (mkF m 1 #[.val (.ref p0), .val (.int p1)] [(.ref p0)])) _
      refine st4.trans ?_
      show Steps p.tables e below (T4.setTop (mkF m 4 #[.val (.ref p0), .val (.int p1)] [(.int (0 : Int32))])) _
      refine XS.ifYes X4.here hx rfl (pc0 := 4) (pc' := 16) rfl (hb hby d19_4) rfl ((if0 _ _).trans (teq (by decide : (0 : Int32) = (0 : Int32))).1) (by decide) (by decide) ?_
      show Steps p.tables e below (T4.setTop (mkF m 16 #[.val (.ref p0), .val (.int p1)] [])) _
      refine XS.aloadN X4.here hx rfl (hb hby d19_16) rfl rfl ?_
      show Steps p.tables e below (T4.setTop (mkF m 17 #[.val (.ref p0), .val (.int p1)] [(.ref p0)])) _
      refine st5 _ ?_
      show Steps p.tables e below (T5.setTop (mkF m 20 #[.val (.ref p0), .val (.int p1)] [(.ref t)])) _
      refine XS.iloadN X5.here hx rfl (hb hby d19_20) rfl  ?_
      show Steps p.tables e below (T5.setTop (mkF m 21 #[.val (.ref p0), .val (.int p1)] [(.int p1), (.ref t)])) _
      refine st6 _ ?_
      show Steps p.tables e below (T6.setTop (mkF m 24 #[.val (.ref p0), .val (.int p1)] [(.int (cs.getD p1.toNatClampNeg 0))])) _
      exact retN X6 hx (t := .char) Bd.returns (by simp) (hb hby d19_24) hr
    · show Q_rmCharAt Z p0 p1 zc fm cs r h0 n0 _ T6.heap _
      rw [e6]
      exact ⟨by rw [hres, own_narc hcm], N6, rfl⟩
theorem ef_rmCmp6 (m : MethodId) (p0 : Addr) (p2 : Addr) : entryFrame m #[(.ref p0), (.int (0 : Int32)), (.ref p2), (.int (0 : Int32)), (.int (6 : Int32))] 7 = mkF m 0 #[.val (.ref p0), .val (.int (0 : Int32)), .val (.ref p2), .val (.int (0 : Int32)), .val (.int (6 : Int32)), .unset, .unset] [] := by first | (simp [entryFrame, mkF, argsToLocals, Value.category]; done) | rfl
theorem d12_0 : decode jdk_52_method_21_code 0 = .ok (.iconst 0, 1) := by decide +kernel
theorem d12_1 : decode jdk_52_method_21_code 1 = .ok (.istore 5, 2) := by decide +kernel
theorem d12_3 : decode jdk_52_method_21_code 3 = .ok (.iload 5, 2) := by decide +kernel
theorem d12_5 : decode jdk_52_method_21_code 5 = .ok (.iload 4, 2) := by decide +kernel
theorem d12_7 : decode jdk_52_method_21_code 7 = .ok (.if_icmp .ge 37, 3) := by decide +kernel
theorem d12_10 : decode jdk_52_method_21_code 10 = .ok (.aload_n 0, 1) := by decide +kernel
theorem d12_11 : decode jdk_52_method_21_code 11 = .ok (.iload_n 1, 1) := by decide +kernel
theorem d12_12 : decode jdk_52_method_21_code 12 = .ok (.caload, 1) := by decide +kernel
theorem d12_13 : decode jdk_52_method_21_code 13 = .ok (.istore 6, 2) := by decide +kernel
theorem d12_15 : decode jdk_52_method_21_code 15 = .ok (.iload 6, 2) := by decide +kernel
theorem d12_17 : decode jdk_52_method_21_code 17 = .ok (.sipush 255, 3) := by decide +kernel
theorem d12_20 : decode jdk_52_method_21_code 20 = .ok (.if_icmp .le 6, 3) := by decide +kernel
theorem d12_23 : decode jdk_52_method_21_code 23 = .ok (.iload 5, 2) := by decide +kernel
theorem d12_25 : decode jdk_52_method_21_code 25 = .ok (.ireturn, 1) := by decide +kernel
theorem d12_26 : decode jdk_52_method_21_code 26 = .ok (.aload_n 2, 1) := by decide +kernel
theorem d12_27 : decode jdk_52_method_21_code 27 = .ok (.iload_n 3, 1) := by decide +kernel
theorem d12_28 : decode jdk_52_method_21_code 28 = .ok (.iload 6, 2) := by decide +kernel
theorem d12_30 : decode jdk_52_method_21_code 30 = .ok (.i2b, 1) := by decide +kernel
theorem d12_31 : decode jdk_52_method_21_code 31 = .ok (.bastore, 1) := by decide +kernel
theorem d12_32 : decode jdk_52_method_21_code 32 = .ok (.iinc 1 1, 3) := by decide +kernel
theorem d12_35 : decode jdk_52_method_21_code 35 = .ok (.iinc 3 1, 3) := by decide +kernel
theorem d12_38 : decode jdk_52_method_21_code 38 = .ok (.iinc 5 1, 3) := by decide +kernel
theorem d12_41 : decode jdk_52_method_21_code 41 = .ok (.goto (-38), 3) := by decide +kernel
theorem d12_44 : decode jdk_52_method_21_code 44 = .ok (.iload 4, 2) := by decide +kernel
theorem d12_46 : decode jdk_52_method_21_code 46 = .ok (.ireturn, 1) := by decide +kernel
def Q_rmCmp6 (Z : State) (p0 : Addr) (p2 : Addr) (zc : Int32) (fm : Value) (ks : ClassId) (kd : ClassId) (c0 : Int32) (c1 : Int32) (c2 : Int32) (c3 : Int32) (c4 : Int32) (c5 : Int32) (h0 : Heap) (n0 : Nat) (v : Option Value) (h : Heap) (L : List Loc) : Prop := (∃ r : Int32, v = some (.int r) ∧ ((r = (6 : Int32) ∧ (¬ (255 : Int32) < c0 ∧ ¬ (255 : Int32) < c1 ∧ ¬ (255 : Int32) < c2 ∧ ¬ (255 : Int32) < c3 ∧ ¬ (255 : Int32) < c4 ∧ ¬ (255 : Int32) < c5) ∧ Arv Z h p2 kd .byte (6 : Int32) [(.int (own_b c0)), (.int (own_b c1)), (.int (own_b c2)), (.int (own_b c3)), (.int (own_b c4)), (.int (own_b c5))] (.int (0 : Int32))) ∨ (∃ j : Nat, r = Int32.ofNat j ∧ j < 6 ∧ (255 : Int32) < [c0, c1, c2, c3, c4, c5].getD j 0))) ∧ Fr n0 L ∧ Keep h0 h [p2]
set_option maxRecDepth 65536 in
set_option maxHeartbeats 40000000 in
theorem rmCmp6 (l : Launch) (Z : State) (a0 : Array Value) (hw : ∀ d ∈ tables_1, d.before a0 Z = true) (ws : List Jvm.Cond) (p0 : Addr) (p2 : Addr) (zc : Int32) (fm : Value) (ks : ClassId) (kd : ClassId) (c0 : Int32) (c1 : Int32) (c2 : Int32) (c3 : Int32) (c4 : Int32) (c5 : Int32) (h0 : Heap) (n0 : Nat) (Z0 : n0 ≤ h0.size) (hSt : own_St Z zc fm) (Ol : Old Z n0 h0) (As : Arv Z h0 p0 ks .char (6 : Int32) [(.int c0), (.int c1), (.int c2), (.int c3), (.int c4), (.int c5)] (.int (0 : Int32))) (Ad : Arv Z h0 p2 kd .byte (6 : Int32) [(.int (0 : Int32)), (.int (0 : Int32)), (.int (0 : Int32)), (.int (0 : Int32)), (.int (0 : Int32)), (.int (0 : Int32))] (.int (0 : Int32))) (hne : p0 ≠ p2) (g2 : n0 ≤ p2) :
    MetFree l (⟨"java/lang/StringUTF16", "compress", "([CI[BII)I"⟩ : MethodName) (head1 (Jvm.Cond.code (⟨"java/lang/StringUTF16", "compress", "([CI[BII)I"⟩ : MethodName) jdk_52_method_21_code 7 (some .int) :: ws) ({ frames := 0, cells := 0, slots := 0, locals := 0 } : Room)) (fun a U => a = #[(.ref p0), (.int (0 : Int32)), (.ref p2), (.int (0 : Int32)), (.int (6 : Int32))] ∧ Z.Warmed39 U.vm ∧ U.heap = h0) (fun _ _ _ _ _ => True) (fun _ U o U' => ∃ v L, o = .returned v ∧ Q_rmCmp6 Z p0 p2 zc fm ks kd c0 c1 c2 c3 c4 c5 h0 n0 v U'.heap L ∧ FrameEnd U o U' L ({ frames := 0, cells := 0, slots := 0, locals := 0 } : Room).cells ({ frames := 0, cells := 0, slots := 0, locals := 0 } : Room).slots) := by
  refine MetFree.of_bodySF (plainFor_of_name pn_java_lang_StringUTF16) hisR ?_
  intro p e s m args below meth c s₁ Bd hml0 hP hK
  obtain ⟨rfl, hZ, hh⟩ := hP
  have hx := Bd.exec
  have hby := Bd.bytes
  have hml : c.maxLocals = 7 := hml0
  have hown : s.vm.findClass "java/lang/StringUTF16" = some m.cls := findClass_of_methodNamed Bd.named
  have hnm := (name_of_methodNamed Bd.named Bd.method).1
  have hZo := hZ
  have howno := hown
  have X0 : Stand p l e ({ frames := 0, cells := 0, slots := 0, locals := 0 } : Room) s m #[(.ref p0), (.int (0 : Int32)), (.ref p2), (.int (0 : Int32)), (.int (6 : Int32))] below meth c s₁ [] 0 0 := Stand.of_body Bd
  have e0 : s₁.heap = h0 := by rw [← hh, Bd.state]; rfl
  have N0 := Fr.nil n0
  have pre0 : ∀ t, Steps p.tables e below (s₁.setTop (mkF m 0 #[.val (.ref p0), .val (.int (0 : Int32)), .val (.ref p2), .val (.int (0 : Int32)), .val (.int (6 : Int32)), .unset, .unset] [])) t → Steps p.tables e below (s₁.setTop (entryFrame m #[(.ref p0), (.int (0 : Int32)), (.ref p2), (.int (0 : Int32)), (.int (6 : Int32))] 7)) t := fun t k => castTop (ef_rmCmp6 m p0 p2 ) k
  obtain ⟨cl1, Ar1, q1, S1, N1, H1, G1⟩ := id As
  have hin1 : ¬ ((0 : Int32) < 0 ∨ cl1.slots.size ≤ ((0 : Int32)).toNatClampNeg) := inb_of S1 ⟨by decide, by decide⟩
  have hat1 : cl1.slots[((0 : Int32)).toNatClampNeg]? = some (.int c0) := Has.at H1 hin1 rfl
  have pre3 : ∀ t, Steps p.tables e below (s₁.setTop (mkF m 20 #[.val (.ref p0), .val (.int (0 : Int32)), .val (.ref p2), .val (.int (0 : Int32)), .val (.int (6 : Int32)), .val (.int (0 : Int32)), .val (.int c0)] [(.int (255 : Int32)), (.int c0)])) t → Steps p.tables e below (s₁.setTop (entryFrame m #[(.ref p0), (.int (0 : Int32)), (.ref p2), (.int (0 : Int32)), (.int (6 : Int32))] 7)) t := fun t kt => pre0 t (by
    show Steps p.tables e below (s₁.setTop (mkF m 0 #[.val (.ref p0), .val (.int (0 : Int32)), .val (.ref p2), .val (.int (0 : Int32)), .val (.int (6 : Int32)), .unset, .unset] [])) _
    refine XS.iconst X0.here hx rfl (hb hby d12_0) ?_
    show Steps p.tables e below (s₁.setTop (mkF m 1 #[.val (.ref p0), .val (.int (0 : Int32)), .val (.ref p2), .val (.int (0 : Int32)), .val (.int (6 : Int32)), .unset, .unset] [(.int (0 : Int32))])) _
    refine XS.istore X0.here hx rfl (hb hby d12_1) rfl (l' := #[.val (.ref p0), .val (.int (0 : Int32)), .val (.ref p2), .val (.int (0 : Int32)), .val (.int (6 : Int32)), .val (.int (0 : Int32)), .unset]) rfl ?_
    show Steps p.tables e below (s₁.setTop (mkF m 3 #[.val (.ref p0), .val (.int (0 : Int32)), .val (.ref p2), .val (.int (0 : Int32)), .val (.int (6 : Int32)), .val (.int (0 : Int32)), .unset] [])) _
    refine XS.iload X0.here hx rfl (hb hby d12_3) rfl  ?_
    show Steps p.tables e below (s₁.setTop (mkF m 5 #[.val (.ref p0), .val (.int (0 : Int32)), .val (.ref p2), .val (.int (0 : Int32)), .val (.int (6 : Int32)), .val (.int (0 : Int32)), .unset] [(.int (0 : Int32))])) _
    refine XS.iload X0.here hx rfl (hb hby d12_5) rfl  ?_
    show Steps p.tables e below (s₁.setTop (mkF m 7 #[.val (.ref p0), .val (.int (0 : Int32)), .val (.ref p2), .val (.int (0 : Int32)), .val (.int (6 : Int32)), .val (.int (0 : Int32)), .unset] [(.int (6 : Int32)), (.int (0 : Int32))])) _
    refine XS.icmpNo X0.here hx rfl (hb hby d12_7) rfl (tlt (by decide : (0 : Int32) < (6 : Int32))).2.1 ?_
    show Steps p.tables e below (s₁.setTop (mkF m 10 #[.val (.ref p0), .val (.int (0 : Int32)), .val (.ref p2), .val (.int (0 : Int32)), .val (.int (6 : Int32)), .val (.int (0 : Int32)), .unset] [])) _
    refine XS.aloadN X0.here hx rfl (hb hby d12_10) rfl rfl ?_
    show Steps p.tables e below (s₁.setTop (mkF m 11 #[.val (.ref p0), .val (.int (0 : Int32)), .val (.ref p2), .val (.int (0 : Int32)), .val (.int (6 : Int32)), .val (.int (0 : Int32)), .unset] [(.ref p0)])) _
    refine XS.iloadN X0.here hx rfl (hb hby d12_11) rfl  ?_
    show Steps p.tables e below (s₁.setTop (mkF m 12 #[.val (.ref p0), .val (.int (0 : Int32)), .val (.ref p2), .val (.int (0 : Int32)), .val (.int (6 : Int32)), .val (.int (0 : Int32)), .unset] [(.int (0 : Int32)), (.ref p0)])) _
    refine X0.caload hx (j := (0 : Int32)) (v := (.int c0)) (by rw [e0]; exact Ar1.1) (State.isArrayOf_alike hZ.alike Ar1.2.1) Ar1.2.2 hin1 hat1 (g := (mkF m 12 #[.val (.ref p0), .val (.int (0 : Int32)), .val (.ref p2), .val (.int (0 : Int32)), .val (.int (6 : Int32)), .val (.int (0 : Int32)), .unset] [(.int (0 : Int32)), (.ref p0)])) rfl rfl (hb hby d12_12) _ ?_
    show Steps p.tables e below (s₁.setTop (mkF m 13 #[.val (.ref p0), .val (.int (0 : Int32)), .val (.ref p2), .val (.int (0 : Int32)), .val (.int (6 : Int32)), .val (.int (0 : Int32)), .unset] [(.int c0)])) _
    refine XS.istore X0.here hx rfl (hb hby d12_13) rfl (l' := #[.val (.ref p0), .val (.int (0 : Int32)), .val (.ref p2), .val (.int (0 : Int32)), .val (.int (6 : Int32)), .val (.int (0 : Int32)), .val (.int c0)]) rfl ?_
    show Steps p.tables e below (s₁.setTop (mkF m 15 #[.val (.ref p0), .val (.int (0 : Int32)), .val (.ref p2), .val (.int (0 : Int32)), .val (.int (6 : Int32)), .val (.int (0 : Int32)), .val (.int c0)] [])) _
    refine XS.iload X0.here hx rfl (hb hby d12_15) rfl  ?_
    show Steps p.tables e below (s₁.setTop (mkF m 17 #[.val (.ref p0), .val (.int (0 : Int32)), .val (.ref p2), .val (.int (0 : Int32)), .val (.int (6 : Int32)), .val (.int (0 : Int32)), .val (.int c0)] [(.int c0)])) _
    refine XS.sipush X0.here hx rfl (hb hby d12_17) ?_
    exact kt)
  by_cases hc20_2 : (255 : Int32) < c0
  · obtain ⟨fs, hr, hrun, hended, hW, hsame⟩ := X0.leave (v := some (.int (0 : Int32))) (fun h => by rw [Bd.returns] at h; cases h)
    refine ⟨_, _, pre3 _ ?_, hrun, hended, _, _, rfl, ?_, ⟨_, rfl⟩, hW, hsame.mono (by decide) (by decide)⟩
    · show Steps p.tables e below (s₁.setTop (mkF m 20 #[.val (.ref p0), .val (.int (0 : Int32)), .val (.ref p2), .val (.int (0 : Int32)), .val (.int (6 : Int32)), .val (.int (0 : Int32)), .val (.int c0)] [(.int (255 : Int32)), (.int c0)])) _
      refine XS.icmpNo X0.here hx rfl (hb hby d12_20) rfl (tlt hc20_2).2.2.2 ?_
      show Steps p.tables e below (s₁.setTop (mkF m 23 #[.val (.ref p0), .val (.int (0 : Int32)), .val (.ref p2), .val (.int (0 : Int32)), .val (.int (6 : Int32)), .val (.int (0 : Int32)), .val (.int c0)] [])) _
      refine XS.iload X0.here hx rfl (hb hby d12_23) rfl  ?_
      show Steps p.tables e below (s₁.setTop (mkF m 25 #[.val (.ref p0), .val (.int (0 : Int32)), .val (.ref p2), .val (.int (0 : Int32)), .val (.int (6 : Int32)), .val (.int (0 : Int32)), .val (.int c0)] [(.int (0 : Int32))])) _
      exact retI X0 hx Bd.returns (hb hby d12_25) hr
    · show Q_rmCmp6 Z p0 p2 zc fm ks kd c0 c1 c2 c3 c4 c5 h0 n0 _ s₁.heap _
      rw [e0]
      exact ⟨⟨_, rfl, Or.inr ⟨0, rfl, Nat.le_of_ble_eq_true rfl, hc20_2⟩⟩, N0, (Keep.refl h0 [p2])⟩
  · obtain ⟨cl4, Ar4, q4, S4, N4, H4, G4⟩ := id Ad
    have hin4 : ¬ ((0 : Int32) < 0 ∨ cl4.slots.size ≤ ((0 : Int32)).toNatClampNeg) := inb_of S4 ⟨by decide, by decide⟩
    obtain ⟨T5, h5, X5, e5, W5, st5⟩ := stB X0 hx hZ e0 Ar4 (j := (0 : Int32)) hin4 (g := (mkF m 31 #[.val (.ref p0), .val (.int (0 : Int32)), .val (.ref p2), .val (.int (0 : Int32)), .val (.int (6 : Int32)), .val (.int (0 : Int32)), .val (.int c0)] [(.int (c0.toInt8.toInt32)), (.int (0 : Int32)), (.ref p2)])) rfl rfl (hb hby d12_31)
    have N5 := Fr.snoc X5 N0 g2
    have K5 := (Keep.refl h0 [p2]).wr W5 (Or.inl (List.mem_of_getElem? (i := 0) rfl))
    have V5 : Arv Z h5 p2 kd .byte (6 : Int32) [(.int (own_b c0)), (.int (0 : Int32)), (.int (0 : Int32)), (.int (0 : Int32)), (.int (0 : Int32)), (.int (0 : Int32))] (.int (0 : Int32)) := Arv.set Ar4 q4 S4 N4 H4 G4 (fits_nar_byte _) W5 0 rfl (Nat.le_of_ble_eq_true rfl)
    have f6 := (As.other W5 hne)
    obtain ⟨cl7, Ar7, q7, S7, N7, H7, G7⟩ := id f6
    have hin7 : ¬ ((1 : Int32) < 0 ∨ cl7.slots.size ≤ ((1 : Int32)).toNatClampNeg) := inb_of S7 ⟨by decide, by decide⟩
    have hat7 : cl7.slots[((1 : Int32)).toNatClampNeg]? = some (.int c1) := Has.at H7 hin7 rfl
    have pre9 : ∀ t, Steps p.tables e below (T5.setTop (mkF m 20 #[.val (.ref p0), .val (.int (1 : Int32)), .val (.ref p2), .val (.int (1 : Int32)), .val (.int (6 : Int32)), .val (.int (1 : Int32)), .val (.int c1)] [(.int (255 : Int32)), (.int c1)])) t → Steps p.tables e below (s₁.setTop (entryFrame m #[(.ref p0), (.int (0 : Int32)), (.ref p2), (.int (0 : Int32)), (.int (6 : Int32))] 7)) t := fun t kt => pre3 t (by
      show Steps p.tables e below (s₁.setTop (mkF m 20 #[.val (.ref p0), .val (.int (0 : Int32)), .val (.ref p2), .val (.int (0 : Int32)), .val (.int (6 : Int32)), .val (.int (0 : Int32)), .val (.int c0)] [(.int (255 : Int32)), (.int c0)])) _
      refine XS.icmpYes X0.here hx rfl (pc0 := 20) (pc' := 26) rfl (hb hby d12_20) rfl (flt hc20_2).2.2.2 (by decide) (by decide) ?_
      show Steps p.tables e below (s₁.setTop (mkF m 26 #[.val (.ref p0), .val (.int (0 : Int32)), .val (.ref p2), .val (.int (0 : Int32)), .val (.int (6 : Int32)), .val (.int (0 : Int32)), .val (.int c0)] [])) _
      refine XS.aloadN X0.here hx rfl (hb hby d12_26) rfl rfl ?_
      show Steps p.tables e below (s₁.setTop (mkF m 27 #[.val (.ref p0), .val (.int (0 : Int32)), .val (.ref p2), .val (.int (0 : Int32)), .val (.int (6 : Int32)), .val (.int (0 : Int32)), .val (.int c0)] [(.ref p2)])) _
      refine XS.iloadN X0.here hx rfl (hb hby d12_27) rfl  ?_
      show Steps p.tables e below (s₁.setTop (mkF m 28 #[.val (.ref p0), .val (.int (0 : Int32)), .val (.ref p2), .val (.int (0 : Int32)), .val (.int (6 : Int32)), .val (.int (0 : Int32)), .val (.int c0)] [(.int (0 : Int32)), (.ref p2)])) _
      refine XS.iload X0.here hx rfl (hb hby d12_28) rfl  ?_
      show Steps p.tables e below (s₁.setTop (mkF m 30 #[.val (.ref p0), .val (.int (0 : Int32)), .val (.ref p2), .val (.int (0 : Int32)), .val (.int (6 : Int32)), .val (.int (0 : Int32)), .val (.int c0)] [(.int c0), (.int (0 : Int32)), (.ref p2)])) _
      refine XS.i2b X0.here hx rfl (hb hby d12_30) rfl ?_
      show Steps p.tables e below (s₁.setTop (mkF m 31 #[.val (.ref p0), .val (.int (0 : Int32)), .val (.ref p2), .val (.int (0 : Int32)), .val (.int (6 : Int32)), .val (.int (0 : Int32)), .val (.int c0)] [(.int (c0.toInt8.toInt32)), (.int (0 : Int32)), (.ref p2)])) _
      refine st5 _ ?_
      show Steps p.tables e below (T5.setTop (mkF m 32 #[.val (.ref p0), .val (.int (0 : Int32)), .val (.ref p2), .val (.int (0 : Int32)), .val (.int (6 : Int32)), .val (.int (0 : Int32)), .val (.int c0)] [])) _
      refine XS.iinc X5.here hx rfl (hb hby d12_32) rfl (l' := #[.val (.ref p0), .val (.int (1 : Int32)), .val (.ref p2), .val (.int (0 : Int32)), .val (.int (6 : Int32)), .val (.int (0 : Int32)), .val (.int c0)]) rfl ?_
      show Steps p.tables e below (T5.setTop (mkF m 35 #[.val (.ref p0), .val (.int (1 : Int32)), .val (.ref p2), .val (.int (0 : Int32)), .val (.int (6 : Int32)), .val (.int (0 : Int32)), .val (.int c0)] [])) _
      refine XS.iinc X5.here hx rfl (hb hby d12_35) rfl (l' := #[.val (.ref p0), .val (.int (1 : Int32)), .val (.ref p2), .val (.int (1 : Int32)), .val (.int (6 : Int32)), .val (.int (0 : Int32)), .val (.int c0)]) rfl ?_
      show Steps p.tables e below (T5.setTop (mkF m 38 #[.val (.ref p0), .val (.int (1 : Int32)), .val (.ref p2), .val (.int (1 : Int32)), .val (.int (6 : Int32)), .val (.int (0 : Int32)), .val (.int c0)] [])) _
      refine XS.iinc X5.here hx rfl (hb hby d12_38) rfl (l' := #[.val (.ref p0), .val (.int (1 : Int32)), .val (.ref p2), .val (.int (1 : Int32)), .val (.int (6 : Int32)), .val (.int (1 : Int32)), .val (.int c0)]) rfl ?_
      show Steps p.tables e below (T5.setTop (mkF m 41 #[.val (.ref p0), .val (.int (1 : Int32)), .val (.ref p2), .val (.int (1 : Int32)), .val (.int (6 : Int32)), .val (.int (1 : Int32)), .val (.int c0)] [])) _
      refine XS.goto X5.here hx rfl (pc0 := 41) (pc' := 3) rfl (hb hby d12_41) (by decide) (by decide) ?_
      show Steps p.tables e below (T5.setTop (mkF m 3 #[.val (.ref p0), .val (.int (1 : Int32)), .val (.ref p2), .val (.int (1 : Int32)), .val (.int (6 : Int32)), .val (.int (1 : Int32)), .val (.int c0)] [])) _
      refine XS.iload X5.here hx rfl (hb hby d12_3) rfl  ?_
      show Steps p.tables e below (T5.setTop (mkF m 5 #[.val (.ref p0), .val (.int (1 : Int32)), .val (.ref p2), .val (.int (1 : Int32)), .val (.int (6 : Int32)), .val (.int (1 : Int32)), .val (.int c0)] [(.int (1 : Int32))])) _
      refine XS.iload X5.here hx rfl (hb hby d12_5) rfl  ?_
      show Steps p.tables e below (T5.setTop (mkF m 7 #[.val (.ref p0), .val (.int (1 : Int32)), .val (.ref p2), .val (.int (1 : Int32)), .val (.int (6 : Int32)), .val (.int (1 : Int32)), .val (.int c0)] [(.int (6 : Int32)), (.int (1 : Int32))])) _
      refine XS.icmpNo X5.here hx rfl (hb hby d12_7) rfl (tlt (by decide : (1 : Int32) < (6 : Int32))).2.1 ?_
      show Steps p.tables e below (T5.setTop (mkF m 10 #[.val (.ref p0), .val (.int (1 : Int32)), .val (.ref p2), .val (.int (1 : Int32)), .val (.int (6 : Int32)), .val (.int (1 : Int32)), .val (.int c0)] [])) _
      refine XS.aloadN X5.here hx rfl (hb hby d12_10) rfl rfl ?_
      show Steps p.tables e below (T5.setTop (mkF m 11 #[.val (.ref p0), .val (.int (1 : Int32)), .val (.ref p2), .val (.int (1 : Int32)), .val (.int (6 : Int32)), .val (.int (1 : Int32)), .val (.int c0)] [(.ref p0)])) _
      refine XS.iloadN X5.here hx rfl (hb hby d12_11) rfl  ?_
      show Steps p.tables e below (T5.setTop (mkF m 12 #[.val (.ref p0), .val (.int (1 : Int32)), .val (.ref p2), .val (.int (1 : Int32)), .val (.int (6 : Int32)), .val (.int (1 : Int32)), .val (.int c0)] [(.int (1 : Int32)), (.ref p0)])) _
      refine X5.caload hx (j := (1 : Int32)) (v := (.int c1)) (by rw [e5]; exact Ar7.1) (State.isArrayOf_alike hZ.alike Ar7.2.1) Ar7.2.2 hin7 hat7 (g := (mkF m 12 #[.val (.ref p0), .val (.int (1 : Int32)), .val (.ref p2), .val (.int (1 : Int32)), .val (.int (6 : Int32)), .val (.int (1 : Int32)), .val (.int c0)] [(.int (1 : Int32)), (.ref p0)])) rfl rfl (hb hby d12_12) _ ?_
      show Steps p.tables e below (T5.setTop (mkF m 13 #[.val (.ref p0), .val (.int (1 : Int32)), .val (.ref p2), .val (.int (1 : Int32)), .val (.int (6 : Int32)), .val (.int (1 : Int32)), .val (.int c0)] [(.int c1)])) _
      refine XS.istore X5.here hx rfl (hb hby d12_13) rfl (l' := #[.val (.ref p0), .val (.int (1 : Int32)), .val (.ref p2), .val (.int (1 : Int32)), .val (.int (6 : Int32)), .val (.int (1 : Int32)), .val (.int c1)]) rfl ?_
      show Steps p.tables e below (T5.setTop (mkF m 15 #[.val (.ref p0), .val (.int (1 : Int32)), .val (.ref p2), .val (.int (1 : Int32)), .val (.int (6 : Int32)), .val (.int (1 : Int32)), .val (.int c1)] [])) _
      refine XS.iload X5.here hx rfl (hb hby d12_15) rfl  ?_
      show Steps p.tables e below (T5.setTop (mkF m 17 #[.val (.ref p0), .val (.int (1 : Int32)), .val (.ref p2), .val (.int (1 : Int32)), .val (.int (6 : Int32)), .val (.int (1 : Int32)), .val (.int c1)] [(.int c1)])) _
      refine XS.sipush X5.here hx rfl (hb hby d12_17) ?_
      exact kt)
    by_cases hc20_8 : (255 : Int32) < c1
    · obtain ⟨fs, hr, hrun, hended, hW, hsame⟩ := X5.leave (v := some (.int (1 : Int32))) (fun h => by rw [Bd.returns] at h; cases h)
      refine ⟨_, _, pre9 _ ?_, hrun, hended, _, _, rfl, ?_, ⟨_, rfl⟩, hW, hsame.mono (by decide) (by decide)⟩
      · show Steps p.tables e below (T5.setTop (mkF m 20 #[.val (.ref p0), .val (.int (1 : Int32)), .val (.ref p2), .val (.int (1 : Int32)), .val (.int (6 : Int32)), .val (.int (1 : Int32)), .val (.int c1)] [(.int (255 : Int32)), (.int c1)])) _
        refine XS.icmpNo X5.here hx rfl (hb hby d12_20) rfl (tlt hc20_8).2.2.2 ?_
        show Steps p.tables e below (T5.setTop (mkF m 23 #[.val (.ref p0), .val (.int (1 : Int32)), .val (.ref p2), .val (.int (1 : Int32)), .val (.int (6 : Int32)), .val (.int (1 : Int32)), .val (.int c1)] [])) _
        refine XS.iload X5.here hx rfl (hb hby d12_23) rfl  ?_
        show Steps p.tables e below (T5.setTop (mkF m 25 #[.val (.ref p0), .val (.int (1 : Int32)), .val (.ref p2), .val (.int (1 : Int32)), .val (.int (6 : Int32)), .val (.int (1 : Int32)), .val (.int c1)] [(.int (1 : Int32))])) _
        exact retI X5 hx Bd.returns (hb hby d12_25) hr
      · show Q_rmCmp6 Z p0 p2 zc fm ks kd c0 c1 c2 c3 c4 c5 h0 n0 _ T5.heap _
        rw [e5]
        exact ⟨⟨_, rfl, Or.inr ⟨1, rfl, Nat.le_of_ble_eq_true rfl, hc20_8⟩⟩, N5, K5⟩
    · obtain ⟨cl10, Ar10, q10, S10, N10, H10, G10⟩ := id V5
      have hin10 : ¬ ((1 : Int32) < 0 ∨ cl10.slots.size ≤ ((1 : Int32)).toNatClampNeg) := inb_of S10 ⟨by decide, by decide⟩
      obtain ⟨T11, h11, X11, e11, W11, st11⟩ := stB X5 hx hZ e5 Ar10 (j := (1 : Int32)) hin10 (g := (mkF m 31 #[.val (.ref p0), .val (.int (1 : Int32)), .val (.ref p2), .val (.int (1 : Int32)), .val (.int (6 : Int32)), .val (.int (1 : Int32)), .val (.int c1)] [(.int (c1.toInt8.toInt32)), (.int (1 : Int32)), (.ref p2)])) rfl rfl (hb hby d12_31)
      have N11 := Fr.snoc X11 N5 g2
      have K11 := K5.wr W11 (Or.inl (List.mem_of_getElem? (i := 0) rfl))
      have V11 : Arv Z h11 p2 kd .byte (6 : Int32) [(.int (own_b c0)), (.int (own_b c1)), (.int (0 : Int32)), (.int (0 : Int32)), (.int (0 : Int32)), (.int (0 : Int32))] (.int (0 : Int32)) := Arv.set Ar10 q10 S10 N10 H10 G10 (fits_nar_byte _) W11 1 rfl (Nat.le_of_ble_eq_true rfl)
      have f12 := (f6.other W11 hne)
      obtain ⟨cl13, Ar13, q13, S13, N13, H13, G13⟩ := id f12
      have hin13 : ¬ ((2 : Int32) < 0 ∨ cl13.slots.size ≤ ((2 : Int32)).toNatClampNeg) := inb_of S13 ⟨by decide, by decide⟩
      have hat13 : cl13.slots[((2 : Int32)).toNatClampNeg]? = some (.int c2) := Has.at H13 hin13 rfl
      have pre15 : ∀ t, Steps p.tables e below (T11.setTop (mkF m 20 #[.val (.ref p0), .val (.int (2 : Int32)), .val (.ref p2), .val (.int (2 : Int32)), .val (.int (6 : Int32)), .val (.int (2 : Int32)), .val (.int c2)] [(.int (255 : Int32)), (.int c2)])) t → Steps p.tables e below (s₁.setTop (entryFrame m #[(.ref p0), (.int (0 : Int32)), (.ref p2), (.int (0 : Int32)), (.int (6 : Int32))] 7)) t := fun t kt => pre9 t (by
        show Steps p.tables e below (T5.setTop (mkF m 20 #[.val (.ref p0), .val (.int (1 : Int32)), .val (.ref p2), .val (.int (1 : Int32)), .val (.int (6 : Int32)), .val (.int (1 : Int32)), .val (.int c1)] [(.int (255 : Int32)), (.int c1)])) _
        refine XS.icmpYes X5.here hx rfl (pc0 := 20) (pc' := 26) rfl (hb hby d12_20) rfl (flt hc20_8).2.2.2 (by decide) (by decide) ?_
        show Steps p.tables e below (T5.setTop (mkF m 26 #[.val (.ref p0), .val (.int (1 : Int32)), .val (.ref p2), .val (.int (1 : Int32)), .val (.int (6 : Int32)), .val (.int (1 : Int32)), .val (.int c1)] [])) _
        refine XS.aloadN X5.here hx rfl (hb hby d12_26) rfl rfl ?_
        show Steps p.tables e below (T5.setTop (mkF m 27 #[.val (.ref p0), .val (.int (1 : Int32)), .val (.ref p2), .val (.int (1 : Int32)), .val (.int (6 : Int32)), .val (.int (1 : Int32)), .val (.int c1)] [(.ref p2)])) _
        refine XS.iloadN X5.here hx rfl (hb hby d12_27) rfl  ?_
        show Steps p.tables e below (T5.setTop (mkF m 28 #[.val (.ref p0), .val (.int (1 : Int32)), .val (.ref p2), .val (.int (1 : Int32)), .val (.int (6 : Int32)), .val (.int (1 : Int32)), .val (.int c1)] [(.int (1 : Int32)), (.ref p2)])) _
        refine XS.iload X5.here hx rfl (hb hby d12_28) rfl  ?_
        show Steps p.tables e below (T5.setTop (mkF m 30 #[.val (.ref p0), .val (.int (1 : Int32)), .val (.ref p2), .val (.int (1 : Int32)), .val (.int (6 : Int32)), .val (.int (1 : Int32)), .val (.int c1)] [(.int c1), (.int (1 : Int32)), (.ref p2)])) _
        refine XS.i2b X5.here hx rfl (hb hby d12_30) rfl ?_
        show Steps p.tables e below (T5.setTop (mkF m 31 #[.val (.ref p0), .val (.int (1 : Int32)), .val (.ref p2), .val (.int (1 : Int32)), .val (.int (6 : Int32)), .val (.int (1 : Int32)), .val (.int c1)] [(.int (c1.toInt8.toInt32)), (.int (1 : Int32)), (.ref p2)])) _
        refine st11 _ ?_
        show Steps p.tables e below (T11.setTop (mkF m 32 #[.val (.ref p0), .val (.int (1 : Int32)), .val (.ref p2), .val (.int (1 : Int32)), .val (.int (6 : Int32)), .val (.int (1 : Int32)), .val (.int c1)] [])) _
        refine XS.iinc X11.here hx rfl (hb hby d12_32) rfl (l' := #[.val (.ref p0), .val (.int (2 : Int32)), .val (.ref p2), .val (.int (1 : Int32)), .val (.int (6 : Int32)), .val (.int (1 : Int32)), .val (.int c1)]) rfl ?_
        show Steps p.tables e below (T11.setTop (mkF m 35 #[.val (.ref p0), .val (.int (2 : Int32)), .val (.ref p2), .val (.int (1 : Int32)), .val (.int (6 : Int32)), .val (.int (1 : Int32)), .val (.int c1)] [])) _
        refine XS.iinc X11.here hx rfl (hb hby d12_35) rfl (l' := #[.val (.ref p0), .val (.int (2 : Int32)), .val (.ref p2), .val (.int (2 : Int32)), .val (.int (6 : Int32)), .val (.int (1 : Int32)), .val (.int c1)]) rfl ?_
        show Steps p.tables e below (T11.setTop (mkF m 38 #[.val (.ref p0), .val (.int (2 : Int32)), .val (.ref p2), .val (.int (2 : Int32)), .val (.int (6 : Int32)), .val (.int (1 : Int32)), .val (.int c1)] [])) _
        refine XS.iinc X11.here hx rfl (hb hby d12_38) rfl (l' := #[.val (.ref p0), .val (.int (2 : Int32)), .val (.ref p2), .val (.int (2 : Int32)), .val (.int (6 : Int32)), .val (.int (2 : Int32)), .val (.int c1)]) rfl ?_
        show Steps p.tables e below (T11.setTop (mkF m 41 #[.val (.ref p0), .val (.int (2 : Int32)), .val (.ref p2), .val (.int (2 : Int32)), .val (.int (6 : Int32)), .val (.int (2 : Int32)), .val (.int c1)] [])) _
        refine XS.goto X11.here hx rfl (pc0 := 41) (pc' := 3) rfl (hb hby d12_41) (by decide) (by decide) ?_
        show Steps p.tables e below (T11.setTop (mkF m 3 #[.val (.ref p0), .val (.int (2 : Int32)), .val (.ref p2), .val (.int (2 : Int32)), .val (.int (6 : Int32)), .val (.int (2 : Int32)), .val (.int c1)] [])) _
        refine XS.iload X11.here hx rfl (hb hby d12_3) rfl  ?_
        show Steps p.tables e below (T11.setTop (mkF m 5 #[.val (.ref p0), .val (.int (2 : Int32)), .val (.ref p2), .val (.int (2 : Int32)), .val (.int (6 : Int32)), .val (.int (2 : Int32)), .val (.int c1)] [(.int (2 : Int32))])) _
        refine XS.iload X11.here hx rfl (hb hby d12_5) rfl  ?_
        show Steps p.tables e below (T11.setTop (mkF m 7 #[.val (.ref p0), .val (.int (2 : Int32)), .val (.ref p2), .val (.int (2 : Int32)), .val (.int (6 : Int32)), .val (.int (2 : Int32)), .val (.int c1)] [(.int (6 : Int32)), (.int (2 : Int32))])) _
        refine XS.icmpNo X11.here hx rfl (hb hby d12_7) rfl (tlt (by decide : (2 : Int32) < (6 : Int32))).2.1 ?_
        show Steps p.tables e below (T11.setTop (mkF m 10 #[.val (.ref p0), .val (.int (2 : Int32)), .val (.ref p2), .val (.int (2 : Int32)), .val (.int (6 : Int32)), .val (.int (2 : Int32)), .val (.int c1)] [])) _
        refine XS.aloadN X11.here hx rfl (hb hby d12_10) rfl rfl ?_
        show Steps p.tables e below (T11.setTop (mkF m 11 #[.val (.ref p0), .val (.int (2 : Int32)), .val (.ref p2), .val (.int (2 : Int32)), .val (.int (6 : Int32)), .val (.int (2 : Int32)), .val (.int c1)] [(.ref p0)])) _
        refine XS.iloadN X11.here hx rfl (hb hby d12_11) rfl  ?_
        show Steps p.tables e below (T11.setTop (mkF m 12 #[.val (.ref p0), .val (.int (2 : Int32)), .val (.ref p2), .val (.int (2 : Int32)), .val (.int (6 : Int32)), .val (.int (2 : Int32)), .val (.int c1)] [(.int (2 : Int32)), (.ref p0)])) _
        refine X11.caload hx (j := (2 : Int32)) (v := (.int c2)) (by rw [e11]; exact Ar13.1) (State.isArrayOf_alike hZ.alike Ar13.2.1) Ar13.2.2 hin13 hat13 (g := (mkF m 12 #[.val (.ref p0), .val (.int (2 : Int32)), .val (.ref p2), .val (.int (2 : Int32)), .val (.int (6 : Int32)), .val (.int (2 : Int32)), .val (.int c1)] [(.int (2 : Int32)), (.ref p0)])) rfl rfl (hb hby d12_12) _ ?_
        show Steps p.tables e below (T11.setTop (mkF m 13 #[.val (.ref p0), .val (.int (2 : Int32)), .val (.ref p2), .val (.int (2 : Int32)), .val (.int (6 : Int32)), .val (.int (2 : Int32)), .val (.int c1)] [(.int c2)])) _
        refine XS.istore X11.here hx rfl (hb hby d12_13) rfl (l' := #[.val (.ref p0), .val (.int (2 : Int32)), .val (.ref p2), .val (.int (2 : Int32)), .val (.int (6 : Int32)), .val (.int (2 : Int32)), .val (.int c2)]) rfl ?_
        show Steps p.tables e below (T11.setTop (mkF m 15 #[.val (.ref p0), .val (.int (2 : Int32)), .val (.ref p2), .val (.int (2 : Int32)), .val (.int (6 : Int32)), .val (.int (2 : Int32)), .val (.int c2)] [])) _
        refine XS.iload X11.here hx rfl (hb hby d12_15) rfl  ?_
        show Steps p.tables e below (T11.setTop (mkF m 17 #[.val (.ref p0), .val (.int (2 : Int32)), .val (.ref p2), .val (.int (2 : Int32)), .val (.int (6 : Int32)), .val (.int (2 : Int32)), .val (.int c2)] [(.int c2)])) _
        refine XS.sipush X11.here hx rfl (hb hby d12_17) ?_
        exact kt)
      by_cases hc20_14 : (255 : Int32) < c2
      · obtain ⟨fs, hr, hrun, hended, hW, hsame⟩ := X11.leave (v := some (.int (2 : Int32))) (fun h => by rw [Bd.returns] at h; cases h)
        refine ⟨_, _, pre15 _ ?_, hrun, hended, _, _, rfl, ?_, ⟨_, rfl⟩, hW, hsame.mono (by decide) (by decide)⟩
        · show Steps p.tables e below (T11.setTop (mkF m 20 #[.val (.ref p0), .val (.int (2 : Int32)), .val (.ref p2), .val (.int (2 : Int32)), .val (.int (6 : Int32)), .val (.int (2 : Int32)), .val (.int c2)] [(.int (255 : Int32)), (.int c2)])) _
          refine XS.icmpNo X11.here hx rfl (hb hby d12_20) rfl (tlt hc20_14).2.2.2 ?_
          show Steps p.tables e below (T11.setTop (mkF m 23 #[.val (.ref p0), .val (.int (2 : Int32)), .val (.ref p2), .val (.int (2 : Int32)), .val (.int (6 : Int32)), .val (.int (2 : Int32)), .val (.int c2)] [])) _
          refine XS.iload X11.here hx rfl (hb hby d12_23) rfl  ?_
          show Steps p.tables e below (T11.setTop (mkF m 25 #[.val (.ref p0), .val (.int (2 : Int32)), .val (.ref p2), .val (.int (2 : Int32)), .val (.int (6 : Int32)), .val (.int (2 : Int32)), .val (.int c2)] [(.int (2 : Int32))])) _
          exact retI X11 hx Bd.returns (hb hby d12_25) hr
        · show Q_rmCmp6 Z p0 p2 zc fm ks kd c0 c1 c2 c3 c4 c5 h0 n0 _ T11.heap _
          rw [e11]
          exact ⟨⟨_, rfl, Or.inr ⟨2, rfl, Nat.le_of_ble_eq_true rfl, hc20_14⟩⟩, N11, K11⟩
      · obtain ⟨cl16, Ar16, q16, S16, N16, H16, G16⟩ := id V11
        have hin16 : ¬ ((2 : Int32) < 0 ∨ cl16.slots.size ≤ ((2 : Int32)).toNatClampNeg) := inb_of S16 ⟨by decide, by decide⟩
        obtain ⟨T17, h17, X17, e17, W17, st17⟩ := stB X11 hx hZ e11 Ar16 (j := (2 : Int32)) hin16 (g := (mkF m 31 #[.val (.ref p0), .val (.int (2 : Int32)), .val (.ref p2), .val (.int (2 : Int32)), .val (.int (6 : Int32)), .val (.int (2 : Int32)), .val (.int c2)] [(.int (c2.toInt8.toInt32)), (.int (2 : Int32)), (.ref p2)])) rfl rfl (hb hby d12_31)
        have N17 := Fr.snoc X17 N11 g2
        have K17 := K11.wr W17 (Or.inl (List.mem_of_getElem? (i := 0) rfl))
        have V17 : Arv Z h17 p2 kd .byte (6 : Int32) [(.int (own_b c0)), (.int (own_b c1)), (.int (own_b c2)), (.int (0 : Int32)), (.int (0 : Int32)), (.int (0 : Int32))] (.int (0 : Int32)) := Arv.set Ar16 q16 S16 N16 H16 G16 (fits_nar_byte _) W17 2 rfl (Nat.le_of_ble_eq_true rfl)
        have f18 := (f12.other W17 hne)
        obtain ⟨cl19, Ar19, q19, S19, N19, H19, G19⟩ := id f18
        have hin19 : ¬ ((3 : Int32) < 0 ∨ cl19.slots.size ≤ ((3 : Int32)).toNatClampNeg) := inb_of S19 ⟨by decide, by decide⟩
        have hat19 : cl19.slots[((3 : Int32)).toNatClampNeg]? = some (.int c3) := Has.at H19 hin19 rfl
        have pre21 : ∀ t, Steps p.tables e below (T17.setTop (mkF m 20 #[.val (.ref p0), .val (.int (3 : Int32)), .val (.ref p2), .val (.int (3 : Int32)), .val (.int (6 : Int32)), .val (.int (3 : Int32)), .val (.int c3)] [(.int (255 : Int32)), (.int c3)])) t → Steps p.tables e below (s₁.setTop (entryFrame m #[(.ref p0), (.int (0 : Int32)), (.ref p2), (.int (0 : Int32)), (.int (6 : Int32))] 7)) t := fun t kt => pre15 t (by
          show Steps p.tables e below (T11.setTop (mkF m 20 #[.val (.ref p0), .val (.int (2 : Int32)), .val (.ref p2), .val (.int (2 : Int32)), .val (.int (6 : Int32)), .val (.int (2 : Int32)), .val (.int c2)] [(.int (255 : Int32)), (.int c2)])) _
          refine XS.icmpYes X11.here hx rfl (pc0 := 20) (pc' := 26) rfl (hb hby d12_20) rfl (flt hc20_14).2.2.2 (by decide) (by decide) ?_
          show Steps p.tables e below (T11.setTop (mkF m 26 #[.val (.ref p0), .val (.int (2 : Int32)), .val (.ref p2), .val (.int (2 : Int32)), .val (.int (6 : Int32)), .val (.int (2 : Int32)), .val (.int c2)] [])) _
          refine XS.aloadN X11.here hx rfl (hb hby d12_26) rfl rfl ?_
          show Steps p.tables e below (T11.setTop (mkF m 27 #[.val (.ref p0), .val (.int (2 : Int32)), .val (.ref p2), .val (.int (2 : Int32)), .val (.int (6 : Int32)), .val (.int (2 : Int32)), .val (.int c2)] [(.ref p2)])) _
          refine XS.iloadN X11.here hx rfl (hb hby d12_27) rfl  ?_
          show Steps p.tables e below (T11.setTop (mkF m 28 #[.val (.ref p0), .val (.int (2 : Int32)), .val (.ref p2), .val (.int (2 : Int32)), .val (.int (6 : Int32)), .val (.int (2 : Int32)), .val (.int c2)] [(.int (2 : Int32)), (.ref p2)])) _
          refine XS.iload X11.here hx rfl (hb hby d12_28) rfl  ?_
          show Steps p.tables e below (T11.setTop (mkF m 30 #[.val (.ref p0), .val (.int (2 : Int32)), .val (.ref p2), .val (.int (2 : Int32)), .val (.int (6 : Int32)), .val (.int (2 : Int32)), .val (.int c2)] [(.int c2), (.int (2 : Int32)), (.ref p2)])) _
          refine XS.i2b X11.here hx rfl (hb hby d12_30) rfl ?_
          show Steps p.tables e below (T11.setTop (mkF m 31 #[.val (.ref p0), .val (.int (2 : Int32)), .val (.ref p2), .val (.int (2 : Int32)), .val (.int (6 : Int32)), .val (.int (2 : Int32)), .val (.int c2)] [(.int (c2.toInt8.toInt32)), (.int (2 : Int32)), (.ref p2)])) _
          refine st17 _ ?_
          show Steps p.tables e below (T17.setTop (mkF m 32 #[.val (.ref p0), .val (.int (2 : Int32)), .val (.ref p2), .val (.int (2 : Int32)), .val (.int (6 : Int32)), .val (.int (2 : Int32)), .val (.int c2)] [])) _
          refine XS.iinc X17.here hx rfl (hb hby d12_32) rfl (l' := #[.val (.ref p0), .val (.int (3 : Int32)), .val (.ref p2), .val (.int (2 : Int32)), .val (.int (6 : Int32)), .val (.int (2 : Int32)), .val (.int c2)]) rfl ?_
          show Steps p.tables e below (T17.setTop (mkF m 35 #[.val (.ref p0), .val (.int (3 : Int32)), .val (.ref p2), .val (.int (2 : Int32)), .val (.int (6 : Int32)), .val (.int (2 : Int32)), .val (.int c2)] [])) _
          refine XS.iinc X17.here hx rfl (hb hby d12_35) rfl (l' := #[.val (.ref p0), .val (.int (3 : Int32)), .val (.ref p2), .val (.int (3 : Int32)), .val (.int (6 : Int32)), .val (.int (2 : Int32)), .val (.int c2)]) rfl ?_
          show Steps p.tables e below (T17.setTop (mkF m 38 #[.val (.ref p0), .val (.int (3 : Int32)), .val (.ref p2), .val (.int (3 : Int32)), .val (.int (6 : Int32)), .val (.int (2 : Int32)), .val (.int c2)] [])) _
          refine XS.iinc X17.here hx rfl (hb hby d12_38) rfl (l' := #[.val (.ref p0), .val (.int (3 : Int32)), .val (.ref p2), .val (.int (3 : Int32)), .val (.int (6 : Int32)), .val (.int (3 : Int32)), .val (.int c2)]) rfl ?_
          show Steps p.tables e below (T17.setTop (mkF m 41 #[.val (.ref p0), .val (.int (3 : Int32)), .val (.ref p2), .val (.int (3 : Int32)), .val (.int (6 : Int32)), .val (.int (3 : Int32)), .val (.int c2)] [])) _
          refine XS.goto X17.here hx rfl (pc0 := 41) (pc' := 3) rfl (hb hby d12_41) (by decide) (by decide) ?_
          show Steps p.tables e below (T17.setTop (mkF m 3 #[.val (.ref p0), .val (.int (3 : Int32)), .val (.ref p2), .val (.int (3 : Int32)), .val (.int (6 : Int32)), .val (.int (3 : Int32)), .val (.int c2)] [])) _
          refine XS.iload X17.here hx rfl (hb hby d12_3) rfl  ?_
          show Steps p.tables e below (T17.setTop (mkF m 5 #[.val (.ref p0), .val (.int (3 : Int32)), .val (.ref p2), .val (.int (3 : Int32)), .val (.int (6 : Int32)), .val (.int (3 : Int32)), .val (.int c2)] [(.int (3 : Int32))])) _
          refine XS.iload X17.here hx rfl (hb hby d12_5) rfl  ?_
          show Steps p.tables e below (T17.setTop (mkF m 7 #[.val (.ref p0), .val (.int (3 : Int32)), .val (.ref p2), .val (.int (3 : Int32)), .val (.int (6 : Int32)), .val (.int (3 : Int32)), .val (.int c2)] [(.int (6 : Int32)), (.int (3 : Int32))])) _
          refine XS.icmpNo X17.here hx rfl (hb hby d12_7) rfl (tlt (by decide : (3 : Int32) < (6 : Int32))).2.1 ?_
          show Steps p.tables e below (T17.setTop (mkF m 10 #[.val (.ref p0), .val (.int (3 : Int32)), .val (.ref p2), .val (.int (3 : Int32)), .val (.int (6 : Int32)), .val (.int (3 : Int32)), .val (.int c2)] [])) _
          refine XS.aloadN X17.here hx rfl (hb hby d12_10) rfl rfl ?_
          show Steps p.tables e below (T17.setTop (mkF m 11 #[.val (.ref p0), .val (.int (3 : Int32)), .val (.ref p2), .val (.int (3 : Int32)), .val (.int (6 : Int32)), .val (.int (3 : Int32)), .val (.int c2)] [(.ref p0)])) _
          refine XS.iloadN X17.here hx rfl (hb hby d12_11) rfl  ?_
          show Steps p.tables e below (T17.setTop (mkF m 12 #[.val (.ref p0), .val (.int (3 : Int32)), .val (.ref p2), .val (.int (3 : Int32)), .val (.int (6 : Int32)), .val (.int (3 : Int32)), .val (.int c2)] [(.int (3 : Int32)), (.ref p0)])) _
          refine X17.caload hx (j := (3 : Int32)) (v := (.int c3)) (by rw [e17]; exact Ar19.1) (State.isArrayOf_alike hZ.alike Ar19.2.1) Ar19.2.2 hin19 hat19 (g := (mkF m 12 #[.val (.ref p0), .val (.int (3 : Int32)), .val (.ref p2), .val (.int (3 : Int32)), .val (.int (6 : Int32)), .val (.int (3 : Int32)), .val (.int c2)] [(.int (3 : Int32)), (.ref p0)])) rfl rfl (hb hby d12_12) _ ?_
          show Steps p.tables e below (T17.setTop (mkF m 13 #[.val (.ref p0), .val (.int (3 : Int32)), .val (.ref p2), .val (.int (3 : Int32)), .val (.int (6 : Int32)), .val (.int (3 : Int32)), .val (.int c2)] [(.int c3)])) _
          refine XS.istore X17.here hx rfl (hb hby d12_13) rfl (l' := #[.val (.ref p0), .val (.int (3 : Int32)), .val (.ref p2), .val (.int (3 : Int32)), .val (.int (6 : Int32)), .val (.int (3 : Int32)), .val (.int c3)]) rfl ?_
          show Steps p.tables e below (T17.setTop (mkF m 15 #[.val (.ref p0), .val (.int (3 : Int32)), .val (.ref p2), .val (.int (3 : Int32)), .val (.int (6 : Int32)), .val (.int (3 : Int32)), .val (.int c3)] [])) _
          refine XS.iload X17.here hx rfl (hb hby d12_15) rfl  ?_
          show Steps p.tables e below (T17.setTop (mkF m 17 #[.val (.ref p0), .val (.int (3 : Int32)), .val (.ref p2), .val (.int (3 : Int32)), .val (.int (6 : Int32)), .val (.int (3 : Int32)), .val (.int c3)] [(.int c3)])) _
          refine XS.sipush X17.here hx rfl (hb hby d12_17) ?_
          exact kt)
        by_cases hc20_20 : (255 : Int32) < c3
        · obtain ⟨fs, hr, hrun, hended, hW, hsame⟩ := X17.leave (v := some (.int (3 : Int32))) (fun h => by rw [Bd.returns] at h; cases h)
          refine ⟨_, _, pre21 _ ?_, hrun, hended, _, _, rfl, ?_, ⟨_, rfl⟩, hW, hsame.mono (by decide) (by decide)⟩
          · show Steps p.tables e below (T17.setTop (mkF m 20 #[.val (.ref p0), .val (.int (3 : Int32)), .val (.ref p2), .val (.int (3 : Int32)), .val (.int (6 : Int32)), .val (.int (3 : Int32)), .val (.int c3)] [(.int (255 : Int32)), (.int c3)])) _
            refine XS.icmpNo X17.here hx rfl (hb hby d12_20) rfl (tlt hc20_20).2.2.2 ?_
            show Steps p.tables e below (T17.setTop (mkF m 23 #[.val (.ref p0), .val (.int (3 : Int32)), .val (.ref p2), .val (.int (3 : Int32)), .val (.int (6 : Int32)), .val (.int (3 : Int32)), .val (.int c3)] [])) _
            refine XS.iload X17.here hx rfl (hb hby d12_23) rfl  ?_
            show Steps p.tables e below (T17.setTop (mkF m 25 #[.val (.ref p0), .val (.int (3 : Int32)), .val (.ref p2), .val (.int (3 : Int32)), .val (.int (6 : Int32)), .val (.int (3 : Int32)), .val (.int c3)] [(.int (3 : Int32))])) _
            exact retI X17 hx Bd.returns (hb hby d12_25) hr
          · show Q_rmCmp6 Z p0 p2 zc fm ks kd c0 c1 c2 c3 c4 c5 h0 n0 _ T17.heap _
            rw [e17]
            exact ⟨⟨_, rfl, Or.inr ⟨3, rfl, Nat.le_of_ble_eq_true rfl, hc20_20⟩⟩, N17, K17⟩
        · obtain ⟨cl22, Ar22, q22, S22, N22, H22, G22⟩ := id V17
          have hin22 : ¬ ((3 : Int32) < 0 ∨ cl22.slots.size ≤ ((3 : Int32)).toNatClampNeg) := inb_of S22 ⟨by decide, by decide⟩
          obtain ⟨T23, h23, X23, e23, W23, st23⟩ := stB X17 hx hZ e17 Ar22 (j := (3 : Int32)) hin22 (g := (mkF m 31 #[.val (.ref p0), .val (.int (3 : Int32)), .val (.ref p2), .val (.int (3 : Int32)), .val (.int (6 : Int32)), .val (.int (3 : Int32)), .val (.int c3)] [(.int (c3.toInt8.toInt32)), (.int (3 : Int32)), (.ref p2)])) rfl rfl (hb hby d12_31)
          have N23 := Fr.snoc X23 N17 g2
          have K23 := K17.wr W23 (Or.inl (List.mem_of_getElem? (i := 0) rfl))
          have V23 : Arv Z h23 p2 kd .byte (6 : Int32) [(.int (own_b c0)), (.int (own_b c1)), (.int (own_b c2)), (.int (own_b c3)), (.int (0 : Int32)), (.int (0 : Int32))] (.int (0 : Int32)) := Arv.set Ar22 q22 S22 N22 H22 G22 (fits_nar_byte _) W23 3 rfl (Nat.le_of_ble_eq_true rfl)
          have f24 := (f18.other W23 hne)
          obtain ⟨cl25, Ar25, q25, S25, N25, H25, G25⟩ := id f24
          have hin25 : ¬ ((4 : Int32) < 0 ∨ cl25.slots.size ≤ ((4 : Int32)).toNatClampNeg) := inb_of S25 ⟨by decide, by decide⟩
          have hat25 : cl25.slots[((4 : Int32)).toNatClampNeg]? = some (.int c4) := Has.at H25 hin25 rfl
          have pre27 : ∀ t, Steps p.tables e below (T23.setTop (mkF m 20 #[.val (.ref p0), .val (.int (4 : Int32)), .val (.ref p2), .val (.int (4 : Int32)), .val (.int (6 : Int32)), .val (.int (4 : Int32)), .val (.int c4)] [(.int (255 : Int32)), (.int c4)])) t → Steps p.tables e below (s₁.setTop (entryFrame m #[(.ref p0), (.int (0 : Int32)), (.ref p2), (.int (0 : Int32)), (.int (6 : Int32))] 7)) t := fun t kt => pre21 t (by
            show Steps p.tables e below (T17.setTop (mkF m 20 #[.val (.ref p0), .val (.int (3 : Int32)), .val (.ref p2), .val (.int (3 : Int32)), .val (.int (6 : Int32)), .val (.int (3 : Int32)), .val (.int c3)] [(.int (255 : Int32)), (.int c3)])) _
            refine XS.icmpYes X17.here hx rfl (pc0 := 20) (pc' := 26) rfl (hb hby d12_20) rfl (flt hc20_20).2.2.2 (by decide) (by decide) ?_
            show Steps p.tables e below (T17.setTop (mkF m 26 #[.val (.ref p0), .val (.int (3 : Int32)), .val (.ref p2), .val (.int (3 : Int32)), .val (.int (6 : Int32)), .val (.int (3 : Int32)), .val (.int c3)] [])) _
            refine XS.aloadN X17.here hx rfl (hb hby d12_26) rfl rfl ?_
            show Steps p.tables e below (T17.setTop (mkF m 27 #[.val (.ref p0), .val (.int (3 : Int32)), .val (.ref p2), .val (.int (3 : Int32)), .val (.int (6 : Int32)), .val (.int (3 : Int32)), .val (.int c3)] [(.ref p2)])) _
            refine XS.iloadN X17.here hx rfl (hb hby d12_27) rfl  ?_
            show Steps p.tables e below (T17.setTop (mkF m 28 #[.val (.ref p0), .val (.int (3 : Int32)), .val (.ref p2), .val (.int (3 : Int32)), .val (.int (6 : Int32)), .val (.int (3 : Int32)), .val (.int c3)] [(.int (3 : Int32)), (.ref p2)])) _
            refine XS.iload X17.here hx rfl (hb hby d12_28) rfl  ?_
            show Steps p.tables e below (T17.setTop (mkF m 30 #[.val (.ref p0), .val (.int (3 : Int32)), .val (.ref p2), .val (.int (3 : Int32)), .val (.int (6 : Int32)), .val (.int (3 : Int32)), .val (.int c3)] [(.int c3), (.int (3 : Int32)), (.ref p2)])) _
            refine XS.i2b X17.here hx rfl (hb hby d12_30) rfl ?_
            show Steps p.tables e below (T17.setTop (mkF m 31 #[.val (.ref p0), .val (.int (3 : Int32)), .val (.ref p2), .val (.int (3 : Int32)), .val (.int (6 : Int32)), .val (.int (3 : Int32)), .val (.int c3)] [(.int (c3.toInt8.toInt32)), (.int (3 : Int32)), (.ref p2)])) _
            refine st23 _ ?_
            show Steps p.tables e below (T23.setTop (mkF m 32 #[.val (.ref p0), .val (.int (3 : Int32)), .val (.ref p2), .val (.int (3 : Int32)), .val (.int (6 : Int32)), .val (.int (3 : Int32)), .val (.int c3)] [])) _
            refine XS.iinc X23.here hx rfl (hb hby d12_32) rfl (l' := #[.val (.ref p0), .val (.int (4 : Int32)), .val (.ref p2), .val (.int (3 : Int32)), .val (.int (6 : Int32)), .val (.int (3 : Int32)), .val (.int c3)]) rfl ?_
            show Steps p.tables e below (T23.setTop (mkF m 35 #[.val (.ref p0), .val (.int (4 : Int32)), .val (.ref p2), .val (.int (3 : Int32)), .val (.int (6 : Int32)), .val (.int (3 : Int32)), .val (.int c3)] [])) _
            refine XS.iinc X23.here hx rfl (hb hby d12_35) rfl (l' := #[.val (.ref p0), .val (.int (4 : Int32)), .val (.ref p2), .val (.int (4 : Int32)), .val (.int (6 : Int32)), .val (.int (3 : Int32)), .val (.int c3)]) rfl ?_
            show Steps p.tables e below (T23.setTop (mkF m 38 #[.val (.ref p0), .val (.int (4 : Int32)), .val (.ref p2), .val (.int (4 : Int32)), .val (.int (6 : Int32)), .val (.int (3 : Int32)), .val (.int c3)] [])) _
            refine XS.iinc X23.here hx rfl (hb hby d12_38) rfl (l' := #[.val (.ref p0), .val (.int (4 : Int32)), .val (.ref p2), .val (.int (4 : Int32)), .val (.int (6 : Int32)), .val (.int (4 : Int32)), .val (.int c3)]) rfl ?_
            show Steps p.tables e below (T23.setTop (mkF m 41 #[.val (.ref p0), .val (.int (4 : Int32)), .val (.ref p2), .val (.int (4 : Int32)), .val (.int (6 : Int32)), .val (.int (4 : Int32)), .val (.int c3)] [])) _
            refine XS.goto X23.here hx rfl (pc0 := 41) (pc' := 3) rfl (hb hby d12_41) (by decide) (by decide) ?_
            show Steps p.tables e below (T23.setTop (mkF m 3 #[.val (.ref p0), .val (.int (4 : Int32)), .val (.ref p2), .val (.int (4 : Int32)), .val (.int (6 : Int32)), .val (.int (4 : Int32)), .val (.int c3)] [])) _
            refine XS.iload X23.here hx rfl (hb hby d12_3) rfl  ?_
            show Steps p.tables e below (T23.setTop (mkF m 5 #[.val (.ref p0), .val (.int (4 : Int32)), .val (.ref p2), .val (.int (4 : Int32)), .val (.int (6 : Int32)), .val (.int (4 : Int32)), .val (.int c3)] [(.int (4 : Int32))])) _
            refine XS.iload X23.here hx rfl (hb hby d12_5) rfl  ?_
            show Steps p.tables e below (T23.setTop (mkF m 7 #[.val (.ref p0), .val (.int (4 : Int32)), .val (.ref p2), .val (.int (4 : Int32)), .val (.int (6 : Int32)), .val (.int (4 : Int32)), .val (.int c3)] [(.int (6 : Int32)), (.int (4 : Int32))])) _
            refine XS.icmpNo X23.here hx rfl (hb hby d12_7) rfl (tlt (by decide : (4 : Int32) < (6 : Int32))).2.1 ?_
            show Steps p.tables e below (T23.setTop (mkF m 10 #[.val (.ref p0), .val (.int (4 : Int32)), .val (.ref p2), .val (.int (4 : Int32)), .val (.int (6 : Int32)), .val (.int (4 : Int32)), .val (.int c3)] [])) _
            refine XS.aloadN X23.here hx rfl (hb hby d12_10) rfl rfl ?_
            show Steps p.tables e below (T23.setTop (mkF m 11 #[.val (.ref p0), .val (.int (4 : Int32)), .val (.ref p2), .val (.int (4 : Int32)), .val (.int (6 : Int32)), .val (.int (4 : Int32)), .val (.int c3)] [(.ref p0)])) _
            refine XS.iloadN X23.here hx rfl (hb hby d12_11) rfl  ?_
            show Steps p.tables e below (T23.setTop (mkF m 12 #[.val (.ref p0), .val (.int (4 : Int32)), .val (.ref p2), .val (.int (4 : Int32)), .val (.int (6 : Int32)), .val (.int (4 : Int32)), .val (.int c3)] [(.int (4 : Int32)), (.ref p0)])) _
            refine X23.caload hx (j := (4 : Int32)) (v := (.int c4)) (by rw [e23]; exact Ar25.1) (State.isArrayOf_alike hZ.alike Ar25.2.1) Ar25.2.2 hin25 hat25 (g := (mkF m 12 #[.val (.ref p0), .val (.int (4 : Int32)), .val (.ref p2), .val (.int (4 : Int32)), .val (.int (6 : Int32)), .val (.int (4 : Int32)), .val (.int c3)] [(.int (4 : Int32)), (.ref p0)])) rfl rfl (hb hby d12_12) _ ?_
            show Steps p.tables e below (T23.setTop (mkF m 13 #[.val (.ref p0), .val (.int (4 : Int32)), .val (.ref p2), .val (.int (4 : Int32)), .val (.int (6 : Int32)), .val (.int (4 : Int32)), .val (.int c3)] [(.int c4)])) _
            refine XS.istore X23.here hx rfl (hb hby d12_13) rfl (l' := #[.val (.ref p0), .val (.int (4 : Int32)), .val (.ref p2), .val (.int (4 : Int32)), .val (.int (6 : Int32)), .val (.int (4 : Int32)), .val (.int c4)]) rfl ?_
            show Steps p.tables e below (T23.setTop (mkF m 15 #[.val (.ref p0), .val (.int (4 : Int32)), .val (.ref p2), .val (.int (4 : Int32)), .val (.int (6 : Int32)), .val (.int (4 : Int32)), .val (.int c4)] [])) _
            refine XS.iload X23.here hx rfl (hb hby d12_15) rfl  ?_
            show Steps p.tables e below (T23.setTop (mkF m 17 #[.val (.ref p0), .val (.int (4 : Int32)), .val (.ref p2), .val (.int (4 : Int32)), .val (.int (6 : Int32)), .val (.int (4 : Int32)), .val (.int c4)] [(.int c4)])) _
            refine XS.sipush X23.here hx rfl (hb hby d12_17) ?_
            exact kt)
          by_cases hc20_26 : (255 : Int32) < c4
          · obtain ⟨fs, hr, hrun, hended, hW, hsame⟩ := X23.leave (v := some (.int (4 : Int32))) (fun h => by rw [Bd.returns] at h; cases h)
            refine ⟨_, _, pre27 _ ?_, hrun, hended, _, _, rfl, ?_, ⟨_, rfl⟩, hW, hsame.mono (by decide) (by decide)⟩
            · show Steps p.tables e below (T23.setTop (mkF m 20 #[.val (.ref p0), .val (.int (4 : Int32)), .val (.ref p2), .val (.int (4 : Int32)), .val (.int (6 : Int32)), .val (.int (4 : Int32)), .val (.int c4)] [(.int (255 : Int32)), (.int c4)])) _
              refine XS.icmpNo X23.here hx rfl (hb hby d12_20) rfl (tlt hc20_26).2.2.2 ?_
              show Steps p.tables e below (T23.setTop (mkF m 23 #[.val (.ref p0), .val (.int (4 : Int32)), .val (.ref p2), .val (.int (4 : Int32)), .val (.int (6 : Int32)), .val (.int (4 : Int32)), .val (.int c4)] [])) _
              refine XS.iload X23.here hx rfl (hb hby d12_23) rfl  ?_
              show Steps p.tables e below (T23.setTop (mkF m 25 #[.val (.ref p0), .val (.int (4 : Int32)), .val (.ref p2), .val (.int (4 : Int32)), .val (.int (6 : Int32)), .val (.int (4 : Int32)), .val (.int c4)] [(.int (4 : Int32))])) _
              exact retI X23 hx Bd.returns (hb hby d12_25) hr
            · show Q_rmCmp6 Z p0 p2 zc fm ks kd c0 c1 c2 c3 c4 c5 h0 n0 _ T23.heap _
              rw [e23]
              exact ⟨⟨_, rfl, Or.inr ⟨4, rfl, Nat.le_of_ble_eq_true rfl, hc20_26⟩⟩, N23, K23⟩
          · obtain ⟨cl28, Ar28, q28, S28, N28, H28, G28⟩ := id V23
            have hin28 : ¬ ((4 : Int32) < 0 ∨ cl28.slots.size ≤ ((4 : Int32)).toNatClampNeg) := inb_of S28 ⟨by decide, by decide⟩
            obtain ⟨T29, h29, X29, e29, W29, st29⟩ := stB X23 hx hZ e23 Ar28 (j := (4 : Int32)) hin28 (g := (mkF m 31 #[.val (.ref p0), .val (.int (4 : Int32)), .val (.ref p2), .val (.int (4 : Int32)), .val (.int (6 : Int32)), .val (.int (4 : Int32)), .val (.int c4)] [(.int (c4.toInt8.toInt32)), (.int (4 : Int32)), (.ref p2)])) rfl rfl (hb hby d12_31)
            have N29 := Fr.snoc X29 N23 g2
            have K29 := K23.wr W29 (Or.inl (List.mem_of_getElem? (i := 0) rfl))
            have V29 : Arv Z h29 p2 kd .byte (6 : Int32) [(.int (own_b c0)), (.int (own_b c1)), (.int (own_b c2)), (.int (own_b c3)), (.int (own_b c4)), (.int (0 : Int32))] (.int (0 : Int32)) := Arv.set Ar28 q28 S28 N28 H28 G28 (fits_nar_byte _) W29 4 rfl (Nat.le_of_ble_eq_true rfl)
            have f30 := (f24.other W29 hne)
            obtain ⟨cl31, Ar31, q31, S31, N31, H31, G31⟩ := id f30
            have hin31 : ¬ ((5 : Int32) < 0 ∨ cl31.slots.size ≤ ((5 : Int32)).toNatClampNeg) := inb_of S31 ⟨by decide, by decide⟩
            have hat31 : cl31.slots[((5 : Int32)).toNatClampNeg]? = some (.int c5) := Has.at H31 hin31 rfl
            have pre33 : ∀ t, Steps p.tables e below (T29.setTop (mkF m 20 #[.val (.ref p0), .val (.int (5 : Int32)), .val (.ref p2), .val (.int (5 : Int32)), .val (.int (6 : Int32)), .val (.int (5 : Int32)), .val (.int c5)] [(.int (255 : Int32)), (.int c5)])) t → Steps p.tables e below (s₁.setTop (entryFrame m #[(.ref p0), (.int (0 : Int32)), (.ref p2), (.int (0 : Int32)), (.int (6 : Int32))] 7)) t := fun t kt => pre27 t (by
              show Steps p.tables e below (T23.setTop (mkF m 20 #[.val (.ref p0), .val (.int (4 : Int32)), .val (.ref p2), .val (.int (4 : Int32)), .val (.int (6 : Int32)), .val (.int (4 : Int32)), .val (.int c4)] [(.int (255 : Int32)), (.int c4)])) _
              refine XS.icmpYes X23.here hx rfl (pc0 := 20) (pc' := 26) rfl (hb hby d12_20) rfl (flt hc20_26).2.2.2 (by decide) (by decide) ?_
              show Steps p.tables e below (T23.setTop (mkF m 26 #[.val (.ref p0), .val (.int (4 : Int32)), .val (.ref p2), .val (.int (4 : Int32)), .val (.int (6 : Int32)), .val (.int (4 : Int32)), .val (.int c4)] [])) _
              refine XS.aloadN X23.here hx rfl (hb hby d12_26) rfl rfl ?_
              show Steps p.tables e below (T23.setTop (mkF m 27 #[.val (.ref p0), .val (.int (4 : Int32)), .val (.ref p2), .val (.int (4 : Int32)), .val (.int (6 : Int32)), .val (.int (4 : Int32)), .val (.int c4)] [(.ref p2)])) _
              refine XS.iloadN X23.here hx rfl (hb hby d12_27) rfl  ?_
              show Steps p.tables e below (T23.setTop (mkF m 28 #[.val (.ref p0), .val (.int (4 : Int32)), .val (.ref p2), .val (.int (4 : Int32)), .val (.int (6 : Int32)), .val (.int (4 : Int32)), .val (.int c4)] [(.int (4 : Int32)), (.ref p2)])) _
              refine XS.iload X23.here hx rfl (hb hby d12_28) rfl  ?_
              show Steps p.tables e below (T23.setTop (mkF m 30 #[.val (.ref p0), .val (.int (4 : Int32)), .val (.ref p2), .val (.int (4 : Int32)), .val (.int (6 : Int32)), .val (.int (4 : Int32)), .val (.int c4)] [(.int c4), (.int (4 : Int32)), (.ref p2)])) _
              refine XS.i2b X23.here hx rfl (hb hby d12_30) rfl ?_
              show Steps p.tables e below (T23.setTop (mkF m 31 #[.val (.ref p0), .val (.int (4 : Int32)), .val (.ref p2), .val (.int (4 : Int32)), .val (.int (6 : Int32)), .val (.int (4 : Int32)), .val (.int c4)] [(.int (c4.toInt8.toInt32)), (.int (4 : Int32)), (.ref p2)])) _
              refine st29 _ ?_
              show Steps p.tables e below (T29.setTop (mkF m 32 #[.val (.ref p0), .val (.int (4 : Int32)), .val (.ref p2), .val (.int (4 : Int32)), .val (.int (6 : Int32)), .val (.int (4 : Int32)), .val (.int c4)] [])) _
              refine XS.iinc X29.here hx rfl (hb hby d12_32) rfl (l' := #[.val (.ref p0), .val (.int (5 : Int32)), .val (.ref p2), .val (.int (4 : Int32)), .val (.int (6 : Int32)), .val (.int (4 : Int32)), .val (.int c4)]) rfl ?_
              show Steps p.tables e below (T29.setTop (mkF m 35 #[.val (.ref p0), .val (.int (5 : Int32)), .val (.ref p2), .val (.int (4 : Int32)), .val (.int (6 : Int32)), .val (.int (4 : Int32)), .val (.int c4)] [])) _
              refine XS.iinc X29.here hx rfl (hb hby d12_35) rfl (l' := #[.val (.ref p0), .val (.int (5 : Int32)), .val (.ref p2), .val (.int (5 : Int32)), .val (.int (6 : Int32)), .val (.int (4 : Int32)), .val (.int c4)]) rfl ?_
              show Steps p.tables e below (T29.setTop (mkF m 38 #[.val (.ref p0), .val (.int (5 : Int32)), .val (.ref p2), .val (.int (5 : Int32)), .val (.int (6 : Int32)), .val (.int (4 : Int32)), .val (.int c4)] [])) _
              refine XS.iinc X29.here hx rfl (hb hby d12_38) rfl (l' := #[.val (.ref p0), .val (.int (5 : Int32)), .val (.ref p2), .val (.int (5 : Int32)), .val (.int (6 : Int32)), .val (.int (5 : Int32)), .val (.int c4)]) rfl ?_
              show Steps p.tables e below (T29.setTop (mkF m 41 #[.val (.ref p0), .val (.int (5 : Int32)), .val (.ref p2), .val (.int (5 : Int32)), .val (.int (6 : Int32)), .val (.int (5 : Int32)), .val (.int c4)] [])) _
              refine XS.goto X29.here hx rfl (pc0 := 41) (pc' := 3) rfl (hb hby d12_41) (by decide) (by decide) ?_
              show Steps p.tables e below (T29.setTop (mkF m 3 #[.val (.ref p0), .val (.int (5 : Int32)), .val (.ref p2), .val (.int (5 : Int32)), .val (.int (6 : Int32)), .val (.int (5 : Int32)), .val (.int c4)] [])) _
              refine XS.iload X29.here hx rfl (hb hby d12_3) rfl  ?_
              show Steps p.tables e below (T29.setTop (mkF m 5 #[.val (.ref p0), .val (.int (5 : Int32)), .val (.ref p2), .val (.int (5 : Int32)), .val (.int (6 : Int32)), .val (.int (5 : Int32)), .val (.int c4)] [(.int (5 : Int32))])) _
              refine XS.iload X29.here hx rfl (hb hby d12_5) rfl  ?_
              show Steps p.tables e below (T29.setTop (mkF m 7 #[.val (.ref p0), .val (.int (5 : Int32)), .val (.ref p2), .val (.int (5 : Int32)), .val (.int (6 : Int32)), .val (.int (5 : Int32)), .val (.int c4)] [(.int (6 : Int32)), (.int (5 : Int32))])) _
              refine XS.icmpNo X29.here hx rfl (hb hby d12_7) rfl (tlt (by decide : (5 : Int32) < (6 : Int32))).2.1 ?_
              show Steps p.tables e below (T29.setTop (mkF m 10 #[.val (.ref p0), .val (.int (5 : Int32)), .val (.ref p2), .val (.int (5 : Int32)), .val (.int (6 : Int32)), .val (.int (5 : Int32)), .val (.int c4)] [])) _
              refine XS.aloadN X29.here hx rfl (hb hby d12_10) rfl rfl ?_
              show Steps p.tables e below (T29.setTop (mkF m 11 #[.val (.ref p0), .val (.int (5 : Int32)), .val (.ref p2), .val (.int (5 : Int32)), .val (.int (6 : Int32)), .val (.int (5 : Int32)), .val (.int c4)] [(.ref p0)])) _
              refine XS.iloadN X29.here hx rfl (hb hby d12_11) rfl  ?_
              show Steps p.tables e below (T29.setTop (mkF m 12 #[.val (.ref p0), .val (.int (5 : Int32)), .val (.ref p2), .val (.int (5 : Int32)), .val (.int (6 : Int32)), .val (.int (5 : Int32)), .val (.int c4)] [(.int (5 : Int32)), (.ref p0)])) _
              refine X29.caload hx (j := (5 : Int32)) (v := (.int c5)) (by rw [e29]; exact Ar31.1) (State.isArrayOf_alike hZ.alike Ar31.2.1) Ar31.2.2 hin31 hat31 (g := (mkF m 12 #[.val (.ref p0), .val (.int (5 : Int32)), .val (.ref p2), .val (.int (5 : Int32)), .val (.int (6 : Int32)), .val (.int (5 : Int32)), .val (.int c4)] [(.int (5 : Int32)), (.ref p0)])) rfl rfl (hb hby d12_12) _ ?_
              show Steps p.tables e below (T29.setTop (mkF m 13 #[.val (.ref p0), .val (.int (5 : Int32)), .val (.ref p2), .val (.int (5 : Int32)), .val (.int (6 : Int32)), .val (.int (5 : Int32)), .val (.int c4)] [(.int c5)])) _
              refine XS.istore X29.here hx rfl (hb hby d12_13) rfl (l' := #[.val (.ref p0), .val (.int (5 : Int32)), .val (.ref p2), .val (.int (5 : Int32)), .val (.int (6 : Int32)), .val (.int (5 : Int32)), .val (.int c5)]) rfl ?_
              show Steps p.tables e below (T29.setTop (mkF m 15 #[.val (.ref p0), .val (.int (5 : Int32)), .val (.ref p2), .val (.int (5 : Int32)), .val (.int (6 : Int32)), .val (.int (5 : Int32)), .val (.int c5)] [])) _
              refine XS.iload X29.here hx rfl (hb hby d12_15) rfl  ?_
              show Steps p.tables e below (T29.setTop (mkF m 17 #[.val (.ref p0), .val (.int (5 : Int32)), .val (.ref p2), .val (.int (5 : Int32)), .val (.int (6 : Int32)), .val (.int (5 : Int32)), .val (.int c5)] [(.int c5)])) _
              refine XS.sipush X29.here hx rfl (hb hby d12_17) ?_
              exact kt)
            by_cases hc20_32 : (255 : Int32) < c5
            · obtain ⟨fs, hr, hrun, hended, hW, hsame⟩ := X29.leave (v := some (.int (5 : Int32))) (fun h => by rw [Bd.returns] at h; cases h)
              refine ⟨_, _, pre33 _ ?_, hrun, hended, _, _, rfl, ?_, ⟨_, rfl⟩, hW, hsame.mono (by decide) (by decide)⟩
              · show Steps p.tables e below (T29.setTop (mkF m 20 #[.val (.ref p0), .val (.int (5 : Int32)), .val (.ref p2), .val (.int (5 : Int32)), .val (.int (6 : Int32)), .val (.int (5 : Int32)), .val (.int c5)] [(.int (255 : Int32)), (.int c5)])) _
                refine XS.icmpNo X29.here hx rfl (hb hby d12_20) rfl (tlt hc20_32).2.2.2 ?_
                show Steps p.tables e below (T29.setTop (mkF m 23 #[.val (.ref p0), .val (.int (5 : Int32)), .val (.ref p2), .val (.int (5 : Int32)), .val (.int (6 : Int32)), .val (.int (5 : Int32)), .val (.int c5)] [])) _
                refine XS.iload X29.here hx rfl (hb hby d12_23) rfl  ?_
                show Steps p.tables e below (T29.setTop (mkF m 25 #[.val (.ref p0), .val (.int (5 : Int32)), .val (.ref p2), .val (.int (5 : Int32)), .val (.int (6 : Int32)), .val (.int (5 : Int32)), .val (.int c5)] [(.int (5 : Int32))])) _
                exact retI X29 hx Bd.returns (hb hby d12_25) hr
              · show Q_rmCmp6 Z p0 p2 zc fm ks kd c0 c1 c2 c3 c4 c5 h0 n0 _ T29.heap _
                rw [e29]
                exact ⟨⟨_, rfl, Or.inr ⟨5, rfl, Nat.le_of_ble_eq_true rfl, hc20_32⟩⟩, N29, K29⟩
            · obtain ⟨cl34, Ar34, q34, S34, N34, H34, G34⟩ := id V29
              have hin34 : ¬ ((5 : Int32) < 0 ∨ cl34.slots.size ≤ ((5 : Int32)).toNatClampNeg) := inb_of S34 ⟨by decide, by decide⟩
              obtain ⟨T35, h35, X35, e35, W35, st35⟩ := stB X29 hx hZ e29 Ar34 (j := (5 : Int32)) hin34 (g := (mkF m 31 #[.val (.ref p0), .val (.int (5 : Int32)), .val (.ref p2), .val (.int (5 : Int32)), .val (.int (6 : Int32)), .val (.int (5 : Int32)), .val (.int c5)] [(.int (c5.toInt8.toInt32)), (.int (5 : Int32)), (.ref p2)])) rfl rfl (hb hby d12_31)
              have N35 := Fr.snoc X35 N29 g2
              have K35 := K29.wr W35 (Or.inl (List.mem_of_getElem? (i := 0) rfl))
              have V35 : Arv Z h35 p2 kd .byte (6 : Int32) [(.int (own_b c0)), (.int (own_b c1)), (.int (own_b c2)), (.int (own_b c3)), (.int (own_b c4)), (.int (own_b c5))] (.int (0 : Int32)) := Arv.set Ar34 q34 S34 N34 H34 G34 (fits_nar_byte _) W35 5 rfl (Nat.le_of_ble_eq_true rfl)
              obtain ⟨fs, hr, hrun, hended, hW, hsame⟩ := X35.leave (v := some (.int (6 : Int32))) (fun h => by rw [Bd.returns] at h; cases h)
              refine ⟨_, _, pre33 _ ?_, hrun, hended, _, _, rfl, ?_, ⟨_, rfl⟩, hW, hsame.mono (by decide) (by decide)⟩
              · show Steps p.tables e below (T29.setTop (mkF m 20 #[.val (.ref p0), .val (.int (5 : Int32)), .val (.ref p2), .val (.int (5 : Int32)), .val (.int (6 : Int32)), .val (.int (5 : Int32)), .val (.int c5)] [(.int (255 : Int32)), (.int c5)])) _
                refine XS.icmpYes X29.here hx rfl (pc0 := 20) (pc' := 26) rfl (hb hby d12_20) rfl (flt hc20_32).2.2.2 (by decide) (by decide) ?_
                show Steps p.tables e below (T29.setTop (mkF m 26 #[.val (.ref p0), .val (.int (5 : Int32)), .val (.ref p2), .val (.int (5 : Int32)), .val (.int (6 : Int32)), .val (.int (5 : Int32)), .val (.int c5)] [])) _
                refine XS.aloadN X29.here hx rfl (hb hby d12_26) rfl rfl ?_
                show Steps p.tables e below (T29.setTop (mkF m 27 #[.val (.ref p0), .val (.int (5 : Int32)), .val (.ref p2), .val (.int (5 : Int32)), .val (.int (6 : Int32)), .val (.int (5 : Int32)), .val (.int c5)] [(.ref p2)])) _
                refine XS.iloadN X29.here hx rfl (hb hby d12_27) rfl  ?_
                show Steps p.tables e below (T29.setTop (mkF m 28 #[.val (.ref p0), .val (.int (5 : Int32)), .val (.ref p2), .val (.int (5 : Int32)), .val (.int (6 : Int32)), .val (.int (5 : Int32)), .val (.int c5)] [(.int (5 : Int32)), (.ref p2)])) _
                refine XS.iload X29.here hx rfl (hb hby d12_28) rfl  ?_
                show Steps p.tables e below (T29.setTop (mkF m 30 #[.val (.ref p0), .val (.int (5 : Int32)), .val (.ref p2), .val (.int (5 : Int32)), .val (.int (6 : Int32)), .val (.int (5 : Int32)), .val (.int c5)] [(.int c5), (.int (5 : Int32)), (.ref p2)])) _
                refine XS.i2b X29.here hx rfl (hb hby d12_30) rfl ?_
                show Steps p.tables e below (T29.setTop (mkF m 31 #[.val (.ref p0), .val (.int (5 : Int32)), .val (.ref p2), .val (.int (5 : Int32)), .val (.int (6 : Int32)), .val (.int (5 : Int32)), .val (.int c5)] [(.int (c5.toInt8.toInt32)), (.int (5 : Int32)), (.ref p2)])) _
                refine st35 _ ?_
                show Steps p.tables e below (T35.setTop (mkF m 32 #[.val (.ref p0), .val (.int (5 : Int32)), .val (.ref p2), .val (.int (5 : Int32)), .val (.int (6 : Int32)), .val (.int (5 : Int32)), .val (.int c5)] [])) _
                refine XS.iinc X35.here hx rfl (hb hby d12_32) rfl (l' := #[.val (.ref p0), .val (.int (6 : Int32)), .val (.ref p2), .val (.int (5 : Int32)), .val (.int (6 : Int32)), .val (.int (5 : Int32)), .val (.int c5)]) rfl ?_
                show Steps p.tables e below (T35.setTop (mkF m 35 #[.val (.ref p0), .val (.int (6 : Int32)), .val (.ref p2), .val (.int (5 : Int32)), .val (.int (6 : Int32)), .val (.int (5 : Int32)), .val (.int c5)] [])) _
                refine XS.iinc X35.here hx rfl (hb hby d12_35) rfl (l' := #[.val (.ref p0), .val (.int (6 : Int32)), .val (.ref p2), .val (.int (6 : Int32)), .val (.int (6 : Int32)), .val (.int (5 : Int32)), .val (.int c5)]) rfl ?_
                show Steps p.tables e below (T35.setTop (mkF m 38 #[.val (.ref p0), .val (.int (6 : Int32)), .val (.ref p2), .val (.int (6 : Int32)), .val (.int (6 : Int32)), .val (.int (5 : Int32)), .val (.int c5)] [])) _
                refine XS.iinc X35.here hx rfl (hb hby d12_38) rfl (l' := #[.val (.ref p0), .val (.int (6 : Int32)), .val (.ref p2), .val (.int (6 : Int32)), .val (.int (6 : Int32)), .val (.int (6 : Int32)), .val (.int c5)]) rfl ?_
                show Steps p.tables e below (T35.setTop (mkF m 41 #[.val (.ref p0), .val (.int (6 : Int32)), .val (.ref p2), .val (.int (6 : Int32)), .val (.int (6 : Int32)), .val (.int (6 : Int32)), .val (.int c5)] [])) _
                refine XS.goto X35.here hx rfl (pc0 := 41) (pc' := 3) rfl (hb hby d12_41) (by decide) (by decide) ?_
                show Steps p.tables e below (T35.setTop (mkF m 3 #[.val (.ref p0), .val (.int (6 : Int32)), .val (.ref p2), .val (.int (6 : Int32)), .val (.int (6 : Int32)), .val (.int (6 : Int32)), .val (.int c5)] [])) _
                refine XS.iload X35.here hx rfl (hb hby d12_3) rfl  ?_
                show Steps p.tables e below (T35.setTop (mkF m 5 #[.val (.ref p0), .val (.int (6 : Int32)), .val (.ref p2), .val (.int (6 : Int32)), .val (.int (6 : Int32)), .val (.int (6 : Int32)), .val (.int c5)] [(.int (6 : Int32))])) _
                refine XS.iload X35.here hx rfl (hb hby d12_5) rfl  ?_
                show Steps p.tables e below (T35.setTop (mkF m 7 #[.val (.ref p0), .val (.int (6 : Int32)), .val (.ref p2), .val (.int (6 : Int32)), .val (.int (6 : Int32)), .val (.int (6 : Int32)), .val (.int c5)] [(.int (6 : Int32)), (.int (6 : Int32))])) _
                refine XS.icmpYes X35.here hx rfl (pc0 := 7) (pc' := 44) rfl (hb hby d12_7) rfl (flt (by decide : ¬ ((6 : Int32) < (6 : Int32)))).2.1 (by decide) (by decide) ?_
                show Steps p.tables e below (T35.setTop (mkF m 44 #[.val (.ref p0), .val (.int (6 : Int32)), .val (.ref p2), .val (.int (6 : Int32)), .val (.int (6 : Int32)), .val (.int (6 : Int32)), .val (.int c5)] [])) _
                refine XS.iload X35.here hx rfl (hb hby d12_44) rfl  ?_
                show Steps p.tables e below (T35.setTop (mkF m 46 #[.val (.ref p0), .val (.int (6 : Int32)), .val (.ref p2), .val (.int (6 : Int32)), .val (.int (6 : Int32)), .val (.int (6 : Int32)), .val (.int c5)] [(.int (6 : Int32))])) _
                exact retI X35 hx Bd.returns (hb hby d12_46) hr
              · show Q_rmCmp6 Z p0 p2 zc fm ks kd c0 c1 c2 c3 c4 c5 h0 n0 _ T35.heap _
                rw [e35]
                exact ⟨⟨_, rfl, Or.inl ⟨rfl, ⟨hc20_2, hc20_8, hc20_14, hc20_20, hc20_26, hc20_32⟩, V35⟩⟩, N35, K35⟩
theorem ef_rmPut (m : MethodId) (p0 : Addr) (p1 : Int32) (p2 : Int32) : entryFrame m #[(.ref p0), (.int p1), (.int p2)] 3 = mkF m 0 #[.val (.ref p0), .val (.int p1), .val (.int p2)] [] := by first | (simp [entryFrame, mkF, argsToLocals, Value.category]; done) | rfl
theorem d16_0 : decode jdk_52_method_4_code 0 = .ok (.getstatic 44, 3) := by decide +kernel
theorem d16_3 : decode jdk_52_method_4_code 3 = .ok (.ifCond .ne 25, 3) := by decide +kernel
theorem d16_28 : decode jdk_52_method_4_code 28 = .ok (.iload_n 1, 1) := by decide +kernel
theorem d16_29 : decode jdk_52_method_4_code 29 = .ok (.iconst 1, 1) := by decide +kernel
theorem d16_30 : decode jdk_52_method_4_code 30 = .ok (.ishl, 1) := by decide +kernel
theorem d16_31 : decode jdk_52_method_4_code 31 = .ok (.istore_n 1, 1) := by decide +kernel
theorem d16_32 : decode jdk_52_method_4_code 32 = .ok (.aload_n 0, 1) := by decide +kernel
theorem d16_33 : decode jdk_52_method_4_code 33 = .ok (.iload_n 1, 1) := by decide +kernel
theorem d16_34 : decode jdk_52_method_4_code 34 = .ok (.iinc 1 1, 3) := by decide +kernel
theorem d16_37 : decode jdk_52_method_4_code 37 = .ok (.iload_n 2, 1) := by decide +kernel
theorem d16_38 : decode jdk_52_method_4_code 38 = .ok (.getstatic 59, 3) := by decide +kernel
theorem d16_41 : decode jdk_52_method_4_code 41 = .ok (.ishr, 1) := by decide +kernel
theorem d16_42 : decode jdk_52_method_4_code 42 = .ok (.i2b, 1) := by decide +kernel
theorem d16_43 : decode jdk_52_method_4_code 43 = .ok (.bastore, 1) := by decide +kernel
theorem d16_44 : decode jdk_52_method_4_code 44 = .ok (.aload_n 0, 1) := by decide +kernel
theorem d16_45 : decode jdk_52_method_4_code 45 = .ok (.iload_n 1, 1) := by decide +kernel
theorem d16_46 : decode jdk_52_method_4_code 46 = .ok (.iload_n 2, 1) := by decide +kernel
theorem d16_47 : decode jdk_52_method_4_code 47 = .ok (.getstatic 63, 3) := by decide +kernel
theorem d16_50 : decode jdk_52_method_4_code 50 = .ok (.ishr, 1) := by decide +kernel
theorem d16_51 : decode jdk_52_method_4_code 51 = .ok (.i2b, 1) := by decide +kernel
theorem d16_52 : decode jdk_52_method_4_code 52 = .ok (.bastore, 1) := by decide +kernel
theorem d16_53 : decode jdk_52_method_4_code 53 = .ok (.return_, 1) := by decide +kernel
def Q_rmPut (Z : State) (p0 : Addr) (p1 : Int32) (p2 : Int32) (zc : Int32) (fm : Value) (k : ClassId) (z : Int32) (vs : List Value) (j1 : Nat) (j2 : Nat) (h0 : Heap) (n0 : Nat) (v : Option Value) (h : Heap) (L : List Loc) : Prop := v = none ∧ Fr n0 L ∧ Keep h0 h [p0] ∧ Arv Z h p0 k .byte z ((vs.set j1 (.int (own_wl p2))).set j2 (.int (own_wh p2))) (.int (0 : Int32))
set_option maxRecDepth 65536 in
set_option maxHeartbeats 40000000 in
theorem rmPut (l : Launch) (Z : State) (a0 : Array Value) (hw : ∀ d ∈ tables_1, d.before a0 Z = true) (ws : List Jvm.Cond) (p0 : Addr) (p1 : Int32) (p2 : Int32) (zc : Int32) (fm : Value) (k : ClassId) (z : Int32) (vs : List Value) (j1 : Nat) (j2 : Nat) (h0 : Heap) (n0 : Nat) (Z0 : n0 ≤ h0.size) (hSt : own_St Z zc fm) (Ol : Old Z n0 h0) (A0 : Arv Z h0 p0 k .byte z vs (.int (0 : Int32))) (hi1 : ¬ (p1 <<< ((1 : Int32) &&& 31)) < (0 : Int32) ∧ (p1 <<< ((1 : Int32) &&& 31)) < z) (hi2 : ¬ ((p1 <<< ((1 : Int32) &&& 31)) + (1 : Int32)) < (0 : Int32) ∧ ((p1 <<< ((1 : Int32) &&& 31)) + (1 : Int32)) < z) (hj1 : (p1 <<< ((1 : Int32) &&& 31)).toNatClampNeg = j1) (hj2 : ((p1 <<< ((1 : Int32) &&& 31)) + (1 : Int32)).toNatClampNeg = j2) (hl1 : j1 < vs.length) (hl2 : j2 < vs.length) (g0_ : n0 ≤ p0) :
    MetFree l (⟨"java/lang/StringUTF16", "putChar", "([BII)V"⟩ : MethodName) (head1 (Jvm.Cond.code (⟨"java/lang/StringUTF16", "putChar", "([BII)V"⟩ : MethodName) jdk_52_method_4_code 3 none :: ws) ({ frames := 0, cells := 0, slots := 0, locals := 0 } : Room)) (fun a U => a = #[(.ref p0), (.int p1), (.int p2)] ∧ Z.Warmed39 U.vm ∧ U.heap = h0) (fun _ _ _ _ _ => True) (fun _ U o U' => ∃ v L, o = .returned v ∧ Q_rmPut Z p0 p1 p2 zc fm k z vs j1 j2 h0 n0 v U'.heap L ∧ FrameEnd U o U' L ({ frames := 0, cells := 0, slots := 0, locals := 0 } : Room).cells ({ frames := 0, cells := 0, slots := 0, locals := 0 } : Room).slots) := by
  refine MetFree.of_bodySF (plainFor_of_name pn_java_lang_StringUTF16) hisR ?_
  intro p e s m args below meth c s₁ Bd hml0 hP hK
  obtain ⟨rfl, hZ, hh⟩ := hP
  have hx := Bd.exec
  have hby := Bd.bytes
  have hml : c.maxLocals = 3 := hml0
  have hown : s.vm.findClass "java/lang/StringUTF16" = some m.cls := findClass_of_methodNamed Bd.named
  have hnm := (name_of_methodNamed Bd.named Bd.method).1
  have hZo := hZ
  have howno := hown
  have X0 : Stand p l e ({ frames := 0, cells := 0, slots := 0, locals := 0 } : Room) s m #[(.ref p0), (.int p1), (.int p2)] below meth c s₁ [] 0 0 := Stand.of_body Bd
  have e0 : s₁.heap = h0 := by rw [← hh, Bd.state]; rfl
  have N0 := Fr.nil n0
  have pre0 : ∀ t, Steps p.tables e below (s₁.setTop (mkF m 0 #[.val (.ref p0), .val (.int p1), .val (.int p2)] [])) t → Steps p.tables e below (s₁.setTop (entryFrame m #[(.ref p0), (.int p1), (.int p2)] 3)) t := fun t k => castTop (ef_rmPut m p0 p1 p2 ) k
  obtain ⟨T1, X1, e1, st1⟩ := getS2 X0 hx hZ hown (host := "") (Or.inl (hw _ (List.mem_of_getElem? (i := 77) rfl))) Via.refl e0 (hSt.2.2.2.2.1.ext Ol.2) (g := (mkF m 0 #[.val (.ref p0), .val (.int p1), .val (.int p2)] [])) rfl (hb hby d16_0)
  obtain ⟨T2, X2, e2, st2⟩ := getS2 X1 hx hZ hown (host := "") (Or.inl (hw _ (List.mem_of_getElem? (i := 78) rfl))) Via.refl e1 (hSt.2.2.2.2.2.1.ext Ol.2) (g := (mkF m 38 #[.val (.ref p0), .val (.int ((p1 <<< ((1 : Int32) &&& 31)) + (1 : Int32))), .val (.int p2)] [(.int p2), (.int (p1 <<< ((1 : Int32) &&& 31))), (.ref p0)])) rfl (hb hby d16_38)
  obtain ⟨cl3, Ar3, q3, S3, N3, H3, G3⟩ := id A0
  have hin3 := inb_of (j := (p1 <<< ((1 : Int32) &&& 31))) S3 hi1
  obtain ⟨T4, h4, X4, e4, W4, st4⟩ := stB X2 hx hZ e2 Ar3 (j := (p1 <<< ((1 : Int32) &&& 31))) hin3 (g := (mkF m 43 #[.val (.ref p0), .val (.int ((p1 <<< ((1 : Int32) &&& 31)) + (1 : Int32))), .val (.int p2)] [(.int ((p2 >>> ((0 : Int32) &&& 31)).toInt8.toInt32)), (.int (p1 <<< ((1 : Int32) &&& 31))), (.ref p0)])) rfl rfl (hb hby d16_43)
  have N4 := Fr.snoc X4 N0 g0_
  have K4 := (Keep.refl h0 [p0]).wr W4 (Or.inl (List.mem_of_getElem? (i := 0) rfl))
  have V4 := Arv.set Ar3 q3 S3 N3 H3 G3 (fits_nar_byte _) W4 j1 hj1 hl1
  have f5 := (Ol.wr W4 g0_)
  obtain ⟨T6, X6, e6, st6⟩ := getS2 X4 hx hZ hown (host := "") (Or.inl (hw _ (List.mem_of_getElem? (i := 79) rfl))) Via.refl e4 (hSt.2.2.2.2.2.2.ext f5.2) (g := (mkF m 47 #[.val (.ref p0), .val (.int ((p1 <<< ((1 : Int32) &&& 31)) + (1 : Int32))), .val (.int p2)] [(.int p2), (.int ((p1 <<< ((1 : Int32) &&& 31)) + (1 : Int32))), (.ref p0)])) rfl (hb hby d16_47)
  obtain ⟨cl7, Ar7, q7, S7, N7, H7, G7⟩ := id V4
  have hin7 := inb_of (j := ((p1 <<< ((1 : Int32) &&& 31)) + (1 : Int32))) S7 hi2
  obtain ⟨T8, h8, X8, e8, W8, st8⟩ := stB X6 hx hZ e6 Ar7 (j := ((p1 <<< ((1 : Int32) &&& 31)) + (1 : Int32))) hin7 (g := (mkF m 52 #[.val (.ref p0), .val (.int ((p1 <<< ((1 : Int32) &&& 31)) + (1 : Int32))), .val (.int p2)] [(.int ((p2 >>> ((8 : Int32) &&& 31)).toInt8.toInt32)), (.int ((p1 <<< ((1 : Int32) &&& 31)) + (1 : Int32))), (.ref p0)])) rfl rfl (hb hby d16_52)
  have N8 := Fr.snoc X8 N4 g0_
  have K8 := K4.wr W8 (Or.inl (List.mem_of_getElem? (i := 0) rfl))
  have V8 := Arv.set Ar7 q7 S7 N7 H7 G7 (fits_nar_byte _) W8 j2 hj2 (by rw [List.length_set]; exact hl2)
  obtain ⟨fs, hr, hrun, hended, hW, hsame⟩ := X8.leave (v := none) (fun _ => rfl)
  refine ⟨_, _, pre0 _ ?_, hrun, hended, _, _, rfl, ?_, ⟨_, rfl⟩, hW, hsame.mono (by decide) (by decide)⟩
  · show Steps p.tables e below (s₁.setTop (mkF m 0 #[.val (.ref p0), .val (.int p1), .val (.int p2)] [])) _
    refine st1 _ ?_
    show Steps p.tables e below (T1.setTop (mkF m 3 #[.val (.ref p0), .val (.int p1), .val (.int p2)] [(.int (1 : Int32))])) _
    refine XS.ifYes X1.here hx rfl (pc0 := 3) (pc' := 28) rfl (hb hby d16_3) rfl ((if0 _ _).trans (feq (by decide : ¬ ((1 : Int32) = (0 : Int32)))).2) (by decide) (by decide) ?_
    show Steps p.tables e below (T1.setTop (mkF m 28 #[.val (.ref p0), .val (.int p1), .val (.int p2)] [])) _
    refine XS.iloadN X1.here hx rfl (hb hby d16_28) rfl  ?_
    show Steps p.tables e below (T1.setTop (mkF m 29 #[.val (.ref p0), .val (.int p1), .val (.int p2)] [(.int p1)])) _
    refine XS.iconst X1.here hx rfl (hb hby d16_29) ?_
    show Steps p.tables e below (T1.setTop (mkF m 30 #[.val (.ref p0), .val (.int p1), .val (.int p2)] [(.int (1 : Int32)), (.int p1)])) _
    refine XS.ishl X1.here hx rfl (hb hby d16_30) rfl ?_
    show Steps p.tables e below (T1.setTop (mkF m 31 #[.val (.ref p0), .val (.int p1), .val (.int p2)] [(.int (p1 <<< ((1 : Int32) &&& 31)))])) _
    refine XS.istoreN X1.here hx rfl (hb hby d16_31) rfl (l' := #[.val (.ref p0), .val (.int (p1 <<< ((1 : Int32) &&& 31))), .val (.int p2)]) rfl ?_
    show Steps p.tables e below (T1.setTop (mkF m 32 #[.val (.ref p0), .val (.int (p1 <<< ((1 : Int32) &&& 31))), .val (.int p2)] [])) _
    refine XS.aloadN X1.here hx rfl (hb hby d16_32) rfl rfl ?_
    show Steps p.tables e below (T1.setTop (mkF m 33 #[.val (.ref p0), .val (.int (p1 <<< ((1 : Int32) &&& 31))), .val (.int p2)] [(.ref p0)])) _
    refine XS.iloadN X1.here hx rfl (hb hby d16_33) rfl  ?_
    show Steps p.tables e below (T1.setTop (mkF m 34 #[.val (.ref p0), .val (.int (p1 <<< ((1 : Int32) &&& 31))), .val (.int p2)] [(.int (p1 <<< ((1 : Int32) &&& 31))), (.ref p0)])) _
    refine XS.iinc X1.here hx rfl (hb hby d16_34) rfl (l' := #[.val (.ref p0), .val (.int ((p1 <<< ((1 : Int32) &&& 31)) + (1 : Int32))), .val (.int p2)]) rfl ?_
    show Steps p.tables e below (T1.setTop (mkF m 37 #[.val (.ref p0), .val (.int ((p1 <<< ((1 : Int32) &&& 31)) + (1 : Int32))), .val (.int p2)] [(.int (p1 <<< ((1 : Int32) &&& 31))), (.ref p0)])) _
    refine XS.iloadN X1.here hx rfl (hb hby d16_37) rfl  ?_
    show Steps p.tables e below (T1.setTop (mkF m 38 #[.val (.ref p0), .val (.int ((p1 <<< ((1 : Int32) &&& 31)) + (1 : Int32))), .val (.int p2)] [(.int p2), (.int (p1 <<< ((1 : Int32) &&& 31))), (.ref p0)])) _
    refine st2 _ ?_
    show Steps p.tables e below (T2.setTop (mkF m 41 #[.val (.ref p0), .val (.int ((p1 <<< ((1 : Int32) &&& 31)) + (1 : Int32))), .val (.int p2)] [(.int (0 : Int32)), (.int p2), (.int (p1 <<< ((1 : Int32) &&& 31))), (.ref p0)])) _
    refine XS.ishr X2.here hx rfl (hb hby d16_41) rfl ?_
    show Steps p.tables e below (T2.setTop (mkF m 42 #[.val (.ref p0), .val (.int ((p1 <<< ((1 : Int32) &&& 31)) + (1 : Int32))), .val (.int p2)] [(.int (p2 >>> ((0 : Int32) &&& 31))), (.int (p1 <<< ((1 : Int32) &&& 31))), (.ref p0)])) _
    refine XS.i2b X2.here hx rfl (hb hby d16_42) rfl ?_
    show Steps p.tables e below (T2.setTop (mkF m 43 #[.val (.ref p0), .val (.int ((p1 <<< ((1 : Int32) &&& 31)) + (1 : Int32))), .val (.int p2)] [(.int ((p2 >>> ((0 : Int32) &&& 31)).toInt8.toInt32)), (.int (p1 <<< ((1 : Int32) &&& 31))), (.ref p0)])) _
    refine st4 _ ?_
    show Steps p.tables e below (T4.setTop (mkF m 44 #[.val (.ref p0), .val (.int ((p1 <<< ((1 : Int32) &&& 31)) + (1 : Int32))), .val (.int p2)] [])) _
    refine XS.aloadN X4.here hx rfl (hb hby d16_44) rfl rfl ?_
    show Steps p.tables e below (T4.setTop (mkF m 45 #[.val (.ref p0), .val (.int ((p1 <<< ((1 : Int32) &&& 31)) + (1 : Int32))), .val (.int p2)] [(.ref p0)])) _
    refine XS.iloadN X4.here hx rfl (hb hby d16_45) rfl  ?_
    show Steps p.tables e below (T4.setTop (mkF m 46 #[.val (.ref p0), .val (.int ((p1 <<< ((1 : Int32) &&& 31)) + (1 : Int32))), .val (.int p2)] [(.int ((p1 <<< ((1 : Int32) &&& 31)) + (1 : Int32))), (.ref p0)])) _
    refine XS.iloadN X4.here hx rfl (hb hby d16_46) rfl  ?_
    show Steps p.tables e below (T4.setTop (mkF m 47 #[.val (.ref p0), .val (.int ((p1 <<< ((1 : Int32) &&& 31)) + (1 : Int32))), .val (.int p2)] [(.int p2), (.int ((p1 <<< ((1 : Int32) &&& 31)) + (1 : Int32))), (.ref p0)])) _
    refine st6 _ ?_
    show Steps p.tables e below (T6.setTop (mkF m 50 #[.val (.ref p0), .val (.int ((p1 <<< ((1 : Int32) &&& 31)) + (1 : Int32))), .val (.int p2)] [(.int (8 : Int32)), (.int p2), (.int ((p1 <<< ((1 : Int32) &&& 31)) + (1 : Int32))), (.ref p0)])) _
    refine XS.ishr X6.here hx rfl (hb hby d16_50) rfl ?_
    show Steps p.tables e below (T6.setTop (mkF m 51 #[.val (.ref p0), .val (.int ((p1 <<< ((1 : Int32) &&& 31)) + (1 : Int32))), .val (.int p2)] [(.int (p2 >>> ((8 : Int32) &&& 31))), (.int ((p1 <<< ((1 : Int32) &&& 31)) + (1 : Int32))), (.ref p0)])) _
    refine XS.i2b X6.here hx rfl (hb hby d16_51) rfl ?_
    show Steps p.tables e below (T6.setTop (mkF m 52 #[.val (.ref p0), .val (.int ((p1 <<< ((1 : Int32) &&& 31)) + (1 : Int32))), .val (.int p2)] [(.int ((p2 >>> ((8 : Int32) &&& 31)).toInt8.toInt32)), (.int ((p1 <<< ((1 : Int32) &&& 31)) + (1 : Int32))), (.ref p0)])) _
    refine st8 _ ?_
    show Steps p.tables e below (T8.setTop (mkF m 53 #[.val (.ref p0), .val (.int ((p1 <<< ((1 : Int32) &&& 31)) + (1 : Int32))), .val (.int p2)] [])) _
    exact X8.returnOut hx Bd.returns (hb hby d16_53) hr
  · show Q_rmPut Z p0 p1 p2 zc fm k z vs j1 j2 h0 n0 _ T8.heap _
    rw [e8]
    exact ⟨rfl, N8, K8, V8⟩
theorem ef_rmNBL (m : MethodId) (p0 : Int32) : entryFrame m #[(.int p0)] 1 = mkF m 0 #[.val (.int p0)] [] := by first | (simp [entryFrame, mkF, argsToLocals, Value.category]; done) | rfl
theorem d15_0 : decode jdk_52_method_3_code 0 = .ok (.iload_n 0, 1) := by decide +kernel
theorem d15_1 : decode jdk_52_method_3_code 1 = .ok (.ifCond .ge 11, 3) := by decide +kernel
theorem d15_12 : decode jdk_52_method_3_code 12 = .ok (.iload_n 0, 1) := by decide +kernel
theorem d15_13 : decode jdk_52_method_3_code 13 = .ok (.ldc 20, 2) := by decide +kernel
theorem d15_15 : decode jdk_52_method_3_code 15 = .ok (.if_icmp .lt 40, 3) := by decide +kernel
theorem d15_55 : decode jdk_52_method_3_code 55 = .ok (.iload_n 0, 1) := by decide +kernel
theorem d15_56 : decode jdk_52_method_3_code 56 = .ok (.iconst 1, 1) := by decide +kernel
theorem d15_57 : decode jdk_52_method_3_code 57 = .ok (.ishl, 1) := by decide +kernel
theorem d15_58 : decode jdk_52_method_3_code 58 = .ok (.ireturn, 1) := by decide +kernel
def Q_rmNBL (Z : State) (p0 : Int32) (zc : Int32) (fm : Value) (r : Int32) (h0 : Heap) (n0 : Nat) (v : Option Value) (h : Heap) (L : List Loc) : Prop := v = some (.int r) ∧ Fr n0 L ∧ h = h0
set_option maxRecDepth 65536 in
set_option maxHeartbeats 40000000 in
theorem rmNBL (l : Launch) (Z : State) (a0 : Array Value) (hw : ∀ d ∈ tables_1, d.before a0 Z = true) (ws : List Jvm.Cond) (p0 : Int32) (zc : Int32) (fm : Value) (r : Int32) (h0 : Heap) (n0 : Nat) (Z0 : n0 ≤ h0.size) (hSt : own_St Z zc fm) (Ol : Old Z n0 h0) (hp : ¬ p0 < (0 : Int32) ∧ p0 < (1073741823 : Int32)) (hres : r = p0 <<< ((1 : Int32) &&& 31)) :
    MetFree l (⟨"java/lang/StringUTF16", "newBytesLength", "(I)I"⟩ : MethodName) (head1 (Jvm.Cond.code (⟨"java/lang/StringUTF16", "newBytesLength", "(I)I"⟩ : MethodName) jdk_52_method_3_code 1 (some .int) :: ws) ({ frames := 0, cells := 0, slots := 0, locals := 0 } : Room)) (fun a U => a = #[(.int p0)] ∧ Z.Warmed39 U.vm ∧ U.heap = h0) (fun _ _ _ _ _ => True) (fun _ U o U' => ∃ v L, o = .returned v ∧ Q_rmNBL Z p0 zc fm r h0 n0 v U'.heap L ∧ FrameEnd U o U' L ({ frames := 0, cells := 0, slots := 0, locals := 0 } : Room).cells ({ frames := 0, cells := 0, slots := 0, locals := 0 } : Room).slots) := by
  refine MetFree.of_bodySF (plainFor_of_name pn_java_lang_StringUTF16) hisR ?_
  intro p e s m args below meth c s₁ Bd hml0 hP hK
  obtain ⟨rfl, hZ, hh⟩ := hP
  have hx := Bd.exec
  have hby := Bd.bytes
  have hml : c.maxLocals = 1 := hml0
  have hown : s.vm.findClass "java/lang/StringUTF16" = some m.cls := findClass_of_methodNamed Bd.named
  have hnm := (name_of_methodNamed Bd.named Bd.method).1
  have hZo := hZ
  have howno := hown
  have X0 : Stand p l e ({ frames := 0, cells := 0, slots := 0, locals := 0 } : Room) s m #[(.int p0)] below meth c s₁ [] 0 0 := Stand.of_body Bd
  have e0 : s₁.heap = h0 := by rw [← hh, Bd.state]; rfl
  have N0 := Fr.nil n0
  have pre0 : ∀ t, Steps p.tables e below (s₁.setTop (mkF m 0 #[.val (.int p0)] [])) t → Steps p.tables e below (s₁.setTop (entryFrame m #[(.int p0)] 1)) t := fun t k => castTop (ef_rmNBL m p0 ) k
  obtain ⟨fs, hr, hrun, hended, hW, hsame⟩ := X0.leave (v := some (.int (p0 <<< ((1 : Int32) &&& 31)))) (fun h => by rw [Bd.returns] at h; cases h)
  refine ⟨_, _, pre0 _ ?_, hrun, hended, _, _, rfl, ?_, ⟨_, rfl⟩, hW, hsame.mono (by decide) (by decide)⟩
  · show Steps p.tables e below (s₁.setTop (mkF m 0 #[.val (.int p0)] [])) _
    refine XS.iloadN X0.here hx rfl (hb hby d15_0) rfl  ?_
    show Steps p.tables e below (s₁.setTop (mkF m 1 #[.val (.int p0)] [(.int p0)])) _
    refine XS.ifYes X0.here hx rfl (pc0 := 1) (pc' := 12) rfl (hb hby d15_1) rfl ((if0 _ _).trans (flt hp.1).2.1) (by decide) (by decide) ?_
    show Steps p.tables e below (s₁.setTop (mkF m 12 #[.val (.int p0)] [])) _
    refine XS.iloadN X0.here hx rfl (hb hby d15_12) rfl  ?_
    show Steps p.tables e below (s₁.setTop (mkF m 13 #[.val (.int p0)] [(.int p0)])) _
    refine X0.ldcInt hx hown (mvT hZ (hw _ (List.mem_of_getElem? (i := 73) rfl))) (g := (mkF m 13 #[.val (.int p0)] [(.int p0)])) rfl (hb hby d15_13) _ ?_
    show Steps p.tables e below (s₁.setTop (mkF m 15 #[.val (.int p0)] [(.int (1073741823 : Int32)), (.int p0)])) _
    refine XS.icmpYes X0.here hx rfl (pc0 := 15) (pc' := 55) rfl (hb hby d15_15) rfl (tlt hp.2).1 (by decide) (by decide) ?_
    show Steps p.tables e below (s₁.setTop (mkF m 55 #[.val (.int p0)] [])) _
    refine XS.iloadN X0.here hx rfl (hb hby d15_55) rfl  ?_
    show Steps p.tables e below (s₁.setTop (mkF m 56 #[.val (.int p0)] [(.int p0)])) _
    refine XS.iconst X0.here hx rfl (hb hby d15_56) ?_
    show Steps p.tables e below (s₁.setTop (mkF m 57 #[.val (.int p0)] [(.int (1 : Int32)), (.int p0)])) _
    refine XS.ishl X0.here hx rfl (hb hby d15_57) rfl ?_
    show Steps p.tables e below (s₁.setTop (mkF m 58 #[.val (.int p0)] [(.int (p0 <<< ((1 : Int32) &&& 31)))])) _
    exact retI X0 hx Bd.returns (hb hby d15_58) hr
  · show Q_rmNBL Z p0 zc fm r h0 n0 _ s₁.heap _
    rw [e0]
    exact ⟨by rw [hres], N0, rfl⟩
theorem ef_rmNBF6 (m : MethodId)  : entryFrame m #[(.int (6 : Int32))] 1 = mkF m 0 #[.val (.int (6 : Int32))] [] := by first | (simp [entryFrame, mkF, argsToLocals, Value.category]; done) | rfl
theorem d14_0 : decode jdk_52_method_2_code 0 = .ok (.iload_n 0, 1) := by decide +kernel
theorem pd__I_I : parseMethodDescriptor "(I)I" = some ⟨[.int], some .int⟩ := by decide +kernel
theorem d14_1 : decode jdk_52_method_2_code 1 = .ok (.invokestatic 11, 3) := by decide +kernel
theorem d14_4 : decode jdk_52_method_2_code 4 = .ok (.newarray .byte, 2) := by decide +kernel
theorem d14_6 : decode jdk_52_method_2_code 6 = .ok (.areturn, 1) := by decide +kernel
def Q_rmNBF6 (Z : State) (zc : Int32) (fm : Value) (h0 : Heap) (n0 : Nat) (v : Option Value) (h : Heap) (L : List Loc) : Prop := (∃ (b : Addr) (k : ClassId), v = some (.ref b) ∧ n0 ≤ b ∧ h0.size ≤ b ∧ Arv Z h b k .byte (12 : Int32) [(.int (0 : Int32)), (.int (0 : Int32)), (.int (0 : Int32)), (.int (0 : Int32)), (.int (0 : Int32)), (.int (0 : Int32)), (.int (0 : Int32)), (.int (0 : Int32)), (.int (0 : Int32)), (.int (0 : Int32)), (.int (0 : Int32)), (.int (0 : Int32))] (.int (0 : Int32))) ∧ Fr n0 L ∧ Keep h0 h []
set_option maxRecDepth 65536 in
set_option maxHeartbeats 40000000 in
theorem rmNBF6 (l : Launch) (Z : State) (a0 : Array Value) (hw : ∀ d ∈ tables_1, d.before a0 Z = true) (ws : List Jvm.Cond) (zc : Int32) (fm : Value) (h0 : Heap) (n0 : Nat) (Z0 : n0 ≤ h0.size) (hSt : own_St Z zc fm) (Ol : Old Z n0 h0) :
    MetFree l (⟨"java/lang/StringUTF16", "newBytesFor", "(I)[B"⟩ : MethodName) (head1 (Jvm.Cond.code (⟨"java/lang/StringUTF16", "newBytesFor", "(I)[B"⟩ : MethodName) jdk_52_method_2_code 1 (some (.array .byte)) :: ws) ({ frames := 1, cells := 1, slots := 12, locals := 12 } : Room)) (fun a U => a = #[(.int (6 : Int32))] ∧ Z.Warmed39 U.vm ∧ U.heap = h0) (fun _ _ _ _ _ => True) (fun _ U o U' => ∃ v L, o = .returned v ∧ Q_rmNBF6 Z zc fm h0 n0 v U'.heap L ∧ FrameEnd U o U' L ({ frames := 1, cells := 1, slots := 12, locals := 12 } : Room).cells ({ frames := 1, cells := 1, slots := 12, locals := 12 } : Room).slots) := by
  refine MetFree.of_bodySF (plainFor_of_name pn_java_lang_StringUTF16) hisR ?_
  intro p e s m args below meth c s₁ Bd hml0 hP hK
  obtain ⟨rfl, hZ, hh⟩ := hP
  have hx := Bd.exec
  have hby := Bd.bytes
  have hml : c.maxLocals = 1 := hml0
  have hown : s.vm.findClass "java/lang/StringUTF16" = some m.cls := findClass_of_methodNamed Bd.named
  have hnm := (name_of_methodNamed Bd.named Bd.method).1
  have hZo := hZ
  have howno := hown
  have X0 : Stand p l e ({ frames := 1, cells := 1, slots := 12, locals := 12 } : Room) s m #[(.int (6 : Int32))] below meth c s₁ [] 0 0 := Stand.of_body Bd
  have e0 : s₁.heap = h0 := by rw [← hh, Bd.state]; rfl
  have N0 := Fr.nil n0
  have pre0 : ∀ t, Steps p.tables e below (s₁.setTop (mkF m 0 #[.val (.int (6 : Int32))] [])) t → Steps p.tables e below (s₁.setTop (entryFrame m #[(.int (6 : Int32))] 1)) t := fun t k => castTop (ef_rmNBF6 m  ) k
  obtain ⟨_, _, ⟨T1, L1, k1, n1⟩, -, X1, ⟨Lc1, hQ1, l1, y1, z1⟩, st1⟩ := Jvm.LawKit.callS X0 hx (y := (⟨"java/lang/StringUTF16", "newBytesLength", "(I)I"⟩ : MethodName)) hown (mvT hZ (hw _ (List.mem_of_getElem? (i := 70) rfl))) (mvT hZ (hw _ (List.mem_of_getElem? (i := 71) rfl))) (mvT hZ (hw _ (List.mem_of_getElem? (i := 59) rfl))) (mvT hZ (hw _ (List.mem_of_getElem? (i := 72) rfl))) (by decide) (backOf (W := 0) (rmNBL l Z a0 hw [] (6 : Int32) zc fm (12 : Int32) h0 n0 Z0 hSt Ol (by decide) (by decide)) hZ (hw _ (List.mem_of_getElem? (i := 72) rfl)) (hw _ (List.mem_of_getElem? (i := 59) rfl)) (by decide) (by decide)) (g := (mkF m 1 #[.val (.int (6 : Int32))] [(.int (6 : Int32))])) rfl (by rw [hml]; rfl) (argsL := [(.int (6 : Int32))]) (rest := []) (lenOf pd__I_I rfl) rfl (by show 2 * 0 + _ ≤ _; exact Nat.le_of_eq rfl) (hb hby d14_1) (fun _ _ => ⟨rfl, e0, (by decide : 0 + 0 ≤ _), (by decide : 0 + 0 ≤ _)⟩)
  dsimp only [Pt.U, Pt.locs, Pt.cells, Pt.slots] at X1 l1 y1 z1 st1 hQ1
  subst l1 y1 z1
  obtain ⟨rfl, Nq1, e1⟩ := hQ1
  have N1 := Fr.app N0 Nq1
  obtain ⟨T2, h2, k2, X2, e2, E2, A2, st2⟩ := newP X1 hx hZ (hw _ (List.mem_of_getElem? (i := 3) rfl)) e1 (g := (mkF m 4 #[.val (.int (6 : Int32))] [(.int (12 : Int32))])) rfl (hb hby d14_4) rfl (by decide) (cap := 12) (by decide) (by decide) (by decide) (by decide)
  obtain ⟨b2, g2⟩ : ∃ z, z = h0.size := ⟨_, rfl⟩
  rw [← g2] at A2 st2
  have ge2 : n0 ≤ b2 := Nat.le_trans Z0 (Nat.le_of_eq g2.symm)
  have sz2 : h0.size ≤ b2 := Nat.le_trans (Keep.refl h0 []).1 (Nat.le_of_eq g2.symm)
  have K2 := (Keep.refl h0 []).ext E2
  have V2 : Arv Z h2 b2 k2 .byte (12 : Int32) [(.int (0 : Int32)), (.int (0 : Int32)), (.int (0 : Int32)), (.int (0 : Int32)), (.int (0 : Int32)), (.int (0 : Int32)), (.int (0 : Int32)), (.int (0 : Int32)), (.int (0 : Int32)), (.int (0 : Int32)), (.int (0 : Int32)), (.int (0 : Int32))] (.int (0 : Int32)) := (Arv.new A2 (by decide)).pad (pad_rep [] (.int (0 : Int32)) 12)
  obtain ⟨fs, hr, hrun, hended, hW, hsame⟩ := X2.leave (v := some (.ref b2)) (fun h => by rw [Bd.returns] at h; cases h)
  refine ⟨_, _, pre0 _ ?_, hrun, hended, _, _, rfl, ?_, ⟨_, rfl⟩, hW, hsame.mono (by decide) (by decide)⟩
  · show Steps p.tables e below (s₁.setTop (mkF m 0 #[.val (.int (6 : Int32))] [])) _
    refine XS.iloadN X0.here hx rfl (hb hby d14_0) rfl  ?_
    show Steps p.tables e below (s₁.setTop (mkF m 1 #[.val (.int (6 : Int32))] [(.int (6 : Int32))])) _
    refine st1 _ ?_
    show Steps p.tables e below (T1.setTop (mkF m 4 #[.val (.int (6 : Int32))] [(.int (12 : Int32))])) _
    refine st2 _ ?_
    show Steps p.tables e below (T2.setTop (mkF m 6 #[.val (.int (6 : Int32))] [(.ref b2)])) _
    jvm_step X2.here [X2.here.top, hx, (hb hby d14_6), X2.method', Bd.returns, Value.isRef, FieldType.isReference]
    first | (intro acts; rw [hr _ acts rfl rfl rfl]) | rw [hr _ _ rfl rfl rfl]
    exact Steps.refl _
  · show Q_rmNBF6 Z zc fm h0 n0 _ T2.heap _
    rw [e2]
    exact ⟨⟨_, _, rfl, ge2, sz2, V2⟩, N1, K2⟩
theorem ef_rmToB6 (m : MethodId) (p0 : Addr) : entryFrame m #[(.ref p0), (.int (0 : Int32)), (.int (6 : Int32))] 5 = mkF m 0 #[.val (.ref p0), .val (.int (0 : Int32)), .val (.int (6 : Int32)), .unset, .unset] [] := by first | (simp [entryFrame, mkF, argsToLocals, Value.category]; done) | rfl
theorem d13_0 : decode jdk_52_method_14_code 0 = .ok (.iload_n 2, 1) := by decide +kernel
theorem pd__I__B : parseMethodDescriptor "(I)[B" = some ⟨[.int], some (.array .byte)⟩ := by decide +kernel
theorem d13_1 : decode jdk_52_method_14_code 1 = .ok (.invokestatic 107, 3) := by decide +kernel
theorem d13_4 : decode jdk_52_method_14_code 4 = .ok (.astore_n 3, 1) := by decide +kernel
theorem d13_5 : decode jdk_52_method_14_code 5 = .ok (.iconst 0, 1) := by decide +kernel
theorem d13_6 : decode jdk_52_method_14_code 6 = .ok (.istore 4, 2) := by decide +kernel
theorem d13_8 : decode jdk_52_method_14_code 8 = .ok (.iload 4, 2) := by decide +kernel
theorem d13_10 : decode jdk_52_method_14_code 10 = .ok (.iload_n 2, 1) := by decide +kernel
theorem d13_11 : decode jdk_52_method_14_code 11 = .ok (.if_icmp .ge 21, 3) := by decide +kernel
theorem d13_14 : decode jdk_52_method_14_code 14 = .ok (.aload_n 3, 1) := by decide +kernel
theorem d13_15 : decode jdk_52_method_14_code 15 = .ok (.iload 4, 2) := by decide +kernel
theorem d13_17 : decode jdk_52_method_14_code 17 = .ok (.aload_n 0, 1) := by decide +kernel
theorem d13_18 : decode jdk_52_method_14_code 18 = .ok (.iload_n 1, 1) := by decide +kernel
theorem d13_19 : decode jdk_52_method_14_code 19 = .ok (.caload, 1) := by decide +kernel
theorem pd___BII_V : parseMethodDescriptor "([BII)V" = some ⟨[(.array .byte), .int, .int], none⟩ := by decide +kernel
theorem d13_20 : decode jdk_52_method_14_code 20 = .ok (.invokestatic 111, 3) := by decide +kernel
theorem d13_23 : decode jdk_52_method_14_code 23 = .ok (.iinc 1 1, 3) := by decide +kernel
theorem d13_26 : decode jdk_52_method_14_code 26 = .ok (.iinc 4 1, 3) := by decide +kernel
theorem d13_29 : decode jdk_52_method_14_code 29 = .ok (.goto (-21), 3) := by decide +kernel
theorem d13_32 : decode jdk_52_method_14_code 32 = .ok (.aload_n 3, 1) := by decide +kernel
theorem d13_33 : decode jdk_52_method_14_code 33 = .ok (.areturn, 1) := by decide +kernel
def Q_rmToB6 (Z : State) (p0 : Addr) (zc : Int32) (fm : Value) (ks : ClassId) (c0 : Int32) (c1 : Int32) (c2 : Int32) (c3 : Int32) (c4 : Int32) (c5 : Int32) (h0 : Heap) (n0 : Nat) (v : Option Value) (h : Heap) (L : List Loc) : Prop := (∃ (b : Addr) (k : ClassId), v = some (.ref b) ∧ n0 ≤ b ∧ h0.size ≤ b ∧ Arv Z h b k .byte (12 : Int32) [(.int (own_wl c0)), (.int (own_wh c0)), (.int (own_wl c1)), (.int (own_wh c1)), (.int (own_wl c2)), (.int (own_wh c2)), (.int (own_wl c3)), (.int (own_wh c3)), (.int (own_wl c4)), (.int (own_wh c4)), (.int (own_wl c5)), (.int (own_wh c5))] (.int (0 : Int32))) ∧ Fr n0 L ∧ Keep h0 h []
set_option maxRecDepth 65536 in
set_option maxHeartbeats 40000000 in
theorem rmToB6 (l : Launch) (Z : State) (a0 : Array Value) (hw : ∀ d ∈ tables_1, d.before a0 Z = true) (ws : List Jvm.Cond) (p0 : Addr) (zc : Int32) (fm : Value) (ks : ClassId) (c0 : Int32) (c1 : Int32) (c2 : Int32) (c3 : Int32) (c4 : Int32) (c5 : Int32) (h0 : Heap) (n0 : Nat) (Z0 : n0 ≤ h0.size) (hSt : own_St Z zc fm) (Ol : Old Z n0 h0) (As : Arv Z h0 p0 ks .char (6 : Int32) [(.int c0), (.int c1), (.int c2), (.int c3), (.int c4), (.int c5)] (.int (0 : Int32))) :
    MetFree l (⟨"java/lang/StringUTF16", "toBytes", "([CII)[B"⟩ : MethodName) (head1 (Jvm.Cond.code (⟨"java/lang/StringUTF16", "toBytes", "([CII)[B"⟩ : MethodName) jdk_52_method_14_code 5 (some (.array .byte)) :: ws) ({ frames := 2, cells := 1, slots := 12, locals := 24 } : Room)) (fun a U => a = #[(.ref p0), (.int (0 : Int32)), (.int (6 : Int32))] ∧ Z.Warmed39 U.vm ∧ U.heap = h0) (fun _ _ _ _ _ => True) (fun _ U o U' => ∃ v L, o = .returned v ∧ Q_rmToB6 Z p0 zc fm ks c0 c1 c2 c3 c4 c5 h0 n0 v U'.heap L ∧ FrameEnd U o U' L ({ frames := 2, cells := 1, slots := 12, locals := 24 } : Room).cells ({ frames := 2, cells := 1, slots := 12, locals := 24 } : Room).slots) := by
  refine MetFree.of_bodySF (plainFor_of_name pn_java_lang_StringUTF16) hisR ?_
  intro p e s m args below meth c s₁ Bd hml0 hP hK
  obtain ⟨rfl, hZ, hh⟩ := hP
  have hx := Bd.exec
  have hby := Bd.bytes
  have hml : c.maxLocals = 5 := hml0
  have hown : s.vm.findClass "java/lang/StringUTF16" = some m.cls := findClass_of_methodNamed Bd.named
  have hnm := (name_of_methodNamed Bd.named Bd.method).1
  have hZo := hZ
  have howno := hown
  have X0 : Stand p l e ({ frames := 2, cells := 1, slots := 12, locals := 24 } : Room) s m #[(.ref p0), (.int (0 : Int32)), (.int (6 : Int32))] below meth c s₁ [] 0 0 := Stand.of_body Bd
  have e0 : s₁.heap = h0 := by rw [← hh, Bd.state]; rfl
  have N0 := Fr.nil n0
  have pre0 : ∀ t, Steps p.tables e below (s₁.setTop (mkF m 0 #[.val (.ref p0), .val (.int (0 : Int32)), .val (.int (6 : Int32)), .unset, .unset] [])) t → Steps p.tables e below (s₁.setTop (entryFrame m #[(.ref p0), (.int (0 : Int32)), (.int (6 : Int32))] 5)) t := fun t k => castTop (ef_rmToB6 m p0 ) k
  obtain ⟨_, _, ⟨T1, L1, k1, n1⟩, -, X1, ⟨Lc1, hQ1, l1, y1, z1⟩, st1⟩ := Jvm.LawKit.callS X0 hx (y := (⟨"java/lang/StringUTF16", "newBytesFor", "(I)[B"⟩ : MethodName)) hown (mvT hZ (hw _ (List.mem_of_getElem? (i := 67) rfl))) (mvT hZ (hw _ (List.mem_of_getElem? (i := 68) rfl))) (mvT hZ (hw _ (List.mem_of_getElem? (i := 59) rfl))) (mvT hZ (hw _ (List.mem_of_getElem? (i := 69) rfl))) (by decide) (backOf (W := 0) (rmNBF6 l Z a0 hw []  zc fm  h0 n0 Z0 hSt Ol ) hZ (hw _ (List.mem_of_getElem? (i := 69) rfl)) (hw _ (List.mem_of_getElem? (i := 59) rfl)) (by decide) (by decide)) (g := (mkF m 1 #[.val (.ref p0), .val (.int (0 : Int32)), .val (.int (6 : Int32)), .unset, .unset] [(.int (6 : Int32))])) rfl (by rw [hml]; rfl) (argsL := [(.int (6 : Int32))]) (rest := []) (lenOf pd__I__B rfl) rfl (by show 2 * 0 + _ ≤ _; exact Nat.le_of_eq rfl) (hb hby d13_1) (fun _ _ => ⟨rfl, e0, (by decide : 0 + 1 ≤ _), (by decide : 0 + 12 ≤ _)⟩)
  dsimp only [Pt.U, Pt.locs, Pt.cells, Pt.slots] at X1 l1 y1 z1 st1 hQ1
  subst l1 y1 z1
  obtain ⟨⟨nb1, kb1, rfl, gb1, sb1, Ab1⟩, Nq1, K1⟩ := hQ1
  have N1 := Fr.app N0 Nq1
  have KK1 := (Keep.refl h0 []).trans K1 all0
  have nb_ne : p0 ≠ nb1 := Nat.ne_of_lt (Nat.lt_of_lt_of_le As.lt sb1)
  have f2 := (As.keep K1 nin0)
  obtain ⟨cl3, Ar3, q3, S3, N3, H3, G3⟩ := id f2
  have hin3 : ¬ ((0 : Int32) < 0 ∨ cl3.slots.size ≤ ((0 : Int32)).toNatClampNeg) := inb_of S3 ⟨by decide, by decide⟩
  have hat3 : cl3.slots[((0 : Int32)).toNatClampNeg]? = some (.int c0) := Has.at H3 hin3 rfl
  have f4 := (Nat.le_trans Z0 K1.1)
  have f5 := (Ol.keep K1 all0)
  obtain ⟨_, _, ⟨T6, L6, k6, n6⟩, -, X6, ⟨Lc6, hQ6, l6, y6, z6⟩, st6⟩ := Jvm.LawKit.callS X1 hx (y := (⟨"java/lang/StringUTF16", "putChar", "([BII)V"⟩ : MethodName)) hown (mvT hZ (hw _ (List.mem_of_getElem? (i := 74) rfl))) (mvT hZ (hw _ (List.mem_of_getElem? (i := 75) rfl))) (mvT hZ (hw _ (List.mem_of_getElem? (i := 59) rfl))) (mvT hZ (hw _ (List.mem_of_getElem? (i := 76) rfl))) (by decide) (backOf (W := 0) (rmPut l Z a0 hw [] nb1 (0 : Int32) c0 zc fm kb1 (12 : Int32) [(.int (0 : Int32)), (.int (0 : Int32)), (.int (0 : Int32)), (.int (0 : Int32)), (.int (0 : Int32)), (.int (0 : Int32)), (.int (0 : Int32)), (.int (0 : Int32)), (.int (0 : Int32)), (.int (0 : Int32)), (.int (0 : Int32)), (.int (0 : Int32))] 0 1 T1.heap n0 f4 hSt f5 Ab1 (by decide) (by decide) (by decide) (by decide) (Nat.le_of_ble_eq_true rfl) (Nat.le_of_ble_eq_true rfl) gb1) hZ (hw _ (List.mem_of_getElem? (i := 76) rfl)) (hw _ (List.mem_of_getElem? (i := 59) rfl)) (by decide) (by decide)) (g := (mkF m 20 #[.val (.ref p0), .val (.int (0 : Int32)), .val (.int (6 : Int32)), .val (.ref nb1), .val (.int (0 : Int32))] [(.int c0), (.int (0 : Int32)), (.ref nb1)])) rfl (by rw [hml]; rfl) (argsL := [(.ref nb1), (.int (0 : Int32)), (.int c0)]) (rest := []) (lenOf pd___BII_V rfl) rfl (by show 2 * 0 + _ ≤ _; exact Nat.le_of_eq rfl) (hb hby d13_20) (fun _ _ => ⟨rfl, rfl, (by decide : 1 + 0 ≤ _), (by decide : 12 + 0 ≤ _)⟩)
  dsimp only [Pt.U, Pt.locs, Pt.cells, Pt.slots] at X6 l6 y6 z6 st6 hQ6
  subst l6 y6 z6
  obtain ⟨rfl, Nq6, K6, Vp6⟩ := hQ6
  have N6 := Fr.app N1 Nq6
  have KK6 := KK1.trans K6 (allS (Or.inr sb1) all0)
  have f7 := (f2.keep K6 (ninS nb_ne nin0))
  obtain ⟨cl8, Ar8, q8, S8, N8, H8, G8⟩ := id f7
  have hin8 : ¬ ((1 : Int32) < 0 ∨ cl8.slots.size ≤ ((1 : Int32)).toNatClampNeg) := inb_of S8 ⟨by decide, by decide⟩
  have hat8 : cl8.slots[((1 : Int32)).toNatClampNeg]? = some (.int c1) := Has.at H8 hin8 rfl
  have f9 := (Nat.le_trans f4 K6.1)
  have f10 := (f5.keep K6 (allS gb1 all0))
  obtain ⟨_, _, ⟨T11, L11, k11, n11⟩, -, X11, ⟨Lc11, hQ11, l11, y11, z11⟩, st11⟩ := Jvm.LawKit.callS X6 hx (y := (⟨"java/lang/StringUTF16", "putChar", "([BII)V"⟩ : MethodName)) hown (mvT hZ (hw _ (List.mem_of_getElem? (i := 74) rfl))) (mvT hZ (hw _ (List.mem_of_getElem? (i := 75) rfl))) (mvT hZ (hw _ (List.mem_of_getElem? (i := 59) rfl))) (mvT hZ (hw _ (List.mem_of_getElem? (i := 76) rfl))) (by decide) (backOf (W := 0) (rmPut l Z a0 hw [] nb1 (1 : Int32) c1 zc fm kb1 (12 : Int32) [(.int (own_wl c0)), (.int (own_wh c0)), (.int (0 : Int32)), (.int (0 : Int32)), (.int (0 : Int32)), (.int (0 : Int32)), (.int (0 : Int32)), (.int (0 : Int32)), (.int (0 : Int32)), (.int (0 : Int32)), (.int (0 : Int32)), (.int (0 : Int32))] 2 3 T6.heap n0 f9 hSt f10 Vp6 (by decide) (by decide) (by decide) (by decide) (Nat.le_of_ble_eq_true rfl) (Nat.le_of_ble_eq_true rfl) gb1) hZ (hw _ (List.mem_of_getElem? (i := 76) rfl)) (hw _ (List.mem_of_getElem? (i := 59) rfl)) (by decide) (by decide)) (g := (mkF m 20 #[.val (.ref p0), .val (.int (1 : Int32)), .val (.int (6 : Int32)), .val (.ref nb1), .val (.int (1 : Int32))] [(.int c1), (.int (1 : Int32)), (.ref nb1)])) rfl (by rw [hml]; rfl) (argsL := [(.ref nb1), (.int (1 : Int32)), (.int c1)]) (rest := []) (lenOf pd___BII_V rfl) rfl (by show 2 * 0 + _ ≤ _; exact Nat.le_of_eq rfl) (hb hby d13_20) (fun _ _ => ⟨rfl, rfl, (by decide : 1 + 0 ≤ _), (by decide : 12 + 0 ≤ _)⟩)
  dsimp only [Pt.U, Pt.locs, Pt.cells, Pt.slots] at X11 l11 y11 z11 st11 hQ11
  subst l11 y11 z11
  obtain ⟨rfl, Nq11, K11, Vp11⟩ := hQ11
  have N11 := Fr.app N6 Nq11
  have KK11 := KK6.trans K11 (allS (Or.inr sb1) all0)
  have f12 := (f7.keep K11 (ninS nb_ne nin0))
  obtain ⟨cl13, Ar13, q13, S13, N13, H13, G13⟩ := id f12
  have hin13 : ¬ ((2 : Int32) < 0 ∨ cl13.slots.size ≤ ((2 : Int32)).toNatClampNeg) := inb_of S13 ⟨by decide, by decide⟩
  have hat13 : cl13.slots[((2 : Int32)).toNatClampNeg]? = some (.int c2) := Has.at H13 hin13 rfl
  have f14 := (Nat.le_trans f9 K11.1)
  have f15 := (f10.keep K11 (allS gb1 all0))
  obtain ⟨_, _, ⟨T16, L16, k16, n16⟩, -, X16, ⟨Lc16, hQ16, l16, y16, z16⟩, st16⟩ := Jvm.LawKit.callS X11 hx (y := (⟨"java/lang/StringUTF16", "putChar", "([BII)V"⟩ : MethodName)) hown (mvT hZ (hw _ (List.mem_of_getElem? (i := 74) rfl))) (mvT hZ (hw _ (List.mem_of_getElem? (i := 75) rfl))) (mvT hZ (hw _ (List.mem_of_getElem? (i := 59) rfl))) (mvT hZ (hw _ (List.mem_of_getElem? (i := 76) rfl))) (by decide) (backOf (W := 0) (rmPut l Z a0 hw [] nb1 (2 : Int32) c2 zc fm kb1 (12 : Int32) [(.int (own_wl c0)), (.int (own_wh c0)), (.int (own_wl c1)), (.int (own_wh c1)), (.int (0 : Int32)), (.int (0 : Int32)), (.int (0 : Int32)), (.int (0 : Int32)), (.int (0 : Int32)), (.int (0 : Int32)), (.int (0 : Int32)), (.int (0 : Int32))] 4 5 T11.heap n0 f14 hSt f15 Vp11 (by decide) (by decide) (by decide) (by decide) (Nat.le_of_ble_eq_true rfl) (Nat.le_of_ble_eq_true rfl) gb1) hZ (hw _ (List.mem_of_getElem? (i := 76) rfl)) (hw _ (List.mem_of_getElem? (i := 59) rfl)) (by decide) (by decide)) (g := (mkF m 20 #[.val (.ref p0), .val (.int (2 : Int32)), .val (.int (6 : Int32)), .val (.ref nb1), .val (.int (2 : Int32))] [(.int c2), (.int (2 : Int32)), (.ref nb1)])) rfl (by rw [hml]; rfl) (argsL := [(.ref nb1), (.int (2 : Int32)), (.int c2)]) (rest := []) (lenOf pd___BII_V rfl) rfl (by show 2 * 0 + _ ≤ _; exact Nat.le_of_eq rfl) (hb hby d13_20) (fun _ _ => ⟨rfl, rfl, (by decide : 1 + 0 ≤ _), (by decide : 12 + 0 ≤ _)⟩)
  dsimp only [Pt.U, Pt.locs, Pt.cells, Pt.slots] at X16 l16 y16 z16 st16 hQ16
  subst l16 y16 z16
  obtain ⟨rfl, Nq16, K16, Vp16⟩ := hQ16
  have N16 := Fr.app N11 Nq16
  have KK16 := KK11.trans K16 (allS (Or.inr sb1) all0)
  have f17 := (f12.keep K16 (ninS nb_ne nin0))
  obtain ⟨cl18, Ar18, q18, S18, N18, H18, G18⟩ := id f17
  have hin18 : ¬ ((3 : Int32) < 0 ∨ cl18.slots.size ≤ ((3 : Int32)).toNatClampNeg) := inb_of S18 ⟨by decide, by decide⟩
  have hat18 : cl18.slots[((3 : Int32)).toNatClampNeg]? = some (.int c3) := Has.at H18 hin18 rfl
  have f19 := (Nat.le_trans f14 K16.1)
  have f20 := (f15.keep K16 (allS gb1 all0))
  obtain ⟨_, _, ⟨T21, L21, k21, n21⟩, -, X21, ⟨Lc21, hQ21, l21, y21, z21⟩, st21⟩ := Jvm.LawKit.callS X16 hx (y := (⟨"java/lang/StringUTF16", "putChar", "([BII)V"⟩ : MethodName)) hown (mvT hZ (hw _ (List.mem_of_getElem? (i := 74) rfl))) (mvT hZ (hw _ (List.mem_of_getElem? (i := 75) rfl))) (mvT hZ (hw _ (List.mem_of_getElem? (i := 59) rfl))) (mvT hZ (hw _ (List.mem_of_getElem? (i := 76) rfl))) (by decide) (backOf (W := 0) (rmPut l Z a0 hw [] nb1 (3 : Int32) c3 zc fm kb1 (12 : Int32) [(.int (own_wl c0)), (.int (own_wh c0)), (.int (own_wl c1)), (.int (own_wh c1)), (.int (own_wl c2)), (.int (own_wh c2)), (.int (0 : Int32)), (.int (0 : Int32)), (.int (0 : Int32)), (.int (0 : Int32)), (.int (0 : Int32)), (.int (0 : Int32))] 6 7 T16.heap n0 f19 hSt f20 Vp16 (by decide) (by decide) (by decide) (by decide) (Nat.le_of_ble_eq_true rfl) (Nat.le_of_ble_eq_true rfl) gb1) hZ (hw _ (List.mem_of_getElem? (i := 76) rfl)) (hw _ (List.mem_of_getElem? (i := 59) rfl)) (by decide) (by decide)) (g := (mkF m 20 #[.val (.ref p0), .val (.int (3 : Int32)), .val (.int (6 : Int32)), .val (.ref nb1), .val (.int (3 : Int32))] [(.int c3), (.int (3 : Int32)), (.ref nb1)])) rfl (by rw [hml]; rfl) (argsL := [(.ref nb1), (.int (3 : Int32)), (.int c3)]) (rest := []) (lenOf pd___BII_V rfl) rfl (by show 2 * 0 + _ ≤ _; exact Nat.le_of_eq rfl) (hb hby d13_20) (fun _ _ => ⟨rfl, rfl, (by decide : 1 + 0 ≤ _), (by decide : 12 + 0 ≤ _)⟩)
  dsimp only [Pt.U, Pt.locs, Pt.cells, Pt.slots] at X21 l21 y21 z21 st21 hQ21
  subst l21 y21 z21
  obtain ⟨rfl, Nq21, K21, Vp21⟩ := hQ21
  have N21 := Fr.app N16 Nq21
  have KK21 := KK16.trans K21 (allS (Or.inr sb1) all0)
  have f22 := (f17.keep K21 (ninS nb_ne nin0))
  obtain ⟨cl23, Ar23, q23, S23, N23, H23, G23⟩ := id f22
  have hin23 : ¬ ((4 : Int32) < 0 ∨ cl23.slots.size ≤ ((4 : Int32)).toNatClampNeg) := inb_of S23 ⟨by decide, by decide⟩
  have hat23 : cl23.slots[((4 : Int32)).toNatClampNeg]? = some (.int c4) := Has.at H23 hin23 rfl
  have f24 := (Nat.le_trans f19 K21.1)
  have f25 := (f20.keep K21 (allS gb1 all0))
  obtain ⟨_, _, ⟨T26, L26, k26, n26⟩, -, X26, ⟨Lc26, hQ26, l26, y26, z26⟩, st26⟩ := Jvm.LawKit.callS X21 hx (y := (⟨"java/lang/StringUTF16", "putChar", "([BII)V"⟩ : MethodName)) hown (mvT hZ (hw _ (List.mem_of_getElem? (i := 74) rfl))) (mvT hZ (hw _ (List.mem_of_getElem? (i := 75) rfl))) (mvT hZ (hw _ (List.mem_of_getElem? (i := 59) rfl))) (mvT hZ (hw _ (List.mem_of_getElem? (i := 76) rfl))) (by decide) (backOf (W := 0) (rmPut l Z a0 hw [] nb1 (4 : Int32) c4 zc fm kb1 (12 : Int32) [(.int (own_wl c0)), (.int (own_wh c0)), (.int (own_wl c1)), (.int (own_wh c1)), (.int (own_wl c2)), (.int (own_wh c2)), (.int (own_wl c3)), (.int (own_wh c3)), (.int (0 : Int32)), (.int (0 : Int32)), (.int (0 : Int32)), (.int (0 : Int32))] 8 9 T21.heap n0 f24 hSt f25 Vp21 (by decide) (by decide) (by decide) (by decide) (Nat.le_of_ble_eq_true rfl) (Nat.le_of_ble_eq_true rfl) gb1) hZ (hw _ (List.mem_of_getElem? (i := 76) rfl)) (hw _ (List.mem_of_getElem? (i := 59) rfl)) (by decide) (by decide)) (g := (mkF m 20 #[.val (.ref p0), .val (.int (4 : Int32)), .val (.int (6 : Int32)), .val (.ref nb1), .val (.int (4 : Int32))] [(.int c4), (.int (4 : Int32)), (.ref nb1)])) rfl (by rw [hml]; rfl) (argsL := [(.ref nb1), (.int (4 : Int32)), (.int c4)]) (rest := []) (lenOf pd___BII_V rfl) rfl (by show 2 * 0 + _ ≤ _; exact Nat.le_of_eq rfl) (hb hby d13_20) (fun _ _ => ⟨rfl, rfl, (by decide : 1 + 0 ≤ _), (by decide : 12 + 0 ≤ _)⟩)
  dsimp only [Pt.U, Pt.locs, Pt.cells, Pt.slots] at X26 l26 y26 z26 st26 hQ26
  subst l26 y26 z26
  obtain ⟨rfl, Nq26, K26, Vp26⟩ := hQ26
  have N26 := Fr.app N21 Nq26
  have KK26 := KK21.trans K26 (allS (Or.inr sb1) all0)
  have f27 := (f22.keep K26 (ninS nb_ne nin0))
  obtain ⟨cl28, Ar28, q28, S28, N28, H28, G28⟩ := id f27
  have hin28 : ¬ ((5 : Int32) < 0 ∨ cl28.slots.size ≤ ((5 : Int32)).toNatClampNeg) := inb_of S28 ⟨by decide, by decide⟩
  have hat28 : cl28.slots[((5 : Int32)).toNatClampNeg]? = some (.int c5) := Has.at H28 hin28 rfl
  have f29 := (Nat.le_trans f24 K26.1)
  have f30 := (f25.keep K26 (allS gb1 all0))
  obtain ⟨_, _, ⟨T31, L31, k31, n31⟩, -, X31, ⟨Lc31, hQ31, l31, y31, z31⟩, st31⟩ := Jvm.LawKit.callS X26 hx (y := (⟨"java/lang/StringUTF16", "putChar", "([BII)V"⟩ : MethodName)) hown (mvT hZ (hw _ (List.mem_of_getElem? (i := 74) rfl))) (mvT hZ (hw _ (List.mem_of_getElem? (i := 75) rfl))) (mvT hZ (hw _ (List.mem_of_getElem? (i := 59) rfl))) (mvT hZ (hw _ (List.mem_of_getElem? (i := 76) rfl))) (by decide) (backOf (W := 0) (rmPut l Z a0 hw [] nb1 (5 : Int32) c5 zc fm kb1 (12 : Int32) [(.int (own_wl c0)), (.int (own_wh c0)), (.int (own_wl c1)), (.int (own_wh c1)), (.int (own_wl c2)), (.int (own_wh c2)), (.int (own_wl c3)), (.int (own_wh c3)), (.int (own_wl c4)), (.int (own_wh c4)), (.int (0 : Int32)), (.int (0 : Int32))] 10 11 T26.heap n0 f29 hSt f30 Vp26 (by decide) (by decide) (by decide) (by decide) (Nat.le_of_ble_eq_true rfl) (Nat.le_of_ble_eq_true rfl) gb1) hZ (hw _ (List.mem_of_getElem? (i := 76) rfl)) (hw _ (List.mem_of_getElem? (i := 59) rfl)) (by decide) (by decide)) (g := (mkF m 20 #[.val (.ref p0), .val (.int (5 : Int32)), .val (.int (6 : Int32)), .val (.ref nb1), .val (.int (5 : Int32))] [(.int c5), (.int (5 : Int32)), (.ref nb1)])) rfl (by rw [hml]; rfl) (argsL := [(.ref nb1), (.int (5 : Int32)), (.int c5)]) (rest := []) (lenOf pd___BII_V rfl) rfl (by show 2 * 0 + _ ≤ _; exact Nat.le_of_eq rfl) (hb hby d13_20) (fun _ _ => ⟨rfl, rfl, (by decide : 1 + 0 ≤ _), (by decide : 12 + 0 ≤ _)⟩)
  dsimp only [Pt.U, Pt.locs, Pt.cells, Pt.slots] at X31 l31 y31 z31 st31 hQ31
  subst l31 y31 z31
  obtain ⟨rfl, Nq31, K31, Vp31⟩ := hQ31
  have N31 := Fr.app N26 Nq31
  have KK31 := KK26.trans K31 (allS (Or.inr sb1) all0)
  obtain ⟨fs, hr, hrun, hended, hW, hsame⟩ := X31.leave (v := some (.ref nb1)) (fun h => by rw [Bd.returns] at h; cases h)
  refine ⟨_, _, pre0 _ ?_, hrun, hended, _, _, rfl, ?_, ⟨_, rfl⟩, hW, hsame.mono (by decide) (by decide)⟩
  · show Steps p.tables e below (s₁.setTop (mkF m 0 #[.val (.ref p0), .val (.int (0 : Int32)), .val (.int (6 : Int32)), .unset, .unset] [])) _
    refine XS.iloadN X0.here hx rfl (hb hby d13_0) rfl  ?_
    show Steps p.tables e below (s₁.setTop (mkF m 1 #[.val (.ref p0), .val (.int (0 : Int32)), .val (.int (6 : Int32)), .unset, .unset] [(.int (6 : Int32))])) _
    refine st1 _ ?_
    show Steps p.tables e below (T1.setTop (mkF m 4 #[.val (.ref p0), .val (.int (0 : Int32)), .val (.int (6 : Int32)), .unset, .unset] [(.ref nb1)])) _
    refine XS.astoreN X1.here hx rfl (hb hby d13_4) rfl rfl (l' := #[.val (.ref p0), .val (.int (0 : Int32)), .val (.int (6 : Int32)), .val (.ref nb1), .unset]) rfl ?_
    show Steps p.tables e below (T1.setTop (mkF m 5 #[.val (.ref p0), .val (.int (0 : Int32)), .val (.int (6 : Int32)), .val (.ref nb1), .unset] [])) _
    refine XS.iconst X1.here hx rfl (hb hby d13_5) ?_
    show Steps p.tables e below (T1.setTop (mkF m 6 #[.val (.ref p0), .val (.int (0 : Int32)), .val (.int (6 : Int32)), .val (.ref nb1), .unset] [(.int (0 : Int32))])) _
    refine XS.istore X1.here hx rfl (hb hby d13_6) rfl (l' := #[.val (.ref p0), .val (.int (0 : Int32)), .val (.int (6 : Int32)), .val (.ref nb1), .val (.int (0 : Int32))]) rfl ?_
    show Steps p.tables e below (T1.setTop (mkF m 8 #[.val (.ref p0), .val (.int (0 : Int32)), .val (.int (6 : Int32)), .val (.ref nb1), .val (.int (0 : Int32))] [])) _
    refine XS.iload X1.here hx rfl (hb hby d13_8) rfl  ?_
    show Steps p.tables e below (T1.setTop (mkF m 10 #[.val (.ref p0), .val (.int (0 : Int32)), .val (.int (6 : Int32)), .val (.ref nb1), .val (.int (0 : Int32))] [(.int (0 : Int32))])) _
    refine XS.iloadN X1.here hx rfl (hb hby d13_10) rfl  ?_
    show Steps p.tables e below (T1.setTop (mkF m 11 #[.val (.ref p0), .val (.int (0 : Int32)), .val (.int (6 : Int32)), .val (.ref nb1), .val (.int (0 : Int32))] [(.int (6 : Int32)), (.int (0 : Int32))])) _
    refine XS.icmpNo X1.here hx rfl (hb hby d13_11) rfl (tlt (by decide : (0 : Int32) < (6 : Int32))).2.1 ?_
    show Steps p.tables e below (T1.setTop (mkF m 14 #[.val (.ref p0), .val (.int (0 : Int32)), .val (.int (6 : Int32)), .val (.ref nb1), .val (.int (0 : Int32))] [])) _
    refine XS.aloadN X1.here hx rfl (hb hby d13_14) rfl rfl ?_
    show Steps p.tables e below (T1.setTop (mkF m 15 #[.val (.ref p0), .val (.int (0 : Int32)), .val (.int (6 : Int32)), .val (.ref nb1), .val (.int (0 : Int32))] [(.ref nb1)])) _
    refine XS.iload X1.here hx rfl (hb hby d13_15) rfl  ?_
    show Steps p.tables e below (T1.setTop (mkF m 17 #[.val (.ref p0), .val (.int (0 : Int32)), .val (.int (6 : Int32)), .val (.ref nb1), .val (.int (0 : Int32))] [(.int (0 : Int32)), (.ref nb1)])) _
    refine XS.aloadN X1.here hx rfl (hb hby d13_17) rfl rfl ?_
    show Steps p.tables e below (T1.setTop (mkF m 18 #[.val (.ref p0), .val (.int (0 : Int32)), .val (.int (6 : Int32)), .val (.ref nb1), .val (.int (0 : Int32))] [(.ref p0), (.int (0 : Int32)), (.ref nb1)])) _
    refine XS.iloadN X1.here hx rfl (hb hby d13_18) rfl  ?_
    show Steps p.tables e below (T1.setTop (mkF m 19 #[.val (.ref p0), .val (.int (0 : Int32)), .val (.int (6 : Int32)), .val (.ref nb1), .val (.int (0 : Int32))] [(.int (0 : Int32)), (.ref p0), (.int (0 : Int32)), (.ref nb1)])) _
    refine X1.caload hx (j := (0 : Int32)) (v := (.int c0)) Ar3.1 (State.isArrayOf_alike hZ.alike Ar3.2.1) Ar3.2.2 hin3 hat3 (g := (mkF m 19 #[.val (.ref p0), .val (.int (0 : Int32)), .val (.int (6 : Int32)), .val (.ref nb1), .val (.int (0 : Int32))] [(.int (0 : Int32)), (.ref p0), (.int (0 : Int32)), (.ref nb1)])) rfl rfl (hb hby d13_19) _ ?_
    show Steps p.tables e below (T1.setTop (mkF m 20 #[.val (.ref p0), .val (.int (0 : Int32)), .val (.int (6 : Int32)), .val (.ref nb1), .val (.int (0 : Int32))] [(.int c0), (.int (0 : Int32)), (.ref nb1)])) _
    refine st6 _ ?_
    show Steps p.tables e below (T6.setTop (mkF m 23 #[.val (.ref p0), .val (.int (0 : Int32)), .val (.int (6 : Int32)), .val (.ref nb1), .val (.int (0 : Int32))] [])) _
    refine XS.iinc X6.here hx rfl (hb hby d13_23) rfl (l' := #[.val (.ref p0), .val (.int (1 : Int32)), .val (.int (6 : Int32)), .val (.ref nb1), .val (.int (0 : Int32))]) rfl ?_
    show Steps p.tables e below (T6.setTop (mkF m 26 #[.val (.ref p0), .val (.int (1 : Int32)), .val (.int (6 : Int32)), .val (.ref nb1), .val (.int (0 : Int32))] [])) _
    refine XS.iinc X6.here hx rfl (hb hby d13_26) rfl (l' := #[.val (.ref p0), .val (.int (1 : Int32)), .val (.int (6 : Int32)), .val (.ref nb1), .val (.int (1 : Int32))]) rfl ?_
    show Steps p.tables e below (T6.setTop (mkF m 29 #[.val (.ref p0), .val (.int (1 : Int32)), .val (.int (6 : Int32)), .val (.ref nb1), .val (.int (1 : Int32))] [])) _
    refine XS.goto X6.here hx rfl (pc0 := 29) (pc' := 8) rfl (hb hby d13_29) (by decide) (by decide) ?_
    show Steps p.tables e below (T6.setTop (mkF m 8 #[.val (.ref p0), .val (.int (1 : Int32)), .val (.int (6 : Int32)), .val (.ref nb1), .val (.int (1 : Int32))] [])) _
    refine XS.iload X6.here hx rfl (hb hby d13_8) rfl  ?_
    show Steps p.tables e below (T6.setTop (mkF m 10 #[.val (.ref p0), .val (.int (1 : Int32)), .val (.int (6 : Int32)), .val (.ref nb1), .val (.int (1 : Int32))] [(.int (1 : Int32))])) _
    refine XS.iloadN X6.here hx rfl (hb hby d13_10) rfl  ?_
    show Steps p.tables e below (T6.setTop (mkF m 11 #[.val (.ref p0), .val (.int (1 : Int32)), .val (.int (6 : Int32)), .val (.ref nb1), .val (.int (1 : Int32))] [(.int (6 : Int32)), (.int (1 : Int32))])) _
    refine XS.icmpNo X6.here hx rfl (hb hby d13_11) rfl (tlt (by decide : (1 : Int32) < (6 : Int32))).2.1 ?_
    show Steps p.tables e below (T6.setTop (mkF m 14 #[.val (.ref p0), .val (.int (1 : Int32)), .val (.int (6 : Int32)), .val (.ref nb1), .val (.int (1 : Int32))] [])) _
    refine XS.aloadN X6.here hx rfl (hb hby d13_14) rfl rfl ?_
    show Steps p.tables e below (T6.setTop (mkF m 15 #[.val (.ref p0), .val (.int (1 : Int32)), .val (.int (6 : Int32)), .val (.ref nb1), .val (.int (1 : Int32))] [(.ref nb1)])) _
    refine XS.iload X6.here hx rfl (hb hby d13_15) rfl  ?_
    show Steps p.tables e below (T6.setTop (mkF m 17 #[.val (.ref p0), .val (.int (1 : Int32)), .val (.int (6 : Int32)), .val (.ref nb1), .val (.int (1 : Int32))] [(.int (1 : Int32)), (.ref nb1)])) _
    refine XS.aloadN X6.here hx rfl (hb hby d13_17) rfl rfl ?_
    show Steps p.tables e below (T6.setTop (mkF m 18 #[.val (.ref p0), .val (.int (1 : Int32)), .val (.int (6 : Int32)), .val (.ref nb1), .val (.int (1 : Int32))] [(.ref p0), (.int (1 : Int32)), (.ref nb1)])) _
    refine XS.iloadN X6.here hx rfl (hb hby d13_18) rfl  ?_
    show Steps p.tables e below (T6.setTop (mkF m 19 #[.val (.ref p0), .val (.int (1 : Int32)), .val (.int (6 : Int32)), .val (.ref nb1), .val (.int (1 : Int32))] [(.int (1 : Int32)), (.ref p0), (.int (1 : Int32)), (.ref nb1)])) _
    refine X6.caload hx (j := (1 : Int32)) (v := (.int c1)) Ar8.1 (State.isArrayOf_alike hZ.alike Ar8.2.1) Ar8.2.2 hin8 hat8 (g := (mkF m 19 #[.val (.ref p0), .val (.int (1 : Int32)), .val (.int (6 : Int32)), .val (.ref nb1), .val (.int (1 : Int32))] [(.int (1 : Int32)), (.ref p0), (.int (1 : Int32)), (.ref nb1)])) rfl rfl (hb hby d13_19) _ ?_
    show Steps p.tables e below (T6.setTop (mkF m 20 #[.val (.ref p0), .val (.int (1 : Int32)), .val (.int (6 : Int32)), .val (.ref nb1), .val (.int (1 : Int32))] [(.int c1), (.int (1 : Int32)), (.ref nb1)])) _
    refine st11 _ ?_
    show Steps p.tables e below (T11.setTop (mkF m 23 #[.val (.ref p0), .val (.int (1 : Int32)), .val (.int (6 : Int32)), .val (.ref nb1), .val (.int (1 : Int32))] [])) _
    refine XS.iinc X11.here hx rfl (hb hby d13_23) rfl (l' := #[.val (.ref p0), .val (.int (2 : Int32)), .val (.int (6 : Int32)), .val (.ref nb1), .val (.int (1 : Int32))]) rfl ?_
    show Steps p.tables e below (T11.setTop (mkF m 26 #[.val (.ref p0), .val (.int (2 : Int32)), .val (.int (6 : Int32)), .val (.ref nb1), .val (.int (1 : Int32))] [])) _
    refine XS.iinc X11.here hx rfl (hb hby d13_26) rfl (l' := #[.val (.ref p0), .val (.int (2 : Int32)), .val (.int (6 : Int32)), .val (.ref nb1), .val (.int (2 : Int32))]) rfl ?_
    show Steps p.tables e below (T11.setTop (mkF m 29 #[.val (.ref p0), .val (.int (2 : Int32)), .val (.int (6 : Int32)), .val (.ref nb1), .val (.int (2 : Int32))] [])) _
    refine XS.goto X11.here hx rfl (pc0 := 29) (pc' := 8) rfl (hb hby d13_29) (by decide) (by decide) ?_
    show Steps p.tables e below (T11.setTop (mkF m 8 #[.val (.ref p0), .val (.int (2 : Int32)), .val (.int (6 : Int32)), .val (.ref nb1), .val (.int (2 : Int32))] [])) _
    refine XS.iload X11.here hx rfl (hb hby d13_8) rfl  ?_
    show Steps p.tables e below (T11.setTop (mkF m 10 #[.val (.ref p0), .val (.int (2 : Int32)), .val (.int (6 : Int32)), .val (.ref nb1), .val (.int (2 : Int32))] [(.int (2 : Int32))])) _
    refine XS.iloadN X11.here hx rfl (hb hby d13_10) rfl  ?_
    show Steps p.tables e below (T11.setTop (mkF m 11 #[.val (.ref p0), .val (.int (2 : Int32)), .val (.int (6 : Int32)), .val (.ref nb1), .val (.int (2 : Int32))] [(.int (6 : Int32)), (.int (2 : Int32))])) _
    refine XS.icmpNo X11.here hx rfl (hb hby d13_11) rfl (tlt (by decide : (2 : Int32) < (6 : Int32))).2.1 ?_
    show Steps p.tables e below (T11.setTop (mkF m 14 #[.val (.ref p0), .val (.int (2 : Int32)), .val (.int (6 : Int32)), .val (.ref nb1), .val (.int (2 : Int32))] [])) _
    refine XS.aloadN X11.here hx rfl (hb hby d13_14) rfl rfl ?_
    show Steps p.tables e below (T11.setTop (mkF m 15 #[.val (.ref p0), .val (.int (2 : Int32)), .val (.int (6 : Int32)), .val (.ref nb1), .val (.int (2 : Int32))] [(.ref nb1)])) _
    refine XS.iload X11.here hx rfl (hb hby d13_15) rfl  ?_
    show Steps p.tables e below (T11.setTop (mkF m 17 #[.val (.ref p0), .val (.int (2 : Int32)), .val (.int (6 : Int32)), .val (.ref nb1), .val (.int (2 : Int32))] [(.int (2 : Int32)), (.ref nb1)])) _
    refine XS.aloadN X11.here hx rfl (hb hby d13_17) rfl rfl ?_
    show Steps p.tables e below (T11.setTop (mkF m 18 #[.val (.ref p0), .val (.int (2 : Int32)), .val (.int (6 : Int32)), .val (.ref nb1), .val (.int (2 : Int32))] [(.ref p0), (.int (2 : Int32)), (.ref nb1)])) _
    refine XS.iloadN X11.here hx rfl (hb hby d13_18) rfl  ?_
    show Steps p.tables e below (T11.setTop (mkF m 19 #[.val (.ref p0), .val (.int (2 : Int32)), .val (.int (6 : Int32)), .val (.ref nb1), .val (.int (2 : Int32))] [(.int (2 : Int32)), (.ref p0), (.int (2 : Int32)), (.ref nb1)])) _
    refine X11.caload hx (j := (2 : Int32)) (v := (.int c2)) Ar13.1 (State.isArrayOf_alike hZ.alike Ar13.2.1) Ar13.2.2 hin13 hat13 (g := (mkF m 19 #[.val (.ref p0), .val (.int (2 : Int32)), .val (.int (6 : Int32)), .val (.ref nb1), .val (.int (2 : Int32))] [(.int (2 : Int32)), (.ref p0), (.int (2 : Int32)), (.ref nb1)])) rfl rfl (hb hby d13_19) _ ?_
    show Steps p.tables e below (T11.setTop (mkF m 20 #[.val (.ref p0), .val (.int (2 : Int32)), .val (.int (6 : Int32)), .val (.ref nb1), .val (.int (2 : Int32))] [(.int c2), (.int (2 : Int32)), (.ref nb1)])) _
    refine st16 _ ?_
    show Steps p.tables e below (T16.setTop (mkF m 23 #[.val (.ref p0), .val (.int (2 : Int32)), .val (.int (6 : Int32)), .val (.ref nb1), .val (.int (2 : Int32))] [])) _
    refine XS.iinc X16.here hx rfl (hb hby d13_23) rfl (l' := #[.val (.ref p0), .val (.int (3 : Int32)), .val (.int (6 : Int32)), .val (.ref nb1), .val (.int (2 : Int32))]) rfl ?_
    show Steps p.tables e below (T16.setTop (mkF m 26 #[.val (.ref p0), .val (.int (3 : Int32)), .val (.int (6 : Int32)), .val (.ref nb1), .val (.int (2 : Int32))] [])) _
    refine XS.iinc X16.here hx rfl (hb hby d13_26) rfl (l' := #[.val (.ref p0), .val (.int (3 : Int32)), .val (.int (6 : Int32)), .val (.ref nb1), .val (.int (3 : Int32))]) rfl ?_
    show Steps p.tables e below (T16.setTop (mkF m 29 #[.val (.ref p0), .val (.int (3 : Int32)), .val (.int (6 : Int32)), .val (.ref nb1), .val (.int (3 : Int32))] [])) _
    refine XS.goto X16.here hx rfl (pc0 := 29) (pc' := 8) rfl (hb hby d13_29) (by decide) (by decide) ?_
    show Steps p.tables e below (T16.setTop (mkF m 8 #[.val (.ref p0), .val (.int (3 : Int32)), .val (.int (6 : Int32)), .val (.ref nb1), .val (.int (3 : Int32))] [])) _
    refine XS.iload X16.here hx rfl (hb hby d13_8) rfl  ?_
    show Steps p.tables e below (T16.setTop (mkF m 10 #[.val (.ref p0), .val (.int (3 : Int32)), .val (.int (6 : Int32)), .val (.ref nb1), .val (.int (3 : Int32))] [(.int (3 : Int32))])) _
    refine XS.iloadN X16.here hx rfl (hb hby d13_10) rfl  ?_
    show Steps p.tables e below (T16.setTop (mkF m 11 #[.val (.ref p0), .val (.int (3 : Int32)), .val (.int (6 : Int32)), .val (.ref nb1), .val (.int (3 : Int32))] [(.int (6 : Int32)), (.int (3 : Int32))])) _
    refine XS.icmpNo X16.here hx rfl (hb hby d13_11) rfl (tlt (by decide : (3 : Int32) < (6 : Int32))).2.1 ?_
    show Steps p.tables e below (T16.setTop (mkF m 14 #[.val (.ref p0), .val (.int (3 : Int32)), .val (.int (6 : Int32)), .val (.ref nb1), .val (.int (3 : Int32))] [])) _
    refine XS.aloadN X16.here hx rfl (hb hby d13_14) rfl rfl ?_
    show Steps p.tables e below (T16.setTop (mkF m 15 #[.val (.ref p0), .val (.int (3 : Int32)), .val (.int (6 : Int32)), .val (.ref nb1), .val (.int (3 : Int32))] [(.ref nb1)])) _
    refine XS.iload X16.here hx rfl (hb hby d13_15) rfl  ?_
    show Steps p.tables e below (T16.setTop (mkF m 17 #[.val (.ref p0), .val (.int (3 : Int32)), .val (.int (6 : Int32)), .val (.ref nb1), .val (.int (3 : Int32))] [(.int (3 : Int32)), (.ref nb1)])) _
    refine XS.aloadN X16.here hx rfl (hb hby d13_17) rfl rfl ?_
    show Steps p.tables e below (T16.setTop (mkF m 18 #[.val (.ref p0), .val (.int (3 : Int32)), .val (.int (6 : Int32)), .val (.ref nb1), .val (.int (3 : Int32))] [(.ref p0), (.int (3 : Int32)), (.ref nb1)])) _
    refine XS.iloadN X16.here hx rfl (hb hby d13_18) rfl  ?_
    show Steps p.tables e below (T16.setTop (mkF m 19 #[.val (.ref p0), .val (.int (3 : Int32)), .val (.int (6 : Int32)), .val (.ref nb1), .val (.int (3 : Int32))] [(.int (3 : Int32)), (.ref p0), (.int (3 : Int32)), (.ref nb1)])) _
    refine X16.caload hx (j := (3 : Int32)) (v := (.int c3)) Ar18.1 (State.isArrayOf_alike hZ.alike Ar18.2.1) Ar18.2.2 hin18 hat18 (g := (mkF m 19 #[.val (.ref p0), .val (.int (3 : Int32)), .val (.int (6 : Int32)), .val (.ref nb1), .val (.int (3 : Int32))] [(.int (3 : Int32)), (.ref p0), (.int (3 : Int32)), (.ref nb1)])) rfl rfl (hb hby d13_19) _ ?_
    show Steps p.tables e below (T16.setTop (mkF m 20 #[.val (.ref p0), .val (.int (3 : Int32)), .val (.int (6 : Int32)), .val (.ref nb1), .val (.int (3 : Int32))] [(.int c3), (.int (3 : Int32)), (.ref nb1)])) _
    refine st21 _ ?_
    show Steps p.tables e below (T21.setTop (mkF m 23 #[.val (.ref p0), .val (.int (3 : Int32)), .val (.int (6 : Int32)), .val (.ref nb1), .val (.int (3 : Int32))] [])) _
    refine XS.iinc X21.here hx rfl (hb hby d13_23) rfl (l' := #[.val (.ref p0), .val (.int (4 : Int32)), .val (.int (6 : Int32)), .val (.ref nb1), .val (.int (3 : Int32))]) rfl ?_
    show Steps p.tables e below (T21.setTop (mkF m 26 #[.val (.ref p0), .val (.int (4 : Int32)), .val (.int (6 : Int32)), .val (.ref nb1), .val (.int (3 : Int32))] [])) _
    refine XS.iinc X21.here hx rfl (hb hby d13_26) rfl (l' := #[.val (.ref p0), .val (.int (4 : Int32)), .val (.int (6 : Int32)), .val (.ref nb1), .val (.int (4 : Int32))]) rfl ?_
    show Steps p.tables e below (T21.setTop (mkF m 29 #[.val (.ref p0), .val (.int (4 : Int32)), .val (.int (6 : Int32)), .val (.ref nb1), .val (.int (4 : Int32))] [])) _
    refine XS.goto X21.here hx rfl (pc0 := 29) (pc' := 8) rfl (hb hby d13_29) (by decide) (by decide) ?_
    show Steps p.tables e below (T21.setTop (mkF m 8 #[.val (.ref p0), .val (.int (4 : Int32)), .val (.int (6 : Int32)), .val (.ref nb1), .val (.int (4 : Int32))] [])) _
    refine XS.iload X21.here hx rfl (hb hby d13_8) rfl  ?_
    show Steps p.tables e below (T21.setTop (mkF m 10 #[.val (.ref p0), .val (.int (4 : Int32)), .val (.int (6 : Int32)), .val (.ref nb1), .val (.int (4 : Int32))] [(.int (4 : Int32))])) _
    refine XS.iloadN X21.here hx rfl (hb hby d13_10) rfl  ?_
    show Steps p.tables e below (T21.setTop (mkF m 11 #[.val (.ref p0), .val (.int (4 : Int32)), .val (.int (6 : Int32)), .val (.ref nb1), .val (.int (4 : Int32))] [(.int (6 : Int32)), (.int (4 : Int32))])) _
    refine XS.icmpNo X21.here hx rfl (hb hby d13_11) rfl (tlt (by decide : (4 : Int32) < (6 : Int32))).2.1 ?_
    show Steps p.tables e below (T21.setTop (mkF m 14 #[.val (.ref p0), .val (.int (4 : Int32)), .val (.int (6 : Int32)), .val (.ref nb1), .val (.int (4 : Int32))] [])) _
    refine XS.aloadN X21.here hx rfl (hb hby d13_14) rfl rfl ?_
    show Steps p.tables e below (T21.setTop (mkF m 15 #[.val (.ref p0), .val (.int (4 : Int32)), .val (.int (6 : Int32)), .val (.ref nb1), .val (.int (4 : Int32))] [(.ref nb1)])) _
    refine XS.iload X21.here hx rfl (hb hby d13_15) rfl  ?_
    show Steps p.tables e below (T21.setTop (mkF m 17 #[.val (.ref p0), .val (.int (4 : Int32)), .val (.int (6 : Int32)), .val (.ref nb1), .val (.int (4 : Int32))] [(.int (4 : Int32)), (.ref nb1)])) _
    refine XS.aloadN X21.here hx rfl (hb hby d13_17) rfl rfl ?_
    show Steps p.tables e below (T21.setTop (mkF m 18 #[.val (.ref p0), .val (.int (4 : Int32)), .val (.int (6 : Int32)), .val (.ref nb1), .val (.int (4 : Int32))] [(.ref p0), (.int (4 : Int32)), (.ref nb1)])) _
    refine XS.iloadN X21.here hx rfl (hb hby d13_18) rfl  ?_
    show Steps p.tables e below (T21.setTop (mkF m 19 #[.val (.ref p0), .val (.int (4 : Int32)), .val (.int (6 : Int32)), .val (.ref nb1), .val (.int (4 : Int32))] [(.int (4 : Int32)), (.ref p0), (.int (4 : Int32)), (.ref nb1)])) _
    refine X21.caload hx (j := (4 : Int32)) (v := (.int c4)) Ar23.1 (State.isArrayOf_alike hZ.alike Ar23.2.1) Ar23.2.2 hin23 hat23 (g := (mkF m 19 #[.val (.ref p0), .val (.int (4 : Int32)), .val (.int (6 : Int32)), .val (.ref nb1), .val (.int (4 : Int32))] [(.int (4 : Int32)), (.ref p0), (.int (4 : Int32)), (.ref nb1)])) rfl rfl (hb hby d13_19) _ ?_
    show Steps p.tables e below (T21.setTop (mkF m 20 #[.val (.ref p0), .val (.int (4 : Int32)), .val (.int (6 : Int32)), .val (.ref nb1), .val (.int (4 : Int32))] [(.int c4), (.int (4 : Int32)), (.ref nb1)])) _
    refine st26 _ ?_
    show Steps p.tables e below (T26.setTop (mkF m 23 #[.val (.ref p0), .val (.int (4 : Int32)), .val (.int (6 : Int32)), .val (.ref nb1), .val (.int (4 : Int32))] [])) _
    refine XS.iinc X26.here hx rfl (hb hby d13_23) rfl (l' := #[.val (.ref p0), .val (.int (5 : Int32)), .val (.int (6 : Int32)), .val (.ref nb1), .val (.int (4 : Int32))]) rfl ?_
    show Steps p.tables e below (T26.setTop (mkF m 26 #[.val (.ref p0), .val (.int (5 : Int32)), .val (.int (6 : Int32)), .val (.ref nb1), .val (.int (4 : Int32))] [])) _
    refine XS.iinc X26.here hx rfl (hb hby d13_26) rfl (l' := #[.val (.ref p0), .val (.int (5 : Int32)), .val (.int (6 : Int32)), .val (.ref nb1), .val (.int (5 : Int32))]) rfl ?_
    show Steps p.tables e below (T26.setTop (mkF m 29 #[.val (.ref p0), .val (.int (5 : Int32)), .val (.int (6 : Int32)), .val (.ref nb1), .val (.int (5 : Int32))] [])) _
    refine XS.goto X26.here hx rfl (pc0 := 29) (pc' := 8) rfl (hb hby d13_29) (by decide) (by decide) ?_
    show Steps p.tables e below (T26.setTop (mkF m 8 #[.val (.ref p0), .val (.int (5 : Int32)), .val (.int (6 : Int32)), .val (.ref nb1), .val (.int (5 : Int32))] [])) _
    refine XS.iload X26.here hx rfl (hb hby d13_8) rfl  ?_
    show Steps p.tables e below (T26.setTop (mkF m 10 #[.val (.ref p0), .val (.int (5 : Int32)), .val (.int (6 : Int32)), .val (.ref nb1), .val (.int (5 : Int32))] [(.int (5 : Int32))])) _
    refine XS.iloadN X26.here hx rfl (hb hby d13_10) rfl  ?_
    show Steps p.tables e below (T26.setTop (mkF m 11 #[.val (.ref p0), .val (.int (5 : Int32)), .val (.int (6 : Int32)), .val (.ref nb1), .val (.int (5 : Int32))] [(.int (6 : Int32)), (.int (5 : Int32))])) _
    refine XS.icmpNo X26.here hx rfl (hb hby d13_11) rfl (tlt (by decide : (5 : Int32) < (6 : Int32))).2.1 ?_
    show Steps p.tables e below (T26.setTop (mkF m 14 #[.val (.ref p0), .val (.int (5 : Int32)), .val (.int (6 : Int32)), .val (.ref nb1), .val (.int (5 : Int32))] [])) _
    refine XS.aloadN X26.here hx rfl (hb hby d13_14) rfl rfl ?_
    show Steps p.tables e below (T26.setTop (mkF m 15 #[.val (.ref p0), .val (.int (5 : Int32)), .val (.int (6 : Int32)), .val (.ref nb1), .val (.int (5 : Int32))] [(.ref nb1)])) _
    refine XS.iload X26.here hx rfl (hb hby d13_15) rfl  ?_
    show Steps p.tables e below (T26.setTop (mkF m 17 #[.val (.ref p0), .val (.int (5 : Int32)), .val (.int (6 : Int32)), .val (.ref nb1), .val (.int (5 : Int32))] [(.int (5 : Int32)), (.ref nb1)])) _
    refine XS.aloadN X26.here hx rfl (hb hby d13_17) rfl rfl ?_
    show Steps p.tables e below (T26.setTop (mkF m 18 #[.val (.ref p0), .val (.int (5 : Int32)), .val (.int (6 : Int32)), .val (.ref nb1), .val (.int (5 : Int32))] [(.ref p0), (.int (5 : Int32)), (.ref nb1)])) _
    refine XS.iloadN X26.here hx rfl (hb hby d13_18) rfl  ?_
    show Steps p.tables e below (T26.setTop (mkF m 19 #[.val (.ref p0), .val (.int (5 : Int32)), .val (.int (6 : Int32)), .val (.ref nb1), .val (.int (5 : Int32))] [(.int (5 : Int32)), (.ref p0), (.int (5 : Int32)), (.ref nb1)])) _
    refine X26.caload hx (j := (5 : Int32)) (v := (.int c5)) Ar28.1 (State.isArrayOf_alike hZ.alike Ar28.2.1) Ar28.2.2 hin28 hat28 (g := (mkF m 19 #[.val (.ref p0), .val (.int (5 : Int32)), .val (.int (6 : Int32)), .val (.ref nb1), .val (.int (5 : Int32))] [(.int (5 : Int32)), (.ref p0), (.int (5 : Int32)), (.ref nb1)])) rfl rfl (hb hby d13_19) _ ?_
    show Steps p.tables e below (T26.setTop (mkF m 20 #[.val (.ref p0), .val (.int (5 : Int32)), .val (.int (6 : Int32)), .val (.ref nb1), .val (.int (5 : Int32))] [(.int c5), (.int (5 : Int32)), (.ref nb1)])) _
    refine st31 _ ?_
    show Steps p.tables e below (T31.setTop (mkF m 23 #[.val (.ref p0), .val (.int (5 : Int32)), .val (.int (6 : Int32)), .val (.ref nb1), .val (.int (5 : Int32))] [])) _
    refine XS.iinc X31.here hx rfl (hb hby d13_23) rfl (l' := #[.val (.ref p0), .val (.int (6 : Int32)), .val (.int (6 : Int32)), .val (.ref nb1), .val (.int (5 : Int32))]) rfl ?_
    show Steps p.tables e below (T31.setTop (mkF m 26 #[.val (.ref p0), .val (.int (6 : Int32)), .val (.int (6 : Int32)), .val (.ref nb1), .val (.int (5 : Int32))] [])) _
    refine XS.iinc X31.here hx rfl (hb hby d13_26) rfl (l' := #[.val (.ref p0), .val (.int (6 : Int32)), .val (.int (6 : Int32)), .val (.ref nb1), .val (.int (6 : Int32))]) rfl ?_
    show Steps p.tables e below (T31.setTop (mkF m 29 #[.val (.ref p0), .val (.int (6 : Int32)), .val (.int (6 : Int32)), .val (.ref nb1), .val (.int (6 : Int32))] [])) _
    refine XS.goto X31.here hx rfl (pc0 := 29) (pc' := 8) rfl (hb hby d13_29) (by decide) (by decide) ?_
    show Steps p.tables e below (T31.setTop (mkF m 8 #[.val (.ref p0), .val (.int (6 : Int32)), .val (.int (6 : Int32)), .val (.ref nb1), .val (.int (6 : Int32))] [])) _
    refine XS.iload X31.here hx rfl (hb hby d13_8) rfl  ?_
    show Steps p.tables e below (T31.setTop (mkF m 10 #[.val (.ref p0), .val (.int (6 : Int32)), .val (.int (6 : Int32)), .val (.ref nb1), .val (.int (6 : Int32))] [(.int (6 : Int32))])) _
    refine XS.iloadN X31.here hx rfl (hb hby d13_10) rfl  ?_
    show Steps p.tables e below (T31.setTop (mkF m 11 #[.val (.ref p0), .val (.int (6 : Int32)), .val (.int (6 : Int32)), .val (.ref nb1), .val (.int (6 : Int32))] [(.int (6 : Int32)), (.int (6 : Int32))])) _
    refine XS.icmpYes X31.here hx rfl (pc0 := 11) (pc' := 32) rfl (hb hby d13_11) rfl (flt (by decide : ¬ ((6 : Int32) < (6 : Int32)))).2.1 (by decide) (by decide) ?_
    show Steps p.tables e below (T31.setTop (mkF m 32 #[.val (.ref p0), .val (.int (6 : Int32)), .val (.int (6 : Int32)), .val (.ref nb1), .val (.int (6 : Int32))] [])) _
    refine XS.aloadN X31.here hx rfl (hb hby d13_32) rfl rfl ?_
    show Steps p.tables e below (T31.setTop (mkF m 33 #[.val (.ref p0), .val (.int (6 : Int32)), .val (.int (6 : Int32)), .val (.ref nb1), .val (.int (6 : Int32))] [(.ref nb1)])) _
    jvm_step X31.here [X31.here.top, hx, (hb hby d13_33), X31.method', Bd.returns, Value.isRef, FieldType.isReference]
    first | (intro acts; rw [hr _ acts rfl rfl rfl]) | rw [hr _ _ rfl rfl rfl]
    exact Steps.refl _
  · show Q_rmToB6 Z p0 zc fm ks c0 c1 c2 c3 c4 c5 h0 n0 _ T31.heap _
    exact ⟨⟨_, _, rfl, gb1, sb1, Vp31⟩, N31, KK31⟩
theorem ef_rmComp6 (m : MethodId) (p0 : Addr) : entryFrame m #[(.ref p0), (.int (0 : Int32)), (.int (6 : Int32))] 6 = mkF m 0 #[.val (.ref p0), .val (.int (0 : Int32)), .val (.int (6 : Int32)), .unset, .unset, .unset] [] := by first | (simp [entryFrame, mkF, argsToLocals, Value.category]; done) | rfl
theorem d11_0 : decode jdk_52_method_16_code 0 = .ok (.iload_n 2, 1) := by decide +kernel
theorem d11_1 : decode jdk_52_method_16_code 1 = .ok (.newarray .byte, 2) := by decide +kernel
theorem d11_3 : decode jdk_52_method_16_code 3 = .ok (.astore_n 3, 1) := by decide +kernel
theorem d11_4 : decode jdk_52_method_16_code 4 = .ok (.aload_n 0, 1) := by decide +kernel
theorem d11_5 : decode jdk_52_method_16_code 5 = .ok (.iload_n 1, 1) := by decide +kernel
theorem d11_6 : decode jdk_52_method_16_code 6 = .ok (.aload_n 3, 1) := by decide +kernel
theorem d11_7 : decode jdk_52_method_16_code 7 = .ok (.iconst 0, 1) := by decide +kernel
theorem d11_8 : decode jdk_52_method_16_code 8 = .ok (.iload_n 2, 1) := by decide +kernel
theorem pd___CI_BII_I : parseMethodDescriptor "([CI[BII)I" = some ⟨[(.array .char), .int, (.array .byte), .int, .int], some .int⟩ := by decide +kernel
theorem d11_9 : decode jdk_52_method_16_code 9 = .ok (.invokestatic 115, 3) := by decide +kernel
theorem d11_12 : decode jdk_52_method_16_code 12 = .ok (.istore 4, 2) := by decide +kernel
theorem d11_14 : decode jdk_52_method_16_code 14 = .ok (.iload 4, 2) := by decide +kernel
theorem d11_16 : decode jdk_52_method_16_code 16 = .ok (.iload_n 2, 1) := by decide +kernel
theorem d11_17 : decode jdk_52_method_16_code 17 = .ok (.if_icmp .eq 40, 3) := by decide +kernel
theorem d11_57 : decode jdk_52_method_16_code 57 = .ok (.aload_n 3, 1) := by decide +kernel
theorem d11_58 : decode jdk_52_method_16_code 58 = .ok (.areturn, 1) := by decide +kernel
theorem d11_20 : decode jdk_52_method_16_code 20 = .ok (.aload_n 0, 1) := by decide +kernel
theorem d11_21 : decode jdk_52_method_16_code 21 = .ok (.iload_n 1, 1) := by decide +kernel
theorem d11_22 : decode jdk_52_method_16_code 22 = .ok (.iload_n 2, 1) := by decide +kernel
theorem pd___CII__B : parseMethodDescriptor "([CII)[B" = some ⟨[(.array .char), .int, .int], some (.array .byte)⟩ := by decide +kernel
theorem d11_23 : decode jdk_52_method_16_code 23 = .ok (.invokestatic 119, 3) := by decide +kernel
theorem d11_26 : decode jdk_52_method_16_code 26 = .ok (.astore 5, 2) := by decide +kernel
theorem d11_28 : decode jdk_52_method_16_code 28 = .ok (.aload 5, 2) := by decide +kernel
theorem d11_30 : decode jdk_52_method_16_code 30 = .ok (.iload 4, 2) := by decide +kernel
theorem d11_32 : decode jdk_52_method_16_code 32 = .ok (.invokestatic 71, 3) := by decide +kernel
theorem d11_35 : decode jdk_52_method_16_code 35 = .ok (.sipush 255, 3) := by decide +kernel
theorem d11_38 : decode jdk_52_method_16_code 38 = .ok (.if_icmp .gt 16, 3) := by decide +kernel
theorem d11_54 : decode jdk_52_method_16_code 54 = .ok (.aload 5, 2) := by decide +kernel
theorem d11_56 : decode jdk_52_method_16_code 56 = .ok (.areturn, 1) := by decide +kernel
def Q_rmComp6 (Z : State) (p0 : Addr) (zc : Int32) (fm : Value) (ks : ClassId) (c0 : Int32) (c1 : Int32) (c2 : Int32) (c3 : Int32) (c4 : Int32) (c5 : Int32) (h0 : Heap) (n0 : Nat) (v : Option Value) (h : Heap) (L : List Loc) : Prop := (∃ (b : Addr) (k : ClassId), v = some (.ref b) ∧ n0 ≤ b ∧ h0.size ≤ b ∧ (((¬ (255 : Int32) < c0 ∧ ¬ (255 : Int32) < c1 ∧ ¬ (255 : Int32) < c2 ∧ ¬ (255 : Int32) < c3 ∧ ¬ (255 : Int32) < c4 ∧ ¬ (255 : Int32) < c5) ∧ Arv Z h b k .byte (6 : Int32) [(.int (own_b c0)), (.int (own_b c1)), (.int (own_b c2)), (.int (own_b c3)), (.int (own_b c4)), (.int (own_b c5))] (.int (0 : Int32))) ∨ Arv Z h b k .byte (12 : Int32) [(.int (own_wl c0)), (.int (own_wh c0)), (.int (own_wl c1)), (.int (own_wh c1)), (.int (own_wl c2)), (.int (own_wh c2)), (.int (own_wl c3)), (.int (own_wh c3)), (.int (own_wl c4)), (.int (own_wh c4)), (.int (own_wl c5)), (.int (own_wh c5))] (.int (0 : Int32)))) ∧ Fr n0 L ∧ Keep h0 h []
set_option maxRecDepth 65536 in
set_option maxHeartbeats 40000000 in
theorem rmComp6 (l : Launch) (Z : State) (a0 : Array Value) (hw : ∀ d ∈ tables_1, d.before a0 Z = true) (ws : List Jvm.Cond) (p0 : Addr) (zc : Int32) (fm : Value) (ks : ClassId) (c0 : Int32) (c1 : Int32) (c2 : Int32) (c3 : Int32) (c4 : Int32) (c5 : Int32) (h0 : Heap) (n0 : Nat) (Z0 : n0 ≤ h0.size) (hSt : own_St Z zc fm) (Ol : Old Z n0 h0) (As : Arv Z h0 p0 ks .char (6 : Int32) [(.int c0), (.int c1), (.int c2), (.int c3), (.int c4), (.int c5)] (.int (0 : Int32))) (hch : ∀ c ∈ [c0, c1, c2, c3, c4, c5], ¬ c < (0 : Int32) ∧ ¬ (65535 : Int32) < c) :
    MetFree l (⟨"java/lang/StringUTF16", "compress", "([CII)[B"⟩ : MethodName) (head1 (Jvm.Cond.code (⟨"java/lang/StringUTF16", "compress", "([CII)[B"⟩ : MethodName) jdk_52_method_16_code 6 (some (.array .byte)) :: ws) ({ frames := 3, cells := 2, slots := 18, locals := 40 } : Room)) (fun a U => a = #[(.ref p0), (.int (0 : Int32)), (.int (6 : Int32))] ∧ Z.Warmed39 U.vm ∧ U.heap = h0) (fun _ _ _ _ _ => True) (fun _ U o U' => ∃ v L, o = .returned v ∧ Q_rmComp6 Z p0 zc fm ks c0 c1 c2 c3 c4 c5 h0 n0 v U'.heap L ∧ FrameEnd U o U' L ({ frames := 3, cells := 2, slots := 18, locals := 40 } : Room).cells ({ frames := 3, cells := 2, slots := 18, locals := 40 } : Room).slots) := by
  refine MetFree.of_bodySF (plainFor_of_name pn_java_lang_StringUTF16) hisR ?_
  intro p e s m args below meth c s₁ Bd hml0 hP hK
  obtain ⟨rfl, hZ, hh⟩ := hP
  have hx := Bd.exec
  have hby := Bd.bytes
  have hml : c.maxLocals = 6 := hml0
  have hown : s.vm.findClass "java/lang/StringUTF16" = some m.cls := findClass_of_methodNamed Bd.named
  have hnm := (name_of_methodNamed Bd.named Bd.method).1
  have hZo := hZ
  have howno := hown
  have X0 : Stand p l e ({ frames := 3, cells := 2, slots := 18, locals := 40 } : Room) s m #[(.ref p0), (.int (0 : Int32)), (.int (6 : Int32))] below meth c s₁ [] 0 0 := Stand.of_body Bd
  have e0 : s₁.heap = h0 := by rw [← hh, Bd.state]; rfl
  have N0 := Fr.nil n0
  have pre0 : ∀ t, Steps p.tables e below (s₁.setTop (mkF m 0 #[.val (.ref p0), .val (.int (0 : Int32)), .val (.int (6 : Int32)), .unset, .unset, .unset] [])) t → Steps p.tables e below (s₁.setTop (entryFrame m #[(.ref p0), (.int (0 : Int32)), (.int (6 : Int32))] 6)) t := fun t k => castTop (ef_rmComp6 m p0 ) k
  obtain ⟨T1, h1, k1, X1, e1, E1, A1, st1⟩ := newP X0 hx hZ (hw _ (List.mem_of_getElem? (i := 3) rfl)) e0 (g := (mkF m 1 #[.val (.ref p0), .val (.int (0 : Int32)), .val (.int (6 : Int32)), .unset, .unset, .unset] [(.int (6 : Int32))])) rfl (hb hby d11_1) rfl (by decide) (cap := 6) (by decide) (by decide) (by decide) (by decide)
  obtain ⟨b1, g1⟩ : ∃ z, z = h0.size := ⟨_, rfl⟩
  rw [← g1] at A1 st1
  have ne1_p0 : p0 ≠ b1 := Nat.ne_of_lt (Nat.lt_of_lt_of_le As.lt (Nat.le_of_eq g1.symm))
  have ge1 : n0 ≤ b1 := Nat.le_trans Z0 (Nat.le_of_eq g1.symm)
  have sz1 : h0.size ≤ b1 := Nat.le_trans (Keep.refl h0 []).1 (Nat.le_of_eq g1.symm)
  have K1 := (Keep.refl h0 []).ext E1
  have V1 : Arv Z h1 b1 k1 .byte (6 : Int32) [(.int (0 : Int32)), (.int (0 : Int32)), (.int (0 : Int32)), (.int (0 : Int32)), (.int (0 : Int32)), (.int (0 : Int32))] (.int (0 : Int32)) := (Arv.new A1 (by decide)).pad (pad_rep [] (.int (0 : Int32)) 6)
  have f2 := (As.ext E1)
  have f3 := (Nat.le_trans Z0 E1.1)
  have f4 := (Ol.ext E1)
  obtain ⟨_, _, ⟨T5, L5, k5, n5⟩, -, X5, ⟨Lc5, hQ5, l5, y5, z5⟩, st5⟩ := Jvm.LawKit.callS X1 hx (y := (⟨"java/lang/StringUTF16", "compress", "([CI[BII)I"⟩ : MethodName)) hown (mvT hZ (hw _ (List.mem_of_getElem? (i := 61) rfl))) (mvT hZ (hw _ (List.mem_of_getElem? (i := 62) rfl))) (mvT hZ (hw _ (List.mem_of_getElem? (i := 59) rfl))) (mvT hZ (hw _ (List.mem_of_getElem? (i := 63) rfl))) (by decide) (backOf (W := 0) (rmCmp6 l Z a0 hw [] p0 b1 zc fm ks k1 c0 c1 c2 c3 c4 c5 h1 n0 f3 hSt f4 f2 V1 ne1_p0 ge1) hZ (hw _ (List.mem_of_getElem? (i := 63) rfl)) (hw _ (List.mem_of_getElem? (i := 59) rfl)) (by decide) (by decide)) (g := (mkF m 9 #[.val (.ref p0), .val (.int (0 : Int32)), .val (.int (6 : Int32)), .val (.ref b1), .unset, .unset] [(.int (6 : Int32)), (.int (0 : Int32)), (.ref b1), (.int (0 : Int32)), (.ref p0)])) rfl (by rw [hml]; rfl) (argsL := [(.ref p0), (.int (0 : Int32)), (.ref b1), (.int (0 : Int32)), (.int (6 : Int32))]) (rest := []) (lenOf pd___CI_BII_I rfl) rfl (by show 2 * 0 + _ ≤ _; exact Nat.le_of_eq rfl) (hb hby d11_9) (fun _ _ => ⟨rfl, e1, (by decide : 1 + 0 ≤ _), (by decide : 6 + 0 ≤ _)⟩)
  dsimp only [Pt.U, Pt.locs, Pt.cells, Pt.slots] at X5 l5 y5 z5 st5 hQ5
  subst l5 y5 z5
  obtain ⟨⟨rc, rfl, hD⟩, Nq5, K5⟩ := hQ5
  have N5 := Fr.app N0 Nq5
  have KK5 := K1.trans K5 (allS (Or.inr sz1) all0)
  have pre6 : ∀ t, Steps p.tables e below (T5.setTop (mkF m 12 #[.val (.ref p0), .val (.int (0 : Int32)), .val (.int (6 : Int32)), .val (.ref b1), .unset, .unset] [(.int rc)])) t → Steps p.tables e below (s₁.setTop (entryFrame m #[(.ref p0), (.int (0 : Int32)), (.int (6 : Int32))] 6)) t := fun t kt => pre0 t (by
    show Steps p.tables e below (s₁.setTop (mkF m 0 #[.val (.ref p0), .val (.int (0 : Int32)), .val (.int (6 : Int32)), .unset, .unset, .unset] [])) _
    refine XS.iloadN X0.here hx rfl (hb hby d11_0) rfl  ?_
    show Steps p.tables e below (s₁.setTop (mkF m 1 #[.val (.ref p0), .val (.int (0 : Int32)), .val (.int (6 : Int32)), .unset, .unset, .unset] [(.int (6 : Int32))])) _
    refine st1 _ ?_
    show Steps p.tables e below (T1.setTop (mkF m 3 #[.val (.ref p0), .val (.int (0 : Int32)), .val (.int (6 : Int32)), .unset, .unset, .unset] [(.ref b1)])) _
    refine XS.astoreN X1.here hx rfl (hb hby d11_3) rfl rfl (l' := #[.val (.ref p0), .val (.int (0 : Int32)), .val (.int (6 : Int32)), .val (.ref b1), .unset, .unset]) rfl ?_
    show Steps p.tables e below (T1.setTop (mkF m 4 #[.val (.ref p0), .val (.int (0 : Int32)), .val (.int (6 : Int32)), .val (.ref b1), .unset, .unset] [])) _
    refine XS.aloadN X1.here hx rfl (hb hby d11_4) rfl rfl ?_
    show Steps p.tables e below (T1.setTop (mkF m 5 #[.val (.ref p0), .val (.int (0 : Int32)), .val (.int (6 : Int32)), .val (.ref b1), .unset, .unset] [(.ref p0)])) _
    refine XS.iloadN X1.here hx rfl (hb hby d11_5) rfl  ?_
    show Steps p.tables e below (T1.setTop (mkF m 6 #[.val (.ref p0), .val (.int (0 : Int32)), .val (.int (6 : Int32)), .val (.ref b1), .unset, .unset] [(.int (0 : Int32)), (.ref p0)])) _
    refine XS.aloadN X1.here hx rfl (hb hby d11_6) rfl rfl ?_
    show Steps p.tables e below (T1.setTop (mkF m 7 #[.val (.ref p0), .val (.int (0 : Int32)), .val (.int (6 : Int32)), .val (.ref b1), .unset, .unset] [(.ref b1), (.int (0 : Int32)), (.ref p0)])) _
    refine XS.iconst X1.here hx rfl (hb hby d11_7) ?_
    show Steps p.tables e below (T1.setTop (mkF m 8 #[.val (.ref p0), .val (.int (0 : Int32)), .val (.int (6 : Int32)), .val (.ref b1), .unset, .unset] [(.int (0 : Int32)), (.ref b1), (.int (0 : Int32)), (.ref p0)])) _
    refine XS.iloadN X1.here hx rfl (hb hby d11_8) rfl  ?_
    show Steps p.tables e below (T1.setTop (mkF m 9 #[.val (.ref p0), .val (.int (0 : Int32)), .val (.int (6 : Int32)), .val (.ref b1), .unset, .unset] [(.int (6 : Int32)), (.int (0 : Int32)), (.ref b1), (.int (0 : Int32)), (.ref p0)])) _
    refine st5 _ ?_
    exact kt)
  rcases hD with ⟨rfl, hle, Ad⟩ | ⟨j, rfl, hj, hgt⟩
  · obtain ⟨fs, hr, hrun, hended, hW, hsame⟩ := X5.leave (v := some (.ref b1)) (fun h => by rw [Bd.returns] at h; cases h)
    refine ⟨_, _, pre6 _ ?_, hrun, hended, _, _, rfl, ?_, ⟨_, rfl⟩, hW, hsame.mono (by decide) (by decide)⟩
    · show Steps p.tables e below (T5.setTop (mkF m 12 #[.val (.ref p0), .val (.int (0 : Int32)), .val (.int (6 : Int32)), .val (.ref b1), .unset, .unset] [(.int (6 : Int32))])) _
      refine XS.istore X5.here hx rfl (hb hby d11_12) rfl (l' := #[.val (.ref p0), .val (.int (0 : Int32)), .val (.int (6 : Int32)), .val (.ref b1), .val (.int (6 : Int32)), .unset]) rfl ?_
      show Steps p.tables e below (T5.setTop (mkF m 14 #[.val (.ref p0), .val (.int (0 : Int32)), .val (.int (6 : Int32)), .val (.ref b1), .val (.int (6 : Int32)), .unset] [])) _
      refine XS.iload X5.here hx rfl (hb hby d11_14) rfl  ?_
      show Steps p.tables e below (T5.setTop (mkF m 16 #[.val (.ref p0), .val (.int (0 : Int32)), .val (.int (6 : Int32)), .val (.ref b1), .val (.int (6 : Int32)), .unset] [(.int (6 : Int32))])) _
      refine XS.iloadN X5.here hx rfl (hb hby d11_16) rfl  ?_
      show Steps p.tables e below (T5.setTop (mkF m 17 #[.val (.ref p0), .val (.int (0 : Int32)), .val (.int (6 : Int32)), .val (.ref b1), .val (.int (6 : Int32)), .unset] [(.int (6 : Int32)), (.int (6 : Int32))])) _
      refine XS.icmpYes X5.here hx rfl (pc0 := 17) (pc' := 57) rfl (hb hby d11_17) rfl (teq (by decide : (6 : Int32) = (6 : Int32))).1 (by decide) (by decide) ?_
      show Steps p.tables e below (T5.setTop (mkF m 57 #[.val (.ref p0), .val (.int (0 : Int32)), .val (.int (6 : Int32)), .val (.ref b1), .val (.int (6 : Int32)), .unset] [])) _
      refine XS.aloadN X5.here hx rfl (hb hby d11_57) rfl rfl ?_
      show Steps p.tables e below (T5.setTop (mkF m 58 #[.val (.ref p0), .val (.int (0 : Int32)), .val (.int (6 : Int32)), .val (.ref b1), .val (.int (6 : Int32)), .unset] [(.ref b1)])) _
      jvm_step X5.here [X5.here.top, hx, (hb hby d11_58), X5.method', Bd.returns, Value.isRef, FieldType.isReference]
      first | (intro acts; rw [hr _ acts rfl rfl rfl]) | rw [hr _ _ rfl rfl rfl]
      exact Steps.refl _
    · show Q_rmComp6 Z p0 zc fm ks c0 c1 c2 c3 c4 c5 h0 n0 _ T5.heap _
      exact ⟨⟨_, _, rfl, ge1, sz1, Or.inl (⟨hle, Ad⟩)⟩, N5, KK5⟩
  · have f7 := (f2.keep K5 (ninS ne1_p0 nin0))
    have f8 := (Nat.le_trans f3 K5.1)
    have f9 := (f4.keep K5 (allS ge1 all0))
    obtain ⟨_, _, ⟨T10, L10, k10, n10⟩, -, X10, ⟨Lc10, hQ10, l10, y10, z10⟩, st10⟩ := Jvm.LawKit.callS X5 hx (y := (⟨"java/lang/StringUTF16", "toBytes", "([CII)[B"⟩ : MethodName)) hown (mvT hZ (hw _ (List.mem_of_getElem? (i := 64) rfl))) (mvT hZ (hw _ (List.mem_of_getElem? (i := 65) rfl))) (mvT hZ (hw _ (List.mem_of_getElem? (i := 59) rfl))) (mvT hZ (hw _ (List.mem_of_getElem? (i := 66) rfl))) (by decide) (backOf (W := 0) (rmToB6 l Z a0 hw [] p0 zc fm ks c0 c1 c2 c3 c4 c5 T5.heap n0 f8 hSt f9 f7) hZ (hw _ (List.mem_of_getElem? (i := 66) rfl)) (hw _ (List.mem_of_getElem? (i := 59) rfl)) (by decide) (by decide)) (g := (mkF m 23 #[.val (.ref p0), .val (.int (0 : Int32)), .val (.int (6 : Int32)), .val (.ref b1), .val (.int (Int32.ofNat j)), .unset] [(.int (6 : Int32)), (.int (0 : Int32)), (.ref p0)])) rfl (by rw [hml]; rfl) (argsL := [(.ref p0), (.int (0 : Int32)), (.int (6 : Int32))]) (rest := []) (lenOf pd___CII__B rfl) rfl (by show 2 * 0 + _ ≤ _; exact Nat.le_of_eq rfl) (hb hby d11_23) (fun _ _ => ⟨rfl, rfl, (by decide : 1 + 1 ≤ _), (by decide : 6 + 12 ≤ _)⟩)
    dsimp only [Pt.U, Pt.locs, Pt.cells, Pt.slots] at X10 l10 y10 z10 st10 hQ10
    subst l10 y10 z10
    obtain ⟨⟨tb10, kb10, rfl, gb10, sb10, Ab10⟩, Nq10, K10⟩ := hQ10
    have N10 := Fr.app N5 Nq10
    have KK10 := KK5.trans K10 all0
    have sz10 : h0.size ≤ tb10 := Nat.le_trans KK5.1 sb10
    have hin := own_jin (i := Int32.ofNat j) rfl (by omega)
    have hcm := hch _ (own_mem (cs := [c0, c1, c2, c3, c4, c5]) hj)
    have hsh := own_shl (n := 6) hin.1 (by rw [hin.2]; exact hj) (by decide)
    have f11 := (Nat.le_trans f8 K10.1)
    have f12 := (f9.keep K10 all0)
    obtain ⟨_, _, ⟨T13, L13, k13, n13⟩, -, X13, ⟨Lc13, hQ13, l13, y13, z13⟩, st13⟩ := Jvm.LawKit.callS X10 hx (y := (⟨"java/lang/StringUTF16", "getChar", "([BI)C"⟩ : MethodName)) hown (mvT hZ (hw _ (List.mem_of_getElem? (i := 80) rfl))) (mvT hZ (hw _ (List.mem_of_getElem? (i := 81) rfl))) (mvT hZ (hw _ (List.mem_of_getElem? (i := 59) rfl))) (mvT hZ (hw _ (List.mem_of_getElem? (i := 82) rfl))) (by decide) (backOf (W := 0) (rmGet l Z a0 hw [] tb10 (Int32.ofNat j) zc fm kb10 (12 : Int32) [(.int (own_wl c0)), (.int (own_wh c0)), (.int (own_wl c1)), (.int (own_wh c1)), (.int (own_wl c2)), (.int (own_wh c2)), (.int (own_wl c3)), (.int (own_wh c3)), (.int (own_wl c4)), (.int (own_wh c4)), (.int (own_wl c5)), (.int (own_wh c5))] (own_wl ([c0, c1, c2, c3, c4, c5].getD j 0)) (own_wh ([c0, c1, c2, c3, c4, c5].getD j 0)) ([c0, c1, c2, c3, c4, c5].getD j 0) T10.heap n0 f11 hSt f12 Ab10 hsh.2.2.1 hsh.2.2.2 (by rw [hsh.1, hin.2]; exact (own_getw [c0, c1, c2, c3, c4, c5] j hj).1) (by rw [hsh.2.1, hin.2]; exact (own_getw [c0, c1, c2, c3, c4, c5] j hj).2) (own_rec16 hcm.1 hcm.2).symm) hZ (hw _ (List.mem_of_getElem? (i := 82) rfl)) (hw _ (List.mem_of_getElem? (i := 59) rfl)) (by decide) (by decide)) (g := (mkF m 32 #[.val (.ref p0), .val (.int (0 : Int32)), .val (.int (6 : Int32)), .val (.ref b1), .val (.int (Int32.ofNat j)), .val (.ref tb10)] [(.int (Int32.ofNat j)), (.ref tb10)])) rfl (by rw [hml]; rfl) (argsL := [(.ref tb10), (.int (Int32.ofNat j))]) (rest := []) (lenOf pd___BI_C rfl) rfl (by show 2 * 0 + _ ≤ _; exact Nat.le_of_eq rfl) (hb hby d11_32) (fun _ _ => ⟨rfl, rfl, (by decide : 2 + 0 ≤ _), (by decide : 18 + 0 ≤ _)⟩)
    dsimp only [Pt.U, Pt.locs, Pt.cells, Pt.slots] at X13 l13 y13 z13 st13 hQ13
    subst l13 y13 z13
    obtain ⟨rfl, Nq13, e13⟩ := hQ13
    have N13 := Fr.app N10 Nq13
    obtain ⟨fs, hr, hrun, hended, hW, hsame⟩ := X13.leave (v := some (.ref tb10)) (fun h => by rw [Bd.returns] at h; cases h)
    refine ⟨_, _, pre6 _ ?_, hrun, hended, _, _, rfl, ?_, ⟨_, rfl⟩, hW, hsame.mono (by decide) (by decide)⟩
    · show Steps p.tables e below (T5.setTop (mkF m 12 #[.val (.ref p0), .val (.int (0 : Int32)), .val (.int (6 : Int32)), .val (.ref b1), .unset, .unset] [(.int (Int32.ofNat j))])) _
      refine XS.istore X5.here hx rfl (hb hby d11_12) rfl (l' := #[.val (.ref p0), .val (.int (0 : Int32)), .val (.int (6 : Int32)), .val (.ref b1), .val (.int (Int32.ofNat j)), .unset]) rfl ?_
      show Steps p.tables e below (T5.setTop (mkF m 14 #[.val (.ref p0), .val (.int (0 : Int32)), .val (.int (6 : Int32)), .val (.ref b1), .val (.int (Int32.ofNat j)), .unset] [])) _
      refine XS.iload X5.here hx rfl (hb hby d11_14) rfl  ?_
      show Steps p.tables e below (T5.setTop (mkF m 16 #[.val (.ref p0), .val (.int (0 : Int32)), .val (.int (6 : Int32)), .val (.ref b1), .val (.int (Int32.ofNat j)), .unset] [(.int (Int32.ofNat j))])) _
      refine XS.iloadN X5.here hx rfl (hb hby d11_16) rfl  ?_
      show Steps p.tables e below (T5.setTop (mkF m 17 #[.val (.ref p0), .val (.int (0 : Int32)), .val (.int (6 : Int32)), .val (.ref b1), .val (.int (Int32.ofNat j)), .unset] [(.int (6 : Int32)), (.int (Int32.ofNat j))])) _
      refine XS.icmpNo X5.here hx rfl (hb hby d11_17) rfl (feq (own_ofne hj (by decide))).1 ?_
      show Steps p.tables e below (T5.setTop (mkF m 20 #[.val (.ref p0), .val (.int (0 : Int32)), .val (.int (6 : Int32)), .val (.ref b1), .val (.int (Int32.ofNat j)), .unset] [])) _
      refine XS.aloadN X5.here hx rfl (hb hby d11_20) rfl rfl ?_
      show Steps p.tables e below (T5.setTop (mkF m 21 #[.val (.ref p0), .val (.int (0 : Int32)), .val (.int (6 : Int32)), .val (.ref b1), .val (.int (Int32.ofNat j)), .unset] [(.ref p0)])) _
      refine XS.iloadN X5.here hx rfl (hb hby d11_21) rfl  ?_
      show Steps p.tables e below (T5.setTop (mkF m 22 #[.val (.ref p0), .val (.int (0 : Int32)), .val (.int (6 : Int32)), .val (.ref b1), .val (.int (Int32.ofNat j)), .unset] [(.int (0 : Int32)), (.ref p0)])) _
      refine XS.iloadN X5.here hx rfl (hb hby d11_22) rfl  ?_
      show Steps p.tables e below (T5.setTop (mkF m 23 #[.val (.ref p0), .val (.int (0 : Int32)), .val (.int (6 : Int32)), .val (.ref b1), .val (.int (Int32.ofNat j)), .unset] [(.int (6 : Int32)), (.int (0 : Int32)), (.ref p0)])) _
      refine st10 _ ?_
      show Steps p.tables e below (T10.setTop (mkF m 26 #[.val (.ref p0), .val (.int (0 : Int32)), .val (.int (6 : Int32)), .val (.ref b1), .val (.int (Int32.ofNat j)), .unset] [(.ref tb10)])) _
      refine XS.astore X10.here hx rfl (hb hby d11_26) rfl rfl (l' := #[.val (.ref p0), .val (.int (0 : Int32)), .val (.int (6 : Int32)), .val (.ref b1), .val (.int (Int32.ofNat j)), .val (.ref tb10)]) rfl ?_
      show Steps p.tables e below (T10.setTop (mkF m 28 #[.val (.ref p0), .val (.int (0 : Int32)), .val (.int (6 : Int32)), .val (.ref b1), .val (.int (Int32.ofNat j)), .val (.ref tb10)] [])) _
      refine XS.aload X10.here hx rfl (hb hby d11_28) rfl rfl ?_
      show Steps p.tables e below (T10.setTop (mkF m 30 #[.val (.ref p0), .val (.int (0 : Int32)), .val (.int (6 : Int32)), .val (.ref b1), .val (.int (Int32.ofNat j)), .val (.ref tb10)] [(.ref tb10)])) _
      refine XS.iload X10.here hx rfl (hb hby d11_30) rfl  ?_
      show Steps p.tables e below (T10.setTop (mkF m 32 #[.val (.ref p0), .val (.int (0 : Int32)), .val (.int (6 : Int32)), .val (.ref b1), .val (.int (Int32.ofNat j)), .val (.ref tb10)] [(.int (Int32.ofNat j)), (.ref tb10)])) _
      refine st13 _ ?_
      show Steps p.tables e below (T13.setTop (mkF m 35 #[.val (.ref p0), .val (.int (0 : Int32)), .val (.int (6 : Int32)), .val (.ref b1), .val (.int (Int32.ofNat j)), .val (.ref tb10)] [(.int ([c0, c1, c2, c3, c4, c5].getD j 0))])) _
      refine XS.sipush X13.here hx rfl (hb hby d11_35) ?_
      show Steps p.tables e below (T13.setTop (mkF m 38 #[.val (.ref p0), .val (.int (0 : Int32)), .val (.int (6 : Int32)), .val (.ref b1), .val (.int (Int32.ofNat j)), .val (.ref tb10)] [(.int (255 : Int32)), (.int ([c0, c1, c2, c3, c4, c5].getD j 0))])) _
      refine XS.icmpYes X13.here hx rfl (pc0 := 38) (pc' := 54) rfl (hb hby d11_38) rfl (tlt hgt).2.2.1 (by decide) (by decide) ?_
      show Steps p.tables e below (T13.setTop (mkF m 54 #[.val (.ref p0), .val (.int (0 : Int32)), .val (.int (6 : Int32)), .val (.ref b1), .val (.int (Int32.ofNat j)), .val (.ref tb10)] [])) _
      refine XS.aload X13.here hx rfl (hb hby d11_54) rfl rfl ?_
      show Steps p.tables e below (T13.setTop (mkF m 56 #[.val (.ref p0), .val (.int (0 : Int32)), .val (.int (6 : Int32)), .val (.ref b1), .val (.int (Int32.ofNat j)), .val (.ref tb10)] [(.ref tb10)])) _
      jvm_step X13.here [X13.here.top, hx, (hb hby d11_56), X13.method', Bd.returns, Value.isRef, FieldType.isReference]
      first | (intro acts; rw [hr _ acts rfl rfl rfl]) | rw [hr _ _ rfl rfl rfl]
      exact Steps.refl _
    · show Q_rmComp6 Z p0 zc fm ks c0 c1 c2 c3 c4 c5 h0 n0 _ T13.heap _
      rw [e13]
      exact ⟨⟨_, _, rfl, gb10, sz10, Or.inr (Ab10)⟩, N13, KK10⟩
theorem ef_rmCFA (m : MethodId) (p0 : Addr) (p1 : Int32) : entryFrame m #[(.ref p0), (.int p1)] 2 = mkF m 0 #[.val (.ref p0), .val (.int p1)] [] := by first | (simp [entryFrame, mkF, argsToLocals, Value.category]; done) | rfl
theorem d18_0 : decode jdk_52_method_15_code 0 = .ok (.iload_n 1, 1) := by decide +kernel
theorem d18_1 : decode jdk_52_method_15_code 1 = .ok (.aload_n 0, 1) := by decide +kernel
theorem d18_2 : decode jdk_52_method_15_code 2 = .ok (.arraylength, 1) := by decide +kernel
theorem d18_3 : decode jdk_52_method_15_code 3 = .ok (.isub, 1) := by decide +kernel
theorem d18_4 : decode jdk_52_method_15_code 4 = .ok (.bipush 31, 2) := by decide +kernel
theorem d18_6 : decode jdk_52_method_15_code 6 = .ok (.iushr, 1) := by decide +kernel
theorem d18_7 : decode jdk_52_method_15_code 7 = .ok (.i2b, 1) := by decide +kernel
theorem d18_8 : decode jdk_52_method_15_code 8 = .ok (.ireturn, 1) := by decide +kernel
def Q_rmCFA (Z : State) (p0 : Addr) (p1 : Int32) (zc : Int32) (fm : Value) (k : ClassId) (z : Int32) (vs : List Value) (r : Int32) (h0 : Heap) (n0 : Nat) (v : Option Value) (h : Heap) (L : List Loc) : Prop := v = some (.int r) ∧ Fr n0 L ∧ h = h0
set_option maxRecDepth 65536 in
set_option maxHeartbeats 40000000 in
theorem rmCFA (l : Launch) (Z : State) (a0 : Array Value) (hw : ∀ d ∈ tables_1, d.before a0 Z = true) (ws : List Jvm.Cond) (p0 : Addr) (p1 : Int32) (zc : Int32) (fm : Value) (k : ClassId) (z : Int32) (vs : List Value) (r : Int32) (h0 : Heap) (n0 : Nat) (Z0 : n0 ≤ h0.size) (hSt : own_St Z zc fm) (Ol : Old Z n0 h0) (A0 : Arv Z h0 p0 k .byte z vs (.int (0 : Int32))) (hres : r = nar .byte ((p1 - z).toUInt32 >>> ((31 : Int32) &&& 31).toUInt32).toInt32.toInt8.toInt32) :
    MetFree l (⟨"java/lang/StringUTF16", "coderFromArrayLen", "([BI)B"⟩ : MethodName) (head1 (Jvm.Cond.code (⟨"java/lang/StringUTF16", "coderFromArrayLen", "([BI)B"⟩ : MethodName) jdk_52_method_15_code 2 (some .byte) :: ws) ({ frames := 0, cells := 0, slots := 0, locals := 0 } : Room)) (fun a U => a = #[(.ref p0), (.int p1)] ∧ Z.Warmed39 U.vm ∧ U.heap = h0) (fun _ _ _ _ _ => True) (fun _ U o U' => ∃ v L, o = .returned v ∧ Q_rmCFA Z p0 p1 zc fm k z vs r h0 n0 v U'.heap L ∧ FrameEnd U o U' L ({ frames := 0, cells := 0, slots := 0, locals := 0 } : Room).cells ({ frames := 0, cells := 0, slots := 0, locals := 0 } : Room).slots) := by
  refine MetFree.of_bodySF (plainFor_of_name pn_java_lang_StringUTF16) hisR ?_
  intro p e s m args below meth c s₁ Bd hml0 hP hK
  obtain ⟨rfl, hZ, hh⟩ := hP
  have hx := Bd.exec
  have hby := Bd.bytes
  have hml : c.maxLocals = 2 := hml0
  have hown : s.vm.findClass "java/lang/StringUTF16" = some m.cls := findClass_of_methodNamed Bd.named
  have hnm := (name_of_methodNamed Bd.named Bd.method).1
  have hZo := hZ
  have howno := hown
  have X0 : Stand p l e ({ frames := 0, cells := 0, slots := 0, locals := 0 } : Room) s m #[(.ref p0), (.int p1)] below meth c s₁ [] 0 0 := Stand.of_body Bd
  have e0 : s₁.heap = h0 := by rw [← hh, Bd.state]; rfl
  have N0 := Fr.nil n0
  have pre0 : ∀ t, Steps p.tables e below (s₁.setTop (mkF m 0 #[.val (.ref p0), .val (.int p1)] [])) t → Steps p.tables e below (s₁.setTop (entryFrame m #[(.ref p0), (.int p1)] 2)) t := fun t k => castTop (ef_rmCFA m p0 p1 ) k
  obtain ⟨cl1, Ar1, -, S1, N1, -, -⟩ := id A0
  obtain ⟨fs, hr, hrun, hended, hW, hsame⟩ := X0.leave (v := some (.int (nar .byte ((((p1 - z).toUInt32 >>> ((31 : Int32) &&& 31).toUInt32).toInt32).toInt8.toInt32)))) (fun h => by rw [Bd.returns] at h; cases h)
  refine ⟨_, _, pre0 _ ?_, hrun, hended, _, _, rfl, ?_, ⟨_, rfl⟩, hW, hsame.mono (by decide) (by decide)⟩
  · show Steps p.tables e below (s₁.setTop (mkF m 0 #[.val (.ref p0), .val (.int p1)] [])) _
    refine XS.iloadN X0.here hx rfl (hb hby d18_0) rfl  ?_
    show Steps p.tables e below (s₁.setTop (mkF m 1 #[.val (.ref p0), .val (.int p1)] [(.int p1)])) _
    refine XS.aloadN X0.here hx rfl (hb hby d18_1) rfl rfl ?_
    show Steps p.tables e below (s₁.setTop (mkF m 2 #[.val (.ref p0), .val (.int p1)] [(.ref p0), (.int p1)])) _
    refine X0.arraylength hx (by rw [e0]; exact Ar1.1) (State.isArrayOf_alike hZ.alike Ar1.2.1) (g := (mkF m 2 #[.val (.ref p0), .val (.int p1)] [(.ref p0), (.int p1)])) rfl rfl (hb hby d18_2) _ ?_
    rw [len_of S1 N1]
    show Steps p.tables e below (s₁.setTop (mkF m 3 #[.val (.ref p0), .val (.int p1)] [(.int z), (.int p1)])) _
    refine XS.isub X0.here hx rfl (hb hby d18_3) rfl ?_
    show Steps p.tables e below (s₁.setTop (mkF m 4 #[.val (.ref p0), .val (.int p1)] [(.int (p1 - z))])) _
    refine XS.bipush X0.here hx rfl (hb hby d18_4) ?_
    show Steps p.tables e below (s₁.setTop (mkF m 6 #[.val (.ref p0), .val (.int p1)] [(.int (31 : Int32)), (.int (p1 - z))])) _
    refine XS.iushr X0.here hx rfl (hb hby d18_6) rfl ?_
    show Steps p.tables e below (s₁.setTop (mkF m 7 #[.val (.ref p0), .val (.int p1)] [(.int (((p1 - z).toUInt32 >>> ((31 : Int32) &&& 31).toUInt32).toInt32))])) _
    refine XS.i2b X0.here hx rfl (hb hby d18_7) rfl ?_
    show Steps p.tables e below (s₁.setTop (mkF m 8 #[.val (.ref p0), .val (.int p1)] [(.int ((((p1 - z).toUInt32 >>> ((31 : Int32) &&& 31).toUInt32).toInt32).toInt8.toInt32))])) _
    exact retN X0 hx (t := .byte) Bd.returns (by simp) (hb hby d18_8) hr
  · show Q_rmCFA Z p0 p1 zc fm k z vs r h0 n0 _ s₁.heap _
    rw [e0]
    exact ⟨by rw [hres], N0, rfl⟩
theorem ef_rmNew4_6 (m : MethodId) (p0 : Addr) (p1 : Addr) : entryFrame m #[(.ref p0), (.ref p1), (.int (0 : Int32)), (.int (6 : Int32)), .null] 6 = mkF m 0 #[.val (.ref p0), .val (.ref p1), .val (.int (0 : Int32)), .val (.int (6 : Int32)), .val .null, .unset] [] := by first | (simp [entryFrame, mkF, argsToLocals, Value.category]; done) | rfl
theorem d9_0 : decode jdk_42_method_149_code 0 = .ok (.aload_n 0, 1) := by decide +kernel
theorem d9_1 : decode jdk_42_method_149_code 1 = .ok (.invokespecial 1, 3) := by decide +kernel
theorem d9_4 : decode jdk_42_method_149_code 4 = .ok (.iload_n 3, 1) := by decide +kernel
theorem d9_5 : decode jdk_42_method_149_code 5 = .ok (.ifCond .ne 22, 3) := by decide +kernel
theorem d9_27 : decode jdk_42_method_149_code 27 = .ok (.getstatic 38, 3) := by decide +kernel
theorem d9_30 : decode jdk_42_method_149_code 30 = .ok (.ifCond .eq 28, 3) := by decide +kernel
theorem d9_33 : decode jdk_42_method_149_code 33 = .ok (.aload_n 1, 1) := by decide +kernel
theorem d9_34 : decode jdk_42_method_149_code 34 = .ok (.iload_n 2, 1) := by decide +kernel
theorem d9_35 : decode jdk_42_method_149_code 35 = .ok (.iload_n 3, 1) := by decide +kernel
theorem d9_36 : decode jdk_42_method_149_code 36 = .ok (.invokestatic 177, 3) := by decide +kernel
theorem d9_39 : decode jdk_42_method_149_code 39 = .ok (.astore 5, 2) := by decide +kernel
theorem d9_41 : decode jdk_42_method_149_code 41 = .ok (.aload_n 0, 1) := by decide +kernel
theorem d9_42 : decode jdk_42_method_149_code 42 = .ok (.aload 5, 2) := by decide +kernel
theorem d9_44 : decode jdk_42_method_149_code 44 = .ok (.iload_n 3, 1) := by decide +kernel
theorem pd___BI_B : parseMethodDescriptor "([BI)B" = some ⟨[(.array .byte), .int], some .byte⟩ := by decide +kernel
theorem d9_45 : decode jdk_42_method_149_code 45 = .ok (.invokestatic 47, 3) := by decide +kernel
theorem d9_48 : decode jdk_42_method_149_code 48 = .ok (.putfield 15, 3) := by decide +kernel
theorem d9_51 : decode jdk_42_method_149_code 51 = .ok (.aload_n 0, 1) := by decide +kernel
theorem d9_52 : decode jdk_42_method_149_code 52 = .ok (.aload 5, 2) := by decide +kernel
theorem d9_54 : decode jdk_42_method_149_code 54 = .ok (.putfield 9, 3) := by decide +kernel
theorem d9_57 : decode jdk_42_method_149_code 57 = .ok (.return_, 1) := by decide +kernel
def Q_rmNew4_6 (Z : State) (p0 : Addr) (p1 : Addr) (zc : Int32) (fm : Value) (ks : ClassId) (c0 : Int32) (c1 : Int32) (c2 : Int32) (c3 : Int32) (c4 : Int32) (c5 : Int32) (h0 : Heap) (n0 : Nat) (v : Option Value) (h : Heap) (L : List Loc) : Prop := v = none ∧ Fr n0 L ∧ Keep h0 h [p0] ∧ own_Str Z h p0 [c0, c1, c2, c3, c4, c5]
set_option maxRecDepth 65536 in
set_option maxHeartbeats 40000000 in
theorem rmNew4_6 (l : Launch) (Z : State) (a0 : Array Value) (hw : ∀ d ∈ tables_1, d.before a0 Z = true) (ws : List Jvm.Cond) (p0 : Addr) (p1 : Addr) (zc : Int32) (fm : Value) (ks : ClassId) (c0 : Int32) (c1 : Int32) (c2 : Int32) (c3 : Int32) (c4 : Int32) (c5 : Int32) (h0 : Heap) (n0 : Nat) (Z0 : n0 ≤ h0.size) (hSt : own_St Z zc fm) (Ol : Old Z n0 h0) (E0 : Exa Z h0 p0 "java/lang/String") (Fv : Fld Z h0 p0 "java/lang/String" "value" "[B" .null) (Fc : Fld Z h0 p0 "java/lang/String" "coder" "B" (.int (0 : Int32))) (g0_ : n0 ≤ p0) (As : Arv Z h0 p1 ks .char (6 : Int32) [(.int c0), (.int c1), (.int c2), (.int c3), (.int c4), (.int c5)] (.int (0 : Int32))) (hch : ∀ c ∈ [c0, c1, c2, c3, c4, c5], ¬ c < (0 : Int32) ∧ ¬ (65535 : Int32) < c) :
    MetFree l (⟨"java/lang/String", "<init>", "([CIILjava/lang/Void;)V"⟩ : MethodName) (head1 (Jvm.Cond.code (⟨"java/lang/String", "<init>", "([CIILjava/lang/Void;)V"⟩ : MethodName) jdk_42_method_149_code 6 none :: ws) ({ frames := 4, cells := 2, slots := 18, locals := 57 } : Room)) (fun a U => a = #[(.ref p0), (.ref p1), (.int (0 : Int32)), (.int (6 : Int32)), .null] ∧ Z.Warmed39 U.vm ∧ U.heap = h0) (fun _ _ _ _ _ => True) (fun _ U o U' => ∃ v L, o = .returned v ∧ Q_rmNew4_6 Z p0 p1 zc fm ks c0 c1 c2 c3 c4 c5 h0 n0 v U'.heap L ∧ FrameEnd U o U' L ({ frames := 4, cells := 2, slots := 18, locals := 57 } : Room).cells ({ frames := 4, cells := 2, slots := 18, locals := 57 } : Room).slots) := by
  refine MetFree.of_bodySF (plainFor_of_name pn_java_lang_String) hisR ?_
  intro p e s m args below meth c s₁ Bd hml0 hP hK
  obtain ⟨rfl, hZ, hh⟩ := hP
  have hx := Bd.exec
  have hby := Bd.bytes
  have hml : c.maxLocals = 6 := hml0
  have hown : s.vm.findClass "java/lang/String" = some m.cls := findClass_of_methodNamed Bd.named
  have hnm := (name_of_methodNamed Bd.named Bd.method).1
  have hZo := hZ
  have howno := hown
  have X0 : Stand p l e ({ frames := 4, cells := 2, slots := 18, locals := 57 } : Room) s m #[(.ref p0), (.ref p1), (.int (0 : Int32)), (.int (6 : Int32)), .null] below meth c s₁ [] 0 0 := Stand.of_body Bd
  have e0 : s₁.heap = h0 := by rw [← hh, Bd.state]; rfl
  have N0 := Fr.nil n0
  have pre0 : ∀ t, Steps p.tables e below (s₁.setTop (mkF m 0 #[.val (.ref p0), .val (.ref p1), .val (.int (0 : Int32)), .val (.int (6 : Int32)), .val .null, .unset] [])) t → Steps p.tables e below (s₁.setTop (entryFrame m #[(.ref p0), (.ref p1), (.int (0 : Int32)), (.int (6 : Int32)), .null] 6)) t := fun t k => castTop (ef_rmNew4_6 m p0 p1 ) k
  obtain ⟨T1, X1, e1, st1⟩ := initO X0 hx hZ hown (hw _ (List.mem_of_getElem? (i := 54) rfl)) (hw _ (List.mem_of_getElem? (i := 55) rfl)) (hw _ (List.mem_of_getElem? (i := 56) rfl)) e0 (g := (mkF m 1 #[.val (.ref p0), .val (.ref p1), .val (.int (0 : Int32)), .val (.int (6 : Int32)), .val .null, .unset] [(.ref p0)])) rfl (by rw [hml]; rfl) rfl (hb hby d9_1) (by decide) (W := 0) (by show 2 * 0 + _ ≤ _; exact Nat.le_of_eq rfl) (by decide)
  obtain ⟨T2, X2, e2, st2⟩ := getS2 X1 hx hZ hown (host := "") (Or.inl (hw _ (List.mem_of_getElem? (i := 30) rfl))) Via.refl e1 (hSt.1.ext Ol.2) (g := (mkF m 27 #[.val (.ref p0), .val (.ref p1), .val (.int (0 : Int32)), .val (.int (6 : Int32)), .val .null, .unset] [])) rfl (hb hby d9_27)
  obtain ⟨_, _, ⟨T3, L3, k3, n3⟩, -, X3, ⟨Lc3, hQ3, l3, y3, z3⟩, st3⟩ := Jvm.LawKit.callS X2 hx (y := (⟨"java/lang/StringUTF16", "compress", "([CII)[B"⟩ : MethodName)) hown (mvT hZ (hw _ (List.mem_of_getElem? (i := 57) rfl))) (mvT hZ (hw _ (List.mem_of_getElem? (i := 58) rfl))) (mvT hZ (hw _ (List.mem_of_getElem? (i := 59) rfl))) (mvT hZ (hw _ (List.mem_of_getElem? (i := 60) rfl))) (by decide) (backOf (W := 0) (rmComp6 l Z a0 hw [] p1 zc fm ks c0 c1 c2 c3 c4 c5 h0 n0 Z0 hSt Ol As hch) hZ (hw _ (List.mem_of_getElem? (i := 60) rfl)) (hw _ (List.mem_of_getElem? (i := 59) rfl)) (by decide) (by decide)) (g := (mkF m 36 #[.val (.ref p0), .val (.ref p1), .val (.int (0 : Int32)), .val (.int (6 : Int32)), .val .null, .unset] [(.int (6 : Int32)), (.int (0 : Int32)), (.ref p1)])) rfl (by rw [hml]; rfl) (argsL := [(.ref p1), (.int (0 : Int32)), (.int (6 : Int32))]) (rest := []) (lenOf pd___CII__B rfl) rfl (by show 2 * 0 + _ ≤ _; exact Nat.le_of_eq rfl) (hb hby d9_36) (fun _ _ => ⟨rfl, e2, (by decide : 0 + 2 ≤ _), (by decide : 0 + 18 ≤ _)⟩)
  dsimp only [Pt.U, Pt.locs, Pt.cells, Pt.slots] at X3 l3 y3 z3 st3 hQ3
  subst l3 y3 z3
  obtain ⟨⟨vb3, kb3, rfl, gb3, sb3, hD⟩, Nq3, K3⟩ := hQ3
  have N3 := Fr.app N0 Nq3
  have KK3 := (Keep.refl h0 [p0]).trans K3 all0
  have ne_vb3 : p0 ≠ vb3 := Nat.ne_of_lt (Nat.lt_of_lt_of_le E0.lt sb3)
  have pre4 : ∀ t, Steps p.tables e below (T3.setTop (mkF m 39 #[.val (.ref p0), .val (.ref p1), .val (.int (0 : Int32)), .val (.int (6 : Int32)), .val .null, .unset] [(.ref vb3)])) t → Steps p.tables e below (s₁.setTop (entryFrame m #[(.ref p0), (.ref p1), (.int (0 : Int32)), (.int (6 : Int32)), .null] 6)) t := fun t kt => pre0 t (by
    show Steps p.tables e below (s₁.setTop (mkF m 0 #[.val (.ref p0), .val (.ref p1), .val (.int (0 : Int32)), .val (.int (6 : Int32)), .val .null, .unset] [])) _
    refine XS.aloadN X0.here hx rfl (hb hby d9_0) rfl rfl ?_
    show Steps p.tables e below (s₁.setTop (mkF m 1 #[.val (.ref p0), .val (.ref p1), .val (.int (0 : Int32)), .val (.int (6 : Int32)), .val .null, .unset] [(.ref p0)])) _
    refine st1 _ ?_
    show Steps p.tables e below (T1.setTop (mkF m 4 #[.val (.ref p0), .val (.ref p1), .val (.int (0 : Int32)), .val (.int (6 : Int32)), .val .null, .unset] [])) _
    refine XS.iloadN X1.here hx rfl (hb hby d9_4) rfl  ?_
    show Steps p.tables e below (T1.setTop (mkF m 5 #[.val (.ref p0), .val (.ref p1), .val (.int (0 : Int32)), .val (.int (6 : Int32)), .val .null, .unset] [(.int (6 : Int32))])) _
    refine XS.ifYes X1.here hx rfl (pc0 := 5) (pc' := 27) rfl (hb hby d9_5) rfl ((if0 _ _).trans (feq (by decide : ¬ ((6 : Int32) = (0 : Int32)))).2) (by decide) (by decide) ?_
    show Steps p.tables e below (T1.setTop (mkF m 27 #[.val (.ref p0), .val (.ref p1), .val (.int (0 : Int32)), .val (.int (6 : Int32)), .val .null, .unset] [])) _
    refine st2 _ ?_
    show Steps p.tables e below (T2.setTop (mkF m 30 #[.val (.ref p0), .val (.ref p1), .val (.int (0 : Int32)), .val (.int (6 : Int32)), .val .null, .unset] [(.int zc)])) _
    refine XS.ifNo X2.here hx rfl (hb hby d9_30) rfl ((if0 _ _).trans (feq hSt.2.1).1) ?_
    show Steps p.tables e below (T2.setTop (mkF m 33 #[.val (.ref p0), .val (.ref p1), .val (.int (0 : Int32)), .val (.int (6 : Int32)), .val .null, .unset] [])) _
    refine XS.aloadN X2.here hx rfl (hb hby d9_33) rfl rfl ?_
    show Steps p.tables e below (T2.setTop (mkF m 34 #[.val (.ref p0), .val (.ref p1), .val (.int (0 : Int32)), .val (.int (6 : Int32)), .val .null, .unset] [(.ref p1)])) _
    refine XS.iloadN X2.here hx rfl (hb hby d9_34) rfl  ?_
    show Steps p.tables e below (T2.setTop (mkF m 35 #[.val (.ref p0), .val (.ref p1), .val (.int (0 : Int32)), .val (.int (6 : Int32)), .val .null, .unset] [(.int (0 : Int32)), (.ref p1)])) _
    refine XS.iloadN X2.here hx rfl (hb hby d9_35) rfl  ?_
    show Steps p.tables e below (T2.setTop (mkF m 36 #[.val (.ref p0), .val (.ref p1), .val (.int (0 : Int32)), .val (.int (6 : Int32)), .val .null, .unset] [(.int (6 : Int32)), (.int (0 : Int32)), (.ref p1)])) _
    refine st3 _ ?_
    exact kt)
  rcases hD with ⟨hle, Ad⟩ | Ad
  · have f5 := (Nat.le_trans Z0 K3.1)
    have f6 := (Ol.keep K3 all0)
    obtain ⟨_, _, ⟨T7, L7, k7, n7⟩, -, X7, ⟨Lc7, hQ7, l7, y7, z7⟩, st7⟩ := Jvm.LawKit.callS X3 hx (y := (⟨"java/lang/StringUTF16", "coderFromArrayLen", "([BI)B"⟩ : MethodName)) hown (mvT hZ (hw _ (List.mem_of_getElem? (i := 83) rfl))) (mvT hZ (hw _ (List.mem_of_getElem? (i := 84) rfl))) (mvT hZ (hw _ (List.mem_of_getElem? (i := 59) rfl))) (mvT hZ (hw _ (List.mem_of_getElem? (i := 85) rfl))) (by decide) (backOf (W := 1) (rmCFA l Z a0 hw [] vb3 (6 : Int32) zc fm kb3 (6 : Int32) [(.int (own_b c0)), (.int (own_b c1)), (.int (own_b c2)), (.int (own_b c3)), (.int (own_b c4)), (.int (own_b c5))] (0 : Int32) T3.heap n0 f5 hSt f6 Ad (by decide)) hZ (hw _ (List.mem_of_getElem? (i := 85) rfl)) (hw _ (List.mem_of_getElem? (i := 59) rfl)) (by decide) (by decide)) (g := (mkF m 45 #[.val (.ref p0), .val (.ref p1), .val (.int (0 : Int32)), .val (.int (6 : Int32)), .val .null, .val (.ref vb3)] [(.int (6 : Int32)), (.ref vb3), (.ref p0)])) rfl (by rw [hml]; rfl) (argsL := [(.ref vb3), (.int (6 : Int32))]) (rest := [(.ref p0)]) (lenOf pd___BI_B rfl) rfl (by show 2 * 0 + _ ≤ _; exact Nat.le_of_eq rfl) (hb hby d9_45) (fun _ _ => ⟨rfl, rfl, (by decide : 2 + 0 ≤ _), (by decide : 18 + 0 ≤ _)⟩)
    dsimp only [Pt.U, Pt.locs, Pt.cells, Pt.slots] at X7 l7 y7 z7 st7 hQ7
    subst l7 y7 z7
    obtain ⟨rfl, Nq7, e7⟩ := hQ7
    have N7 := Fr.app N3 Nq7
    have f8 := (E0.keep K3)
    have f9 := (Fc.keep K3 nin0)
    obtain ⟨T10, h10, X10, e10, W10, st10⟩ := putFN X7 hx hZ hown (hw _ (List.mem_of_getElem? (i := 31) rfl)) Via.refl e7 f9 f8 (Or.inr ⟨(hw _ (List.mem_of_getElem? (i := 5) rfl)), rfl, hnm⟩) (hw _ (List.mem_of_getElem? (i := 2) rfl)) (ty := .byte) (v' := (.int (0 : Int32))) (by decide) rfl (by decide) (g := (mkF m 48 #[.val (.ref p0), .val (.ref p1), .val (.int (0 : Int32)), .val (.int (6 : Int32)), .val .null, .val (.ref vb3)] [(.int (0 : Int32)), (.ref p0)])) rfl rfl (hb hby d9_48)
    have Fw10 := f9.same W10
    have N10 := Fr.snoc X10 N7 g0_
    have K10 := KK3.wr W10 (Or.inl (List.mem_of_getElem? (i := 0) rfl))
    have f11 := (f8.wr W10)
    have f12 := ((Fv.keep K3 nin0).other W10 (Or.inr (slot_ne (Or.inr (hw _ (List.mem_of_getElem? (i := 4) rfl))) (Or.inr (hw _ (List.mem_of_getElem? (i := 5) rfl))) (by decide) (t := (.array .byte)) (t' := .byte) (by decide) (by decide))))
    obtain ⟨T13, h13, X13, e13, W13, st13⟩ := putF X10 hx hZ hown (host := "") (Or.inl (hw _ (List.mem_of_getElem? (i := 24) rfl))) Via.refl e10 f12 f11 (Or.inr ⟨(hw _ (List.mem_of_getElem? (i := 4) rfl)), rfl, hnm⟩) (hw _ (List.mem_of_getElem? (i := 2) rfl)) (ty := (.array .byte)) (by decide) rfl rfl (g := (mkF m 54 #[.val (.ref p0), .val (.ref p1), .val (.int (0 : Int32)), .val (.int (6 : Int32)), .val .null, .val (.ref vb3)] [(.ref vb3), (.ref p0)])) rfl rfl (hb hby d9_54)
    have Fw13 := f12.same W13
    have N13 := Fr.snoc X13 N10 g0_
    have K13 := K10.wr W13 (Or.inl (List.mem_of_getElem? (i := 0) rfl))
    have f14 := (f11.wr W13)
    have f15 := (Fw10.other W13 (Or.inr (slot_ne (Or.inr (hw _ (List.mem_of_getElem? (i := 5) rfl))) (Or.inr (hw _ (List.mem_of_getElem? (i := 4) rfl))) (by decide) (t := .byte) (t' := (.array .byte)) (by decide) (by decide))))
    have f16 := ((Ad.other W10 (Ne.symm ne_vb3)).other W13 (Ne.symm ne_vb3))
    obtain ⟨fs, hr, hrun, hended, hW, hsame⟩ := X13.leave (v := none) (fun _ => rfl)
    refine ⟨_, _, pre4 _ ?_, hrun, hended, _, _, rfl, ?_, ⟨_, rfl⟩, hW, hsame.mono (by decide) (by decide)⟩
    · show Steps p.tables e below (T3.setTop (mkF m 39 #[.val (.ref p0), .val (.ref p1), .val (.int (0 : Int32)), .val (.int (6 : Int32)), .val .null, .unset] [(.ref vb3)])) _
      refine XS.astore X3.here hx rfl (hb hby d9_39) rfl rfl (l' := #[.val (.ref p0), .val (.ref p1), .val (.int (0 : Int32)), .val (.int (6 : Int32)), .val .null, .val (.ref vb3)]) rfl ?_
      show Steps p.tables e below (T3.setTop (mkF m 41 #[.val (.ref p0), .val (.ref p1), .val (.int (0 : Int32)), .val (.int (6 : Int32)), .val .null, .val (.ref vb3)] [])) _
      refine XS.aloadN X3.here hx rfl (hb hby d9_41) rfl rfl ?_
      show Steps p.tables e below (T3.setTop (mkF m 42 #[.val (.ref p0), .val (.ref p1), .val (.int (0 : Int32)), .val (.int (6 : Int32)), .val .null, .val (.ref vb3)] [(.ref p0)])) _
      refine XS.aload X3.here hx rfl (hb hby d9_42) rfl rfl ?_
      show Steps p.tables e below (T3.setTop (mkF m 44 #[.val (.ref p0), .val (.ref p1), .val (.int (0 : Int32)), .val (.int (6 : Int32)), .val .null, .val (.ref vb3)] [(.ref vb3), (.ref p0)])) _
      refine XS.iloadN X3.here hx rfl (hb hby d9_44) rfl  ?_
      show Steps p.tables e below (T3.setTop (mkF m 45 #[.val (.ref p0), .val (.ref p1), .val (.int (0 : Int32)), .val (.int (6 : Int32)), .val .null, .val (.ref vb3)] [(.int (6 : Int32)), (.ref vb3), (.ref p0)])) _
      refine st7 _ ?_
      show Steps p.tables e below (T7.setTop (mkF m 48 #[.val (.ref p0), .val (.ref p1), .val (.int (0 : Int32)), .val (.int (6 : Int32)), .val .null, .val (.ref vb3)] [(.int (0 : Int32)), (.ref p0)])) _
      refine st10 _ ?_
      show Steps p.tables e below (T10.setTop (mkF m 51 #[.val (.ref p0), .val (.ref p1), .val (.int (0 : Int32)), .val (.int (6 : Int32)), .val .null, .val (.ref vb3)] [])) _
      refine XS.aloadN X10.here hx rfl (hb hby d9_51) rfl rfl ?_
      show Steps p.tables e below (T10.setTop (mkF m 52 #[.val (.ref p0), .val (.ref p1), .val (.int (0 : Int32)), .val (.int (6 : Int32)), .val .null, .val (.ref vb3)] [(.ref p0)])) _
      refine XS.aload X10.here hx rfl (hb hby d9_52) rfl rfl ?_
      show Steps p.tables e below (T10.setTop (mkF m 54 #[.val (.ref p0), .val (.ref p1), .val (.int (0 : Int32)), .val (.int (6 : Int32)), .val .null, .val (.ref vb3)] [(.ref vb3), (.ref p0)])) _
      refine st13 _ ?_
      show Steps p.tables e below (T13.setTop (mkF m 57 #[.val (.ref p0), .val (.ref p1), .val (.int (0 : Int32)), .val (.int (6 : Int32)), .val .null, .val (.ref vb3)] [])) _
      exact X13.returnOut hx Bd.returns (hb hby d9_57) hr
    · show Q_rmNew4_6 Z p0 p1 zc fm ks c0 c1 c2 c3 c4 c5 h0 n0 _ T13.heap _
      rw [e13]
      exact ⟨rfl, N13, K13, vb3, kb3, (0 : Int32), (6 : Int32), _, f14, Fw13, f15, f16, Or.inl ⟨rfl, rfl, rfl, (own_allc hle.1 (own_allc hle.2.1 (own_allc hle.2.2.1 (own_allc hle.2.2.2.1 (own_allc hle.2.2.2.2.1 (own_allc hle.2.2.2.2.2 (fun _ q => nomatch q)))))))⟩, hch, Nat.le_of_ble_eq_true rfl⟩
  · have f17 := (Nat.le_trans Z0 K3.1)
    have f18 := (Ol.keep K3 all0)
    obtain ⟨_, _, ⟨T19, L19, k19, n19⟩, -, X19, ⟨Lc19, hQ19, l19, y19, z19⟩, st19⟩ := Jvm.LawKit.callS X3 hx (y := (⟨"java/lang/StringUTF16", "coderFromArrayLen", "([BI)B"⟩ : MethodName)) hown (mvT hZ (hw _ (List.mem_of_getElem? (i := 83) rfl))) (mvT hZ (hw _ (List.mem_of_getElem? (i := 84) rfl))) (mvT hZ (hw _ (List.mem_of_getElem? (i := 59) rfl))) (mvT hZ (hw _ (List.mem_of_getElem? (i := 85) rfl))) (by decide) (backOf (W := 1) (rmCFA l Z a0 hw [] vb3 (6 : Int32) zc fm kb3 (12 : Int32) [(.int (own_wl c0)), (.int (own_wh c0)), (.int (own_wl c1)), (.int (own_wh c1)), (.int (own_wl c2)), (.int (own_wh c2)), (.int (own_wl c3)), (.int (own_wh c3)), (.int (own_wl c4)), (.int (own_wh c4)), (.int (own_wl c5)), (.int (own_wh c5))] (1 : Int32) T3.heap n0 f17 hSt f18 Ad (by decide)) hZ (hw _ (List.mem_of_getElem? (i := 85) rfl)) (hw _ (List.mem_of_getElem? (i := 59) rfl)) (by decide) (by decide)) (g := (mkF m 45 #[.val (.ref p0), .val (.ref p1), .val (.int (0 : Int32)), .val (.int (6 : Int32)), .val .null, .val (.ref vb3)] [(.int (6 : Int32)), (.ref vb3), (.ref p0)])) rfl (by rw [hml]; rfl) (argsL := [(.ref vb3), (.int (6 : Int32))]) (rest := [(.ref p0)]) (lenOf pd___BI_B rfl) rfl (by show 2 * 0 + _ ≤ _; exact Nat.le_of_eq rfl) (hb hby d9_45) (fun _ _ => ⟨rfl, rfl, (by decide : 2 + 0 ≤ _), (by decide : 18 + 0 ≤ _)⟩)
    dsimp only [Pt.U, Pt.locs, Pt.cells, Pt.slots] at X19 l19 y19 z19 st19 hQ19
    subst l19 y19 z19
    obtain ⟨rfl, Nq19, e19⟩ := hQ19
    have N19 := Fr.app N3 Nq19
    have f20 := (E0.keep K3)
    have f21 := (Fc.keep K3 nin0)
    obtain ⟨T22, h22, X22, e22, W22, st22⟩ := putFN X19 hx hZ hown (hw _ (List.mem_of_getElem? (i := 31) rfl)) Via.refl e19 f21 f20 (Or.inr ⟨(hw _ (List.mem_of_getElem? (i := 5) rfl)), rfl, hnm⟩) (hw _ (List.mem_of_getElem? (i := 2) rfl)) (ty := .byte) (v' := (.int (1 : Int32))) (by decide) rfl (by decide) (g := (mkF m 48 #[.val (.ref p0), .val (.ref p1), .val (.int (0 : Int32)), .val (.int (6 : Int32)), .val .null, .val (.ref vb3)] [(.int (1 : Int32)), (.ref p0)])) rfl rfl (hb hby d9_48)
    have Fw22 := f21.same W22
    have N22 := Fr.snoc X22 N19 g0_
    have K22 := KK3.wr W22 (Or.inl (List.mem_of_getElem? (i := 0) rfl))
    have f23 := (f20.wr W22)
    have f24 := ((Fv.keep K3 nin0).other W22 (Or.inr (slot_ne (Or.inr (hw _ (List.mem_of_getElem? (i := 4) rfl))) (Or.inr (hw _ (List.mem_of_getElem? (i := 5) rfl))) (by decide) (t := (.array .byte)) (t' := .byte) (by decide) (by decide))))
    obtain ⟨T25, h25, X25, e25, W25, st25⟩ := putF X22 hx hZ hown (host := "") (Or.inl (hw _ (List.mem_of_getElem? (i := 24) rfl))) Via.refl e22 f24 f23 (Or.inr ⟨(hw _ (List.mem_of_getElem? (i := 4) rfl)), rfl, hnm⟩) (hw _ (List.mem_of_getElem? (i := 2) rfl)) (ty := (.array .byte)) (by decide) rfl rfl (g := (mkF m 54 #[.val (.ref p0), .val (.ref p1), .val (.int (0 : Int32)), .val (.int (6 : Int32)), .val .null, .val (.ref vb3)] [(.ref vb3), (.ref p0)])) rfl rfl (hb hby d9_54)
    have Fw25 := f24.same W25
    have N25 := Fr.snoc X25 N22 g0_
    have K25 := K22.wr W25 (Or.inl (List.mem_of_getElem? (i := 0) rfl))
    have f26 := (f23.wr W25)
    have f27 := (Fw22.other W25 (Or.inr (slot_ne (Or.inr (hw _ (List.mem_of_getElem? (i := 5) rfl))) (Or.inr (hw _ (List.mem_of_getElem? (i := 4) rfl))) (by decide) (t := .byte) (t' := (.array .byte)) (by decide) (by decide))))
    have f28 := ((Ad.other W22 (Ne.symm ne_vb3)).other W25 (Ne.symm ne_vb3))
    obtain ⟨fs, hr, hrun, hended, hW, hsame⟩ := X25.leave (v := none) (fun _ => rfl)
    refine ⟨_, _, pre4 _ ?_, hrun, hended, _, _, rfl, ?_, ⟨_, rfl⟩, hW, hsame.mono (by decide) (by decide)⟩
    · show Steps p.tables e below (T3.setTop (mkF m 39 #[.val (.ref p0), .val (.ref p1), .val (.int (0 : Int32)), .val (.int (6 : Int32)), .val .null, .unset] [(.ref vb3)])) _
      refine XS.astore X3.here hx rfl (hb hby d9_39) rfl rfl (l' := #[.val (.ref p0), .val (.ref p1), .val (.int (0 : Int32)), .val (.int (6 : Int32)), .val .null, .val (.ref vb3)]) rfl ?_
      show Steps p.tables e below (T3.setTop (mkF m 41 #[.val (.ref p0), .val (.ref p1), .val (.int (0 : Int32)), .val (.int (6 : Int32)), .val .null, .val (.ref vb3)] [])) _
      refine XS.aloadN X3.here hx rfl (hb hby d9_41) rfl rfl ?_
      show Steps p.tables e below (T3.setTop (mkF m 42 #[.val (.ref p0), .val (.ref p1), .val (.int (0 : Int32)), .val (.int (6 : Int32)), .val .null, .val (.ref vb3)] [(.ref p0)])) _
      refine XS.aload X3.here hx rfl (hb hby d9_42) rfl rfl ?_
      show Steps p.tables e below (T3.setTop (mkF m 44 #[.val (.ref p0), .val (.ref p1), .val (.int (0 : Int32)), .val (.int (6 : Int32)), .val .null, .val (.ref vb3)] [(.ref vb3), (.ref p0)])) _
      refine XS.iloadN X3.here hx rfl (hb hby d9_44) rfl  ?_
      show Steps p.tables e below (T3.setTop (mkF m 45 #[.val (.ref p0), .val (.ref p1), .val (.int (0 : Int32)), .val (.int (6 : Int32)), .val .null, .val (.ref vb3)] [(.int (6 : Int32)), (.ref vb3), (.ref p0)])) _
      refine st19 _ ?_
      show Steps p.tables e below (T19.setTop (mkF m 48 #[.val (.ref p0), .val (.ref p1), .val (.int (0 : Int32)), .val (.int (6 : Int32)), .val .null, .val (.ref vb3)] [(.int (1 : Int32)), (.ref p0)])) _
      refine st22 _ ?_
      show Steps p.tables e below (T22.setTop (mkF m 51 #[.val (.ref p0), .val (.ref p1), .val (.int (0 : Int32)), .val (.int (6 : Int32)), .val .null, .val (.ref vb3)] [])) _
      refine XS.aloadN X22.here hx rfl (hb hby d9_51) rfl rfl ?_
      show Steps p.tables e below (T22.setTop (mkF m 52 #[.val (.ref p0), .val (.ref p1), .val (.int (0 : Int32)), .val (.int (6 : Int32)), .val .null, .val (.ref vb3)] [(.ref p0)])) _
      refine XS.aload X22.here hx rfl (hb hby d9_52) rfl rfl ?_
      show Steps p.tables e below (T22.setTop (mkF m 54 #[.val (.ref p0), .val (.ref p1), .val (.int (0 : Int32)), .val (.int (6 : Int32)), .val .null, .val (.ref vb3)] [(.ref vb3), (.ref p0)])) _
      refine st25 _ ?_
      show Steps p.tables e below (T25.setTop (mkF m 57 #[.val (.ref p0), .val (.ref p1), .val (.int (0 : Int32)), .val (.int (6 : Int32)), .val .null, .val (.ref vb3)] [])) _
      exact X25.returnOut hx Bd.returns (hb hby d9_57) hr
    · show Q_rmNew4_6 Z p0 p1 zc fm ks c0 c1 c2 c3 c4 c5 h0 n0 _ T25.heap _
      rw [e25]
      exact ⟨rfl, N25, K25, vb3, kb3, (1 : Int32), (12 : Int32), _, f26, Fw25, f27, f28, Or.inr ⟨rfl, rfl, rfl⟩, hch, Nat.le_of_ble_eq_true rfl⟩
theorem ef_rmNew6 (m : MethodId) (p0 : Addr) (p1 : Addr) : entryFrame m #[(.ref p0), (.ref p1)] 2 = mkF m 0 #[.val (.ref p0), .val (.ref p1)] [] := by first | (simp [entryFrame, mkF, argsToLocals, Value.category]; done) | rfl
theorem d8_0 : decode jdk_42_method_3_code 0 = .ok (.aload_n 0, 1) := by decide +kernel
theorem d8_1 : decode jdk_42_method_3_code 1 = .ok (.aload_n 1, 1) := by decide +kernel
theorem d8_2 : decode jdk_42_method_3_code 2 = .ok (.iconst 0, 1) := by decide +kernel
theorem d8_3 : decode jdk_42_method_3_code 3 = .ok (.aload_n 1, 1) := by decide +kernel
theorem d8_4 : decode jdk_42_method_3_code 4 = .ok (.arraylength, 1) := by decide +kernel
theorem d8_5 : decode jdk_42_method_3_code 5 = .ok (.aconst_null, 1) := by decide +kernel
theorem pd___CIILjava_lang_Void__V : parseMethodDescriptor "([CIILjava/lang/Void;)V" = some ⟨[(.array .char), .int, .int, (.object "java/lang/Void")], none⟩ := by decide +kernel
theorem d8_6 : decode jdk_42_method_3_code 6 = .ok (.invokespecial 27, 3) := by decide +kernel
theorem d8_9 : decode jdk_42_method_3_code 9 = .ok (.return_, 1) := by decide +kernel
def Q_rmNew6 (Z : State) (p0 : Addr) (p1 : Addr) (zc : Int32) (fm : Value) (ks : ClassId) (c0 : Int32) (c1 : Int32) (c2 : Int32) (c3 : Int32) (c4 : Int32) (c5 : Int32) (h0 : Heap) (n0 : Nat) (v : Option Value) (h : Heap) (L : List Loc) : Prop := v = none ∧ Fr n0 L ∧ Keep h0 h [p0] ∧ own_Str Z h p0 [c0, c1, c2, c3, c4, c5]
set_option maxRecDepth 65536 in
set_option maxHeartbeats 40000000 in
theorem rmNew6 (l : Launch) (Z : State) (a0 : Array Value) (hw : ∀ d ∈ tables_1, d.before a0 Z = true) (ws : List Jvm.Cond) (p0 : Addr) (p1 : Addr) (zc : Int32) (fm : Value) (ks : ClassId) (c0 : Int32) (c1 : Int32) (c2 : Int32) (c3 : Int32) (c4 : Int32) (c5 : Int32) (h0 : Heap) (n0 : Nat) (Z0 : n0 ≤ h0.size) (hSt : own_St Z zc fm) (Ol : Old Z n0 h0) (E0 : Exa Z h0 p0 "java/lang/String") (Fv : Fld Z h0 p0 "java/lang/String" "value" "[B" .null) (Fc : Fld Z h0 p0 "java/lang/String" "coder" "B" (.int (0 : Int32))) (g0_ : n0 ≤ p0) (As : Arv Z h0 p1 ks .char (6 : Int32) [(.int c0), (.int c1), (.int c2), (.int c3), (.int c4), (.int c5)] (.int (0 : Int32))) (hch : ∀ c ∈ [c0, c1, c2, c3, c4, c5], ¬ c < (0 : Int32) ∧ ¬ (65535 : Int32) < c) :
    MetFree l (⟨"java/lang/String", "<init>", "([C)V"⟩ : MethodName) (head1 (Jvm.Cond.code (⟨"java/lang/String", "<init>", "([C)V"⟩ : MethodName) jdk_42_method_3_code 2 none :: ws) ({ frames := 5, cells := 2, slots := 18, locals := 74 } : Room)) (fun a U => a = #[(.ref p0), (.ref p1)] ∧ Z.Warmed39 U.vm ∧ U.heap = h0) (fun _ _ _ _ _ => True) (fun _ U o U' => ∃ v L, o = .returned v ∧ Q_rmNew6 Z p0 p1 zc fm ks c0 c1 c2 c3 c4 c5 h0 n0 v U'.heap L ∧ FrameEnd U o U' L ({ frames := 5, cells := 2, slots := 18, locals := 74 } : Room).cells ({ frames := 5, cells := 2, slots := 18, locals := 74 } : Room).slots) := by
  refine MetFree.of_bodySF (plainFor_of_name pn_java_lang_String) hisR ?_
  intro p e s m args below meth c s₁ Bd hml0 hP hK
  obtain ⟨rfl, hZ, hh⟩ := hP
  have hx := Bd.exec
  have hby := Bd.bytes
  have hml : c.maxLocals = 2 := hml0
  have hown : s.vm.findClass "java/lang/String" = some m.cls := findClass_of_methodNamed Bd.named
  have hnm := (name_of_methodNamed Bd.named Bd.method).1
  have hZo := hZ
  have howno := hown
  have X0 : Stand p l e ({ frames := 5, cells := 2, slots := 18, locals := 74 } : Room) s m #[(.ref p0), (.ref p1)] below meth c s₁ [] 0 0 := Stand.of_body Bd
  have e0 : s₁.heap = h0 := by rw [← hh, Bd.state]; rfl
  have N0 := Fr.nil n0
  have pre0 : ∀ t, Steps p.tables e below (s₁.setTop (mkF m 0 #[.val (.ref p0), .val (.ref p1)] [])) t → Steps p.tables e below (s₁.setTop (entryFrame m #[(.ref p0), (.ref p1)] 2)) t := fun t k => castTop (ef_rmNew6 m p0 p1 ) k
  obtain ⟨cl1, Ar1, -, S1, N1, -, -⟩ := id As
  obtain ⟨_, _, ⟨T2, L2, k2, n2⟩, -, X2, ⟨Lc2, hQ2, l2, y2, z2⟩, st2⟩ := X0.specialBack hx (y := (⟨"java/lang/String", "<init>", "([CIILjava/lang/Void;)V"⟩ : MethodName)) rfl hown (mvT hZ (hw _ (List.mem_of_getElem? (i := 50) rfl))) (mvT hZ (hw _ (List.mem_of_getElem? (i := 51) rfl))) (mvT hZ (hw _ (List.mem_of_getElem? (i := 53) rfl))) (by decide) (backOf (W := 0) (rmNew4_6 l Z a0 hw [] p0 p1 zc fm ks c0 c1 c2 c3 c4 c5 h0 n0 Z0 hSt Ol E0 Fv Fc g0_ As hch) hZ (hw _ (List.mem_of_getElem? (i := 53) rfl)) (hw _ (List.mem_of_getElem? (i := 1) rfl)) (by decide) (by decide)) (g := (mkF m 6 #[.val (.ref p0), .val (.ref p1)] [.null, (.int (6 : Int32)), (.int (0 : Int32)), (.ref p1), (.ref p0)])) rfl (by rw [hml]; rfl) (Steps.refl _) (a := p0) (argsL := [(.ref p1), (.int (0 : Int32)), (.int (6 : Int32)), .null]) (rest := []) (lenOf pd___CIILjava_lang_Void__V rfl) rfl (by show 2 * 0 + _ ≤ _; exact Nat.le_of_eq rfl) (hb hby d8_6) (fun _ _ => ⟨rfl, e0, (by decide : 0 + 2 ≤ _), (by decide : 0 + 18 ≤ _)⟩)
  dsimp only [Pt.U, Pt.locs, Pt.cells, Pt.slots] at X2 l2 y2 z2 st2 hQ2
  subst l2 y2 z2
  obtain ⟨rfl, Nq2, K2, hS⟩ := hQ2
  have N2 := Fr.app N0 Nq2
  have KK2 := (Keep.refl h0 [p0]).trans K2 (allS (Or.inl (List.mem_of_getElem? (i := 0) rfl)) all0)
  obtain ⟨fs, hr, hrun, hended, hW, hsame⟩ := X2.leave (v := none) (fun _ => rfl)
  refine ⟨_, _, pre0 _ ?_, hrun, hended, _, _, rfl, ?_, ⟨_, rfl⟩, hW, hsame.mono (by decide) (by decide)⟩
  · show Steps p.tables e below (s₁.setTop (mkF m 0 #[.val (.ref p0), .val (.ref p1)] [])) _
    refine XS.aloadN X0.here hx rfl (hb hby d8_0) rfl rfl ?_
    show Steps p.tables e below (s₁.setTop (mkF m 1 #[.val (.ref p0), .val (.ref p1)] [(.ref p0)])) _
    refine XS.aloadN X0.here hx rfl (hb hby d8_1) rfl rfl ?_
    show Steps p.tables e below (s₁.setTop (mkF m 2 #[.val (.ref p0), .val (.ref p1)] [(.ref p1), (.ref p0)])) _
    refine XS.iconst X0.here hx rfl (hb hby d8_2) ?_
    show Steps p.tables e below (s₁.setTop (mkF m 3 #[.val (.ref p0), .val (.ref p1)] [(.int (0 : Int32)), (.ref p1), (.ref p0)])) _
    refine XS.aloadN X0.here hx rfl (hb hby d8_3) rfl rfl ?_
    show Steps p.tables e below (s₁.setTop (mkF m 4 #[.val (.ref p0), .val (.ref p1)] [(.ref p1), (.int (0 : Int32)), (.ref p1), (.ref p0)])) _
    refine X0.arraylength hx (by rw [e0]; exact Ar1.1) (State.isArrayOf_alike hZ.alike Ar1.2.1) (g := (mkF m 4 #[.val (.ref p0), .val (.ref p1)] [(.ref p1), (.int (0 : Int32)), (.ref p1), (.ref p0)])) rfl rfl (hb hby d8_4) _ ?_
    rw [len_of S1 N1]
    show Steps p.tables e below (s₁.setTop (mkF m 5 #[.val (.ref p0), .val (.ref p1)] [(.int (6 : Int32)), (.int (0 : Int32)), (.ref p1), (.ref p0)])) _
    refine XS.aconstNull X0.here hx rfl (hb hby d8_5) ?_
    show Steps p.tables e below (s₁.setTop (mkF m 6 #[.val (.ref p0), .val (.ref p1)] [.null, (.int (6 : Int32)), (.int (0 : Int32)), (.ref p1), (.ref p0)])) _
    refine st2.trans ?_
    show Steps p.tables e below (T2.setTop (mkF m 9 #[.val (.ref p0), .val (.ref p1)] [])) _
    exact X2.returnOut hx Bd.returns (hb hby d8_9) hr
  · show Q_rmNew6 Z p0 p1 zc fm ks c0 c1 c2 c3 c4 c5 h0 n0 _ T2.heap _
    exact ⟨rfl, N2, KK2, hS⟩
theorem ef_rmHi (m : MethodId) (p0 : Int32) : entryFrame m #[(.int p0)] 1 = mkF m 0 #[.val (.int p0)] [] := by first | (simp [entryFrame, mkF, argsToLocals, Value.category]; done) | rfl
theorem d26_0 : decode jdk_89_method_14_code 0 = .ok (.iload_n 0, 1) := by decide +kernel
theorem d26_1 : decode jdk_89_method_14_code 1 = .ok (.ldc 75, 2) := by decide +kernel
theorem d26_3 : decode jdk_89_method_14_code 3 = .ok (.if_icmp .lt 13, 3) := by decide +kernel
theorem d26_16 : decode jdk_89_method_14_code 16 = .ok (.iconst 0, 1) := by decide +kernel
theorem d26_17 : decode jdk_89_method_14_code 17 = .ok (.ireturn, 1) := by decide +kernel
theorem d26_6 : decode jdk_89_method_14_code 6 = .ok (.iload_n 0, 1) := by decide +kernel
theorem d26_7 : decode jdk_89_method_14_code 7 = .ok (.ldc 76, 2) := by decide +kernel
theorem d26_9 : decode jdk_89_method_14_code 9 = .ok (.if_icmp .ge 7, 3) := by decide +kernel
theorem d26_12 : decode jdk_89_method_14_code 12 = .ok (.iconst 1, 1) := by decide +kernel
theorem d26_13 : decode jdk_89_method_14_code 13 = .ok (.goto 4, 3) := by decide +kernel
def Q_rmHi (Z : State) (p0 : Int32) (r : Int32) (h0 : Heap) (n0 : Nat) (v : Option Value) (h : Heap) (L : List Loc) : Prop := v = some (.int r) ∧ Fr n0 L ∧ h = h0
set_option maxRecDepth 65536 in
set_option maxHeartbeats 40000000 in
theorem rmHi (l : Launch) (Z : State) (a0 : Array Value) (hw : ∀ d ∈ tables_1, d.before a0 Z = true) (ws : List Jvm.Cond) (p0 : Int32) (r : Int32) (h0 : Heap) (n0 : Nat) (Z0 : n0 ≤ h0.size) (hres : r = if (¬ p0 < (55296 : Int32) ∧ p0 < (56320 : Int32)) then 1 else 0) :
    MetFree l (⟨"java/lang/Character", "isHighSurrogate", "(C)Z"⟩ : MethodName) (head1 (Jvm.Cond.code (⟨"java/lang/Character", "isHighSurrogate", "(C)Z"⟩ : MethodName) jdk_89_method_14_code 1 (some .boolean) :: ws) ({ frames := 0, cells := 0, slots := 0, locals := 0 } : Room)) (fun a U => a = #[(.int p0)] ∧ Z.Warmed39 U.vm ∧ U.heap = h0) (fun _ _ _ _ _ => True) (fun _ U o U' => ∃ v L, o = .returned v ∧ Q_rmHi Z p0 r h0 n0 v U'.heap L ∧ FrameEnd U o U' L ({ frames := 0, cells := 0, slots := 0, locals := 0 } : Room).cells ({ frames := 0, cells := 0, slots := 0, locals := 0 } : Room).slots) := by
  refine MetFree.of_bodySF (plainFor_of_name pn_java_lang_Character) hisR ?_
  intro p e s m args below meth c s₁ Bd hml0 hP hK
  obtain ⟨rfl, hZ, hh⟩ := hP
  have hx := Bd.exec
  have hby := Bd.bytes
  have hml : c.maxLocals = 1 := hml0
  have hown : s.vm.findClass "java/lang/Character" = some m.cls := findClass_of_methodNamed Bd.named
  have hnm := (name_of_methodNamed Bd.named Bd.method).1
  have hZo := hZ
  have howno := hown
  have X0 : Stand p l e ({ frames := 0, cells := 0, slots := 0, locals := 0 } : Room) s m #[(.int p0)] below meth c s₁ [] 0 0 := Stand.of_body Bd
  have e0 : s₁.heap = h0 := by rw [← hh, Bd.state]; rfl
  have N0 := Fr.nil n0
  have pre0 : ∀ t, Steps p.tables e below (s₁.setTop (mkF m 0 #[.val (.int p0)] [])) t → Steps p.tables e below (s₁.setTop (entryFrame m #[(.int p0)] 1)) t := fun t k => castTop (ef_rmHi m p0 ) k
  have pre2 : ∀ t, Steps p.tables e below (s₁.setTop (mkF m 3 #[.val (.int p0)] [(.int (55296 : Int32)), (.int p0)])) t → Steps p.tables e below (s₁.setTop (entryFrame m #[(.int p0)] 1)) t := fun t kt => pre0 t (by
    show Steps p.tables e below (s₁.setTop (mkF m 0 #[.val (.int p0)] [])) _
    refine XS.iloadN X0.here hx rfl (hb hby d26_0) rfl  ?_
    show Steps p.tables e below (s₁.setTop (mkF m 1 #[.val (.int p0)] [(.int p0)])) _
    refine X0.ldcInt hx hown (mvT hZ (hw _ (List.mem_of_getElem? (i := 120) rfl))) (g := (mkF m 1 #[.val (.int p0)] [(.int p0)])) rfl (hb hby d26_1) _ ?_
    exact kt)
  by_cases hc3_1 : p0 < (55296 : Int32)
  · obtain ⟨fs, hr, hrun, hended, hW, hsame⟩ := X0.leave (v := some (.int (0 : Int32))) (fun h => by rw [Bd.returns] at h; cases h)
    refine ⟨_, _, pre2 _ ?_, hrun, hended, _, _, rfl, ?_, ⟨_, rfl⟩, hW, hsame.mono (by decide) (by decide)⟩
    · show Steps p.tables e below (s₁.setTop (mkF m 3 #[.val (.int p0)] [(.int (55296 : Int32)), (.int p0)])) _
      refine XS.icmpYes X0.here hx rfl (pc0 := 3) (pc' := 16) rfl (hb hby d26_3) rfl (tlt hc3_1).1 (by decide) (by decide) ?_
      show Steps p.tables e below (s₁.setTop (mkF m 16 #[.val (.int p0)] [])) _
      refine XS.iconst X0.here hx rfl (hb hby d26_16) ?_
      show Steps p.tables e below (s₁.setTop (mkF m 17 #[.val (.int p0)] [(.int (0 : Int32))])) _
      exact retN X0 hx (t := .boolean) Bd.returns (by simp) (hb hby d26_17) hr
    · show Q_rmHi Z p0 r h0 n0 _ s₁.heap _
      rw [e0]
      exact ⟨by rw [hres, if_neg (fun q => q.1 hc3_1)], N0, rfl⟩
  · have pre4 : ∀ t, Steps p.tables e below (s₁.setTop (mkF m 9 #[.val (.int p0)] [(.int (56320 : Int32)), (.int p0)])) t → Steps p.tables e below (s₁.setTop (entryFrame m #[(.int p0)] 1)) t := fun t kt => pre2 t (by
      show Steps p.tables e below (s₁.setTop (mkF m 3 #[.val (.int p0)] [(.int (55296 : Int32)), (.int p0)])) _
      refine XS.icmpNo X0.here hx rfl (hb hby d26_3) rfl (flt hc3_1).1 ?_
      show Steps p.tables e below (s₁.setTop (mkF m 6 #[.val (.int p0)] [])) _
      refine XS.iloadN X0.here hx rfl (hb hby d26_6) rfl  ?_
      show Steps p.tables e below (s₁.setTop (mkF m 7 #[.val (.int p0)] [(.int p0)])) _
      refine X0.ldcInt hx hown (mvT hZ (hw _ (List.mem_of_getElem? (i := 124) rfl))) (g := (mkF m 7 #[.val (.int p0)] [(.int p0)])) rfl (hb hby d26_7) _ ?_
      exact kt)
    by_cases hc9_3 : p0 < (56320 : Int32)
    · obtain ⟨fs, hr, hrun, hended, hW, hsame⟩ := X0.leave (v := some (.int (1 : Int32))) (fun h => by rw [Bd.returns] at h; cases h)
      refine ⟨_, _, pre4 _ ?_, hrun, hended, _, _, rfl, ?_, ⟨_, rfl⟩, hW, hsame.mono (by decide) (by decide)⟩
      · show Steps p.tables e below (s₁.setTop (mkF m 9 #[.val (.int p0)] [(.int (56320 : Int32)), (.int p0)])) _
        refine XS.icmpNo X0.here hx rfl (hb hby d26_9) rfl (tlt hc9_3).2.1 ?_
        show Steps p.tables e below (s₁.setTop (mkF m 12 #[.val (.int p0)] [])) _
        refine XS.iconst X0.here hx rfl (hb hby d26_12) ?_
        show Steps p.tables e below (s₁.setTop (mkF m 13 #[.val (.int p0)] [(.int (1 : Int32))])) _
        refine XS.goto X0.here hx rfl (pc0 := 13) (pc' := 17) rfl (hb hby d26_13) (by decide) (by decide) ?_
        show Steps p.tables e below (s₁.setTop (mkF m 17 #[.val (.int p0)] [(.int (1 : Int32))])) _
        exact retN X0 hx (t := .boolean) Bd.returns (by simp) (hb hby d26_17) hr
      · show Q_rmHi Z p0 r h0 n0 _ s₁.heap _
        rw [e0]
        exact ⟨by rw [hres, if_pos ⟨hc3_1, hc9_3⟩], N0, rfl⟩
    · obtain ⟨fs, hr, hrun, hended, hW, hsame⟩ := X0.leave (v := some (.int (0 : Int32))) (fun h => by rw [Bd.returns] at h; cases h)
      refine ⟨_, _, pre4 _ ?_, hrun, hended, _, _, rfl, ?_, ⟨_, rfl⟩, hW, hsame.mono (by decide) (by decide)⟩
      · show Steps p.tables e below (s₁.setTop (mkF m 9 #[.val (.int p0)] [(.int (56320 : Int32)), (.int p0)])) _
        refine XS.icmpYes X0.here hx rfl (pc0 := 9) (pc' := 16) rfl (hb hby d26_9) rfl (flt hc9_3).2.1 (by decide) (by decide) ?_
        show Steps p.tables e below (s₁.setTop (mkF m 16 #[.val (.int p0)] [])) _
        refine XS.iconst X0.here hx rfl (hb hby d26_16) ?_
        show Steps p.tables e below (s₁.setTop (mkF m 17 #[.val (.int p0)] [(.int (0 : Int32))])) _
        exact retN X0 hx (t := .boolean) Bd.returns (by simp) (hb hby d26_17) hr
      · show Q_rmHi Z p0 r h0 n0 _ s₁.heap _
        rw [e0]
        exact ⟨by rw [hres, if_neg (fun q => hc9_3 q.2)], N0, rfl⟩
theorem ef_rmLo (m : MethodId) (p0 : Int32) : entryFrame m #[(.int p0)] 1 = mkF m 0 #[.val (.int p0)] [] := by first | (simp [entryFrame, mkF, argsToLocals, Value.category]; done) | rfl
theorem d27_0 : decode jdk_89_method_15_code 0 = .ok (.iload_n 0, 1) := by decide +kernel
theorem d27_1 : decode jdk_89_method_15_code 1 = .ok (.ldc 76, 2) := by decide +kernel
theorem d27_3 : decode jdk_89_method_15_code 3 = .ok (.if_icmp .lt 13, 3) := by decide +kernel
theorem d27_16 : decode jdk_89_method_15_code 16 = .ok (.iconst 0, 1) := by decide +kernel
theorem d27_17 : decode jdk_89_method_15_code 17 = .ok (.ireturn, 1) := by decide +kernel
theorem d27_6 : decode jdk_89_method_15_code 6 = .ok (.iload_n 0, 1) := by decide +kernel
theorem d27_7 : decode jdk_89_method_15_code 7 = .ok (.ldc 77, 2) := by decide +kernel
theorem d27_9 : decode jdk_89_method_15_code 9 = .ok (.if_icmp .ge 7, 3) := by decide +kernel
theorem d27_12 : decode jdk_89_method_15_code 12 = .ok (.iconst 1, 1) := by decide +kernel
theorem d27_13 : decode jdk_89_method_15_code 13 = .ok (.goto 4, 3) := by decide +kernel
def Q_rmLo (Z : State) (p0 : Int32) (r : Int32) (h0 : Heap) (n0 : Nat) (v : Option Value) (h : Heap) (L : List Loc) : Prop := v = some (.int r) ∧ Fr n0 L ∧ h = h0
set_option maxRecDepth 65536 in
set_option maxHeartbeats 40000000 in
theorem rmLo (l : Launch) (Z : State) (a0 : Array Value) (hw : ∀ d ∈ tables_1, d.before a0 Z = true) (ws : List Jvm.Cond) (p0 : Int32) (r : Int32) (h0 : Heap) (n0 : Nat) (Z0 : n0 ≤ h0.size) (hres : r = if (¬ p0 < (56320 : Int32) ∧ p0 < (57344 : Int32)) then 1 else 0) :
    MetFree l (⟨"java/lang/Character", "isLowSurrogate", "(C)Z"⟩ : MethodName) (head1 (Jvm.Cond.code (⟨"java/lang/Character", "isLowSurrogate", "(C)Z"⟩ : MethodName) jdk_89_method_15_code 1 (some .boolean) :: ws) ({ frames := 0, cells := 0, slots := 0, locals := 0 } : Room)) (fun a U => a = #[(.int p0)] ∧ Z.Warmed39 U.vm ∧ U.heap = h0) (fun _ _ _ _ _ => True) (fun _ U o U' => ∃ v L, o = .returned v ∧ Q_rmLo Z p0 r h0 n0 v U'.heap L ∧ FrameEnd U o U' L ({ frames := 0, cells := 0, slots := 0, locals := 0 } : Room).cells ({ frames := 0, cells := 0, slots := 0, locals := 0 } : Room).slots) := by
  refine MetFree.of_bodySF (plainFor_of_name pn_java_lang_Character) hisR ?_
  intro p e s m args below meth c s₁ Bd hml0 hP hK
  obtain ⟨rfl, hZ, hh⟩ := hP
  have hx := Bd.exec
  have hby := Bd.bytes
  have hml : c.maxLocals = 1 := hml0
  have hown : s.vm.findClass "java/lang/Character" = some m.cls := findClass_of_methodNamed Bd.named
  have hnm := (name_of_methodNamed Bd.named Bd.method).1
  have hZo := hZ
  have howno := hown
  have X0 : Stand p l e ({ frames := 0, cells := 0, slots := 0, locals := 0 } : Room) s m #[(.int p0)] below meth c s₁ [] 0 0 := Stand.of_body Bd
  have e0 : s₁.heap = h0 := by rw [← hh, Bd.state]; rfl
  have N0 := Fr.nil n0
  have pre0 : ∀ t, Steps p.tables e below (s₁.setTop (mkF m 0 #[.val (.int p0)] [])) t → Steps p.tables e below (s₁.setTop (entryFrame m #[(.int p0)] 1)) t := fun t k => castTop (ef_rmLo m p0 ) k
  have pre2 : ∀ t, Steps p.tables e below (s₁.setTop (mkF m 3 #[.val (.int p0)] [(.int (56320 : Int32)), (.int p0)])) t → Steps p.tables e below (s₁.setTop (entryFrame m #[(.int p0)] 1)) t := fun t kt => pre0 t (by
    show Steps p.tables e below (s₁.setTop (mkF m 0 #[.val (.int p0)] [])) _
    refine XS.iloadN X0.here hx rfl (hb hby d27_0) rfl  ?_
    show Steps p.tables e below (s₁.setTop (mkF m 1 #[.val (.int p0)] [(.int p0)])) _
    refine X0.ldcInt hx hown (mvT hZ (hw _ (List.mem_of_getElem? (i := 124) rfl))) (g := (mkF m 1 #[.val (.int p0)] [(.int p0)])) rfl (hb hby d27_1) _ ?_
    exact kt)
  by_cases hc3_1 : p0 < (56320 : Int32)
  · obtain ⟨fs, hr, hrun, hended, hW, hsame⟩ := X0.leave (v := some (.int (0 : Int32))) (fun h => by rw [Bd.returns] at h; cases h)
    refine ⟨_, _, pre2 _ ?_, hrun, hended, _, _, rfl, ?_, ⟨_, rfl⟩, hW, hsame.mono (by decide) (by decide)⟩
    · show Steps p.tables e below (s₁.setTop (mkF m 3 #[.val (.int p0)] [(.int (56320 : Int32)), (.int p0)])) _
      refine XS.icmpYes X0.here hx rfl (pc0 := 3) (pc' := 16) rfl (hb hby d27_3) rfl (tlt hc3_1).1 (by decide) (by decide) ?_
      show Steps p.tables e below (s₁.setTop (mkF m 16 #[.val (.int p0)] [])) _
      refine XS.iconst X0.here hx rfl (hb hby d27_16) ?_
      show Steps p.tables e below (s₁.setTop (mkF m 17 #[.val (.int p0)] [(.int (0 : Int32))])) _
      exact retN X0 hx (t := .boolean) Bd.returns (by simp) (hb hby d27_17) hr
    · show Q_rmLo Z p0 r h0 n0 _ s₁.heap _
      rw [e0]
      exact ⟨by rw [hres, if_neg (fun q => q.1 hc3_1)], N0, rfl⟩
  · have pre4 : ∀ t, Steps p.tables e below (s₁.setTop (mkF m 9 #[.val (.int p0)] [(.int (57344 : Int32)), (.int p0)])) t → Steps p.tables e below (s₁.setTop (entryFrame m #[(.int p0)] 1)) t := fun t kt => pre2 t (by
      show Steps p.tables e below (s₁.setTop (mkF m 3 #[.val (.int p0)] [(.int (56320 : Int32)), (.int p0)])) _
      refine XS.icmpNo X0.here hx rfl (hb hby d27_3) rfl (flt hc3_1).1 ?_
      show Steps p.tables e below (s₁.setTop (mkF m 6 #[.val (.int p0)] [])) _
      refine XS.iloadN X0.here hx rfl (hb hby d27_6) rfl  ?_
      show Steps p.tables e below (s₁.setTop (mkF m 7 #[.val (.int p0)] [(.int p0)])) _
      refine X0.ldcInt hx hown (mvT hZ (hw _ (List.mem_of_getElem? (i := 125) rfl))) (g := (mkF m 7 #[.val (.int p0)] [(.int p0)])) rfl (hb hby d27_7) _ ?_
      exact kt)
    by_cases hc9_3 : p0 < (57344 : Int32)
    · obtain ⟨fs, hr, hrun, hended, hW, hsame⟩ := X0.leave (v := some (.int (1 : Int32))) (fun h => by rw [Bd.returns] at h; cases h)
      refine ⟨_, _, pre4 _ ?_, hrun, hended, _, _, rfl, ?_, ⟨_, rfl⟩, hW, hsame.mono (by decide) (by decide)⟩
      · show Steps p.tables e below (s₁.setTop (mkF m 9 #[.val (.int p0)] [(.int (57344 : Int32)), (.int p0)])) _
        refine XS.icmpNo X0.here hx rfl (hb hby d27_9) rfl (tlt hc9_3).2.1 ?_
        show Steps p.tables e below (s₁.setTop (mkF m 12 #[.val (.int p0)] [])) _
        refine XS.iconst X0.here hx rfl (hb hby d27_12) ?_
        show Steps p.tables e below (s₁.setTop (mkF m 13 #[.val (.int p0)] [(.int (1 : Int32))])) _
        refine XS.goto X0.here hx rfl (pc0 := 13) (pc' := 17) rfl (hb hby d27_13) (by decide) (by decide) ?_
        show Steps p.tables e below (s₁.setTop (mkF m 17 #[.val (.int p0)] [(.int (1 : Int32))])) _
        exact retN X0 hx (t := .boolean) Bd.returns (by simp) (hb hby d27_17) hr
      · show Q_rmLo Z p0 r h0 n0 _ s₁.heap _
        rw [e0]
        exact ⟨by rw [hres, if_pos ⟨hc3_1, hc9_3⟩], N0, rfl⟩
    · obtain ⟨fs, hr, hrun, hended, hW, hsame⟩ := X0.leave (v := some (.int (0 : Int32))) (fun h => by rw [Bd.returns] at h; cases h)
      refine ⟨_, _, pre4 _ ?_, hrun, hended, _, _, rfl, ?_, ⟨_, rfl⟩, hW, hsame.mono (by decide) (by decide)⟩
      · show Steps p.tables e below (s₁.setTop (mkF m 9 #[.val (.int p0)] [(.int (57344 : Int32)), (.int p0)])) _
        refine XS.icmpYes X0.here hx rfl (pc0 := 9) (pc' := 16) rfl (hb hby d27_9) rfl (flt hc9_3).2.1 (by decide) (by decide) ?_
        show Steps p.tables e below (s₁.setTop (mkF m 16 #[.val (.int p0)] [])) _
        refine XS.iconst X0.here hx rfl (hb hby d27_16) ?_
        show Steps p.tables e below (s₁.setTop (mkF m 17 #[.val (.int p0)] [(.int (0 : Int32))])) _
        exact retN X0 hx (t := .boolean) Bd.returns (by simp) (hb hby d27_17) hr
      · show Q_rmLo Z p0 r h0 n0 _ s₁.heap _
        rw [e0]
        exact ⟨by rw [hres, if_neg (fun q => hc9_3 q.2)], N0, rfl⟩
theorem d2_2 : decode prog_13_method_3_code 2 = .ok (.iload_n 1, 1) := by decide +kernel
theorem d2_3 : decode prog_13_method_3_code 3 = .ok (.aload_n 0, 1) := by decide +kernel
theorem pd___I : parseMethodDescriptor "()I" = some ⟨[], some .int⟩ := by decide +kernel
theorem d2_4 : decode prog_13_method_3_code 4 = .ok (.invokeinterface 71 1, 5) := by decide +kernel
theorem d2_9 : decode prog_13_method_3_code 9 = .ok (.if_icmp .ge 39, 3) := by decide +kernel
theorem d2_48 : decode prog_13_method_3_code 48 = .ok (.iconst (-1), 1) := by decide +kernel
theorem d2_49 : decode prog_13_method_3_code 49 = .ok (.ireturn, 1) := by decide +kernel
theorem d2_12 : decode prog_13_method_3_code 12 = .ok (.aload_n 0, 1) := by decide +kernel
theorem d2_13 : decode prog_13_method_3_code 13 = .ok (.iload_n 1, 1) := by decide +kernel
theorem pd__I_C : parseMethodDescriptor "(I)C" = some ⟨[.int], some .char⟩ := by decide +kernel
theorem d2_14 : decode prog_13_method_3_code 14 = .ok (.invokeinterface 77 2, 5) := by decide +kernel
theorem d2_19 : decode prog_13_method_3_code 19 = .ok (.istore_n 2, 1) := by decide +kernel
theorem d2_20 : decode prog_13_method_3_code 20 = .ok (.iload_n 2, 1) := by decide +kernel
theorem pd__C_Z : parseMethodDescriptor "(C)Z" = some ⟨[.char], some .boolean⟩ := by decide +kernel
theorem d2_21 : decode prog_13_method_3_code 21 = .ok (.invokestatic 81, 3) := by decide +kernel
theorem d2_24 : decode prog_13_method_3_code 24 = .ok (.ifCond .eq 9, 3) := by decide +kernel
theorem d2_27 : decode prog_13_method_3_code 27 = .ok (.iinc 1 1, 3) := by decide +kernel
theorem d2_30 : decode prog_13_method_3_code 30 = .ok (.goto 12, 3) := by decide +kernel
theorem d2_42 : decode prog_13_method_3_code 42 = .ok (.iinc 1 1, 3) := by decide +kernel
theorem d2_45 : decode prog_13_method_3_code 45 = .ok (.goto (-43), 3) := by decide +kernel
theorem d2_33 : decode prog_13_method_3_code 33 = .ok (.iload_n 2, 1) := by decide +kernel
theorem d2_34 : decode prog_13_method_3_code 34 = .ok (.invokestatic 87, 3) := by decide +kernel
theorem d2_37 : decode prog_13_method_3_code 37 = .ok (.ifCond .eq 5, 3) := by decide +kernel
theorem d2_40 : decode prog_13_method_3_code 40 = .ok (.iload_n 1, 1) := by decide +kernel
theorem d2_41 : decode prog_13_method_3_code 41 = .ok (.ireturn, 1) := by decide +kernel
set_option maxRecDepth 65536 in
set_option maxHeartbeats 40000000 in
theorem own_loop {p : Program} {l : Launch} {e : Env} {R : Room} {s : State} {m : MethodId} {args : Array Value} {below : List Frame} {meth : Method} {c : Code} {cells slots : Nat} {Z : State} {a0 : Array Value} {h0 : Heap} {n0 : Nat} {zc : Int32} {fm : Value} {p0 : Addr} {cs : List Int32}
    (hx : p.tables.exec = Jvm.exec) (hZ : Z.Warmed39 s.vm) (hw : ∀ d ∈ tables_1, d.before a0 Z = true) (hby : c.code = prog_13_method_3_code) (hml : c.maxLocals = 3) (hown : s.vm.findClass "com/example/abeyance/abeyance/model/Utf8Reader" = some m.cls) (Z0 : n0 ≤ h0.size) (hSt : own_St Z zc fm) (Ol : Old Z n0 h0) (hS : own_Str Z h0 p0 cs) (hln : cs.length < 1000) (hRf : 5 ≤ R.frames) (hRl : 66 ≤ R.locals) (hRc : cells ≤ R.cells) (hRs : slots ≤ R.slots) :
    ∀ (k j : Nat) (i : Int32) (T0 : State) (locs : List Loc) (s2 : Slot), cs.length < j + k → i = Int32.ofNat j → j < 1002 → One s2 → Stand p l e R s m args below meth c T0 locs cells slots → Fr n0 locs → T0.heap = h0 → ∃ (T' : State) (locs' : List Loc) (pc : Nat) (Ls : Array Slot), Stand p l e R s m args below meth c T' locs' cells slots ∧ Fr n0 locs' ∧ T'.heap = h0 ∧ decode c.code pc = .ok (.ireturn, 1) ∧ ∀ t, Steps p.tables e below (T'.setTop (mkF m pc Ls [.int (own_ma cs k j)])) t → Steps p.tables e below (T0.setTop (mkF m 2 #[.val (.ref p0), .val (.int i), s2] [])) t := by
  intro k; induction k with
  | zero =>
    intro j i T0 locs s2 hf hij hj hs2 X0 N0 e0
    have hz : own_ma cs 0 j = -1 := rfl
    rw [hz]
    have pre0 : ∀ t, Steps p.tables e below (T0.setTop (mkF m 2 #[.val (.ref p0), .val (.int i), s2] [])) t → Steps p.tables e below (T0.setTop (mkF m 2 #[.val (.ref p0), .val (.int i), s2] [])) t := fun t kt => kt
    obtain ⟨cq1, kq1, q1a, q1b, q1c⟩ := isOf hZ e0 hS.exa
    obtain ⟨_, _, ⟨T1, L1, k1, n1⟩, -, X1, ⟨Lc1, hQ1, l1, y1, z1⟩, st1⟩ := X0.interfaceBack hx (xi := (⟨"java/lang/CharSequence", "length", "()I"⟩ : MethodName)) (y := (⟨"java/lang/String", "length", "()I"⟩ : MethodName)) hown (mvT hZ (hw _ (List.mem_of_getElem? (i := 15) rfl))) (mvT hZ (hw _ (List.mem_of_getElem? (i := 16) rfl))) (mvT hZ (hw _ (List.mem_of_getElem? (i := 17) rfl))) (mvT hZ (hw _ (List.mem_of_getElem? (i := 18) rfl))) (mvT hZ (hw _ (List.mem_of_getElem? (i := 19) rfl))) (mvT hZ (hw _ (List.mem_of_getElem? (i := 20) rfl))) (mvT hZ (hw _ (List.mem_of_getElem? (i := 21) rfl))) (mvT hZ (hw _ (List.mem_of_getElem? (i := 22) rfl))) (by decide) (backOf (W := 1) (rmLen l Z a0 hw [] p0 zc fm cs (Int32.ofNat cs.length) h0 n0 Z0 hSt Ol hS rfl) hZ (hw _ (List.mem_of_getElem? (i := 23) rfl)) (hw _ (List.mem_of_getElem? (i := 1) rfl)) (Nat.le_trans (Nat.le_of_ble_eq_true rfl) hRf) (Nat.le_trans (Nat.le_of_ble_eq_true rfl) hRl)) q1a q1b q1c (g := (mkF m 4 #[.val (.ref p0), .val (.int i), s2] [(.ref p0), (.int i)])) rfl (by rw [hml]; rfl) (Steps.refl _) (argsL := []) (rest := [(.int i)]) (lenOf pd___I rfl) rfl (by show 2 * 0 + _ ≤ _; exact Nat.le_of_eq rfl) (hb hby d2_4) (fun _ _ => ⟨rfl, e0, hRc, hRs⟩)
    dsimp only [Pt.U, Pt.locs, Pt.cells, Pt.slots] at X1 l1 y1 z1 st1 hQ1
    subst l1 y1 z1
    obtain ⟨rfl, Nq1, e1⟩ := hQ1
    have N1 := Fr.app N0 Nq1
    exact ⟨T1, _, 49, _, X1, N1, e1, (hb hby d2_49), fun t kt => pre0 t (by
      show Steps p.tables e below (T0.setTop (mkF m 2 #[.val (.ref p0), .val (.int i), s2] [])) _
      refine XS.iloadN X0.here hx rfl (hb hby d2_2) rfl  ?_
      show Steps p.tables e below (T0.setTop (mkF m 3 #[.val (.ref p0), .val (.int i), s2] [(.int i)])) _
      refine XS.aloadN X0.here hx rfl (hb hby d2_3) rfl rfl ?_
      show Steps p.tables e below (T0.setTop (mkF m 4 #[.val (.ref p0), .val (.int i), s2] [(.ref p0), (.int i)])) _
      refine st1.trans ?_
      show Steps p.tables e below (T1.setTop (mkF m 9 #[.val (.ref p0), .val (.int i), s2] [(.int (Int32.ofNat cs.length)), (.int i)])) _
      refine XS.icmpYes X1.here hx rfl (pc0 := 9) (pc' := 48) rfl (hb hby d2_9) rfl (flt (fun q => absurd ((own_jlt hij (by omega) hln).mp q) (by omega))).2.1 (by decide) (by decide) ?_
      show Steps p.tables e below (T1.setTop (mkF m 48 #[.val (.ref p0), .val (.int i), s2] [])) _
      refine XS.iconst X1.here hx rfl (hb hby d2_48) ?_
      show Steps p.tables e below (T1.setTop (mkF m 49 #[.val (.ref p0), .val (.int i), s2] [(.int (-1 : Int32))])) _
      exact kt)⟩
  | succ k ih =>
    intro j i T0 locs s2 hf hij hj hs2 X0 N0 e0
    have pre0 : ∀ t, Steps p.tables e below (T0.setTop (mkF m 2 #[.val (.ref p0), .val (.int i), s2] [])) t → Steps p.tables e below (T0.setTop (mkF m 2 #[.val (.ref p0), .val (.int i), s2] [])) t := fun t kt => kt
    obtain ⟨cq1, kq1, q1a, q1b, q1c⟩ := isOf hZ e0 hS.exa
    obtain ⟨_, _, ⟨T1, L1, k1, n1⟩, -, X1, ⟨Lc1, hQ1, l1, y1, z1⟩, st1⟩ := X0.interfaceBack hx (xi := (⟨"java/lang/CharSequence", "length", "()I"⟩ : MethodName)) (y := (⟨"java/lang/String", "length", "()I"⟩ : MethodName)) hown (mvT hZ (hw _ (List.mem_of_getElem? (i := 15) rfl))) (mvT hZ (hw _ (List.mem_of_getElem? (i := 16) rfl))) (mvT hZ (hw _ (List.mem_of_getElem? (i := 17) rfl))) (mvT hZ (hw _ (List.mem_of_getElem? (i := 18) rfl))) (mvT hZ (hw _ (List.mem_of_getElem? (i := 19) rfl))) (mvT hZ (hw _ (List.mem_of_getElem? (i := 20) rfl))) (mvT hZ (hw _ (List.mem_of_getElem? (i := 21) rfl))) (mvT hZ (hw _ (List.mem_of_getElem? (i := 22) rfl))) (by decide) (backOf (W := 1) (rmLen l Z a0 hw [] p0 zc fm cs (Int32.ofNat cs.length) h0 n0 Z0 hSt Ol hS rfl) hZ (hw _ (List.mem_of_getElem? (i := 23) rfl)) (hw _ (List.mem_of_getElem? (i := 1) rfl)) (Nat.le_trans (Nat.le_of_ble_eq_true rfl) hRf) (Nat.le_trans (Nat.le_of_ble_eq_true rfl) hRl)) q1a q1b q1c (g := (mkF m 4 #[.val (.ref p0), .val (.int i), s2] [(.ref p0), (.int i)])) rfl (by rw [hml]; rfl) (Steps.refl _) (argsL := []) (rest := [(.int i)]) (lenOf pd___I rfl) rfl (by show 2 * 0 + _ ≤ _; exact Nat.le_of_eq rfl) (hb hby d2_4) (fun _ _ => ⟨rfl, e0, hRc, hRs⟩)
    dsimp only [Pt.U, Pt.locs, Pt.cells, Pt.slots] at X1 l1 y1 z1 st1 hQ1
    subst l1 y1 z1
    obtain ⟨rfl, Nq1, e1⟩ := hQ1
    have N1 := Fr.app N0 Nq1
    have pre2 : ∀ t, Steps p.tables e below (T1.setTop (mkF m 9 #[.val (.ref p0), .val (.int i), s2] [(.int (Int32.ofNat cs.length)), (.int i)])) t → Steps p.tables e below (T0.setTop (mkF m 2 #[.val (.ref p0), .val (.int i), s2] [])) t := fun t kt => pre0 t (by
      show Steps p.tables e below (T0.setTop (mkF m 2 #[.val (.ref p0), .val (.int i), s2] [])) _
      refine XS.iloadN X0.here hx rfl (hb hby d2_2) rfl  ?_
      show Steps p.tables e below (T0.setTop (mkF m 3 #[.val (.ref p0), .val (.int i), s2] [(.int i)])) _
      refine XS.aloadN X0.here hx rfl (hb hby d2_3) rfl rfl ?_
      show Steps p.tables e below (T0.setTop (mkF m 4 #[.val (.ref p0), .val (.int i), s2] [(.ref p0), (.int i)])) _
      refine st1.trans ?_
      exact kt)
    by_cases hlt0 : i < (Int32.ofNat cs.length)
    · have hlt := (own_jlt hij (by omega) hln).mp hlt0
      have hin := own_jin hij (by omega)
      obtain ⟨cq3, kq3, q3a, q3b, q3c⟩ := isOf hZ e1 hS.exa
      obtain ⟨_, _, ⟨T3, L3, k3, n3⟩, -, X3, ⟨Lc3, hQ3, l3, y3, z3⟩, st3⟩ := X1.interfaceBack hx (xi := (⟨"java/lang/CharSequence", "charAt", "(I)C"⟩ : MethodName)) (y := (⟨"java/lang/String", "charAt", "(I)C"⟩ : MethodName)) hown (mvT hZ (hw _ (List.mem_of_getElem? (i := 86) rfl))) (mvT hZ (hw _ (List.mem_of_getElem? (i := 87) rfl))) (mvT hZ (hw _ (List.mem_of_getElem? (i := 88) rfl))) (mvT hZ (hw _ (List.mem_of_getElem? (i := 89) rfl))) (mvT hZ (hw _ (List.mem_of_getElem? (i := 90) rfl))) (mvT hZ (hw _ (List.mem_of_getElem? (i := 91) rfl))) (mvT hZ (hw _ (List.mem_of_getElem? (i := 92) rfl))) (mvT hZ (hw _ (List.mem_of_getElem? (i := 22) rfl))) (by decide) (backOf (W := 0) (rmCharAt l Z a0 hw [] p0 i zc fm cs (cs.getD j 0) h0 n0 Z0 hSt Ol hS ⟨hin.1, by rw [hin.2]; exact hlt⟩ (by rw [hin.2])) hZ (hw _ (List.mem_of_getElem? (i := 93) rfl)) (hw _ (List.mem_of_getElem? (i := 1) rfl)) (Nat.le_trans (Nat.le_of_ble_eq_true rfl) hRf) (Nat.le_trans (Nat.le_of_ble_eq_true rfl) hRl)) q3a q3b q3c (g := (mkF m 14 #[.val (.ref p0), .val (.int i), s2] [(.int i), (.ref p0)])) rfl (by rw [hml]; rfl) (Steps.refl _) (argsL := [(.int i)]) (rest := []) (lenOf pd__I_C rfl) rfl (by show 2 * 0 + _ ≤ _; exact Nat.le_of_eq rfl) (hb hby d2_14) (fun _ _ => ⟨rfl, e1, hRc, hRs⟩)
      dsimp only [Pt.U, Pt.locs, Pt.cells, Pt.slots] at X3 l3 y3 z3 st3 hQ3
      subst l3 y3 z3
      obtain ⟨rfl, Nq3, e3⟩ := hQ3
      have N3 := Fr.app N1 Nq3
      have pre4 : ∀ t, Steps p.tables e below (T3.setTop (mkF m 20 #[.val (.ref p0), .val (.int i), .val (.int (cs.getD j 0))] [])) t → Steps p.tables e below (T0.setTop (mkF m 2 #[.val (.ref p0), .val (.int i), s2] [])) t := fun t kt => pre2 t (by
        show Steps p.tables e below (T1.setTop (mkF m 9 #[.val (.ref p0), .val (.int i), s2] [(.int (Int32.ofNat cs.length)), (.int i)])) _
        refine XS.icmpNo X1.here hx rfl (hb hby d2_9) rfl (tlt hlt0).2.1 ?_
        show Steps p.tables e below (T1.setTop (mkF m 12 #[.val (.ref p0), .val (.int i), s2] [])) _
        refine XS.aloadN X1.here hx rfl (hb hby d2_12) rfl rfl ?_
        show Steps p.tables e below (T1.setTop (mkF m 13 #[.val (.ref p0), .val (.int i), s2] [(.ref p0)])) _
        refine XS.iloadN X1.here hx rfl (hb hby d2_13) rfl  ?_
        show Steps p.tables e below (T1.setTop (mkF m 14 #[.val (.ref p0), .val (.int i), s2] [(.int i), (.ref p0)])) _
        refine st3.trans ?_
        show Steps p.tables e below (T3.setTop (mkF m 19 #[.val (.ref p0), .val (.int i), s2] [(.int (cs.getD j 0))])) _
        refine XS.istoreN X3.here hx rfl (hb hby d2_19) rfl (l' := #[.val (.ref p0), .val (.int i), .val (.int (cs.getD j 0))]) (own_os hs2) ?_
        exact kt)
      by_cases hrmHi : (¬ (cs.getD j 0) < (55296 : Int32) ∧ (cs.getD j 0) < (56320 : Int32))
      · obtain ⟨_, _, ⟨T5, L5, k5, n5⟩, -, X5, ⟨Lc5, hQ5, l5, y5, z5⟩, st5⟩ := Jvm.LawKit.callS X3 hx (y := (⟨"java/lang/Character", "isHighSurrogate", "(C)Z"⟩ : MethodName)) hown (mvT hZ (hw _ (List.mem_of_getElem? (i := 116) rfl))) (mvT hZ (hw _ (List.mem_of_getElem? (i := 117) rfl))) (mvT hZ (hw _ (List.mem_of_getElem? (i := 118) rfl))) (mvT hZ (hw _ (List.mem_of_getElem? (i := 119) rfl))) (by decide) (backOf (W := 0) (rmHi l Z a0 hw [] (cs.getD j 0) (1 : Int32) h0 n0 Z0 (if_pos hrmHi).symm) hZ (hw _ (List.mem_of_getElem? (i := 119) rfl)) (hw _ (List.mem_of_getElem? (i := 118) rfl)) (Nat.le_trans (Nat.le_of_ble_eq_true rfl) hRf) (Nat.le_trans (Nat.le_of_ble_eq_true rfl) hRl)) (g := (mkF m 21 #[.val (.ref p0), .val (.int i), .val (.int (cs.getD j 0))] [(.int (cs.getD j 0))])) rfl (by rw [hml]; rfl) (argsL := [(.int (cs.getD j 0))]) (rest := []) (lenOf pd__C_Z rfl) rfl (by show 2 * 0 + _ ≤ _; exact Nat.le_of_eq rfl) (hb hby d2_21) (fun _ _ => ⟨rfl, e3, hRc, hRs⟩)
        dsimp only [Pt.U, Pt.locs, Pt.cells, Pt.slots] at X5 l5 y5 z5 st5 hQ5
        subst l5 y5 z5
        obtain ⟨rfl, Nq5, e5⟩ := hQ5
        have N5 := Fr.app N3 Nq5
        have hr_ : own_ma cs (k + 1) j = own_ma cs k (j + 2) := by rw [own_ma, if_pos hlt, if_pos hrmHi]
        rw [hr_]
        obtain ⟨T', locs', pc, Ls, X', N', e', d', st'⟩ := ih (j + 2) _ T5 _ _ (by omega) (own_jup (own_jup hij (by omega)) (by omega)) (by omega) (One.val (w := (.int (cs.getD j 0))) rfl) X5 N5 e5
        exact ⟨T', locs', pc, Ls, X', N', e', d', fun t kt => pre4 t (by
          show Steps p.tables e below (T3.setTop (mkF m 20 #[.val (.ref p0), .val (.int i), .val (.int (cs.getD j 0))] [])) _
          refine XS.iloadN X3.here hx rfl (hb hby d2_20) rfl  ?_
          show Steps p.tables e below (T3.setTop (mkF m 21 #[.val (.ref p0), .val (.int i), .val (.int (cs.getD j 0))] [(.int (cs.getD j 0))])) _
          refine st5 _ ?_
          show Steps p.tables e below (T5.setTop (mkF m 24 #[.val (.ref p0), .val (.int i), .val (.int (cs.getD j 0))] [(.int (1 : Int32))])) _
          refine XS.ifNo X5.here hx rfl (hb hby d2_24) rfl ((if0 _ _).trans (feq (by decide : ¬ ((1 : Int32) = (0 : Int32)))).1) ?_
          show Steps p.tables e below (T5.setTop (mkF m 27 #[.val (.ref p0), .val (.int i), .val (.int (cs.getD j 0))] [])) _
          refine XS.iinc X5.here hx rfl (hb hby d2_27) rfl (l' := #[.val (.ref p0), .val (.int (i + (1 : Int32))), .val (.int (cs.getD j 0))]) rfl ?_
          show Steps p.tables e below (T5.setTop (mkF m 30 #[.val (.ref p0), .val (.int (i + (1 : Int32))), .val (.int (cs.getD j 0))] [])) _
          refine XS.goto X5.here hx rfl (pc0 := 30) (pc' := 42) rfl (hb hby d2_30) (by decide) (by decide) ?_
          show Steps p.tables e below (T5.setTop (mkF m 42 #[.val (.ref p0), .val (.int (i + (1 : Int32))), .val (.int (cs.getD j 0))] [])) _
          refine XS.iinc X5.here hx rfl (hb hby d2_42) rfl (l' := #[.val (.ref p0), .val (.int ((i + (1 : Int32)) + (1 : Int32))), .val (.int (cs.getD j 0))]) rfl ?_
          show Steps p.tables e below (T5.setTop (mkF m 45 #[.val (.ref p0), .val (.int ((i + (1 : Int32)) + (1 : Int32))), .val (.int (cs.getD j 0))] [])) _
          refine XS.goto X5.here hx rfl (pc0 := 45) (pc' := 2) rfl (hb hby d2_45) (by decide) (by decide) ?_
          exact st' t kt)⟩
      · obtain ⟨_, _, ⟨T6, L6, k6, n6⟩, -, X6, ⟨Lc6, hQ6, l6, y6, z6⟩, st6⟩ := Jvm.LawKit.callS X3 hx (y := (⟨"java/lang/Character", "isHighSurrogate", "(C)Z"⟩ : MethodName)) hown (mvT hZ (hw _ (List.mem_of_getElem? (i := 116) rfl))) (mvT hZ (hw _ (List.mem_of_getElem? (i := 117) rfl))) (mvT hZ (hw _ (List.mem_of_getElem? (i := 118) rfl))) (mvT hZ (hw _ (List.mem_of_getElem? (i := 119) rfl))) (by decide) (backOf (W := 0) (rmHi l Z a0 hw [] (cs.getD j 0) (0 : Int32) h0 n0 Z0 (if_neg hrmHi).symm) hZ (hw _ (List.mem_of_getElem? (i := 119) rfl)) (hw _ (List.mem_of_getElem? (i := 118) rfl)) (Nat.le_trans (Nat.le_of_ble_eq_true rfl) hRf) (Nat.le_trans (Nat.le_of_ble_eq_true rfl) hRl)) (g := (mkF m 21 #[.val (.ref p0), .val (.int i), .val (.int (cs.getD j 0))] [(.int (cs.getD j 0))])) rfl (by rw [hml]; rfl) (argsL := [(.int (cs.getD j 0))]) (rest := []) (lenOf pd__C_Z rfl) rfl (by show 2 * 0 + _ ≤ _; exact Nat.le_of_eq rfl) (hb hby d2_21) (fun _ _ => ⟨rfl, e3, hRc, hRs⟩)
        dsimp only [Pt.U, Pt.locs, Pt.cells, Pt.slots] at X6 l6 y6 z6 st6 hQ6
        subst l6 y6 z6
        obtain ⟨rfl, Nq6, e6⟩ := hQ6
        have N6 := Fr.app N3 Nq6
        have pre7 : ∀ t, Steps p.tables e below (T6.setTop (mkF m 33 #[.val (.ref p0), .val (.int i), .val (.int (cs.getD j 0))] [])) t → Steps p.tables e below (T0.setTop (mkF m 2 #[.val (.ref p0), .val (.int i), s2] [])) t := fun t kt => pre4 t (by
          show Steps p.tables e below (T3.setTop (mkF m 20 #[.val (.ref p0), .val (.int i), .val (.int (cs.getD j 0))] [])) _
          refine XS.iloadN X3.here hx rfl (hb hby d2_20) rfl  ?_
          show Steps p.tables e below (T3.setTop (mkF m 21 #[.val (.ref p0), .val (.int i), .val (.int (cs.getD j 0))] [(.int (cs.getD j 0))])) _
          refine st6 _ ?_
          show Steps p.tables e below (T6.setTop (mkF m 24 #[.val (.ref p0), .val (.int i), .val (.int (cs.getD j 0))] [(.int (0 : Int32))])) _
          refine XS.ifYes X6.here hx rfl (pc0 := 24) (pc' := 33) rfl (hb hby d2_24) rfl ((if0 _ _).trans (teq (by decide : (0 : Int32) = (0 : Int32))).1) (by decide) (by decide) ?_
          exact kt)
        by_cases hrmLo : (¬ (cs.getD j 0) < (56320 : Int32) ∧ (cs.getD j 0) < (57344 : Int32))
        · obtain ⟨_, _, ⟨T8, L8, k8, n8⟩, -, X8, ⟨Lc8, hQ8, l8, y8, z8⟩, st8⟩ := Jvm.LawKit.callS X6 hx (y := (⟨"java/lang/Character", "isLowSurrogate", "(C)Z"⟩ : MethodName)) hown (mvT hZ (hw _ (List.mem_of_getElem? (i := 121) rfl))) (mvT hZ (hw _ (List.mem_of_getElem? (i := 122) rfl))) (mvT hZ (hw _ (List.mem_of_getElem? (i := 118) rfl))) (mvT hZ (hw _ (List.mem_of_getElem? (i := 123) rfl))) (by decide) (backOf (W := 0) (rmLo l Z a0 hw [] (cs.getD j 0) (1 : Int32) h0 n0 Z0 (if_pos hrmLo).symm) hZ (hw _ (List.mem_of_getElem? (i := 123) rfl)) (hw _ (List.mem_of_getElem? (i := 118) rfl)) (Nat.le_trans (Nat.le_of_ble_eq_true rfl) hRf) (Nat.le_trans (Nat.le_of_ble_eq_true rfl) hRl)) (g := (mkF m 34 #[.val (.ref p0), .val (.int i), .val (.int (cs.getD j 0))] [(.int (cs.getD j 0))])) rfl (by rw [hml]; rfl) (argsL := [(.int (cs.getD j 0))]) (rest := []) (lenOf pd__C_Z rfl) rfl (by show 2 * 0 + _ ≤ _; exact Nat.le_of_eq rfl) (hb hby d2_34) (fun _ _ => ⟨rfl, e6, hRc, hRs⟩)
          dsimp only [Pt.U, Pt.locs, Pt.cells, Pt.slots] at X8 l8 y8 z8 st8 hQ8
          subst l8 y8 z8
          obtain ⟨rfl, Nq8, e8⟩ := hQ8
          have N8 := Fr.app N6 Nq8
          have hr_ : own_ma cs (k + 1) j = i := by rw [own_ma, if_pos hlt, if_neg hrmHi, if_pos hrmLo, hij]
          rw [hr_]
          exact ⟨T8, _, 41, _, X8, N8, e8, (hb hby d2_41), fun t kt => pre7 t (by
            show Steps p.tables e below (T6.setTop (mkF m 33 #[.val (.ref p0), .val (.int i), .val (.int (cs.getD j 0))] [])) _
            refine XS.iloadN X6.here hx rfl (hb hby d2_33) rfl  ?_
            show Steps p.tables e below (T6.setTop (mkF m 34 #[.val (.ref p0), .val (.int i), .val (.int (cs.getD j 0))] [(.int (cs.getD j 0))])) _
            refine st8 _ ?_
            show Steps p.tables e below (T8.setTop (mkF m 37 #[.val (.ref p0), .val (.int i), .val (.int (cs.getD j 0))] [(.int (1 : Int32))])) _
            refine XS.ifNo X8.here hx rfl (hb hby d2_37) rfl ((if0 _ _).trans (feq (by decide : ¬ ((1 : Int32) = (0 : Int32)))).1) ?_
            show Steps p.tables e below (T8.setTop (mkF m 40 #[.val (.ref p0), .val (.int i), .val (.int (cs.getD j 0))] [])) _
            refine XS.iloadN X8.here hx rfl (hb hby d2_40) rfl  ?_
            show Steps p.tables e below (T8.setTop (mkF m 41 #[.val (.ref p0), .val (.int i), .val (.int (cs.getD j 0))] [(.int i)])) _
            exact kt)⟩
        · obtain ⟨_, _, ⟨T9, L9, k9, n9⟩, -, X9, ⟨Lc9, hQ9, l9, y9, z9⟩, st9⟩ := Jvm.LawKit.callS X6 hx (y := (⟨"java/lang/Character", "isLowSurrogate", "(C)Z"⟩ : MethodName)) hown (mvT hZ (hw _ (List.mem_of_getElem? (i := 121) rfl))) (mvT hZ (hw _ (List.mem_of_getElem? (i := 122) rfl))) (mvT hZ (hw _ (List.mem_of_getElem? (i := 118) rfl))) (mvT hZ (hw _ (List.mem_of_getElem? (i := 123) rfl))) (by decide) (backOf (W := 0) (rmLo l Z a0 hw [] (cs.getD j 0) (0 : Int32) h0 n0 Z0 (if_neg hrmLo).symm) hZ (hw _ (List.mem_of_getElem? (i := 123) rfl)) (hw _ (List.mem_of_getElem? (i := 118) rfl)) (Nat.le_trans (Nat.le_of_ble_eq_true rfl) hRf) (Nat.le_trans (Nat.le_of_ble_eq_true rfl) hRl)) (g := (mkF m 34 #[.val (.ref p0), .val (.int i), .val (.int (cs.getD j 0))] [(.int (cs.getD j 0))])) rfl (by rw [hml]; rfl) (argsL := [(.int (cs.getD j 0))]) (rest := []) (lenOf pd__C_Z rfl) rfl (by show 2 * 0 + _ ≤ _; exact Nat.le_of_eq rfl) (hb hby d2_34) (fun _ _ => ⟨rfl, e6, hRc, hRs⟩)
          dsimp only [Pt.U, Pt.locs, Pt.cells, Pt.slots] at X9 l9 y9 z9 st9 hQ9
          subst l9 y9 z9
          obtain ⟨rfl, Nq9, e9⟩ := hQ9
          have N9 := Fr.app N6 Nq9
          have hr_ : own_ma cs (k + 1) j = own_ma cs k (j + 1) := by rw [own_ma, if_pos hlt, if_neg hrmHi, if_neg hrmLo]
          rw [hr_]
          obtain ⟨T', locs', pc, Ls, X', N', e', d', st'⟩ := ih (j + 1) _ T9 _ _ (by omega) (own_jup hij (by omega)) (by omega) (One.val (w := (.int (cs.getD j 0))) rfl) X9 N9 e9
          exact ⟨T', locs', pc, Ls, X', N', e', d', fun t kt => pre7 t (by
            show Steps p.tables e below (T6.setTop (mkF m 33 #[.val (.ref p0), .val (.int i), .val (.int (cs.getD j 0))] [])) _
            refine XS.iloadN X6.here hx rfl (hb hby d2_33) rfl  ?_
            show Steps p.tables e below (T6.setTop (mkF m 34 #[.val (.ref p0), .val (.int i), .val (.int (cs.getD j 0))] [(.int (cs.getD j 0))])) _
            refine st9 _ ?_
            show Steps p.tables e below (T9.setTop (mkF m 37 #[.val (.ref p0), .val (.int i), .val (.int (cs.getD j 0))] [(.int (0 : Int32))])) _
            refine XS.ifYes X9.here hx rfl (pc0 := 37) (pc' := 42) rfl (hb hby d2_37) rfl ((if0 _ _).trans (teq (by decide : (0 : Int32) = (0 : Int32))).1) (by decide) (by decide) ?_
            show Steps p.tables e below (T9.setTop (mkF m 42 #[.val (.ref p0), .val (.int i), .val (.int (cs.getD j 0))] [])) _
            refine XS.iinc X9.here hx rfl (hb hby d2_42) rfl (l' := #[.val (.ref p0), .val (.int (i + (1 : Int32))), .val (.int (cs.getD j 0))]) rfl ?_
            show Steps p.tables e below (T9.setTop (mkF m 45 #[.val (.ref p0), .val (.int (i + (1 : Int32))), .val (.int (cs.getD j 0))] [])) _
            refine XS.goto X9.here hx rfl (pc0 := 45) (pc' := 2) rfl (hb hby d2_45) (by decide) (by decide) ?_
            exact st' t kt)⟩
    · have hlt : ¬ j < cs.length := fun q => hlt0 ((own_jlt hij (by omega) hln).mpr q)
      have hr_ : own_ma cs (k + 1) j = -1 := by rw [own_ma, if_neg hlt]
      rw [hr_]
      exact ⟨T1, _, 49, _, X1, N1, e1, (hb hby d2_49), fun t kt => pre2 t (by
        show Steps p.tables e below (T1.setTop (mkF m 9 #[.val (.ref p0), .val (.int i), s2] [(.int (Int32.ofNat cs.length)), (.int i)])) _
        refine XS.icmpYes X1.here hx rfl (pc0 := 9) (pc' := 48) rfl (hb hby d2_9) rfl (flt hlt0).2.1 (by decide) (by decide) ?_
        show Steps p.tables e below (T1.setTop (mkF m 48 #[.val (.ref p0), .val (.int i), s2] [])) _
        refine XS.iconst X1.here hx rfl (hb hby d2_48) ?_
        show Steps p.tables e below (T1.setTop (mkF m 49 #[.val (.ref p0), .val (.int i), s2] [(.int (-1 : Int32))])) _
        exact kt)⟩
theorem ef_rmMalAt (m : MethodId) (p0 : Addr) : entryFrame m #[(.ref p0)] 3 = mkF m 0 #[.val (.ref p0), .unset, .unset] [] := by first | (simp [entryFrame, mkF, argsToLocals, Value.category]; done) | rfl
theorem d2_0 : decode prog_13_method_3_code 0 = .ok (.iconst 0, 1) := by decide +kernel
theorem d2_1 : decode prog_13_method_3_code 1 = .ok (.istore_n 1, 1) := by decide +kernel
def Q_rmMalAt (Z : State) (p0 : Addr) (zc : Int32) (fm : Value) (cs : List Int32) (r : Int32) (h0 : Heap) (n0 : Nat) (v : Option Value) (h : Heap) (L : List Loc) : Prop := v = some (.int r) ∧ Fr n0 L ∧ h = h0
set_option maxRecDepth 65536 in
set_option maxHeartbeats 40000000 in
theorem rmMalAt (l : Launch) (Z : State) (a0 : Array Value) (hw : ∀ d ∈ tables_1, d.before a0 Z = true) (ws : List Jvm.Cond) (p0 : Addr) (zc : Int32) (fm : Value) (cs : List Int32) (r : Int32) (h0 : Heap) (n0 : Nat) (Z0 : n0 ≤ h0.size) (hSt : own_St Z zc fm) (Ol : Old Z n0 h0) (hS : own_Str Z h0 p0 cs) (hln : cs.length < 1000) (hres : r = own_ma cs (cs.length + 1) 0) :
    MetFree l (⟨"com/example/abeyance/abeyance/model/Utf8Reader", "malformedAt", "(Ljava/lang/CharSequence;)I"⟩ : MethodName) (head1 (Jvm.Cond.code (⟨"com/example/abeyance/abeyance/model/Utf8Reader", "malformedAt", "(Ljava/lang/CharSequence;)I"⟩ : MethodName) prog_13_method_3_code 3 (some .int) :: ws) ({ frames := 5, cells := 0, slots := 0, locals := 66 } : Room)) (fun a U => a = #[(.ref p0)] ∧ Z.Warmed39 U.vm ∧ U.heap = h0) (fun _ _ _ _ _ => True) (fun _ U o U' => ∃ v L, o = .returned v ∧ Q_rmMalAt Z p0 zc fm cs r h0 n0 v U'.heap L ∧ FrameEnd U o U' L ({ frames := 5, cells := 0, slots := 0, locals := 66 } : Room).cells ({ frames := 5, cells := 0, slots := 0, locals := 66 } : Room).slots) := by
  refine MetFree.of_bodySF (plainFor_of_name pn_com_example_abeyance_abeyance_model_Utf8Reader) hisR ?_
  intro p e s m args below meth c s₁ Bd hml0 hP hK
  obtain ⟨rfl, hZ, hh⟩ := hP
  have hx := Bd.exec
  have hby := Bd.bytes
  have hml : c.maxLocals = 3 := hml0
  have hown : s.vm.findClass "com/example/abeyance/abeyance/model/Utf8Reader" = some m.cls := findClass_of_methodNamed Bd.named
  have hnm := (name_of_methodNamed Bd.named Bd.method).1
  have hZo := hZ
  have howno := hown
  have X0 : Stand p l e ({ frames := 5, cells := 0, slots := 0, locals := 66 } : Room) s m #[(.ref p0)] below meth c s₁ [] 0 0 := Stand.of_body Bd
  have e0 : s₁.heap = h0 := by rw [← hh, Bd.state]; rfl
  have N0 := Fr.nil n0
  have pre0 : ∀ t, Steps p.tables e below (s₁.setTop (mkF m 0 #[.val (.ref p0), .unset, .unset] [])) t → Steps p.tables e below (s₁.setTop (entryFrame m #[(.ref p0)] 3)) t := fun t k => castTop (ef_rmMalAt m p0 ) k
  have pre1 : ∀ t, Steps p.tables e below (s₁.setTop (mkF m 2 #[.val (.ref p0), .val (.int (0 : Int32)), .unset] [])) t → Steps p.tables e below (s₁.setTop (entryFrame m #[(.ref p0)] 3)) t := fun t kt => pre0 t (by
    show Steps p.tables e below (s₁.setTop (mkF m 0 #[.val (.ref p0), .unset, .unset] [])) _
    refine XS.iconst X0.here hx rfl (hb hby d2_0) ?_
    show Steps p.tables e below (s₁.setTop (mkF m 1 #[.val (.ref p0), .unset, .unset] [(.int (0 : Int32))])) _
    refine XS.istoreN X0.here hx rfl (hb hby d2_1) rfl (l' := #[.val (.ref p0), .val (.int (0 : Int32)), .unset]) rfl ?_
    exact kt)
  obtain ⟨T', locs', pc, Ls, X', N', e', d', st'⟩ := own_loop hx hZ hw hby hml hown Z0 hSt Ol hS hln (Nat.le_of_ble_eq_true rfl) (Nat.le_of_ble_eq_true rfl) (Nat.le_of_ble_eq_true rfl) (Nat.le_of_ble_eq_true rfl) (cs.length + 1) 0 (0 : Int32) s₁ [] .unset (by omega) rfl (by omega) One.u X0 N0 e0
  rw [← hres] at st'
  obtain ⟨fs, hr, hrun, hended, hW, hsame⟩ := X'.leave (v := some (.int r)) (fun h => by rw [Bd.returns] at h; cases h)
  refine ⟨_, _, pre1 _ (st' _ ?_), hrun, hended, _, _, rfl, ?_, ⟨_, rfl⟩, hW, hsame.mono (by decide) (by decide)⟩
  · exact retI X' hx Bd.returns d' hr
  · show Q_rmMalAt Z p0 zc fm cs r h0 n0 _ T'.heap _
    rw [e']
    exact ⟨rfl, N', rfl⟩
theorem ef_rmPlain (m : MethodId) (p0 : Int32) : entryFrame m #[(.int p0)] 1 = mkF m 0 #[.val (.int p0)] [] := by first | (simp [entryFrame, mkF, argsToLocals, Value.category]; done) | rfl
theorem d6_0 : decode method_2_code 0 = .ok (.iload_n 0, 1) := by decide +kernel
theorem d6_1 : decode method_2_code 1 = .ok (.ldc 7, 2) := by decide +kernel
theorem d6_3 : decode method_2_code 3 = .ok (.if_icmp .lt 16, 3) := by decide +kernel
theorem d6_19 : decode method_2_code 19 = .ok (.iload_n 0, 1) := by decide +kernel
theorem d6_20 : decode method_2_code 20 = .ok (.i2c, 1) := by decide +kernel
theorem d6_21 : decode method_2_code 21 = .ok (.ireturn, 1) := by decide +kernel
theorem d6_6 : decode method_2_code 6 = .ok (.iload_n 0, 1) := by decide +kernel
theorem d6_7 : decode method_2_code 7 = .ok (.ldc 8, 2) := by decide +kernel
theorem d6_9 : decode method_2_code 9 = .ok (.if_icmp .gt 10, 3) := by decide +kernel
theorem d6_12 : decode method_2_code 12 = .ok (.iload_n 0, 1) := by decide +kernel
theorem d6_13 : decode method_2_code 13 = .ok (.sipush 2048, 3) := by decide +kernel
theorem d6_16 : decode method_2_code 16 = .ok (.isub, 1) := by decide +kernel
theorem d6_17 : decode method_2_code 17 = .ok (.i2c, 1) := by decide +kernel
theorem d6_18 : decode method_2_code 18 = .ok (.ireturn, 1) := by decide +kernel
def Q_rmPlain (Z : State) (p0 : Int32) (r : Int32) (h0 : Heap) (n0 : Nat) (v : Option Value) (h : Heap) (L : List Loc) : Prop := v = some (.int r) ∧ Fr n0 L ∧ h = h0
set_option maxRecDepth 65536 in
set_option maxHeartbeats 40000000 in
theorem rmPlain (l : Launch) (Z : State) (a0 : Array Value) (hw : ∀ d ∈ tables_1, d.before a0 Z = true) (ws : List Jvm.Cond) (p0 : Int32) (r : Int32) (h0 : Heap) (n0 : Nat) (Z0 : n0 ≤ h0.size) (hres : r = own_pl p0) :
    MetFree l (⟨"com/example/abeyance/abeyance/model/Utf8ReaderMalformedBytePinLaw", "plain", "(I)C"⟩ : MethodName) (head1 (Jvm.Cond.code (⟨"com/example/abeyance/abeyance/model/Utf8ReaderMalformedBytePinLaw", "plain", "(I)C"⟩ : MethodName) method_2_code 1 (some .char) :: ws) ({ frames := 0, cells := 0, slots := 0, locals := 0 } : Room)) (fun a U => a = #[(.int p0)] ∧ Z.Warmed39 U.vm ∧ U.heap = h0) (fun _ _ _ _ _ => True) (fun _ U o U' => ∃ v L, o = .returned v ∧ Q_rmPlain Z p0 r h0 n0 v U'.heap L ∧ FrameEnd U o U' L ({ frames := 0, cells := 0, slots := 0, locals := 0 } : Room).cells ({ frames := 0, cells := 0, slots := 0, locals := 0 } : Room).slots) := by
  refine MetFree.of_bodySF (plainFor_of_name pn_com_example_abeyance_abeyance_model_Utf8ReaderMalformedBytePinLaw) hisR ?_
  intro p e s m args below meth c s₁ Bd hml0 hP hK
  obtain ⟨rfl, hZ, hh⟩ := hP
  have hx := Bd.exec
  have hby := Bd.bytes
  have hml : c.maxLocals = 1 := hml0
  have hown : s.vm.findClass "com/example/abeyance/abeyance/model/Utf8ReaderMalformedBytePinLaw" = some m.cls := findClass_of_methodNamed Bd.named
  have hnm := (name_of_methodNamed Bd.named Bd.method).1
  have hZo := hZ
  have howno := hown
  have X0 : Stand p l e ({ frames := 0, cells := 0, slots := 0, locals := 0 } : Room) s m #[(.int p0)] below meth c s₁ [] 0 0 := Stand.of_body Bd
  have e0 : s₁.heap = h0 := by rw [← hh, Bd.state]; rfl
  have N0 := Fr.nil n0
  have pre0 : ∀ t, Steps p.tables e below (s₁.setTop (mkF m 0 #[.val (.int p0)] [])) t → Steps p.tables e below (s₁.setTop (entryFrame m #[(.int p0)] 1)) t := fun t k => castTop (ef_rmPlain m p0 ) k
  have pre2 : ∀ t, Steps p.tables e below (s₁.setTop (mkF m 3 #[.val (.int p0)] [(.int (55296 : Int32)), (.int p0)])) t → Steps p.tables e below (s₁.setTop (entryFrame m #[(.int p0)] 1)) t := fun t kt => pre0 t (by
    show Steps p.tables e below (s₁.setTop (mkF m 0 #[.val (.int p0)] [])) _
    refine XS.iloadN X0.here hx rfl (hb hby d6_0) rfl  ?_
    show Steps p.tables e below (s₁.setTop (mkF m 1 #[.val (.int p0)] [(.int p0)])) _
    refine X0.ldcInt hx hown (mvT hZ (hw _ (List.mem_of_getElem? (i := 42) rfl))) (g := (mkF m 1 #[.val (.int p0)] [(.int p0)])) rfl (hb hby d6_1) _ ?_
    exact kt)
  by_cases hc3_1 : p0 < (55296 : Int32)
  · obtain ⟨fs, hr, hrun, hended, hW, hsame⟩ := X0.leave (v := some (.int (nar .char (p0.toUInt32.toUInt16.toUInt32.toInt32)))) (fun h => by rw [Bd.returns] at h; cases h)
    refine ⟨_, _, pre2 _ ?_, hrun, hended, _, _, rfl, ?_, ⟨_, rfl⟩, hW, hsame.mono (by decide) (by decide)⟩
    · show Steps p.tables e below (s₁.setTop (mkF m 3 #[.val (.int p0)] [(.int (55296 : Int32)), (.int p0)])) _
      refine XS.icmpYes X0.here hx rfl (pc0 := 3) (pc' := 19) rfl (hb hby d6_3) rfl (tlt hc3_1).1 (by decide) (by decide) ?_
      show Steps p.tables e below (s₁.setTop (mkF m 19 #[.val (.int p0)] [])) _
      refine XS.iloadN X0.here hx rfl (hb hby d6_19) rfl  ?_
      show Steps p.tables e below (s₁.setTop (mkF m 20 #[.val (.int p0)] [(.int p0)])) _
      refine XS.i2c X0.here hx rfl (hb hby d6_20) rfl ?_
      show Steps p.tables e below (s₁.setTop (mkF m 21 #[.val (.int p0)] [(.int (p0.toUInt32.toUInt16.toUInt32.toInt32))])) _
      exact retN X0 hx (t := .char) Bd.returns (by simp) (hb hby d6_21) hr
    · show Q_rmPlain Z p0 r h0 n0 _ s₁.heap _
      rw [e0]
      exact ⟨by rw [hres]; unfold own_pl; rw [if_pos hc3_1], N0, rfl⟩
  · have pre4 : ∀ t, Steps p.tables e below (s₁.setTop (mkF m 9 #[.val (.int p0)] [(.int (57343 : Int32)), (.int p0)])) t → Steps p.tables e below (s₁.setTop (entryFrame m #[(.int p0)] 1)) t := fun t kt => pre2 t (by
      show Steps p.tables e below (s₁.setTop (mkF m 3 #[.val (.int p0)] [(.int (55296 : Int32)), (.int p0)])) _
      refine XS.icmpNo X0.here hx rfl (hb hby d6_3) rfl (flt hc3_1).1 ?_
      show Steps p.tables e below (s₁.setTop (mkF m 6 #[.val (.int p0)] [])) _
      refine XS.iloadN X0.here hx rfl (hb hby d6_6) rfl  ?_
      show Steps p.tables e below (s₁.setTop (mkF m 7 #[.val (.int p0)] [(.int p0)])) _
      refine X0.ldcInt hx hown (mvT hZ (hw _ (List.mem_of_getElem? (i := 130) rfl))) (g := (mkF m 7 #[.val (.int p0)] [(.int p0)])) rfl (hb hby d6_7) _ ?_
      exact kt)
    by_cases hc9_3 : (57343 : Int32) < p0
    · obtain ⟨fs, hr, hrun, hended, hW, hsame⟩ := X0.leave (v := some (.int (nar .char (p0.toUInt32.toUInt16.toUInt32.toInt32)))) (fun h => by rw [Bd.returns] at h; cases h)
      refine ⟨_, _, pre4 _ ?_, hrun, hended, _, _, rfl, ?_, ⟨_, rfl⟩, hW, hsame.mono (by decide) (by decide)⟩
      · show Steps p.tables e below (s₁.setTop (mkF m 9 #[.val (.int p0)] [(.int (57343 : Int32)), (.int p0)])) _
        refine XS.icmpYes X0.here hx rfl (pc0 := 9) (pc' := 19) rfl (hb hby d6_9) rfl (tlt hc9_3).2.2.1 (by decide) (by decide) ?_
        show Steps p.tables e below (s₁.setTop (mkF m 19 #[.val (.int p0)] [])) _
        refine XS.iloadN X0.here hx rfl (hb hby d6_19) rfl  ?_
        show Steps p.tables e below (s₁.setTop (mkF m 20 #[.val (.int p0)] [(.int p0)])) _
        refine XS.i2c X0.here hx rfl (hb hby d6_20) rfl ?_
        show Steps p.tables e below (s₁.setTop (mkF m 21 #[.val (.int p0)] [(.int (p0.toUInt32.toUInt16.toUInt32.toInt32))])) _
        exact retN X0 hx (t := .char) Bd.returns (by simp) (hb hby d6_21) hr
      · show Q_rmPlain Z p0 r h0 n0 _ s₁.heap _
        rw [e0]
        exact ⟨by rw [hres]; unfold own_pl; rw [if_neg hc3_1, if_pos hc9_3], N0, rfl⟩
    · obtain ⟨fs, hr, hrun, hended, hW, hsame⟩ := X0.leave (v := some (.int (nar .char ((p0 - (2048 : Int32)).toUInt32.toUInt16.toUInt32.toInt32)))) (fun h => by rw [Bd.returns] at h; cases h)
      refine ⟨_, _, pre4 _ ?_, hrun, hended, _, _, rfl, ?_, ⟨_, rfl⟩, hW, hsame.mono (by decide) (by decide)⟩
      · show Steps p.tables e below (s₁.setTop (mkF m 9 #[.val (.int p0)] [(.int (57343 : Int32)), (.int p0)])) _
        refine XS.icmpNo X0.here hx rfl (hb hby d6_9) rfl (flt hc9_3).2.2.1 ?_
        show Steps p.tables e below (s₁.setTop (mkF m 12 #[.val (.int p0)] [])) _
        refine XS.iloadN X0.here hx rfl (hb hby d6_12) rfl  ?_
        show Steps p.tables e below (s₁.setTop (mkF m 13 #[.val (.int p0)] [(.int p0)])) _
        refine XS.sipush X0.here hx rfl (hb hby d6_13) ?_
        show Steps p.tables e below (s₁.setTop (mkF m 16 #[.val (.int p0)] [(.int (2048 : Int32)), (.int p0)])) _
        refine XS.isub X0.here hx rfl (hb hby d6_16) rfl ?_
        show Steps p.tables e below (s₁.setTop (mkF m 17 #[.val (.int p0)] [(.int (p0 - (2048 : Int32)))])) _
        refine XS.i2c X0.here hx rfl (hb hby d6_17) rfl ?_
        show Steps p.tables e below (s₁.setTop (mkF m 18 #[.val (.int p0)] [(.int ((p0 - (2048 : Int32)).toUInt32.toUInt16.toUInt32.toInt32))])) _
        exact retN X0 hx (t := .char) Bd.returns (by simp) (hb hby d6_18) hr
      · show Q_rmPlain Z p0 r h0 n0 _ s₁.heap _
        rw [e0]
        exact ⟨by rw [hres]; unfold own_pl; rw [if_neg hc3_1, if_neg hc9_3], N0, rfl⟩
theorem ef_rmExpect (m : MethodId) (p0 : Int32) : entryFrame m #[(.int p0)] 2 = mkF m 0 #[.val (.int p0), .unset] [] := by first | (simp [entryFrame, mkF, argsToLocals, Value.category]; done) | rfl
theorem d7_0 : decode method_4_code 0 = .ok (.iload_n 0, 1) := by decide +kernel
theorem d7_1 : decode method_4_code 1 = .ok (.iconst 3, 1) := by decide +kernel
theorem d7_2 : decode method_4_code 2 = .ok (.iand, 1) := by decide +kernel
theorem d7_3 : decode method_4_code 3 = .ok (.istore_n 1, 1) := by decide +kernel
theorem d7_4 : decode method_4_code 4 = .ok (.iload_n 1, 1) := by decide +kernel
theorem d7_5 : decode method_4_code 5 = .ok (.iconst 2, 1) := by decide +kernel
theorem d7_6 : decode method_4_code 6 = .ok (.if_icmp .ge 5, 3) := by decide +kernel
theorem d7_9 : decode method_4_code 9 = .ok (.iconst (-1), 1) := by decide +kernel
theorem d7_10 : decode method_4_code 10 = .ok (.ireturn, 1) := by decide +kernel
theorem d7_11 : decode method_4_code 11 = .ok (.iload_n 0, 1) := by decide +kernel
theorem d7_12 : decode method_4_code 12 = .ok (.iconst 2, 1) := by decide +kernel
theorem d7_13 : decode method_4_code 13 = .ok (.iushr, 1) := by decide +kernel
theorem d7_14 : decode method_4_code 14 = .ok (.sipush 255, 3) := by decide +kernel
theorem d7_17 : decode method_4_code 17 = .ok (.iand, 1) := by decide +kernel
theorem d7_18 : decode method_4_code 18 = .ok (.ireturn, 1) := by decide +kernel
def Q_rmExpect (Z : State) (p0 : Int32) (r : Int32) (h0 : Heap) (n0 : Nat) (v : Option Value) (h : Heap) (L : List Loc) : Prop := v = some (.int r) ∧ Fr n0 L ∧ h = h0
set_option maxRecDepth 65536 in
set_option maxHeartbeats 40000000 in
theorem rmExpect (l : Launch) (Z : State) (a0 : Array Value) (hw : ∀ d ∈ tables_1, d.before a0 Z = true) (ws : List Jvm.Cond) (p0 : Int32) (r : Int32) (h0 : Heap) (n0 : Nat) (Z0 : n0 ≤ h0.size) (hres : r = own_exp p0) :
    MetFree l (⟨"com/example/abeyance/abeyance/model/Utf8ReaderMalformedBytePinLaw", "expect", "(I)I"⟩ : MethodName) (head1 (Jvm.Cond.code (⟨"com/example/abeyance/abeyance/model/Utf8ReaderMalformedBytePinLaw", "expect", "(I)I"⟩ : MethodName) method_4_code 2 (some .int) :: ws) ({ frames := 0, cells := 0, slots := 0, locals := 0 } : Room)) (fun a U => a = #[(.int p0)] ∧ Z.Warmed39 U.vm ∧ U.heap = h0) (fun _ _ _ _ _ => True) (fun _ U o U' => ∃ v L, o = .returned v ∧ Q_rmExpect Z p0 r h0 n0 v U'.heap L ∧ FrameEnd U o U' L ({ frames := 0, cells := 0, slots := 0, locals := 0 } : Room).cells ({ frames := 0, cells := 0, slots := 0, locals := 0 } : Room).slots) := by
  refine MetFree.of_bodySF (plainFor_of_name pn_com_example_abeyance_abeyance_model_Utf8ReaderMalformedBytePinLaw) hisR ?_
  intro p e s m args below meth c s₁ Bd hml0 hP hK
  obtain ⟨rfl, hZ, hh⟩ := hP
  have hx := Bd.exec
  have hby := Bd.bytes
  have hml : c.maxLocals = 2 := hml0
  have hown : s.vm.findClass "com/example/abeyance/abeyance/model/Utf8ReaderMalformedBytePinLaw" = some m.cls := findClass_of_methodNamed Bd.named
  have hnm := (name_of_methodNamed Bd.named Bd.method).1
  have hZo := hZ
  have howno := hown
  have X0 : Stand p l e ({ frames := 0, cells := 0, slots := 0, locals := 0 } : Room) s m #[(.int p0)] below meth c s₁ [] 0 0 := Stand.of_body Bd
  have e0 : s₁.heap = h0 := by rw [← hh, Bd.state]; rfl
  have N0 := Fr.nil n0
  have pre0 : ∀ t, Steps p.tables e below (s₁.setTop (mkF m 0 #[.val (.int p0), .unset] [])) t → Steps p.tables e below (s₁.setTop (entryFrame m #[(.int p0)] 2)) t := fun t k => castTop (ef_rmExpect m p0 ) k
  have pre2 : ∀ t, Steps p.tables e below (s₁.setTop (mkF m 6 #[.val (.int p0), .val (.int (p0 &&& (3 : Int32)))] [(.int (2 : Int32)), (.int (p0 &&& (3 : Int32)))])) t → Steps p.tables e below (s₁.setTop (entryFrame m #[(.int p0)] 2)) t := fun t kt => pre0 t (by
    show Steps p.tables e below (s₁.setTop (mkF m 0 #[.val (.int p0), .unset] [])) _
    refine XS.iloadN X0.here hx rfl (hb hby d7_0) rfl  ?_
    show Steps p.tables e below (s₁.setTop (mkF m 1 #[.val (.int p0), .unset] [(.int p0)])) _
    refine XS.iconst X0.here hx rfl (hb hby d7_1) ?_
    show Steps p.tables e below (s₁.setTop (mkF m 2 #[.val (.int p0), .unset] [(.int (3 : Int32)), (.int p0)])) _
    refine XS.iand X0.here hx rfl (hb hby d7_2) rfl ?_
    show Steps p.tables e below (s₁.setTop (mkF m 3 #[.val (.int p0), .unset] [(.int (p0 &&& (3 : Int32)))])) _
    refine XS.istoreN X0.here hx rfl (hb hby d7_3) rfl (l' := #[.val (.int p0), .val (.int (p0 &&& (3 : Int32)))]) rfl ?_
    show Steps p.tables e below (s₁.setTop (mkF m 4 #[.val (.int p0), .val (.int (p0 &&& (3 : Int32)))] [])) _
    refine XS.iloadN X0.here hx rfl (hb hby d7_4) rfl  ?_
    show Steps p.tables e below (s₁.setTop (mkF m 5 #[.val (.int p0), .val (.int (p0 &&& (3 : Int32)))] [(.int (p0 &&& (3 : Int32)))])) _
    refine XS.iconst X0.here hx rfl (hb hby d7_5) ?_
    exact kt)
  by_cases hc6_1 : (p0 &&& (3 : Int32)) < (2 : Int32)
  · obtain ⟨fs, hr, hrun, hended, hW, hsame⟩ := X0.leave (v := some (.int (-1 : Int32))) (fun h => by rw [Bd.returns] at h; cases h)
    refine ⟨_, _, pre2 _ ?_, hrun, hended, _, _, rfl, ?_, ⟨_, rfl⟩, hW, hsame.mono (by decide) (by decide)⟩
    · show Steps p.tables e below (s₁.setTop (mkF m 6 #[.val (.int p0), .val (.int (p0 &&& (3 : Int32)))] [(.int (2 : Int32)), (.int (p0 &&& (3 : Int32)))])) _
      refine XS.icmpNo X0.here hx rfl (hb hby d7_6) rfl (tlt hc6_1).2.1 ?_
      show Steps p.tables e below (s₁.setTop (mkF m 9 #[.val (.int p0), .val (.int (p0 &&& (3 : Int32)))] [])) _
      refine XS.iconst X0.here hx rfl (hb hby d7_9) ?_
      show Steps p.tables e below (s₁.setTop (mkF m 10 #[.val (.int p0), .val (.int (p0 &&& (3 : Int32)))] [(.int (-1 : Int32))])) _
      exact retI X0 hx Bd.returns (hb hby d7_10) hr
    · show Q_rmExpect Z p0 r h0 n0 _ s₁.heap _
      rw [e0]
      exact ⟨by rw [hres]; unfold own_exp own_k; rw [if_pos hc6_1], N0, rfl⟩
  · obtain ⟨fs, hr, hrun, hended, hW, hsame⟩ := X0.leave (v := some (.int (((p0.toUInt32 >>> ((2 : Int32) &&& 31).toUInt32).toInt32) &&& (255 : Int32)))) (fun h => by rw [Bd.returns] at h; cases h)
    refine ⟨_, _, pre2 _ ?_, hrun, hended, _, _, rfl, ?_, ⟨_, rfl⟩, hW, hsame.mono (by decide) (by decide)⟩
    · show Steps p.tables e below (s₁.setTop (mkF m 6 #[.val (.int p0), .val (.int (p0 &&& (3 : Int32)))] [(.int (2 : Int32)), (.int (p0 &&& (3 : Int32)))])) _
      refine XS.icmpYes X0.here hx rfl (pc0 := 6) (pc' := 11) rfl (hb hby d7_6) rfl (flt hc6_1).2.1 (by decide) (by decide) ?_
      show Steps p.tables e below (s₁.setTop (mkF m 11 #[.val (.int p0), .val (.int (p0 &&& (3 : Int32)))] [])) _
      refine XS.iloadN X0.here hx rfl (hb hby d7_11) rfl  ?_
      show Steps p.tables e below (s₁.setTop (mkF m 12 #[.val (.int p0), .val (.int (p0 &&& (3 : Int32)))] [(.int p0)])) _
      refine XS.iconst X0.here hx rfl (hb hby d7_12) ?_
      show Steps p.tables e below (s₁.setTop (mkF m 13 #[.val (.int p0), .val (.int (p0 &&& (3 : Int32)))] [(.int (2 : Int32)), (.int p0)])) _
      refine XS.iushr X0.here hx rfl (hb hby d7_13) rfl ?_
      show Steps p.tables e below (s₁.setTop (mkF m 14 #[.val (.int p0), .val (.int (p0 &&& (3 : Int32)))] [(.int ((p0.toUInt32 >>> ((2 : Int32) &&& 31).toUInt32).toInt32))])) _
      refine XS.sipush X0.here hx rfl (hb hby d7_14) ?_
      show Steps p.tables e below (s₁.setTop (mkF m 17 #[.val (.int p0), .val (.int (p0 &&& (3 : Int32)))] [(.int (255 : Int32)), (.int ((p0.toUInt32 >>> ((2 : Int32) &&& 31).toUInt32).toInt32))])) _
      refine XS.iand X0.here hx rfl (hb hby d7_17) rfl ?_
      show Steps p.tables e below (s₁.setTop (mkF m 18 #[.val (.int p0), .val (.int (p0 &&& (3 : Int32)))] [(.int (((p0.toUInt32 >>> ((2 : Int32) &&& 31).toUInt32).toInt32) &&& (255 : Int32)))])) _
      exact retI X0 hx Bd.returns (hb hby d7_18) hr
    · show Q_rmExpect Z p0 r h0 n0 _ s₁.heap _
      rw [e0]
      exact ⟨by rw [hres]; unfold own_exp own_k; rw [if_neg hc6_1], N0, rfl⟩
theorem ef_rmPutL0 (m : MethodId) (p0 : Addr) (p2 : Int32) : entryFrame m #[(.ref p0), (.int (0 : Int32)), (.int p2)] 6 = mkF m 0 #[.val (.ref p0), .val (.int (0 : Int32)), .val (.int p2), .unset, .unset, .unset] [] := by first | (simp [entryFrame, mkF, argsToLocals, Value.category]; done) | rfl
theorem d5_0 : decode method_3_code 0 = .ok (.iload_n 2, 1) := by decide +kernel
theorem d5_1 : decode method_3_code 1 = .ok (.iconst 3, 1) := by decide +kernel
theorem d5_2 : decode method_3_code 2 = .ok (.iand, 1) := by decide +kernel
theorem d5_3 : decode method_3_code 3 = .ok (.istore_n 3, 1) := by decide +kernel
theorem d5_4 : decode method_3_code 4 = .ok (.ldc 9, 2) := by decide +kernel
theorem d5_6 : decode method_3_code 6 = .ok (.iload_n 2, 1) := by decide +kernel
theorem d5_7 : decode method_3_code 7 = .ok (.iconst 2, 1) := by decide +kernel
theorem d5_8 : decode method_3_code 8 = .ok (.iushr, 1) := by decide +kernel
theorem d5_9 : decode method_3_code 9 = .ok (.sipush 255, 3) := by decide +kernel
theorem d5_12 : decode method_3_code 12 = .ok (.iand, 1) := by decide +kernel
theorem d5_13 : decode method_3_code 13 = .ok (.iadd, 1) := by decide +kernel
theorem d5_14 : decode method_3_code 14 = .ok (.i2c, 1) := by decide +kernel
theorem d5_15 : decode method_3_code 15 = .ok (.istore 4, 2) := by decide +kernel
theorem d5_17 : decode method_3_code 17 = .ok (.iload_n 2, 1) := by decide +kernel
theorem d5_18 : decode method_3_code 18 = .ok (.bipush 10, 2) := by decide +kernel
theorem d5_20 : decode method_3_code 20 = .ok (.iushr, 1) := by decide +kernel
theorem d5_21 : decode method_3_code 21 = .ok (.ldc 10, 2) := by decide +kernel
theorem d5_23 : decode method_3_code 23 = .ok (.iand, 1) := by decide +kernel
theorem d5_24 : decode method_3_code 24 = .ok (.invokestatic 11, 3) := by decide +kernel
theorem d5_27 : decode method_3_code 27 = .ok (.istore 5, 2) := by decide +kernel
theorem d5_29 : decode method_3_code 29 = .ok (.iload_n 3, 1) := by decide +kernel
theorem d5_30 : decode method_3_code 30 = .ok (.ifCond .ne 18, 3) := by decide +kernel
theorem d5_33 : decode method_3_code 33 = .ok (.aload_n 0, 1) := by decide +kernel
theorem d5_34 : decode method_3_code 34 = .ok (.iload_n 1, 1) := by decide +kernel
theorem d5_35 : decode method_3_code 35 = .ok (.iload 5, 2) := by decide +kernel
theorem d5_37 : decode method_3_code 37 = .ok (.castore, 1) := by decide +kernel
theorem d5_38 : decode method_3_code 38 = .ok (.aload_n 0, 1) := by decide +kernel
theorem d5_39 : decode method_3_code 39 = .ok (.iload_n 1, 1) := by decide +kernel
theorem d5_40 : decode method_3_code 40 = .ok (.iconst 1, 1) := by decide +kernel
theorem d5_41 : decode method_3_code 41 = .ok (.iadd, 1) := by decide +kernel
theorem d5_42 : decode method_3_code 42 = .ok (.iload 5, 2) := by decide +kernel
theorem d5_44 : decode method_3_code 44 = .ok (.castore, 1) := by decide +kernel
theorem d5_45 : decode method_3_code 45 = .ok (.goto 75, 3) := by decide +kernel
theorem d5_120 : decode method_3_code 120 = .ok (.return_, 1) := by decide +kernel
theorem d5_48 : decode method_3_code 48 = .ok (.iload_n 3, 1) := by decide +kernel
theorem d5_49 : decode method_3_code 49 = .ok (.iconst 1, 1) := by decide +kernel
theorem d5_50 : decode method_3_code 50 = .ok (.if_icmp .ne 38, 3) := by decide +kernel
theorem d5_53 : decode method_3_code 53 = .ok (.aload_n 0, 1) := by decide +kernel
theorem d5_54 : decode method_3_code 54 = .ok (.iload_n 1, 1) := by decide +kernel
theorem d5_55 : decode method_3_code 55 = .ok (.ldc 7, 2) := by decide +kernel
theorem d5_57 : decode method_3_code 57 = .ok (.iload_n 2, 1) := by decide +kernel
theorem d5_58 : decode method_3_code 58 = .ok (.bipush 10, 2) := by decide +kernel
theorem d5_60 : decode method_3_code 60 = .ok (.iushr, 1) := by decide +kernel
theorem d5_61 : decode method_3_code 61 = .ok (.sipush 1023, 3) := by decide +kernel
theorem d5_64 : decode method_3_code 64 = .ok (.iand, 1) := by decide +kernel
theorem d5_65 : decode method_3_code 65 = .ok (.iadd, 1) := by decide +kernel
theorem d5_66 : decode method_3_code 66 = .ok (.i2c, 1) := by decide +kernel
theorem d5_67 : decode method_3_code 67 = .ok (.castore, 1) := by decide +kernel
theorem d5_68 : decode method_3_code 68 = .ok (.aload_n 0, 1) := by decide +kernel
theorem d5_69 : decode method_3_code 69 = .ok (.iload_n 1, 1) := by decide +kernel
theorem d5_70 : decode method_3_code 70 = .ok (.iconst 1, 1) := by decide +kernel
theorem d5_71 : decode method_3_code 71 = .ok (.iadd, 1) := by decide +kernel
theorem d5_72 : decode method_3_code 72 = .ok (.ldc 9, 2) := by decide +kernel
theorem d5_74 : decode method_3_code 74 = .ok (.iload_n 2, 1) := by decide +kernel
theorem d5_75 : decode method_3_code 75 = .ok (.bipush 20, 2) := by decide +kernel
theorem d5_77 : decode method_3_code 77 = .ok (.iushr, 1) := by decide +kernel
theorem d5_78 : decode method_3_code 78 = .ok (.sipush 1023, 3) := by decide +kernel
theorem d5_81 : decode method_3_code 81 = .ok (.iand, 1) := by decide +kernel
theorem d5_82 : decode method_3_code 82 = .ok (.iadd, 1) := by decide +kernel
theorem d5_83 : decode method_3_code 83 = .ok (.i2c, 1) := by decide +kernel
theorem d5_84 : decode method_3_code 84 = .ok (.castore, 1) := by decide +kernel
theorem d5_85 : decode method_3_code 85 = .ok (.goto 35, 3) := by decide +kernel
theorem d5_88 : decode method_3_code 88 = .ok (.iload_n 3, 1) := by decide +kernel
theorem d5_89 : decode method_3_code 89 = .ok (.iconst 2, 1) := by decide +kernel
theorem d5_90 : decode method_3_code 90 = .ok (.if_icmp .ne 18, 3) := by decide +kernel
theorem d5_93 : decode method_3_code 93 = .ok (.aload_n 0, 1) := by decide +kernel
theorem d5_94 : decode method_3_code 94 = .ok (.iload_n 1, 1) := by decide +kernel
theorem d5_95 : decode method_3_code 95 = .ok (.iload 4, 2) := by decide +kernel
theorem d5_97 : decode method_3_code 97 = .ok (.castore, 1) := by decide +kernel
theorem d5_98 : decode method_3_code 98 = .ok (.aload_n 0, 1) := by decide +kernel
theorem d5_99 : decode method_3_code 99 = .ok (.iload_n 1, 1) := by decide +kernel
theorem d5_100 : decode method_3_code 100 = .ok (.iconst 1, 1) := by decide +kernel
theorem d5_101 : decode method_3_code 101 = .ok (.iadd, 1) := by decide +kernel
theorem d5_102 : decode method_3_code 102 = .ok (.iload 5, 2) := by decide +kernel
theorem d5_104 : decode method_3_code 104 = .ok (.castore, 1) := by decide +kernel
theorem d5_105 : decode method_3_code 105 = .ok (.goto 15, 3) := by decide +kernel
theorem d5_108 : decode method_3_code 108 = .ok (.aload_n 0, 1) := by decide +kernel
theorem d5_109 : decode method_3_code 109 = .ok (.iload_n 1, 1) := by decide +kernel
theorem d5_110 : decode method_3_code 110 = .ok (.iload 5, 2) := by decide +kernel
theorem d5_112 : decode method_3_code 112 = .ok (.castore, 1) := by decide +kernel
theorem d5_113 : decode method_3_code 113 = .ok (.aload_n 0, 1) := by decide +kernel
theorem d5_114 : decode method_3_code 114 = .ok (.iload_n 1, 1) := by decide +kernel
theorem d5_115 : decode method_3_code 115 = .ok (.iconst 1, 1) := by decide +kernel
theorem d5_116 : decode method_3_code 116 = .ok (.iadd, 1) := by decide +kernel
theorem d5_117 : decode method_3_code 117 = .ok (.iload 4, 2) := by decide +kernel
theorem d5_119 : decode method_3_code 119 = .ok (.castore, 1) := by decide +kernel
def Q_rmPutL0 (Z : State) (p0 : Addr) (p2 : Int32) (k : ClassId) (ez0 : Int32) (ez1 : Int32) (ez2 : Int32) (ez3 : Int32) (ez4 : Int32) (ez5 : Int32) (h0 : Heap) (n0 : Nat) (v : Option Value) (h : Heap) (L : List Loc) : Prop := v = none ∧ Fr n0 L ∧ Keep h0 h [p0] ∧ Arv Z h p0 k .char (6 : Int32) [(.int (own_pa p2)), (.int (own_pb p2)), (.int ez2), (.int ez3), (.int ez4), (.int ez5)] (.int (0 : Int32))
set_option maxRecDepth 65536 in
set_option maxHeartbeats 40000000 in
theorem rmPutL0 (l : Launch) (Z : State) (a0 : Array Value) (hw : ∀ d ∈ tables_1, d.before a0 Z = true) (ws : List Jvm.Cond) (p0 : Addr) (p2 : Int32) (k : ClassId) (ez0 : Int32) (ez1 : Int32) (ez2 : Int32) (ez3 : Int32) (ez4 : Int32) (ez5 : Int32) (h0 : Heap) (n0 : Nat) (Z0 : n0 ≤ h0.size) (A0 : Arv Z h0 p0 k .char (6 : Int32) [(.int ez0), (.int ez1), (.int ez2), (.int ez3), (.int ez4), (.int ez5)] (.int (0 : Int32))) (g0_ : n0 ≤ p0) :
    MetFree l (⟨"com/example/abeyance/abeyance/model/Utf8ReaderMalformedBytePinLaw", "put", "([CII)V"⟩ : MethodName) (head1 (Jvm.Cond.code (⟨"com/example/abeyance/abeyance/model/Utf8ReaderMalformedBytePinLaw", "put", "([CII)V"⟩ : MethodName) method_3_code 6 none :: ws) ({ frames := 1, cells := 0, slots := 0, locals := 12 } : Room)) (fun a U => a = #[(.ref p0), (.int (0 : Int32)), (.int p2)] ∧ Z.Warmed39 U.vm ∧ U.heap = h0) (fun _ _ _ _ _ => True) (fun _ U o U' => ∃ v L, o = .returned v ∧ Q_rmPutL0 Z p0 p2 k ez0 ez1 ez2 ez3 ez4 ez5 h0 n0 v U'.heap L ∧ FrameEnd U o U' L ({ frames := 1, cells := 0, slots := 0, locals := 12 } : Room).cells ({ frames := 1, cells := 0, slots := 0, locals := 12 } : Room).slots) := by
  refine MetFree.of_bodySF (plainFor_of_name pn_com_example_abeyance_abeyance_model_Utf8ReaderMalformedBytePinLaw) hisR ?_
  intro p e s m args below meth c s₁ Bd hml0 hP hK
  obtain ⟨rfl, hZ, hh⟩ := hP
  have hx := Bd.exec
  have hby := Bd.bytes
  have hml : c.maxLocals = 6 := hml0
  have hown : s.vm.findClass "com/example/abeyance/abeyance/model/Utf8ReaderMalformedBytePinLaw" = some m.cls := findClass_of_methodNamed Bd.named
  have hnm := (name_of_methodNamed Bd.named Bd.method).1
  have hZo := hZ
  have howno := hown
  have X0 : Stand p l e ({ frames := 1, cells := 0, slots := 0, locals := 12 } : Room) s m #[(.ref p0), (.int (0 : Int32)), (.int p2)] below meth c s₁ [] 0 0 := Stand.of_body Bd
  have e0 : s₁.heap = h0 := by rw [← hh, Bd.state]; rfl
  have N0 := Fr.nil n0
  have pre0 : ∀ t, Steps p.tables e below (s₁.setTop (mkF m 0 #[.val (.ref p0), .val (.int (0 : Int32)), .val (.int p2), .unset, .unset, .unset] [])) t → Steps p.tables e below (s₁.setTop (entryFrame m #[(.ref p0), (.int (0 : Int32)), (.int p2)] 6)) t := fun t k => castTop (ef_rmPutL0 m p0 p2 ) k
  obtain ⟨_, _, ⟨T1, L1, k1, n1⟩, -, X1, ⟨Lc1, hQ1, l1, y1, z1⟩, st1⟩ := Jvm.LawKit.callS X0 hx (y := (⟨"com/example/abeyance/abeyance/model/Utf8ReaderMalformedBytePinLaw", "plain", "(I)C"⟩ : MethodName)) hown (mvT hZ (hw _ (List.mem_of_getElem? (i := 39) rfl))) (mvT hZ (hw _ (List.mem_of_getElem? (i := 40) rfl))) (mvT hZ (hw _ (List.mem_of_getElem? (i := 35) rfl))) (mvT hZ (hw _ (List.mem_of_getElem? (i := 41) rfl))) (by decide) (backOf (W := 0) (rmPlain l Z a0 hw [] (((p2.toUInt32 >>> ((10 : Int32) &&& 31).toUInt32).toInt32) &&& (65535 : Int32)) (own_x p2) h0 n0 Z0 rfl) hZ (hw _ (List.mem_of_getElem? (i := 41) rfl)) (hw _ (List.mem_of_getElem? (i := 35) rfl)) (by decide) (by decide)) (g := (mkF m 24 #[.val (.ref p0), .val (.int (0 : Int32)), .val (.int p2), .val (.int (p2 &&& (3 : Int32))), .val (.int (((56320 : Int32) + (((p2.toUInt32 >>> ((2 : Int32) &&& 31).toUInt32).toInt32) &&& (255 : Int32))).toUInt32.toUInt16.toUInt32.toInt32)), .unset] [(.int (((p2.toUInt32 >>> ((10 : Int32) &&& 31).toUInt32).toInt32) &&& (65535 : Int32)))])) rfl (by rw [hml]; rfl) (argsL := [(.int (((p2.toUInt32 >>> ((10 : Int32) &&& 31).toUInt32).toInt32) &&& (65535 : Int32)))]) (rest := []) (lenOf pd__I_C rfl) rfl (by show 2 * 0 + _ ≤ _; exact Nat.le_of_eq rfl) (hb hby d5_24) (fun _ _ => ⟨rfl, e0, (by decide : 0 + 0 ≤ _), (by decide : 0 + 0 ≤ _)⟩)
  dsimp only [Pt.U, Pt.locs, Pt.cells, Pt.slots] at X1 l1 y1 z1 st1 hQ1
  subst l1 y1 z1
  obtain ⟨rfl, Nq1, e1⟩ := hQ1
  have N1 := Fr.app N0 Nq1
  have pre3 : ∀ t, Steps p.tables e below (T1.setTop (mkF m 30 #[.val (.ref p0), .val (.int (0 : Int32)), .val (.int p2), .val (.int (p2 &&& (3 : Int32))), .val (.int (((56320 : Int32) + (((p2.toUInt32 >>> ((2 : Int32) &&& 31).toUInt32).toInt32) &&& (255 : Int32))).toUInt32.toUInt16.toUInt32.toInt32)), .val (.int (own_x p2))] [(.int (p2 &&& (3 : Int32)))])) t → Steps p.tables e below (s₁.setTop (entryFrame m #[(.ref p0), (.int (0 : Int32)), (.int p2)] 6)) t := fun t kt => pre0 t (by
    show Steps p.tables e below (s₁.setTop (mkF m 0 #[.val (.ref p0), .val (.int (0 : Int32)), .val (.int p2), .unset, .unset, .unset] [])) _
    refine XS.iloadN X0.here hx rfl (hb hby d5_0) rfl  ?_
    show Steps p.tables e below (s₁.setTop (mkF m 1 #[.val (.ref p0), .val (.int (0 : Int32)), .val (.int p2), .unset, .unset, .unset] [(.int p2)])) _
    refine XS.iconst X0.here hx rfl (hb hby d5_1) ?_
    show Steps p.tables e below (s₁.setTop (mkF m 2 #[.val (.ref p0), .val (.int (0 : Int32)), .val (.int p2), .unset, .unset, .unset] [(.int (3 : Int32)), (.int p2)])) _
    refine XS.iand X0.here hx rfl (hb hby d5_2) rfl ?_
    show Steps p.tables e below (s₁.setTop (mkF m 3 #[.val (.ref p0), .val (.int (0 : Int32)), .val (.int p2), .unset, .unset, .unset] [(.int (p2 &&& (3 : Int32)))])) _
    refine XS.istoreN X0.here hx rfl (hb hby d5_3) rfl (l' := #[.val (.ref p0), .val (.int (0 : Int32)), .val (.int p2), .val (.int (p2 &&& (3 : Int32))), .unset, .unset]) rfl ?_
    show Steps p.tables e below (s₁.setTop (mkF m 4 #[.val (.ref p0), .val (.int (0 : Int32)), .val (.int p2), .val (.int (p2 &&& (3 : Int32))), .unset, .unset] [])) _
    refine X0.ldcInt hx hown (mvT hZ (hw _ (List.mem_of_getElem? (i := 37) rfl))) (g := (mkF m 4 #[.val (.ref p0), .val (.int (0 : Int32)), .val (.int p2), .val (.int (p2 &&& (3 : Int32))), .unset, .unset] [])) rfl (hb hby d5_4) _ ?_
    show Steps p.tables e below (s₁.setTop (mkF m 6 #[.val (.ref p0), .val (.int (0 : Int32)), .val (.int p2), .val (.int (p2 &&& (3 : Int32))), .unset, .unset] [(.int (56320 : Int32))])) _
    refine XS.iloadN X0.here hx rfl (hb hby d5_6) rfl  ?_
    show Steps p.tables e below (s₁.setTop (mkF m 7 #[.val (.ref p0), .val (.int (0 : Int32)), .val (.int p2), .val (.int (p2 &&& (3 : Int32))), .unset, .unset] [(.int p2), (.int (56320 : Int32))])) _
    refine XS.iconst X0.here hx rfl (hb hby d5_7) ?_
    show Steps p.tables e below (s₁.setTop (mkF m 8 #[.val (.ref p0), .val (.int (0 : Int32)), .val (.int p2), .val (.int (p2 &&& (3 : Int32))), .unset, .unset] [(.int (2 : Int32)), (.int p2), (.int (56320 : Int32))])) _
    refine XS.iushr X0.here hx rfl (hb hby d5_8) rfl ?_
    show Steps p.tables e below (s₁.setTop (mkF m 9 #[.val (.ref p0), .val (.int (0 : Int32)), .val (.int p2), .val (.int (p2 &&& (3 : Int32))), .unset, .unset] [(.int ((p2.toUInt32 >>> ((2 : Int32) &&& 31).toUInt32).toInt32)), (.int (56320 : Int32))])) _
    refine XS.sipush X0.here hx rfl (hb hby d5_9) ?_
    show Steps p.tables e below (s₁.setTop (mkF m 12 #[.val (.ref p0), .val (.int (0 : Int32)), .val (.int p2), .val (.int (p2 &&& (3 : Int32))), .unset, .unset] [(.int (255 : Int32)), (.int ((p2.toUInt32 >>> ((2 : Int32) &&& 31).toUInt32).toInt32)), (.int (56320 : Int32))])) _
    refine XS.iand X0.here hx rfl (hb hby d5_12) rfl ?_
    show Steps p.tables e below (s₁.setTop (mkF m 13 #[.val (.ref p0), .val (.int (0 : Int32)), .val (.int p2), .val (.int (p2 &&& (3 : Int32))), .unset, .unset] [(.int (((p2.toUInt32 >>> ((2 : Int32) &&& 31).toUInt32).toInt32) &&& (255 : Int32))), (.int (56320 : Int32))])) _
    refine XS.iadd X0.here hx rfl (hb hby d5_13) rfl ?_
    show Steps p.tables e below (s₁.setTop (mkF m 14 #[.val (.ref p0), .val (.int (0 : Int32)), .val (.int p2), .val (.int (p2 &&& (3 : Int32))), .unset, .unset] [(.int ((56320 : Int32) + (((p2.toUInt32 >>> ((2 : Int32) &&& 31).toUInt32).toInt32) &&& (255 : Int32))))])) _
    refine XS.i2c X0.here hx rfl (hb hby d5_14) rfl ?_
    show Steps p.tables e below (s₁.setTop (mkF m 15 #[.val (.ref p0), .val (.int (0 : Int32)), .val (.int p2), .val (.int (p2 &&& (3 : Int32))), .unset, .unset] [(.int (((56320 : Int32) + (((p2.toUInt32 >>> ((2 : Int32) &&& 31).toUInt32).toInt32) &&& (255 : Int32))).toUInt32.toUInt16.toUInt32.toInt32))])) _
    refine XS.istore X0.here hx rfl (hb hby d5_15) rfl (l' := #[.val (.ref p0), .val (.int (0 : Int32)), .val (.int p2), .val (.int (p2 &&& (3 : Int32))), .val (.int (((56320 : Int32) + (((p2.toUInt32 >>> ((2 : Int32) &&& 31).toUInt32).toInt32) &&& (255 : Int32))).toUInt32.toUInt16.toUInt32.toInt32)), .unset]) rfl ?_
    show Steps p.tables e below (s₁.setTop (mkF m 17 #[.val (.ref p0), .val (.int (0 : Int32)), .val (.int p2), .val (.int (p2 &&& (3 : Int32))), .val (.int (((56320 : Int32) + (((p2.toUInt32 >>> ((2 : Int32) &&& 31).toUInt32).toInt32) &&& (255 : Int32))).toUInt32.toUInt16.toUInt32.toInt32)), .unset] [])) _
    refine XS.iloadN X0.here hx rfl (hb hby d5_17) rfl  ?_
    show Steps p.tables e below (s₁.setTop (mkF m 18 #[.val (.ref p0), .val (.int (0 : Int32)), .val (.int p2), .val (.int (p2 &&& (3 : Int32))), .val (.int (((56320 : Int32) + (((p2.toUInt32 >>> ((2 : Int32) &&& 31).toUInt32).toInt32) &&& (255 : Int32))).toUInt32.toUInt16.toUInt32.toInt32)), .unset] [(.int p2)])) _
    refine XS.bipush X0.here hx rfl (hb hby d5_18) ?_
    show Steps p.tables e below (s₁.setTop (mkF m 20 #[.val (.ref p0), .val (.int (0 : Int32)), .val (.int p2), .val (.int (p2 &&& (3 : Int32))), .val (.int (((56320 : Int32) + (((p2.toUInt32 >>> ((2 : Int32) &&& 31).toUInt32).toInt32) &&& (255 : Int32))).toUInt32.toUInt16.toUInt32.toInt32)), .unset] [(.int (10 : Int32)), (.int p2)])) _
    refine XS.iushr X0.here hx rfl (hb hby d5_20) rfl ?_
    show Steps p.tables e below (s₁.setTop (mkF m 21 #[.val (.ref p0), .val (.int (0 : Int32)), .val (.int p2), .val (.int (p2 &&& (3 : Int32))), .val (.int (((56320 : Int32) + (((p2.toUInt32 >>> ((2 : Int32) &&& 31).toUInt32).toInt32) &&& (255 : Int32))).toUInt32.toUInt16.toUInt32.toInt32)), .unset] [(.int ((p2.toUInt32 >>> ((10 : Int32) &&& 31).toUInt32).toInt32))])) _
    refine X0.ldcInt hx hown (mvT hZ (hw _ (List.mem_of_getElem? (i := 38) rfl))) (g := (mkF m 21 #[.val (.ref p0), .val (.int (0 : Int32)), .val (.int p2), .val (.int (p2 &&& (3 : Int32))), .val (.int (((56320 : Int32) + (((p2.toUInt32 >>> ((2 : Int32) &&& 31).toUInt32).toInt32) &&& (255 : Int32))).toUInt32.toUInt16.toUInt32.toInt32)), .unset] [(.int ((p2.toUInt32 >>> ((10 : Int32) &&& 31).toUInt32).toInt32))])) rfl (hb hby d5_21) _ ?_
    show Steps p.tables e below (s₁.setTop (mkF m 23 #[.val (.ref p0), .val (.int (0 : Int32)), .val (.int p2), .val (.int (p2 &&& (3 : Int32))), .val (.int (((56320 : Int32) + (((p2.toUInt32 >>> ((2 : Int32) &&& 31).toUInt32).toInt32) &&& (255 : Int32))).toUInt32.toUInt16.toUInt32.toInt32)), .unset] [(.int (65535 : Int32)), (.int ((p2.toUInt32 >>> ((10 : Int32) &&& 31).toUInt32).toInt32))])) _
    refine XS.iand X0.here hx rfl (hb hby d5_23) rfl ?_
    show Steps p.tables e below (s₁.setTop (mkF m 24 #[.val (.ref p0), .val (.int (0 : Int32)), .val (.int p2), .val (.int (p2 &&& (3 : Int32))), .val (.int (((56320 : Int32) + (((p2.toUInt32 >>> ((2 : Int32) &&& 31).toUInt32).toInt32) &&& (255 : Int32))).toUInt32.toUInt16.toUInt32.toInt32)), .unset] [(.int (((p2.toUInt32 >>> ((10 : Int32) &&& 31).toUInt32).toInt32) &&& (65535 : Int32)))])) _
    refine st1 _ ?_
    show Steps p.tables e below (T1.setTop (mkF m 27 #[.val (.ref p0), .val (.int (0 : Int32)), .val (.int p2), .val (.int (p2 &&& (3 : Int32))), .val (.int (((56320 : Int32) + (((p2.toUInt32 >>> ((2 : Int32) &&& 31).toUInt32).toInt32) &&& (255 : Int32))).toUInt32.toUInt16.toUInt32.toInt32)), .unset] [(.int (own_x p2))])) _
    refine XS.istore X1.here hx rfl (hb hby d5_27) rfl (l' := #[.val (.ref p0), .val (.int (0 : Int32)), .val (.int p2), .val (.int (p2 &&& (3 : Int32))), .val (.int (((56320 : Int32) + (((p2.toUInt32 >>> ((2 : Int32) &&& 31).toUInt32).toInt32) &&& (255 : Int32))).toUInt32.toUInt16.toUInt32.toInt32)), .val (.int (own_x p2))]) rfl ?_
    show Steps p.tables e below (T1.setTop (mkF m 29 #[.val (.ref p0), .val (.int (0 : Int32)), .val (.int p2), .val (.int (p2 &&& (3 : Int32))), .val (.int (((56320 : Int32) + (((p2.toUInt32 >>> ((2 : Int32) &&& 31).toUInt32).toInt32) &&& (255 : Int32))).toUInt32.toUInt16.toUInt32.toInt32)), .val (.int (own_x p2))] [])) _
    refine XS.iloadN X1.here hx rfl (hb hby d5_29) rfl  ?_
    exact kt)
  by_cases hc30_2 : (p2 &&& (3 : Int32)) = (0 : Int32)
  · obtain ⟨cl4, Ar4, q4, S4, N4, H4, G4⟩ := id A0
    have hin4 : ¬ ((0 : Int32) < 0 ∨ cl4.slots.size ≤ ((0 : Int32)).toNatClampNeg) := inb_of S4 ⟨by decide, by decide⟩
    obtain ⟨T5, h5, X5, e5, W5, st5⟩ := stC X1 hx hZ e1 Ar4 (j := (0 : Int32)) hin4 (g := (mkF m 37 #[.val (.ref p0), .val (.int (0 : Int32)), .val (.int p2), .val (.int (p2 &&& (3 : Int32))), .val (.int (((56320 : Int32) + (((p2.toUInt32 >>> ((2 : Int32) &&& 31).toUInt32).toInt32) &&& (255 : Int32))).toUInt32.toUInt16.toUInt32.toInt32)), .val (.int (own_x p2))] [(.int (own_x p2)), (.int (0 : Int32)), (.ref p0)])) rfl rfl (hb hby d5_37)
    have N5 := Fr.snoc X5 N1 g0_
    have K5 := (Keep.refl h0 [p0]).wr W5 (Or.inl (List.mem_of_getElem? (i := 0) rfl))
    have V5 : Arv Z h5 p0 k .char (6 : Int32) [(.int (nar .char (own_x p2))), (.int ez1), (.int ez2), (.int ez3), (.int ez4), (.int ez5)] (.int (0 : Int32)) := Arv.set Ar4 q4 S4 N4 H4 G4 (fits_nar_char _) W5 0 rfl (Nat.le_of_ble_eq_true rfl)
    obtain ⟨cl6, Ar6, q6, S6, N6, H6, G6⟩ := id V5
    have hin6 : ¬ ((1 : Int32) < 0 ∨ cl6.slots.size ≤ ((1 : Int32)).toNatClampNeg) := inb_of S6 ⟨by decide, by decide⟩
    obtain ⟨T7, h7, X7, e7, W7, st7⟩ := stC X5 hx hZ e5 Ar6 (j := (1 : Int32)) hin6 (g := (mkF m 44 #[.val (.ref p0), .val (.int (0 : Int32)), .val (.int p2), .val (.int (p2 &&& (3 : Int32))), .val (.int (((56320 : Int32) + (((p2.toUInt32 >>> ((2 : Int32) &&& 31).toUInt32).toInt32) &&& (255 : Int32))).toUInt32.toUInt16.toUInt32.toInt32)), .val (.int (own_x p2))] [(.int (own_x p2)), (.int (1 : Int32)), (.ref p0)])) rfl rfl (hb hby d5_44)
    have N7 := Fr.snoc X7 N5 g0_
    have K7 := K5.wr W7 (Or.inl (List.mem_of_getElem? (i := 0) rfl))
    have V7 : Arv Z h7 p0 k .char (6 : Int32) [(.int (nar .char (own_x p2))), (.int (nar .char (own_x p2))), (.int ez2), (.int ez3), (.int ez4), (.int ez5)] (.int (0 : Int32)) := Arv.set Ar6 q6 S6 N6 H6 G6 (fits_nar_char _) W7 1 rfl (Nat.le_of_ble_eq_true rfl)
    obtain ⟨fs, hr, hrun, hended, hW, hsame⟩ := X7.leave (v := none) (fun _ => rfl)
    refine ⟨_, _, pre3 _ ?_, hrun, hended, _, _, rfl, ?_, ⟨_, rfl⟩, hW, hsame.mono (by decide) (by decide)⟩
    · show Steps p.tables e below (T1.setTop (mkF m 30 #[.val (.ref p0), .val (.int (0 : Int32)), .val (.int p2), .val (.int (p2 &&& (3 : Int32))), .val (.int (((56320 : Int32) + (((p2.toUInt32 >>> ((2 : Int32) &&& 31).toUInt32).toInt32) &&& (255 : Int32))).toUInt32.toUInt16.toUInt32.toInt32)), .val (.int (own_x p2))] [(.int (p2 &&& (3 : Int32)))])) _
      refine XS.ifNo X1.here hx rfl (hb hby d5_30) rfl ((if0 _ _).trans (teq hc30_2).2) ?_
      show Steps p.tables e below (T1.setTop (mkF m 33 #[.val (.ref p0), .val (.int (0 : Int32)), .val (.int p2), .val (.int (p2 &&& (3 : Int32))), .val (.int (((56320 : Int32) + (((p2.toUInt32 >>> ((2 : Int32) &&& 31).toUInt32).toInt32) &&& (255 : Int32))).toUInt32.toUInt16.toUInt32.toInt32)), .val (.int (own_x p2))] [])) _
      refine XS.aloadN X1.here hx rfl (hb hby d5_33) rfl rfl ?_
      show Steps p.tables e below (T1.setTop (mkF m 34 #[.val (.ref p0), .val (.int (0 : Int32)), .val (.int p2), .val (.int (p2 &&& (3 : Int32))), .val (.int (((56320 : Int32) + (((p2.toUInt32 >>> ((2 : Int32) &&& 31).toUInt32).toInt32) &&& (255 : Int32))).toUInt32.toUInt16.toUInt32.toInt32)), .val (.int (own_x p2))] [(.ref p0)])) _
      refine XS.iloadN X1.here hx rfl (hb hby d5_34) rfl  ?_
      show Steps p.tables e below (T1.setTop (mkF m 35 #[.val (.ref p0), .val (.int (0 : Int32)), .val (.int p2), .val (.int (p2 &&& (3 : Int32))), .val (.int (((56320 : Int32) + (((p2.toUInt32 >>> ((2 : Int32) &&& 31).toUInt32).toInt32) &&& (255 : Int32))).toUInt32.toUInt16.toUInt32.toInt32)), .val (.int (own_x p2))] [(.int (0 : Int32)), (.ref p0)])) _
      refine XS.iload X1.here hx rfl (hb hby d5_35) rfl  ?_
      show Steps p.tables e below (T1.setTop (mkF m 37 #[.val (.ref p0), .val (.int (0 : Int32)), .val (.int p2), .val (.int (p2 &&& (3 : Int32))), .val (.int (((56320 : Int32) + (((p2.toUInt32 >>> ((2 : Int32) &&& 31).toUInt32).toInt32) &&& (255 : Int32))).toUInt32.toUInt16.toUInt32.toInt32)), .val (.int (own_x p2))] [(.int (own_x p2)), (.int (0 : Int32)), (.ref p0)])) _
      refine st5 _ ?_
      show Steps p.tables e below (T5.setTop (mkF m 38 #[.val (.ref p0), .val (.int (0 : Int32)), .val (.int p2), .val (.int (p2 &&& (3 : Int32))), .val (.int (((56320 : Int32) + (((p2.toUInt32 >>> ((2 : Int32) &&& 31).toUInt32).toInt32) &&& (255 : Int32))).toUInt32.toUInt16.toUInt32.toInt32)), .val (.int (own_x p2))] [])) _
      refine XS.aloadN X5.here hx rfl (hb hby d5_38) rfl rfl ?_
      show Steps p.tables e below (T5.setTop (mkF m 39 #[.val (.ref p0), .val (.int (0 : Int32)), .val (.int p2), .val (.int (p2 &&& (3 : Int32))), .val (.int (((56320 : Int32) + (((p2.toUInt32 >>> ((2 : Int32) &&& 31).toUInt32).toInt32) &&& (255 : Int32))).toUInt32.toUInt16.toUInt32.toInt32)), .val (.int (own_x p2))] [(.ref p0)])) _
      refine XS.iloadN X5.here hx rfl (hb hby d5_39) rfl  ?_
      show Steps p.tables e below (T5.setTop (mkF m 40 #[.val (.ref p0), .val (.int (0 : Int32)), .val (.int p2), .val (.int (p2 &&& (3 : Int32))), .val (.int (((56320 : Int32) + (((p2.toUInt32 >>> ((2 : Int32) &&& 31).toUInt32).toInt32) &&& (255 : Int32))).toUInt32.toUInt16.toUInt32.toInt32)), .val (.int (own_x p2))] [(.int (0 : Int32)), (.ref p0)])) _
      refine XS.iconst X5.here hx rfl (hb hby d5_40) ?_
      show Steps p.tables e below (T5.setTop (mkF m 41 #[.val (.ref p0), .val (.int (0 : Int32)), .val (.int p2), .val (.int (p2 &&& (3 : Int32))), .val (.int (((56320 : Int32) + (((p2.toUInt32 >>> ((2 : Int32) &&& 31).toUInt32).toInt32) &&& (255 : Int32))).toUInt32.toUInt16.toUInt32.toInt32)), .val (.int (own_x p2))] [(.int (1 : Int32)), (.int (0 : Int32)), (.ref p0)])) _
      refine XS.iadd X5.here hx rfl (hb hby d5_41) rfl ?_
      show Steps p.tables e below (T5.setTop (mkF m 42 #[.val (.ref p0), .val (.int (0 : Int32)), .val (.int p2), .val (.int (p2 &&& (3 : Int32))), .val (.int (((56320 : Int32) + (((p2.toUInt32 >>> ((2 : Int32) &&& 31).toUInt32).toInt32) &&& (255 : Int32))).toUInt32.toUInt16.toUInt32.toInt32)), .val (.int (own_x p2))] [(.int (1 : Int32)), (.ref p0)])) _
      refine XS.iload X5.here hx rfl (hb hby d5_42) rfl  ?_
      show Steps p.tables e below (T5.setTop (mkF m 44 #[.val (.ref p0), .val (.int (0 : Int32)), .val (.int p2), .val (.int (p2 &&& (3 : Int32))), .val (.int (((56320 : Int32) + (((p2.toUInt32 >>> ((2 : Int32) &&& 31).toUInt32).toInt32) &&& (255 : Int32))).toUInt32.toUInt16.toUInt32.toInt32)), .val (.int (own_x p2))] [(.int (own_x p2)), (.int (1 : Int32)), (.ref p0)])) _
      refine st7 _ ?_
      show Steps p.tables e below (T7.setTop (mkF m 45 #[.val (.ref p0), .val (.int (0 : Int32)), .val (.int p2), .val (.int (p2 &&& (3 : Int32))), .val (.int (((56320 : Int32) + (((p2.toUInt32 >>> ((2 : Int32) &&& 31).toUInt32).toInt32) &&& (255 : Int32))).toUInt32.toUInt16.toUInt32.toInt32)), .val (.int (own_x p2))] [])) _
      refine XS.goto X7.here hx rfl (pc0 := 45) (pc' := 120) rfl (hb hby d5_45) (by decide) (by decide) ?_
      show Steps p.tables e below (T7.setTop (mkF m 120 #[.val (.ref p0), .val (.int (0 : Int32)), .val (.int p2), .val (.int (p2 &&& (3 : Int32))), .val (.int (((56320 : Int32) + (((p2.toUInt32 >>> ((2 : Int32) &&& 31).toUInt32).toInt32) &&& (255 : Int32))).toUInt32.toUInt16.toUInt32.toInt32)), .val (.int (own_x p2))] [])) _
      exact X7.returnOut hx Bd.returns (hb hby d5_120) hr
    · show Q_rmPutL0 Z p0 p2 k ez0 ez1 ez2 ez3 ez4 ez5 h0 n0 _ T7.heap _
      rw [e7]
      exact ⟨rfl, N7, K7, (by unfold own_pa own_pb; rw [if_pos (show own_k p2 = _ from hc30_2), if_pos (show own_k p2 = _ from hc30_2)]; exact V7)⟩
  · have pre9 : ∀ t, Steps p.tables e below (T1.setTop (mkF m 50 #[.val (.ref p0), .val (.int (0 : Int32)), .val (.int p2), .val (.int (p2 &&& (3 : Int32))), .val (.int (((56320 : Int32) + (((p2.toUInt32 >>> ((2 : Int32) &&& 31).toUInt32).toInt32) &&& (255 : Int32))).toUInt32.toUInt16.toUInt32.toInt32)), .val (.int (own_x p2))] [(.int (1 : Int32)), (.int (p2 &&& (3 : Int32)))])) t → Steps p.tables e below (s₁.setTop (entryFrame m #[(.ref p0), (.int (0 : Int32)), (.int p2)] 6)) t := fun t kt => pre3 t (by
      show Steps p.tables e below (T1.setTop (mkF m 30 #[.val (.ref p0), .val (.int (0 : Int32)), .val (.int p2), .val (.int (p2 &&& (3 : Int32))), .val (.int (((56320 : Int32) + (((p2.toUInt32 >>> ((2 : Int32) &&& 31).toUInt32).toInt32) &&& (255 : Int32))).toUInt32.toUInt16.toUInt32.toInt32)), .val (.int (own_x p2))] [(.int (p2 &&& (3 : Int32)))])) _
      refine XS.ifYes X1.here hx rfl (pc0 := 30) (pc' := 48) rfl (hb hby d5_30) rfl ((if0 _ _).trans (feq hc30_2).2) (by decide) (by decide) ?_
      show Steps p.tables e below (T1.setTop (mkF m 48 #[.val (.ref p0), .val (.int (0 : Int32)), .val (.int p2), .val (.int (p2 &&& (3 : Int32))), .val (.int (((56320 : Int32) + (((p2.toUInt32 >>> ((2 : Int32) &&& 31).toUInt32).toInt32) &&& (255 : Int32))).toUInt32.toUInt16.toUInt32.toInt32)), .val (.int (own_x p2))] [])) _
      refine XS.iloadN X1.here hx rfl (hb hby d5_48) rfl  ?_
      show Steps p.tables e below (T1.setTop (mkF m 49 #[.val (.ref p0), .val (.int (0 : Int32)), .val (.int p2), .val (.int (p2 &&& (3 : Int32))), .val (.int (((56320 : Int32) + (((p2.toUInt32 >>> ((2 : Int32) &&& 31).toUInt32).toInt32) &&& (255 : Int32))).toUInt32.toUInt16.toUInt32.toInt32)), .val (.int (own_x p2))] [(.int (p2 &&& (3 : Int32)))])) _
      refine XS.iconst X1.here hx rfl (hb hby d5_49) ?_
      exact kt)
    by_cases hc50_8 : (p2 &&& (3 : Int32)) = (1 : Int32)
    · obtain ⟨cl10, Ar10, q10, S10, N10, H10, G10⟩ := id A0
      have hin10 : ¬ ((0 : Int32) < 0 ∨ cl10.slots.size ≤ ((0 : Int32)).toNatClampNeg) := inb_of S10 ⟨by decide, by decide⟩
      obtain ⟨T11, h11, X11, e11, W11, st11⟩ := stC X1 hx hZ e1 Ar10 (j := (0 : Int32)) hin10 (g := (mkF m 67 #[.val (.ref p0), .val (.int (0 : Int32)), .val (.int p2), .val (.int (p2 &&& (3 : Int32))), .val (.int (((56320 : Int32) + (((p2.toUInt32 >>> ((2 : Int32) &&& 31).toUInt32).toInt32) &&& (255 : Int32))).toUInt32.toUInt16.toUInt32.toInt32)), .val (.int (own_x p2))] [(.int (((55296 : Int32) + (((p2.toUInt32 >>> ((10 : Int32) &&& 31).toUInt32).toInt32) &&& (1023 : Int32))).toUInt32.toUInt16.toUInt32.toInt32)), (.int (0 : Int32)), (.ref p0)])) rfl rfl (hb hby d5_67)
      have N11 := Fr.snoc X11 N1 g0_
      have K11 := (Keep.refl h0 [p0]).wr W11 (Or.inl (List.mem_of_getElem? (i := 0) rfl))
      have V11 : Arv Z h11 p0 k .char (6 : Int32) [(.int (nar .char (((55296 : Int32) + (((p2.toUInt32 >>> ((10 : Int32) &&& 31).toUInt32).toInt32) &&& (1023 : Int32))).toUInt32.toUInt16.toUInt32.toInt32))), (.int ez1), (.int ez2), (.int ez3), (.int ez4), (.int ez5)] (.int (0 : Int32)) := Arv.set Ar10 q10 S10 N10 H10 G10 (fits_nar_char _) W11 0 rfl (Nat.le_of_ble_eq_true rfl)
      obtain ⟨cl12, Ar12, q12, S12, N12, H12, G12⟩ := id V11
      have hin12 : ¬ ((1 : Int32) < 0 ∨ cl12.slots.size ≤ ((1 : Int32)).toNatClampNeg) := inb_of S12 ⟨by decide, by decide⟩
      obtain ⟨T13, h13, X13, e13, W13, st13⟩ := stC X11 hx hZ e11 Ar12 (j := (1 : Int32)) hin12 (g := (mkF m 84 #[.val (.ref p0), .val (.int (0 : Int32)), .val (.int p2), .val (.int (p2 &&& (3 : Int32))), .val (.int (((56320 : Int32) + (((p2.toUInt32 >>> ((2 : Int32) &&& 31).toUInt32).toInt32) &&& (255 : Int32))).toUInt32.toUInt16.toUInt32.toInt32)), .val (.int (own_x p2))] [(.int (((56320 : Int32) + (((p2.toUInt32 >>> ((20 : Int32) &&& 31).toUInt32).toInt32) &&& (1023 : Int32))).toUInt32.toUInt16.toUInt32.toInt32)), (.int (1 : Int32)), (.ref p0)])) rfl rfl (hb hby d5_84)
      have N13 := Fr.snoc X13 N11 g0_
      have K13 := K11.wr W13 (Or.inl (List.mem_of_getElem? (i := 0) rfl))
      have V13 : Arv Z h13 p0 k .char (6 : Int32) [(.int (nar .char (((55296 : Int32) + (((p2.toUInt32 >>> ((10 : Int32) &&& 31).toUInt32).toInt32) &&& (1023 : Int32))).toUInt32.toUInt16.toUInt32.toInt32))), (.int (nar .char (((56320 : Int32) + (((p2.toUInt32 >>> ((20 : Int32) &&& 31).toUInt32).toInt32) &&& (1023 : Int32))).toUInt32.toUInt16.toUInt32.toInt32))), (.int ez2), (.int ez3), (.int ez4), (.int ez5)] (.int (0 : Int32)) := Arv.set Ar12 q12 S12 N12 H12 G12 (fits_nar_char _) W13 1 rfl (Nat.le_of_ble_eq_true rfl)
      obtain ⟨fs, hr, hrun, hended, hW, hsame⟩ := X13.leave (v := none) (fun _ => rfl)
      refine ⟨_, _, pre9 _ ?_, hrun, hended, _, _, rfl, ?_, ⟨_, rfl⟩, hW, hsame.mono (by decide) (by decide)⟩
      · show Steps p.tables e below (T1.setTop (mkF m 50 #[.val (.ref p0), .val (.int (0 : Int32)), .val (.int p2), .val (.int (p2 &&& (3 : Int32))), .val (.int (((56320 : Int32) + (((p2.toUInt32 >>> ((2 : Int32) &&& 31).toUInt32).toInt32) &&& (255 : Int32))).toUInt32.toUInt16.toUInt32.toInt32)), .val (.int (own_x p2))] [(.int (1 : Int32)), (.int (p2 &&& (3 : Int32)))])) _
        refine XS.icmpNo X1.here hx rfl (hb hby d5_50) rfl (teq hc50_8).2 ?_
        show Steps p.tables e below (T1.setTop (mkF m 53 #[.val (.ref p0), .val (.int (0 : Int32)), .val (.int p2), .val (.int (p2 &&& (3 : Int32))), .val (.int (((56320 : Int32) + (((p2.toUInt32 >>> ((2 : Int32) &&& 31).toUInt32).toInt32) &&& (255 : Int32))).toUInt32.toUInt16.toUInt32.toInt32)), .val (.int (own_x p2))] [])) _
        refine XS.aloadN X1.here hx rfl (hb hby d5_53) rfl rfl ?_
        show Steps p.tables e below (T1.setTop (mkF m 54 #[.val (.ref p0), .val (.int (0 : Int32)), .val (.int p2), .val (.int (p2 &&& (3 : Int32))), .val (.int (((56320 : Int32) + (((p2.toUInt32 >>> ((2 : Int32) &&& 31).toUInt32).toInt32) &&& (255 : Int32))).toUInt32.toUInt16.toUInt32.toInt32)), .val (.int (own_x p2))] [(.ref p0)])) _
        refine XS.iloadN X1.here hx rfl (hb hby d5_54) rfl  ?_
        show Steps p.tables e below (T1.setTop (mkF m 55 #[.val (.ref p0), .val (.int (0 : Int32)), .val (.int p2), .val (.int (p2 &&& (3 : Int32))), .val (.int (((56320 : Int32) + (((p2.toUInt32 >>> ((2 : Int32) &&& 31).toUInt32).toInt32) &&& (255 : Int32))).toUInt32.toUInt16.toUInt32.toInt32)), .val (.int (own_x p2))] [(.int (0 : Int32)), (.ref p0)])) _
        refine X1.ldcInt hx hown (mvT hZ (hw _ (List.mem_of_getElem? (i := 42) rfl))) (g := (mkF m 55 #[.val (.ref p0), .val (.int (0 : Int32)), .val (.int p2), .val (.int (p2 &&& (3 : Int32))), .val (.int (((56320 : Int32) + (((p2.toUInt32 >>> ((2 : Int32) &&& 31).toUInt32).toInt32) &&& (255 : Int32))).toUInt32.toUInt16.toUInt32.toInt32)), .val (.int (own_x p2))] [(.int (0 : Int32)), (.ref p0)])) rfl (hb hby d5_55) _ ?_
        show Steps p.tables e below (T1.setTop (mkF m 57 #[.val (.ref p0), .val (.int (0 : Int32)), .val (.int p2), .val (.int (p2 &&& (3 : Int32))), .val (.int (((56320 : Int32) + (((p2.toUInt32 >>> ((2 : Int32) &&& 31).toUInt32).toInt32) &&& (255 : Int32))).toUInt32.toUInt16.toUInt32.toInt32)), .val (.int (own_x p2))] [(.int (55296 : Int32)), (.int (0 : Int32)), (.ref p0)])) _
        refine XS.iloadN X1.here hx rfl (hb hby d5_57) rfl  ?_
        show Steps p.tables e below (T1.setTop (mkF m 58 #[.val (.ref p0), .val (.int (0 : Int32)), .val (.int p2), .val (.int (p2 &&& (3 : Int32))), .val (.int (((56320 : Int32) + (((p2.toUInt32 >>> ((2 : Int32) &&& 31).toUInt32).toInt32) &&& (255 : Int32))).toUInt32.toUInt16.toUInt32.toInt32)), .val (.int (own_x p2))] [(.int p2), (.int (55296 : Int32)), (.int (0 : Int32)), (.ref p0)])) _
        refine XS.bipush X1.here hx rfl (hb hby d5_58) ?_
        show Steps p.tables e below (T1.setTop (mkF m 60 #[.val (.ref p0), .val (.int (0 : Int32)), .val (.int p2), .val (.int (p2 &&& (3 : Int32))), .val (.int (((56320 : Int32) + (((p2.toUInt32 >>> ((2 : Int32) &&& 31).toUInt32).toInt32) &&& (255 : Int32))).toUInt32.toUInt16.toUInt32.toInt32)), .val (.int (own_x p2))] [(.int (10 : Int32)), (.int p2), (.int (55296 : Int32)), (.int (0 : Int32)), (.ref p0)])) _
        refine XS.iushr X1.here hx rfl (hb hby d5_60) rfl ?_
        show Steps p.tables e below (T1.setTop (mkF m 61 #[.val (.ref p0), .val (.int (0 : Int32)), .val (.int p2), .val (.int (p2 &&& (3 : Int32))), .val (.int (((56320 : Int32) + (((p2.toUInt32 >>> ((2 : Int32) &&& 31).toUInt32).toInt32) &&& (255 : Int32))).toUInt32.toUInt16.toUInt32.toInt32)), .val (.int (own_x p2))] [(.int ((p2.toUInt32 >>> ((10 : Int32) &&& 31).toUInt32).toInt32)), (.int (55296 : Int32)), (.int (0 : Int32)), (.ref p0)])) _
        refine XS.sipush X1.here hx rfl (hb hby d5_61) ?_
        show Steps p.tables e below (T1.setTop (mkF m 64 #[.val (.ref p0), .val (.int (0 : Int32)), .val (.int p2), .val (.int (p2 &&& (3 : Int32))), .val (.int (((56320 : Int32) + (((p2.toUInt32 >>> ((2 : Int32) &&& 31).toUInt32).toInt32) &&& (255 : Int32))).toUInt32.toUInt16.toUInt32.toInt32)), .val (.int (own_x p2))] [(.int (1023 : Int32)), (.int ((p2.toUInt32 >>> ((10 : Int32) &&& 31).toUInt32).toInt32)), (.int (55296 : Int32)), (.int (0 : Int32)), (.ref p0)])) _
        refine XS.iand X1.here hx rfl (hb hby d5_64) rfl ?_
        show Steps p.tables e below (T1.setTop (mkF m 65 #[.val (.ref p0), .val (.int (0 : Int32)), .val (.int p2), .val (.int (p2 &&& (3 : Int32))), .val (.int (((56320 : Int32) + (((p2.toUInt32 >>> ((2 : Int32) &&& 31).toUInt32).toInt32) &&& (255 : Int32))).toUInt32.toUInt16.toUInt32.toInt32)), .val (.int (own_x p2))] [(.int (((p2.toUInt32 >>> ((10 : Int32) &&& 31).toUInt32).toInt32) &&& (1023 : Int32))), (.int (55296 : Int32)), (.int (0 : Int32)), (.ref p0)])) _
        refine XS.iadd X1.here hx rfl (hb hby d5_65) rfl ?_
        show Steps p.tables e below (T1.setTop (mkF m 66 #[.val (.ref p0), .val (.int (0 : Int32)), .val (.int p2), .val (.int (p2 &&& (3 : Int32))), .val (.int (((56320 : Int32) + (((p2.toUInt32 >>> ((2 : Int32) &&& 31).toUInt32).toInt32) &&& (255 : Int32))).toUInt32.toUInt16.toUInt32.toInt32)), .val (.int (own_x p2))] [(.int ((55296 : Int32) + (((p2.toUInt32 >>> ((10 : Int32) &&& 31).toUInt32).toInt32) &&& (1023 : Int32)))), (.int (0 : Int32)), (.ref p0)])) _
        refine XS.i2c X1.here hx rfl (hb hby d5_66) rfl ?_
        show Steps p.tables e below (T1.setTop (mkF m 67 #[.val (.ref p0), .val (.int (0 : Int32)), .val (.int p2), .val (.int (p2 &&& (3 : Int32))), .val (.int (((56320 : Int32) + (((p2.toUInt32 >>> ((2 : Int32) &&& 31).toUInt32).toInt32) &&& (255 : Int32))).toUInt32.toUInt16.toUInt32.toInt32)), .val (.int (own_x p2))] [(.int (((55296 : Int32) + (((p2.toUInt32 >>> ((10 : Int32) &&& 31).toUInt32).toInt32) &&& (1023 : Int32))).toUInt32.toUInt16.toUInt32.toInt32)), (.int (0 : Int32)), (.ref p0)])) _
        refine st11 _ ?_
        show Steps p.tables e below (T11.setTop (mkF m 68 #[.val (.ref p0), .val (.int (0 : Int32)), .val (.int p2), .val (.int (p2 &&& (3 : Int32))), .val (.int (((56320 : Int32) + (((p2.toUInt32 >>> ((2 : Int32) &&& 31).toUInt32).toInt32) &&& (255 : Int32))).toUInt32.toUInt16.toUInt32.toInt32)), .val (.int (own_x p2))] [])) _
        refine XS.aloadN X11.here hx rfl (hb hby d5_68) rfl rfl ?_
        show Steps p.tables e below (T11.setTop (mkF m 69 #[.val (.ref p0), .val (.int (0 : Int32)), .val (.int p2), .val (.int (p2 &&& (3 : Int32))), .val (.int (((56320 : Int32) + (((p2.toUInt32 >>> ((2 : Int32) &&& 31).toUInt32).toInt32) &&& (255 : Int32))).toUInt32.toUInt16.toUInt32.toInt32)), .val (.int (own_x p2))] [(.ref p0)])) _
        refine XS.iloadN X11.here hx rfl (hb hby d5_69) rfl  ?_
        show Steps p.tables e below (T11.setTop (mkF m 70 #[.val (.ref p0), .val (.int (0 : Int32)), .val (.int p2), .val (.int (p2 &&& (3 : Int32))), .val (.int (((56320 : Int32) + (((p2.toUInt32 >>> ((2 : Int32) &&& 31).toUInt32).toInt32) &&& (255 : Int32))).toUInt32.toUInt16.toUInt32.toInt32)), .val (.int (own_x p2))] [(.int (0 : Int32)), (.ref p0)])) _
        refine XS.iconst X11.here hx rfl (hb hby d5_70) ?_
        show Steps p.tables e below (T11.setTop (mkF m 71 #[.val (.ref p0), .val (.int (0 : Int32)), .val (.int p2), .val (.int (p2 &&& (3 : Int32))), .val (.int (((56320 : Int32) + (((p2.toUInt32 >>> ((2 : Int32) &&& 31).toUInt32).toInt32) &&& (255 : Int32))).toUInt32.toUInt16.toUInt32.toInt32)), .val (.int (own_x p2))] [(.int (1 : Int32)), (.int (0 : Int32)), (.ref p0)])) _
        refine XS.iadd X11.here hx rfl (hb hby d5_71) rfl ?_
        show Steps p.tables e below (T11.setTop (mkF m 72 #[.val (.ref p0), .val (.int (0 : Int32)), .val (.int p2), .val (.int (p2 &&& (3 : Int32))), .val (.int (((56320 : Int32) + (((p2.toUInt32 >>> ((2 : Int32) &&& 31).toUInt32).toInt32) &&& (255 : Int32))).toUInt32.toUInt16.toUInt32.toInt32)), .val (.int (own_x p2))] [(.int (1 : Int32)), (.ref p0)])) _
        refine X11.ldcInt hx hown (mvT hZ (hw _ (List.mem_of_getElem? (i := 37) rfl))) (g := (mkF m 72 #[.val (.ref p0), .val (.int (0 : Int32)), .val (.int p2), .val (.int (p2 &&& (3 : Int32))), .val (.int (((56320 : Int32) + (((p2.toUInt32 >>> ((2 : Int32) &&& 31).toUInt32).toInt32) &&& (255 : Int32))).toUInt32.toUInt16.toUInt32.toInt32)), .val (.int (own_x p2))] [(.int (1 : Int32)), (.ref p0)])) rfl (hb hby d5_72) _ ?_
        show Steps p.tables e below (T11.setTop (mkF m 74 #[.val (.ref p0), .val (.int (0 : Int32)), .val (.int p2), .val (.int (p2 &&& (3 : Int32))), .val (.int (((56320 : Int32) + (((p2.toUInt32 >>> ((2 : Int32) &&& 31).toUInt32).toInt32) &&& (255 : Int32))).toUInt32.toUInt16.toUInt32.toInt32)), .val (.int (own_x p2))] [(.int (56320 : Int32)), (.int (1 : Int32)), (.ref p0)])) _
        refine XS.iloadN X11.here hx rfl (hb hby d5_74) rfl  ?_
        show Steps p.tables e below (T11.setTop (mkF m 75 #[.val (.ref p0), .val (.int (0 : Int32)), .val (.int p2), .val (.int (p2 &&& (3 : Int32))), .val (.int (((56320 : Int32) + (((p2.toUInt32 >>> ((2 : Int32) &&& 31).toUInt32).toInt32) &&& (255 : Int32))).toUInt32.toUInt16.toUInt32.toInt32)), .val (.int (own_x p2))] [(.int p2), (.int (56320 : Int32)), (.int (1 : Int32)), (.ref p0)])) _
        refine XS.bipush X11.here hx rfl (hb hby d5_75) ?_
        show Steps p.tables e below (T11.setTop (mkF m 77 #[.val (.ref p0), .val (.int (0 : Int32)), .val (.int p2), .val (.int (p2 &&& (3 : Int32))), .val (.int (((56320 : Int32) + (((p2.toUInt32 >>> ((2 : Int32) &&& 31).toUInt32).toInt32) &&& (255 : Int32))).toUInt32.toUInt16.toUInt32.toInt32)), .val (.int (own_x p2))] [(.int (20 : Int32)), (.int p2), (.int (56320 : Int32)), (.int (1 : Int32)), (.ref p0)])) _
        refine XS.iushr X11.here hx rfl (hb hby d5_77) rfl ?_
        show Steps p.tables e below (T11.setTop (mkF m 78 #[.val (.ref p0), .val (.int (0 : Int32)), .val (.int p2), .val (.int (p2 &&& (3 : Int32))), .val (.int (((56320 : Int32) + (((p2.toUInt32 >>> ((2 : Int32) &&& 31).toUInt32).toInt32) &&& (255 : Int32))).toUInt32.toUInt16.toUInt32.toInt32)), .val (.int (own_x p2))] [(.int ((p2.toUInt32 >>> ((20 : Int32) &&& 31).toUInt32).toInt32)), (.int (56320 : Int32)), (.int (1 : Int32)), (.ref p0)])) _
        refine XS.sipush X11.here hx rfl (hb hby d5_78) ?_
        show Steps p.tables e below (T11.setTop (mkF m 81 #[.val (.ref p0), .val (.int (0 : Int32)), .val (.int p2), .val (.int (p2 &&& (3 : Int32))), .val (.int (((56320 : Int32) + (((p2.toUInt32 >>> ((2 : Int32) &&& 31).toUInt32).toInt32) &&& (255 : Int32))).toUInt32.toUInt16.toUInt32.toInt32)), .val (.int (own_x p2))] [(.int (1023 : Int32)), (.int ((p2.toUInt32 >>> ((20 : Int32) &&& 31).toUInt32).toInt32)), (.int (56320 : Int32)), (.int (1 : Int32)), (.ref p0)])) _
        refine XS.iand X11.here hx rfl (hb hby d5_81) rfl ?_
        show Steps p.tables e below (T11.setTop (mkF m 82 #[.val (.ref p0), .val (.int (0 : Int32)), .val (.int p2), .val (.int (p2 &&& (3 : Int32))), .val (.int (((56320 : Int32) + (((p2.toUInt32 >>> ((2 : Int32) &&& 31).toUInt32).toInt32) &&& (255 : Int32))).toUInt32.toUInt16.toUInt32.toInt32)), .val (.int (own_x p2))] [(.int (((p2.toUInt32 >>> ((20 : Int32) &&& 31).toUInt32).toInt32) &&& (1023 : Int32))), (.int (56320 : Int32)), (.int (1 : Int32)), (.ref p0)])) _
        refine XS.iadd X11.here hx rfl (hb hby d5_82) rfl ?_
        show Steps p.tables e below (T11.setTop (mkF m 83 #[.val (.ref p0), .val (.int (0 : Int32)), .val (.int p2), .val (.int (p2 &&& (3 : Int32))), .val (.int (((56320 : Int32) + (((p2.toUInt32 >>> ((2 : Int32) &&& 31).toUInt32).toInt32) &&& (255 : Int32))).toUInt32.toUInt16.toUInt32.toInt32)), .val (.int (own_x p2))] [(.int ((56320 : Int32) + (((p2.toUInt32 >>> ((20 : Int32) &&& 31).toUInt32).toInt32) &&& (1023 : Int32)))), (.int (1 : Int32)), (.ref p0)])) _
        refine XS.i2c X11.here hx rfl (hb hby d5_83) rfl ?_
        show Steps p.tables e below (T11.setTop (mkF m 84 #[.val (.ref p0), .val (.int (0 : Int32)), .val (.int p2), .val (.int (p2 &&& (3 : Int32))), .val (.int (((56320 : Int32) + (((p2.toUInt32 >>> ((2 : Int32) &&& 31).toUInt32).toInt32) &&& (255 : Int32))).toUInt32.toUInt16.toUInt32.toInt32)), .val (.int (own_x p2))] [(.int (((56320 : Int32) + (((p2.toUInt32 >>> ((20 : Int32) &&& 31).toUInt32).toInt32) &&& (1023 : Int32))).toUInt32.toUInt16.toUInt32.toInt32)), (.int (1 : Int32)), (.ref p0)])) _
        refine st13 _ ?_
        show Steps p.tables e below (T13.setTop (mkF m 85 #[.val (.ref p0), .val (.int (0 : Int32)), .val (.int p2), .val (.int (p2 &&& (3 : Int32))), .val (.int (((56320 : Int32) + (((p2.toUInt32 >>> ((2 : Int32) &&& 31).toUInt32).toInt32) &&& (255 : Int32))).toUInt32.toUInt16.toUInt32.toInt32)), .val (.int (own_x p2))] [])) _
        refine XS.goto X13.here hx rfl (pc0 := 85) (pc' := 120) rfl (hb hby d5_85) (by decide) (by decide) ?_
        show Steps p.tables e below (T13.setTop (mkF m 120 #[.val (.ref p0), .val (.int (0 : Int32)), .val (.int p2), .val (.int (p2 &&& (3 : Int32))), .val (.int (((56320 : Int32) + (((p2.toUInt32 >>> ((2 : Int32) &&& 31).toUInt32).toInt32) &&& (255 : Int32))).toUInt32.toUInt16.toUInt32.toInt32)), .val (.int (own_x p2))] [])) _
        exact X13.returnOut hx Bd.returns (hb hby d5_120) hr
      · show Q_rmPutL0 Z p0 p2 k ez0 ez1 ez2 ez3 ez4 ez5 h0 n0 _ T13.heap _
        rw [e13]
        exact ⟨rfl, N13, K13, (by unfold own_pa own_pb; rw [if_neg (show ¬ own_k p2 = _ from hc30_2), if_pos (show own_k p2 = _ from hc50_8), if_neg (show ¬ own_k p2 = _ from hc30_2), if_pos (show own_k p2 = _ from hc50_8)]; exact V13)⟩
    · have pre15 : ∀ t, Steps p.tables e below (T1.setTop (mkF m 90 #[.val (.ref p0), .val (.int (0 : Int32)), .val (.int p2), .val (.int (p2 &&& (3 : Int32))), .val (.int (((56320 : Int32) + (((p2.toUInt32 >>> ((2 : Int32) &&& 31).toUInt32).toInt32) &&& (255 : Int32))).toUInt32.toUInt16.toUInt32.toInt32)), .val (.int (own_x p2))] [(.int (2 : Int32)), (.int (p2 &&& (3 : Int32)))])) t → Steps p.tables e below (s₁.setTop (entryFrame m #[(.ref p0), (.int (0 : Int32)), (.int p2)] 6)) t := fun t kt => pre9 t (by
        show Steps p.tables e below (T1.setTop (mkF m 50 #[.val (.ref p0), .val (.int (0 : Int32)), .val (.int p2), .val (.int (p2 &&& (3 : Int32))), .val (.int (((56320 : Int32) + (((p2.toUInt32 >>> ((2 : Int32) &&& 31).toUInt32).toInt32) &&& (255 : Int32))).toUInt32.toUInt16.toUInt32.toInt32)), .val (.int (own_x p2))] [(.int (1 : Int32)), (.int (p2 &&& (3 : Int32)))])) _
        refine XS.icmpYes X1.here hx rfl (pc0 := 50) (pc' := 88) rfl (hb hby d5_50) rfl (feq hc50_8).2 (by decide) (by decide) ?_
        show Steps p.tables e below (T1.setTop (mkF m 88 #[.val (.ref p0), .val (.int (0 : Int32)), .val (.int p2), .val (.int (p2 &&& (3 : Int32))), .val (.int (((56320 : Int32) + (((p2.toUInt32 >>> ((2 : Int32) &&& 31).toUInt32).toInt32) &&& (255 : Int32))).toUInt32.toUInt16.toUInt32.toInt32)), .val (.int (own_x p2))] [])) _
        refine XS.iloadN X1.here hx rfl (hb hby d5_88) rfl  ?_
        show Steps p.tables e below (T1.setTop (mkF m 89 #[.val (.ref p0), .val (.int (0 : Int32)), .val (.int p2), .val (.int (p2 &&& (3 : Int32))), .val (.int (((56320 : Int32) + (((p2.toUInt32 >>> ((2 : Int32) &&& 31).toUInt32).toInt32) &&& (255 : Int32))).toUInt32.toUInt16.toUInt32.toInt32)), .val (.int (own_x p2))] [(.int (p2 &&& (3 : Int32)))])) _
        refine XS.iconst X1.here hx rfl (hb hby d5_89) ?_
        exact kt)
      by_cases hc90_14 : (p2 &&& (3 : Int32)) = (2 : Int32)
      · obtain ⟨cl16, Ar16, q16, S16, N16, H16, G16⟩ := id A0
        have hin16 : ¬ ((0 : Int32) < 0 ∨ cl16.slots.size ≤ ((0 : Int32)).toNatClampNeg) := inb_of S16 ⟨by decide, by decide⟩
        obtain ⟨T17, h17, X17, e17, W17, st17⟩ := stC X1 hx hZ e1 Ar16 (j := (0 : Int32)) hin16 (g := (mkF m 97 #[.val (.ref p0), .val (.int (0 : Int32)), .val (.int p2), .val (.int (p2 &&& (3 : Int32))), .val (.int (((56320 : Int32) + (((p2.toUInt32 >>> ((2 : Int32) &&& 31).toUInt32).toInt32) &&& (255 : Int32))).toUInt32.toUInt16.toUInt32.toInt32)), .val (.int (own_x p2))] [(.int (((56320 : Int32) + (((p2.toUInt32 >>> ((2 : Int32) &&& 31).toUInt32).toInt32) &&& (255 : Int32))).toUInt32.toUInt16.toUInt32.toInt32)), (.int (0 : Int32)), (.ref p0)])) rfl rfl (hb hby d5_97)
        have N17 := Fr.snoc X17 N1 g0_
        have K17 := (Keep.refl h0 [p0]).wr W17 (Or.inl (List.mem_of_getElem? (i := 0) rfl))
        have V17 : Arv Z h17 p0 k .char (6 : Int32) [(.int (nar .char (((56320 : Int32) + (((p2.toUInt32 >>> ((2 : Int32) &&& 31).toUInt32).toInt32) &&& (255 : Int32))).toUInt32.toUInt16.toUInt32.toInt32))), (.int ez1), (.int ez2), (.int ez3), (.int ez4), (.int ez5)] (.int (0 : Int32)) := Arv.set Ar16 q16 S16 N16 H16 G16 (fits_nar_char _) W17 0 rfl (Nat.le_of_ble_eq_true rfl)
        obtain ⟨cl18, Ar18, q18, S18, N18, H18, G18⟩ := id V17
        have hin18 : ¬ ((1 : Int32) < 0 ∨ cl18.slots.size ≤ ((1 : Int32)).toNatClampNeg) := inb_of S18 ⟨by decide, by decide⟩
        obtain ⟨T19, h19, X19, e19, W19, st19⟩ := stC X17 hx hZ e17 Ar18 (j := (1 : Int32)) hin18 (g := (mkF m 104 #[.val (.ref p0), .val (.int (0 : Int32)), .val (.int p2), .val (.int (p2 &&& (3 : Int32))), .val (.int (((56320 : Int32) + (((p2.toUInt32 >>> ((2 : Int32) &&& 31).toUInt32).toInt32) &&& (255 : Int32))).toUInt32.toUInt16.toUInt32.toInt32)), .val (.int (own_x p2))] [(.int (own_x p2)), (.int (1 : Int32)), (.ref p0)])) rfl rfl (hb hby d5_104)
        have N19 := Fr.snoc X19 N17 g0_
        have K19 := K17.wr W19 (Or.inl (List.mem_of_getElem? (i := 0) rfl))
        have V19 : Arv Z h19 p0 k .char (6 : Int32) [(.int (nar .char (((56320 : Int32) + (((p2.toUInt32 >>> ((2 : Int32) &&& 31).toUInt32).toInt32) &&& (255 : Int32))).toUInt32.toUInt16.toUInt32.toInt32))), (.int (nar .char (own_x p2))), (.int ez2), (.int ez3), (.int ez4), (.int ez5)] (.int (0 : Int32)) := Arv.set Ar18 q18 S18 N18 H18 G18 (fits_nar_char _) W19 1 rfl (Nat.le_of_ble_eq_true rfl)
        obtain ⟨fs, hr, hrun, hended, hW, hsame⟩ := X19.leave (v := none) (fun _ => rfl)
        refine ⟨_, _, pre15 _ ?_, hrun, hended, _, _, rfl, ?_, ⟨_, rfl⟩, hW, hsame.mono (by decide) (by decide)⟩
        · show Steps p.tables e below (T1.setTop (mkF m 90 #[.val (.ref p0), .val (.int (0 : Int32)), .val (.int p2), .val (.int (p2 &&& (3 : Int32))), .val (.int (((56320 : Int32) + (((p2.toUInt32 >>> ((2 : Int32) &&& 31).toUInt32).toInt32) &&& (255 : Int32))).toUInt32.toUInt16.toUInt32.toInt32)), .val (.int (own_x p2))] [(.int (2 : Int32)), (.int (p2 &&& (3 : Int32)))])) _
          refine XS.icmpNo X1.here hx rfl (hb hby d5_90) rfl (teq hc90_14).2 ?_
          show Steps p.tables e below (T1.setTop (mkF m 93 #[.val (.ref p0), .val (.int (0 : Int32)), .val (.int p2), .val (.int (p2 &&& (3 : Int32))), .val (.int (((56320 : Int32) + (((p2.toUInt32 >>> ((2 : Int32) &&& 31).toUInt32).toInt32) &&& (255 : Int32))).toUInt32.toUInt16.toUInt32.toInt32)), .val (.int (own_x p2))] [])) _
          refine XS.aloadN X1.here hx rfl (hb hby d5_93) rfl rfl ?_
          show Steps p.tables e below (T1.setTop (mkF m 94 #[.val (.ref p0), .val (.int (0 : Int32)), .val (.int p2), .val (.int (p2 &&& (3 : Int32))), .val (.int (((56320 : Int32) + (((p2.toUInt32 >>> ((2 : Int32) &&& 31).toUInt32).toInt32) &&& (255 : Int32))).toUInt32.toUInt16.toUInt32.toInt32)), .val (.int (own_x p2))] [(.ref p0)])) _
          refine XS.iloadN X1.here hx rfl (hb hby d5_94) rfl  ?_
          show Steps p.tables e below (T1.setTop (mkF m 95 #[.val (.ref p0), .val (.int (0 : Int32)), .val (.int p2), .val (.int (p2 &&& (3 : Int32))), .val (.int (((56320 : Int32) + (((p2.toUInt32 >>> ((2 : Int32) &&& 31).toUInt32).toInt32) &&& (255 : Int32))).toUInt32.toUInt16.toUInt32.toInt32)), .val (.int (own_x p2))] [(.int (0 : Int32)), (.ref p0)])) _
          refine XS.iload X1.here hx rfl (hb hby d5_95) rfl  ?_
          show Steps p.tables e below (T1.setTop (mkF m 97 #[.val (.ref p0), .val (.int (0 : Int32)), .val (.int p2), .val (.int (p2 &&& (3 : Int32))), .val (.int (((56320 : Int32) + (((p2.toUInt32 >>> ((2 : Int32) &&& 31).toUInt32).toInt32) &&& (255 : Int32))).toUInt32.toUInt16.toUInt32.toInt32)), .val (.int (own_x p2))] [(.int (((56320 : Int32) + (((p2.toUInt32 >>> ((2 : Int32) &&& 31).toUInt32).toInt32) &&& (255 : Int32))).toUInt32.toUInt16.toUInt32.toInt32)), (.int (0 : Int32)), (.ref p0)])) _
          refine st17 _ ?_
          show Steps p.tables e below (T17.setTop (mkF m 98 #[.val (.ref p0), .val (.int (0 : Int32)), .val (.int p2), .val (.int (p2 &&& (3 : Int32))), .val (.int (((56320 : Int32) + (((p2.toUInt32 >>> ((2 : Int32) &&& 31).toUInt32).toInt32) &&& (255 : Int32))).toUInt32.toUInt16.toUInt32.toInt32)), .val (.int (own_x p2))] [])) _
          refine XS.aloadN X17.here hx rfl (hb hby d5_98) rfl rfl ?_
          show Steps p.tables e below (T17.setTop (mkF m 99 #[.val (.ref p0), .val (.int (0 : Int32)), .val (.int p2), .val (.int (p2 &&& (3 : Int32))), .val (.int (((56320 : Int32) + (((p2.toUInt32 >>> ((2 : Int32) &&& 31).toUInt32).toInt32) &&& (255 : Int32))).toUInt32.toUInt16.toUInt32.toInt32)), .val (.int (own_x p2))] [(.ref p0)])) _
          refine XS.iloadN X17.here hx rfl (hb hby d5_99) rfl  ?_
          show Steps p.tables e below (T17.setTop (mkF m 100 #[.val (.ref p0), .val (.int (0 : Int32)), .val (.int p2), .val (.int (p2 &&& (3 : Int32))), .val (.int (((56320 : Int32) + (((p2.toUInt32 >>> ((2 : Int32) &&& 31).toUInt32).toInt32) &&& (255 : Int32))).toUInt32.toUInt16.toUInt32.toInt32)), .val (.int (own_x p2))] [(.int (0 : Int32)), (.ref p0)])) _
          refine XS.iconst X17.here hx rfl (hb hby d5_100) ?_
          show Steps p.tables e below (T17.setTop (mkF m 101 #[.val (.ref p0), .val (.int (0 : Int32)), .val (.int p2), .val (.int (p2 &&& (3 : Int32))), .val (.int (((56320 : Int32) + (((p2.toUInt32 >>> ((2 : Int32) &&& 31).toUInt32).toInt32) &&& (255 : Int32))).toUInt32.toUInt16.toUInt32.toInt32)), .val (.int (own_x p2))] [(.int (1 : Int32)), (.int (0 : Int32)), (.ref p0)])) _
          refine XS.iadd X17.here hx rfl (hb hby d5_101) rfl ?_
          show Steps p.tables e below (T17.setTop (mkF m 102 #[.val (.ref p0), .val (.int (0 : Int32)), .val (.int p2), .val (.int (p2 &&& (3 : Int32))), .val (.int (((56320 : Int32) + (((p2.toUInt32 >>> ((2 : Int32) &&& 31).toUInt32).toInt32) &&& (255 : Int32))).toUInt32.toUInt16.toUInt32.toInt32)), .val (.int (own_x p2))] [(.int (1 : Int32)), (.ref p0)])) _
          refine XS.iload X17.here hx rfl (hb hby d5_102) rfl  ?_
          show Steps p.tables e below (T17.setTop (mkF m 104 #[.val (.ref p0), .val (.int (0 : Int32)), .val (.int p2), .val (.int (p2 &&& (3 : Int32))), .val (.int (((56320 : Int32) + (((p2.toUInt32 >>> ((2 : Int32) &&& 31).toUInt32).toInt32) &&& (255 : Int32))).toUInt32.toUInt16.toUInt32.toInt32)), .val (.int (own_x p2))] [(.int (own_x p2)), (.int (1 : Int32)), (.ref p0)])) _
          refine st19 _ ?_
          show Steps p.tables e below (T19.setTop (mkF m 105 #[.val (.ref p0), .val (.int (0 : Int32)), .val (.int p2), .val (.int (p2 &&& (3 : Int32))), .val (.int (((56320 : Int32) + (((p2.toUInt32 >>> ((2 : Int32) &&& 31).toUInt32).toInt32) &&& (255 : Int32))).toUInt32.toUInt16.toUInt32.toInt32)), .val (.int (own_x p2))] [])) _
          refine XS.goto X19.here hx rfl (pc0 := 105) (pc' := 120) rfl (hb hby d5_105) (by decide) (by decide) ?_
          show Steps p.tables e below (T19.setTop (mkF m 120 #[.val (.ref p0), .val (.int (0 : Int32)), .val (.int p2), .val (.int (p2 &&& (3 : Int32))), .val (.int (((56320 : Int32) + (((p2.toUInt32 >>> ((2 : Int32) &&& 31).toUInt32).toInt32) &&& (255 : Int32))).toUInt32.toUInt16.toUInt32.toInt32)), .val (.int (own_x p2))] [])) _
          exact X19.returnOut hx Bd.returns (hb hby d5_120) hr
        · show Q_rmPutL0 Z p0 p2 k ez0 ez1 ez2 ez3 ez4 ez5 h0 n0 _ T19.heap _
          rw [e19]
          exact ⟨rfl, N19, K19, (by unfold own_pa own_pb; rw [if_neg (show ¬ own_k p2 = _ from hc30_2), if_neg (show ¬ own_k p2 = _ from hc50_8), if_pos (show own_k p2 = _ from hc90_14), if_neg (show ¬ own_k p2 = _ from hc30_2), if_neg (show ¬ own_k p2 = _ from hc50_8), if_pos (show own_k p2 = _ from hc90_14)]; exact V19)⟩
      · obtain ⟨cl20, Ar20, q20, S20, N20, H20, G20⟩ := id A0
        have hin20 : ¬ ((0 : Int32) < 0 ∨ cl20.slots.size ≤ ((0 : Int32)).toNatClampNeg) := inb_of S20 ⟨by decide, by decide⟩
        obtain ⟨T21, h21, X21, e21, W21, st21⟩ := stC X1 hx hZ e1 Ar20 (j := (0 : Int32)) hin20 (g := (mkF m 112 #[.val (.ref p0), .val (.int (0 : Int32)), .val (.int p2), .val (.int (p2 &&& (3 : Int32))), .val (.int (((56320 : Int32) + (((p2.toUInt32 >>> ((2 : Int32) &&& 31).toUInt32).toInt32) &&& (255 : Int32))).toUInt32.toUInt16.toUInt32.toInt32)), .val (.int (own_x p2))] [(.int (own_x p2)), (.int (0 : Int32)), (.ref p0)])) rfl rfl (hb hby d5_112)
        have N21 := Fr.snoc X21 N1 g0_
        have K21 := (Keep.refl h0 [p0]).wr W21 (Or.inl (List.mem_of_getElem? (i := 0) rfl))
        have V21 : Arv Z h21 p0 k .char (6 : Int32) [(.int (nar .char (own_x p2))), (.int ez1), (.int ez2), (.int ez3), (.int ez4), (.int ez5)] (.int (0 : Int32)) := Arv.set Ar20 q20 S20 N20 H20 G20 (fits_nar_char _) W21 0 rfl (Nat.le_of_ble_eq_true rfl)
        obtain ⟨cl22, Ar22, q22, S22, N22, H22, G22⟩ := id V21
        have hin22 : ¬ ((1 : Int32) < 0 ∨ cl22.slots.size ≤ ((1 : Int32)).toNatClampNeg) := inb_of S22 ⟨by decide, by decide⟩
        obtain ⟨T23, h23, X23, e23, W23, st23⟩ := stC X21 hx hZ e21 Ar22 (j := (1 : Int32)) hin22 (g := (mkF m 119 #[.val (.ref p0), .val (.int (0 : Int32)), .val (.int p2), .val (.int (p2 &&& (3 : Int32))), .val (.int (((56320 : Int32) + (((p2.toUInt32 >>> ((2 : Int32) &&& 31).toUInt32).toInt32) &&& (255 : Int32))).toUInt32.toUInt16.toUInt32.toInt32)), .val (.int (own_x p2))] [(.int (((56320 : Int32) + (((p2.toUInt32 >>> ((2 : Int32) &&& 31).toUInt32).toInt32) &&& (255 : Int32))).toUInt32.toUInt16.toUInt32.toInt32)), (.int (1 : Int32)), (.ref p0)])) rfl rfl (hb hby d5_119)
        have N23 := Fr.snoc X23 N21 g0_
        have K23 := K21.wr W23 (Or.inl (List.mem_of_getElem? (i := 0) rfl))
        have V23 : Arv Z h23 p0 k .char (6 : Int32) [(.int (nar .char (own_x p2))), (.int (nar .char (((56320 : Int32) + (((p2.toUInt32 >>> ((2 : Int32) &&& 31).toUInt32).toInt32) &&& (255 : Int32))).toUInt32.toUInt16.toUInt32.toInt32))), (.int ez2), (.int ez3), (.int ez4), (.int ez5)] (.int (0 : Int32)) := Arv.set Ar22 q22 S22 N22 H22 G22 (fits_nar_char _) W23 1 rfl (Nat.le_of_ble_eq_true rfl)
        obtain ⟨fs, hr, hrun, hended, hW, hsame⟩ := X23.leave (v := none) (fun _ => rfl)
        refine ⟨_, _, pre15 _ ?_, hrun, hended, _, _, rfl, ?_, ⟨_, rfl⟩, hW, hsame.mono (by decide) (by decide)⟩
        · show Steps p.tables e below (T1.setTop (mkF m 90 #[.val (.ref p0), .val (.int (0 : Int32)), .val (.int p2), .val (.int (p2 &&& (3 : Int32))), .val (.int (((56320 : Int32) + (((p2.toUInt32 >>> ((2 : Int32) &&& 31).toUInt32).toInt32) &&& (255 : Int32))).toUInt32.toUInt16.toUInt32.toInt32)), .val (.int (own_x p2))] [(.int (2 : Int32)), (.int (p2 &&& (3 : Int32)))])) _
          refine XS.icmpYes X1.here hx rfl (pc0 := 90) (pc' := 108) rfl (hb hby d5_90) rfl (feq hc90_14).2 (by decide) (by decide) ?_
          show Steps p.tables e below (T1.setTop (mkF m 108 #[.val (.ref p0), .val (.int (0 : Int32)), .val (.int p2), .val (.int (p2 &&& (3 : Int32))), .val (.int (((56320 : Int32) + (((p2.toUInt32 >>> ((2 : Int32) &&& 31).toUInt32).toInt32) &&& (255 : Int32))).toUInt32.toUInt16.toUInt32.toInt32)), .val (.int (own_x p2))] [])) _
          refine XS.aloadN X1.here hx rfl (hb hby d5_108) rfl rfl ?_
          show Steps p.tables e below (T1.setTop (mkF m 109 #[.val (.ref p0), .val (.int (0 : Int32)), .val (.int p2), .val (.int (p2 &&& (3 : Int32))), .val (.int (((56320 : Int32) + (((p2.toUInt32 >>> ((2 : Int32) &&& 31).toUInt32).toInt32) &&& (255 : Int32))).toUInt32.toUInt16.toUInt32.toInt32)), .val (.int (own_x p2))] [(.ref p0)])) _
          refine XS.iloadN X1.here hx rfl (hb hby d5_109) rfl  ?_
          show Steps p.tables e below (T1.setTop (mkF m 110 #[.val (.ref p0), .val (.int (0 : Int32)), .val (.int p2), .val (.int (p2 &&& (3 : Int32))), .val (.int (((56320 : Int32) + (((p2.toUInt32 >>> ((2 : Int32) &&& 31).toUInt32).toInt32) &&& (255 : Int32))).toUInt32.toUInt16.toUInt32.toInt32)), .val (.int (own_x p2))] [(.int (0 : Int32)), (.ref p0)])) _
          refine XS.iload X1.here hx rfl (hb hby d5_110) rfl  ?_
          show Steps p.tables e below (T1.setTop (mkF m 112 #[.val (.ref p0), .val (.int (0 : Int32)), .val (.int p2), .val (.int (p2 &&& (3 : Int32))), .val (.int (((56320 : Int32) + (((p2.toUInt32 >>> ((2 : Int32) &&& 31).toUInt32).toInt32) &&& (255 : Int32))).toUInt32.toUInt16.toUInt32.toInt32)), .val (.int (own_x p2))] [(.int (own_x p2)), (.int (0 : Int32)), (.ref p0)])) _
          refine st21 _ ?_
          show Steps p.tables e below (T21.setTop (mkF m 113 #[.val (.ref p0), .val (.int (0 : Int32)), .val (.int p2), .val (.int (p2 &&& (3 : Int32))), .val (.int (((56320 : Int32) + (((p2.toUInt32 >>> ((2 : Int32) &&& 31).toUInt32).toInt32) &&& (255 : Int32))).toUInt32.toUInt16.toUInt32.toInt32)), .val (.int (own_x p2))] [])) _
          refine XS.aloadN X21.here hx rfl (hb hby d5_113) rfl rfl ?_
          show Steps p.tables e below (T21.setTop (mkF m 114 #[.val (.ref p0), .val (.int (0 : Int32)), .val (.int p2), .val (.int (p2 &&& (3 : Int32))), .val (.int (((56320 : Int32) + (((p2.toUInt32 >>> ((2 : Int32) &&& 31).toUInt32).toInt32) &&& (255 : Int32))).toUInt32.toUInt16.toUInt32.toInt32)), .val (.int (own_x p2))] [(.ref p0)])) _
          refine XS.iloadN X21.here hx rfl (hb hby d5_114) rfl  ?_
          show Steps p.tables e below (T21.setTop (mkF m 115 #[.val (.ref p0), .val (.int (0 : Int32)), .val (.int p2), .val (.int (p2 &&& (3 : Int32))), .val (.int (((56320 : Int32) + (((p2.toUInt32 >>> ((2 : Int32) &&& 31).toUInt32).toInt32) &&& (255 : Int32))).toUInt32.toUInt16.toUInt32.toInt32)), .val (.int (own_x p2))] [(.int (0 : Int32)), (.ref p0)])) _
          refine XS.iconst X21.here hx rfl (hb hby d5_115) ?_
          show Steps p.tables e below (T21.setTop (mkF m 116 #[.val (.ref p0), .val (.int (0 : Int32)), .val (.int p2), .val (.int (p2 &&& (3 : Int32))), .val (.int (((56320 : Int32) + (((p2.toUInt32 >>> ((2 : Int32) &&& 31).toUInt32).toInt32) &&& (255 : Int32))).toUInt32.toUInt16.toUInt32.toInt32)), .val (.int (own_x p2))] [(.int (1 : Int32)), (.int (0 : Int32)), (.ref p0)])) _
          refine XS.iadd X21.here hx rfl (hb hby d5_116) rfl ?_
          show Steps p.tables e below (T21.setTop (mkF m 117 #[.val (.ref p0), .val (.int (0 : Int32)), .val (.int p2), .val (.int (p2 &&& (3 : Int32))), .val (.int (((56320 : Int32) + (((p2.toUInt32 >>> ((2 : Int32) &&& 31).toUInt32).toInt32) &&& (255 : Int32))).toUInt32.toUInt16.toUInt32.toInt32)), .val (.int (own_x p2))] [(.int (1 : Int32)), (.ref p0)])) _
          refine XS.iload X21.here hx rfl (hb hby d5_117) rfl  ?_
          show Steps p.tables e below (T21.setTop (mkF m 119 #[.val (.ref p0), .val (.int (0 : Int32)), .val (.int p2), .val (.int (p2 &&& (3 : Int32))), .val (.int (((56320 : Int32) + (((p2.toUInt32 >>> ((2 : Int32) &&& 31).toUInt32).toInt32) &&& (255 : Int32))).toUInt32.toUInt16.toUInt32.toInt32)), .val (.int (own_x p2))] [(.int (((56320 : Int32) + (((p2.toUInt32 >>> ((2 : Int32) &&& 31).toUInt32).toInt32) &&& (255 : Int32))).toUInt32.toUInt16.toUInt32.toInt32)), (.int (1 : Int32)), (.ref p0)])) _
          refine st23 _ ?_
          show Steps p.tables e below (T23.setTop (mkF m 120 #[.val (.ref p0), .val (.int (0 : Int32)), .val (.int p2), .val (.int (p2 &&& (3 : Int32))), .val (.int (((56320 : Int32) + (((p2.toUInt32 >>> ((2 : Int32) &&& 31).toUInt32).toInt32) &&& (255 : Int32))).toUInt32.toUInt16.toUInt32.toInt32)), .val (.int (own_x p2))] [])) _
          exact X23.returnOut hx Bd.returns (hb hby d5_120) hr
        · show Q_rmPutL0 Z p0 p2 k ez0 ez1 ez2 ez3 ez4 ez5 h0 n0 _ T23.heap _
          rw [e23]
          exact ⟨rfl, N23, K23, (by unfold own_pa own_pb; rw [if_neg (show ¬ own_k p2 = _ from hc30_2), if_neg (show ¬ own_k p2 = _ from hc50_8), if_neg (show ¬ own_k p2 = _ from hc90_14), if_neg (show ¬ own_k p2 = _ from hc30_2), if_neg (show ¬ own_k p2 = _ from hc50_8), if_neg (show ¬ own_k p2 = _ from hc90_14)]; exact V23)⟩
theorem ef_rmPutL2 (m : MethodId) (p0 : Addr) (p2 : Int32) : entryFrame m #[(.ref p0), (.int (2 : Int32)), (.int p2)] 6 = mkF m 0 #[.val (.ref p0), .val (.int (2 : Int32)), .val (.int p2), .unset, .unset, .unset] [] := by first | (simp [entryFrame, mkF, argsToLocals, Value.category]; done) | rfl
def Q_rmPutL2 (Z : State) (p0 : Addr) (p2 : Int32) (k : ClassId) (ez0 : Int32) (ez1 : Int32) (ez2 : Int32) (ez3 : Int32) (ez4 : Int32) (ez5 : Int32) (h0 : Heap) (n0 : Nat) (v : Option Value) (h : Heap) (L : List Loc) : Prop := v = none ∧ Fr n0 L ∧ Keep h0 h [p0] ∧ Arv Z h p0 k .char (6 : Int32) [(.int ez0), (.int ez1), (.int (own_pa p2)), (.int (own_pb p2)), (.int ez4), (.int ez5)] (.int (0 : Int32))
set_option maxRecDepth 65536 in
set_option maxHeartbeats 40000000 in
theorem rmPutL2 (l : Launch) (Z : State) (a0 : Array Value) (hw : ∀ d ∈ tables_1, d.before a0 Z = true) (ws : List Jvm.Cond) (p0 : Addr) (p2 : Int32) (k : ClassId) (ez0 : Int32) (ez1 : Int32) (ez2 : Int32) (ez3 : Int32) (ez4 : Int32) (ez5 : Int32) (h0 : Heap) (n0 : Nat) (Z0 : n0 ≤ h0.size) (A0 : Arv Z h0 p0 k .char (6 : Int32) [(.int ez0), (.int ez1), (.int ez2), (.int ez3), (.int ez4), (.int ez5)] (.int (0 : Int32))) (g0_ : n0 ≤ p0) :
    MetFree l (⟨"com/example/abeyance/abeyance/model/Utf8ReaderMalformedBytePinLaw", "put", "([CII)V"⟩ : MethodName) (head1 (Jvm.Cond.code (⟨"com/example/abeyance/abeyance/model/Utf8ReaderMalformedBytePinLaw", "put", "([CII)V"⟩ : MethodName) method_3_code 6 none :: ws) ({ frames := 1, cells := 0, slots := 0, locals := 12 } : Room)) (fun a U => a = #[(.ref p0), (.int (2 : Int32)), (.int p2)] ∧ Z.Warmed39 U.vm ∧ U.heap = h0) (fun _ _ _ _ _ => True) (fun _ U o U' => ∃ v L, o = .returned v ∧ Q_rmPutL2 Z p0 p2 k ez0 ez1 ez2 ez3 ez4 ez5 h0 n0 v U'.heap L ∧ FrameEnd U o U' L ({ frames := 1, cells := 0, slots := 0, locals := 12 } : Room).cells ({ frames := 1, cells := 0, slots := 0, locals := 12 } : Room).slots) := by
  refine MetFree.of_bodySF (plainFor_of_name pn_com_example_abeyance_abeyance_model_Utf8ReaderMalformedBytePinLaw) hisR ?_
  intro p e s m args below meth c s₁ Bd hml0 hP hK
  obtain ⟨rfl, hZ, hh⟩ := hP
  have hx := Bd.exec
  have hby := Bd.bytes
  have hml : c.maxLocals = 6 := hml0
  have hown : s.vm.findClass "com/example/abeyance/abeyance/model/Utf8ReaderMalformedBytePinLaw" = some m.cls := findClass_of_methodNamed Bd.named
  have hnm := (name_of_methodNamed Bd.named Bd.method).1
  have hZo := hZ
  have howno := hown
  have X0 : Stand p l e ({ frames := 1, cells := 0, slots := 0, locals := 12 } : Room) s m #[(.ref p0), (.int (2 : Int32)), (.int p2)] below meth c s₁ [] 0 0 := Stand.of_body Bd
  have e0 : s₁.heap = h0 := by rw [← hh, Bd.state]; rfl
  have N0 := Fr.nil n0
  have pre0 : ∀ t, Steps p.tables e below (s₁.setTop (mkF m 0 #[.val (.ref p0), .val (.int (2 : Int32)), .val (.int p2), .unset, .unset, .unset] [])) t → Steps p.tables e below (s₁.setTop (entryFrame m #[(.ref p0), (.int (2 : Int32)), (.int p2)] 6)) t := fun t k => castTop (ef_rmPutL2 m p0 p2 ) k
  obtain ⟨_, _, ⟨T1, L1, k1, n1⟩, -, X1, ⟨Lc1, hQ1, l1, y1, z1⟩, st1⟩ := Jvm.LawKit.callS X0 hx (y := (⟨"com/example/abeyance/abeyance/model/Utf8ReaderMalformedBytePinLaw", "plain", "(I)C"⟩ : MethodName)) hown (mvT hZ (hw _ (List.mem_of_getElem? (i := 39) rfl))) (mvT hZ (hw _ (List.mem_of_getElem? (i := 40) rfl))) (mvT hZ (hw _ (List.mem_of_getElem? (i := 35) rfl))) (mvT hZ (hw _ (List.mem_of_getElem? (i := 41) rfl))) (by decide) (backOf (W := 0) (rmPlain l Z a0 hw [] (((p2.toUInt32 >>> ((10 : Int32) &&& 31).toUInt32).toInt32) &&& (65535 : Int32)) (own_x p2) h0 n0 Z0 rfl) hZ (hw _ (List.mem_of_getElem? (i := 41) rfl)) (hw _ (List.mem_of_getElem? (i := 35) rfl)) (by decide) (by decide)) (g := (mkF m 24 #[.val (.ref p0), .val (.int (2 : Int32)), .val (.int p2), .val (.int (p2 &&& (3 : Int32))), .val (.int (((56320 : Int32) + (((p2.toUInt32 >>> ((2 : Int32) &&& 31).toUInt32).toInt32) &&& (255 : Int32))).toUInt32.toUInt16.toUInt32.toInt32)), .unset] [(.int (((p2.toUInt32 >>> ((10 : Int32) &&& 31).toUInt32).toInt32) &&& (65535 : Int32)))])) rfl (by rw [hml]; rfl) (argsL := [(.int (((p2.toUInt32 >>> ((10 : Int32) &&& 31).toUInt32).toInt32) &&& (65535 : Int32)))]) (rest := []) (lenOf pd__I_C rfl) rfl (by show 2 * 0 + _ ≤ _; exact Nat.le_of_eq rfl) (hb hby d5_24) (fun _ _ => ⟨rfl, e0, (by decide : 0 + 0 ≤ _), (by decide : 0 + 0 ≤ _)⟩)
  dsimp only [Pt.U, Pt.locs, Pt.cells, Pt.slots] at X1 l1 y1 z1 st1 hQ1
  subst l1 y1 z1
  obtain ⟨rfl, Nq1, e1⟩ := hQ1
  have N1 := Fr.app N0 Nq1
  have pre3 : ∀ t, Steps p.tables e below (T1.setTop (mkF m 30 #[.val (.ref p0), .val (.int (2 : Int32)), .val (.int p2), .val (.int (p2 &&& (3 : Int32))), .val (.int (((56320 : Int32) + (((p2.toUInt32 >>> ((2 : Int32) &&& 31).toUInt32).toInt32) &&& (255 : Int32))).toUInt32.toUInt16.toUInt32.toInt32)), .val (.int (own_x p2))] [(.int (p2 &&& (3 : Int32)))])) t → Steps p.tables e below (s₁.setTop (entryFrame m #[(.ref p0), (.int (2 : Int32)), (.int p2)] 6)) t := fun t kt => pre0 t (by
    show Steps p.tables e below (s₁.setTop (mkF m 0 #[.val (.ref p0), .val (.int (2 : Int32)), .val (.int p2), .unset, .unset, .unset] [])) _
    refine XS.iloadN X0.here hx rfl (hb hby d5_0) rfl  ?_
    show Steps p.tables e below (s₁.setTop (mkF m 1 #[.val (.ref p0), .val (.int (2 : Int32)), .val (.int p2), .unset, .unset, .unset] [(.int p2)])) _
    refine XS.iconst X0.here hx rfl (hb hby d5_1) ?_
    show Steps p.tables e below (s₁.setTop (mkF m 2 #[.val (.ref p0), .val (.int (2 : Int32)), .val (.int p2), .unset, .unset, .unset] [(.int (3 : Int32)), (.int p2)])) _
    refine XS.iand X0.here hx rfl (hb hby d5_2) rfl ?_
    show Steps p.tables e below (s₁.setTop (mkF m 3 #[.val (.ref p0), .val (.int (2 : Int32)), .val (.int p2), .unset, .unset, .unset] [(.int (p2 &&& (3 : Int32)))])) _
    refine XS.istoreN X0.here hx rfl (hb hby d5_3) rfl (l' := #[.val (.ref p0), .val (.int (2 : Int32)), .val (.int p2), .val (.int (p2 &&& (3 : Int32))), .unset, .unset]) rfl ?_
    show Steps p.tables e below (s₁.setTop (mkF m 4 #[.val (.ref p0), .val (.int (2 : Int32)), .val (.int p2), .val (.int (p2 &&& (3 : Int32))), .unset, .unset] [])) _
    refine X0.ldcInt hx hown (mvT hZ (hw _ (List.mem_of_getElem? (i := 37) rfl))) (g := (mkF m 4 #[.val (.ref p0), .val (.int (2 : Int32)), .val (.int p2), .val (.int (p2 &&& (3 : Int32))), .unset, .unset] [])) rfl (hb hby d5_4) _ ?_
    show Steps p.tables e below (s₁.setTop (mkF m 6 #[.val (.ref p0), .val (.int (2 : Int32)), .val (.int p2), .val (.int (p2 &&& (3 : Int32))), .unset, .unset] [(.int (56320 : Int32))])) _
    refine XS.iloadN X0.here hx rfl (hb hby d5_6) rfl  ?_
    show Steps p.tables e below (s₁.setTop (mkF m 7 #[.val (.ref p0), .val (.int (2 : Int32)), .val (.int p2), .val (.int (p2 &&& (3 : Int32))), .unset, .unset] [(.int p2), (.int (56320 : Int32))])) _
    refine XS.iconst X0.here hx rfl (hb hby d5_7) ?_
    show Steps p.tables e below (s₁.setTop (mkF m 8 #[.val (.ref p0), .val (.int (2 : Int32)), .val (.int p2), .val (.int (p2 &&& (3 : Int32))), .unset, .unset] [(.int (2 : Int32)), (.int p2), (.int (56320 : Int32))])) _
    refine XS.iushr X0.here hx rfl (hb hby d5_8) rfl ?_
    show Steps p.tables e below (s₁.setTop (mkF m 9 #[.val (.ref p0), .val (.int (2 : Int32)), .val (.int p2), .val (.int (p2 &&& (3 : Int32))), .unset, .unset] [(.int ((p2.toUInt32 >>> ((2 : Int32) &&& 31).toUInt32).toInt32)), (.int (56320 : Int32))])) _
    refine XS.sipush X0.here hx rfl (hb hby d5_9) ?_
    show Steps p.tables e below (s₁.setTop (mkF m 12 #[.val (.ref p0), .val (.int (2 : Int32)), .val (.int p2), .val (.int (p2 &&& (3 : Int32))), .unset, .unset] [(.int (255 : Int32)), (.int ((p2.toUInt32 >>> ((2 : Int32) &&& 31).toUInt32).toInt32)), (.int (56320 : Int32))])) _
    refine XS.iand X0.here hx rfl (hb hby d5_12) rfl ?_
    show Steps p.tables e below (s₁.setTop (mkF m 13 #[.val (.ref p0), .val (.int (2 : Int32)), .val (.int p2), .val (.int (p2 &&& (3 : Int32))), .unset, .unset] [(.int (((p2.toUInt32 >>> ((2 : Int32) &&& 31).toUInt32).toInt32) &&& (255 : Int32))), (.int (56320 : Int32))])) _
    refine XS.iadd X0.here hx rfl (hb hby d5_13) rfl ?_
    show Steps p.tables e below (s₁.setTop (mkF m 14 #[.val (.ref p0), .val (.int (2 : Int32)), .val (.int p2), .val (.int (p2 &&& (3 : Int32))), .unset, .unset] [(.int ((56320 : Int32) + (((p2.toUInt32 >>> ((2 : Int32) &&& 31).toUInt32).toInt32) &&& (255 : Int32))))])) _
    refine XS.i2c X0.here hx rfl (hb hby d5_14) rfl ?_
    show Steps p.tables e below (s₁.setTop (mkF m 15 #[.val (.ref p0), .val (.int (2 : Int32)), .val (.int p2), .val (.int (p2 &&& (3 : Int32))), .unset, .unset] [(.int (((56320 : Int32) + (((p2.toUInt32 >>> ((2 : Int32) &&& 31).toUInt32).toInt32) &&& (255 : Int32))).toUInt32.toUInt16.toUInt32.toInt32))])) _
    refine XS.istore X0.here hx rfl (hb hby d5_15) rfl (l' := #[.val (.ref p0), .val (.int (2 : Int32)), .val (.int p2), .val (.int (p2 &&& (3 : Int32))), .val (.int (((56320 : Int32) + (((p2.toUInt32 >>> ((2 : Int32) &&& 31).toUInt32).toInt32) &&& (255 : Int32))).toUInt32.toUInt16.toUInt32.toInt32)), .unset]) rfl ?_
    show Steps p.tables e below (s₁.setTop (mkF m 17 #[.val (.ref p0), .val (.int (2 : Int32)), .val (.int p2), .val (.int (p2 &&& (3 : Int32))), .val (.int (((56320 : Int32) + (((p2.toUInt32 >>> ((2 : Int32) &&& 31).toUInt32).toInt32) &&& (255 : Int32))).toUInt32.toUInt16.toUInt32.toInt32)), .unset] [])) _
    refine XS.iloadN X0.here hx rfl (hb hby d5_17) rfl  ?_
    show Steps p.tables e below (s₁.setTop (mkF m 18 #[.val (.ref p0), .val (.int (2 : Int32)), .val (.int p2), .val (.int (p2 &&& (3 : Int32))), .val (.int (((56320 : Int32) + (((p2.toUInt32 >>> ((2 : Int32) &&& 31).toUInt32).toInt32) &&& (255 : Int32))).toUInt32.toUInt16.toUInt32.toInt32)), .unset] [(.int p2)])) _
    refine XS.bipush X0.here hx rfl (hb hby d5_18) ?_
    show Steps p.tables e below (s₁.setTop (mkF m 20 #[.val (.ref p0), .val (.int (2 : Int32)), .val (.int p2), .val (.int (p2 &&& (3 : Int32))), .val (.int (((56320 : Int32) + (((p2.toUInt32 >>> ((2 : Int32) &&& 31).toUInt32).toInt32) &&& (255 : Int32))).toUInt32.toUInt16.toUInt32.toInt32)), .unset] [(.int (10 : Int32)), (.int p2)])) _
    refine XS.iushr X0.here hx rfl (hb hby d5_20) rfl ?_
    show Steps p.tables e below (s₁.setTop (mkF m 21 #[.val (.ref p0), .val (.int (2 : Int32)), .val (.int p2), .val (.int (p2 &&& (3 : Int32))), .val (.int (((56320 : Int32) + (((p2.toUInt32 >>> ((2 : Int32) &&& 31).toUInt32).toInt32) &&& (255 : Int32))).toUInt32.toUInt16.toUInt32.toInt32)), .unset] [(.int ((p2.toUInt32 >>> ((10 : Int32) &&& 31).toUInt32).toInt32))])) _
    refine X0.ldcInt hx hown (mvT hZ (hw _ (List.mem_of_getElem? (i := 38) rfl))) (g := (mkF m 21 #[.val (.ref p0), .val (.int (2 : Int32)), .val (.int p2), .val (.int (p2 &&& (3 : Int32))), .val (.int (((56320 : Int32) + (((p2.toUInt32 >>> ((2 : Int32) &&& 31).toUInt32).toInt32) &&& (255 : Int32))).toUInt32.toUInt16.toUInt32.toInt32)), .unset] [(.int ((p2.toUInt32 >>> ((10 : Int32) &&& 31).toUInt32).toInt32))])) rfl (hb hby d5_21) _ ?_
    show Steps p.tables e below (s₁.setTop (mkF m 23 #[.val (.ref p0), .val (.int (2 : Int32)), .val (.int p2), .val (.int (p2 &&& (3 : Int32))), .val (.int (((56320 : Int32) + (((p2.toUInt32 >>> ((2 : Int32) &&& 31).toUInt32).toInt32) &&& (255 : Int32))).toUInt32.toUInt16.toUInt32.toInt32)), .unset] [(.int (65535 : Int32)), (.int ((p2.toUInt32 >>> ((10 : Int32) &&& 31).toUInt32).toInt32))])) _
    refine XS.iand X0.here hx rfl (hb hby d5_23) rfl ?_
    show Steps p.tables e below (s₁.setTop (mkF m 24 #[.val (.ref p0), .val (.int (2 : Int32)), .val (.int p2), .val (.int (p2 &&& (3 : Int32))), .val (.int (((56320 : Int32) + (((p2.toUInt32 >>> ((2 : Int32) &&& 31).toUInt32).toInt32) &&& (255 : Int32))).toUInt32.toUInt16.toUInt32.toInt32)), .unset] [(.int (((p2.toUInt32 >>> ((10 : Int32) &&& 31).toUInt32).toInt32) &&& (65535 : Int32)))])) _
    refine st1 _ ?_
    show Steps p.tables e below (T1.setTop (mkF m 27 #[.val (.ref p0), .val (.int (2 : Int32)), .val (.int p2), .val (.int (p2 &&& (3 : Int32))), .val (.int (((56320 : Int32) + (((p2.toUInt32 >>> ((2 : Int32) &&& 31).toUInt32).toInt32) &&& (255 : Int32))).toUInt32.toUInt16.toUInt32.toInt32)), .unset] [(.int (own_x p2))])) _
    refine XS.istore X1.here hx rfl (hb hby d5_27) rfl (l' := #[.val (.ref p0), .val (.int (2 : Int32)), .val (.int p2), .val (.int (p2 &&& (3 : Int32))), .val (.int (((56320 : Int32) + (((p2.toUInt32 >>> ((2 : Int32) &&& 31).toUInt32).toInt32) &&& (255 : Int32))).toUInt32.toUInt16.toUInt32.toInt32)), .val (.int (own_x p2))]) rfl ?_
    show Steps p.tables e below (T1.setTop (mkF m 29 #[.val (.ref p0), .val (.int (2 : Int32)), .val (.int p2), .val (.int (p2 &&& (3 : Int32))), .val (.int (((56320 : Int32) + (((p2.toUInt32 >>> ((2 : Int32) &&& 31).toUInt32).toInt32) &&& (255 : Int32))).toUInt32.toUInt16.toUInt32.toInt32)), .val (.int (own_x p2))] [])) _
    refine XS.iloadN X1.here hx rfl (hb hby d5_29) rfl  ?_
    exact kt)
  by_cases hc30_2 : (p2 &&& (3 : Int32)) = (0 : Int32)
  · obtain ⟨cl4, Ar4, q4, S4, N4, H4, G4⟩ := id A0
    have hin4 : ¬ ((2 : Int32) < 0 ∨ cl4.slots.size ≤ ((2 : Int32)).toNatClampNeg) := inb_of S4 ⟨by decide, by decide⟩
    obtain ⟨T5, h5, X5, e5, W5, st5⟩ := stC X1 hx hZ e1 Ar4 (j := (2 : Int32)) hin4 (g := (mkF m 37 #[.val (.ref p0), .val (.int (2 : Int32)), .val (.int p2), .val (.int (p2 &&& (3 : Int32))), .val (.int (((56320 : Int32) + (((p2.toUInt32 >>> ((2 : Int32) &&& 31).toUInt32).toInt32) &&& (255 : Int32))).toUInt32.toUInt16.toUInt32.toInt32)), .val (.int (own_x p2))] [(.int (own_x p2)), (.int (2 : Int32)), (.ref p0)])) rfl rfl (hb hby d5_37)
    have N5 := Fr.snoc X5 N1 g0_
    have K5 := (Keep.refl h0 [p0]).wr W5 (Or.inl (List.mem_of_getElem? (i := 0) rfl))
    have V5 : Arv Z h5 p0 k .char (6 : Int32) [(.int ez0), (.int ez1), (.int (nar .char (own_x p2))), (.int ez3), (.int ez4), (.int ez5)] (.int (0 : Int32)) := Arv.set Ar4 q4 S4 N4 H4 G4 (fits_nar_char _) W5 2 rfl (Nat.le_of_ble_eq_true rfl)
    obtain ⟨cl6, Ar6, q6, S6, N6, H6, G6⟩ := id V5
    have hin6 : ¬ ((3 : Int32) < 0 ∨ cl6.slots.size ≤ ((3 : Int32)).toNatClampNeg) := inb_of S6 ⟨by decide, by decide⟩
    obtain ⟨T7, h7, X7, e7, W7, st7⟩ := stC X5 hx hZ e5 Ar6 (j := (3 : Int32)) hin6 (g := (mkF m 44 #[.val (.ref p0), .val (.int (2 : Int32)), .val (.int p2), .val (.int (p2 &&& (3 : Int32))), .val (.int (((56320 : Int32) + (((p2.toUInt32 >>> ((2 : Int32) &&& 31).toUInt32).toInt32) &&& (255 : Int32))).toUInt32.toUInt16.toUInt32.toInt32)), .val (.int (own_x p2))] [(.int (own_x p2)), (.int (3 : Int32)), (.ref p0)])) rfl rfl (hb hby d5_44)
    have N7 := Fr.snoc X7 N5 g0_
    have K7 := K5.wr W7 (Or.inl (List.mem_of_getElem? (i := 0) rfl))
    have V7 : Arv Z h7 p0 k .char (6 : Int32) [(.int ez0), (.int ez1), (.int (nar .char (own_x p2))), (.int (nar .char (own_x p2))), (.int ez4), (.int ez5)] (.int (0 : Int32)) := Arv.set Ar6 q6 S6 N6 H6 G6 (fits_nar_char _) W7 3 rfl (Nat.le_of_ble_eq_true rfl)
    obtain ⟨fs, hr, hrun, hended, hW, hsame⟩ := X7.leave (v := none) (fun _ => rfl)
    refine ⟨_, _, pre3 _ ?_, hrun, hended, _, _, rfl, ?_, ⟨_, rfl⟩, hW, hsame.mono (by decide) (by decide)⟩
    · show Steps p.tables e below (T1.setTop (mkF m 30 #[.val (.ref p0), .val (.int (2 : Int32)), .val (.int p2), .val (.int (p2 &&& (3 : Int32))), .val (.int (((56320 : Int32) + (((p2.toUInt32 >>> ((2 : Int32) &&& 31).toUInt32).toInt32) &&& (255 : Int32))).toUInt32.toUInt16.toUInt32.toInt32)), .val (.int (own_x p2))] [(.int (p2 &&& (3 : Int32)))])) _
      refine XS.ifNo X1.here hx rfl (hb hby d5_30) rfl ((if0 _ _).trans (teq hc30_2).2) ?_
      show Steps p.tables e below (T1.setTop (mkF m 33 #[.val (.ref p0), .val (.int (2 : Int32)), .val (.int p2), .val (.int (p2 &&& (3 : Int32))), .val (.int (((56320 : Int32) + (((p2.toUInt32 >>> ((2 : Int32) &&& 31).toUInt32).toInt32) &&& (255 : Int32))).toUInt32.toUInt16.toUInt32.toInt32)), .val (.int (own_x p2))] [])) _
      refine XS.aloadN X1.here hx rfl (hb hby d5_33) rfl rfl ?_
      show Steps p.tables e below (T1.setTop (mkF m 34 #[.val (.ref p0), .val (.int (2 : Int32)), .val (.int p2), .val (.int (p2 &&& (3 : Int32))), .val (.int (((56320 : Int32) + (((p2.toUInt32 >>> ((2 : Int32) &&& 31).toUInt32).toInt32) &&& (255 : Int32))).toUInt32.toUInt16.toUInt32.toInt32)), .val (.int (own_x p2))] [(.ref p0)])) _
      refine XS.iloadN X1.here hx rfl (hb hby d5_34) rfl  ?_
      show Steps p.tables e below (T1.setTop (mkF m 35 #[.val (.ref p0), .val (.int (2 : Int32)), .val (.int p2), .val (.int (p2 &&& (3 : Int32))), .val (.int (((56320 : Int32) + (((p2.toUInt32 >>> ((2 : Int32) &&& 31).toUInt32).toInt32) &&& (255 : Int32))).toUInt32.toUInt16.toUInt32.toInt32)), .val (.int (own_x p2))] [(.int (2 : Int32)), (.ref p0)])) _
      refine XS.iload X1.here hx rfl (hb hby d5_35) rfl  ?_
      show Steps p.tables e below (T1.setTop (mkF m 37 #[.val (.ref p0), .val (.int (2 : Int32)), .val (.int p2), .val (.int (p2 &&& (3 : Int32))), .val (.int (((56320 : Int32) + (((p2.toUInt32 >>> ((2 : Int32) &&& 31).toUInt32).toInt32) &&& (255 : Int32))).toUInt32.toUInt16.toUInt32.toInt32)), .val (.int (own_x p2))] [(.int (own_x p2)), (.int (2 : Int32)), (.ref p0)])) _
      refine st5 _ ?_
      show Steps p.tables e below (T5.setTop (mkF m 38 #[.val (.ref p0), .val (.int (2 : Int32)), .val (.int p2), .val (.int (p2 &&& (3 : Int32))), .val (.int (((56320 : Int32) + (((p2.toUInt32 >>> ((2 : Int32) &&& 31).toUInt32).toInt32) &&& (255 : Int32))).toUInt32.toUInt16.toUInt32.toInt32)), .val (.int (own_x p2))] [])) _
      refine XS.aloadN X5.here hx rfl (hb hby d5_38) rfl rfl ?_
      show Steps p.tables e below (T5.setTop (mkF m 39 #[.val (.ref p0), .val (.int (2 : Int32)), .val (.int p2), .val (.int (p2 &&& (3 : Int32))), .val (.int (((56320 : Int32) + (((p2.toUInt32 >>> ((2 : Int32) &&& 31).toUInt32).toInt32) &&& (255 : Int32))).toUInt32.toUInt16.toUInt32.toInt32)), .val (.int (own_x p2))] [(.ref p0)])) _
      refine XS.iloadN X5.here hx rfl (hb hby d5_39) rfl  ?_
      show Steps p.tables e below (T5.setTop (mkF m 40 #[.val (.ref p0), .val (.int (2 : Int32)), .val (.int p2), .val (.int (p2 &&& (3 : Int32))), .val (.int (((56320 : Int32) + (((p2.toUInt32 >>> ((2 : Int32) &&& 31).toUInt32).toInt32) &&& (255 : Int32))).toUInt32.toUInt16.toUInt32.toInt32)), .val (.int (own_x p2))] [(.int (2 : Int32)), (.ref p0)])) _
      refine XS.iconst X5.here hx rfl (hb hby d5_40) ?_
      show Steps p.tables e below (T5.setTop (mkF m 41 #[.val (.ref p0), .val (.int (2 : Int32)), .val (.int p2), .val (.int (p2 &&& (3 : Int32))), .val (.int (((56320 : Int32) + (((p2.toUInt32 >>> ((2 : Int32) &&& 31).toUInt32).toInt32) &&& (255 : Int32))).toUInt32.toUInt16.toUInt32.toInt32)), .val (.int (own_x p2))] [(.int (1 : Int32)), (.int (2 : Int32)), (.ref p0)])) _
      refine XS.iadd X5.here hx rfl (hb hby d5_41) rfl ?_
      show Steps p.tables e below (T5.setTop (mkF m 42 #[.val (.ref p0), .val (.int (2 : Int32)), .val (.int p2), .val (.int (p2 &&& (3 : Int32))), .val (.int (((56320 : Int32) + (((p2.toUInt32 >>> ((2 : Int32) &&& 31).toUInt32).toInt32) &&& (255 : Int32))).toUInt32.toUInt16.toUInt32.toInt32)), .val (.int (own_x p2))] [(.int (3 : Int32)), (.ref p0)])) _
      refine XS.iload X5.here hx rfl (hb hby d5_42) rfl  ?_
      show Steps p.tables e below (T5.setTop (mkF m 44 #[.val (.ref p0), .val (.int (2 : Int32)), .val (.int p2), .val (.int (p2 &&& (3 : Int32))), .val (.int (((56320 : Int32) + (((p2.toUInt32 >>> ((2 : Int32) &&& 31).toUInt32).toInt32) &&& (255 : Int32))).toUInt32.toUInt16.toUInt32.toInt32)), .val (.int (own_x p2))] [(.int (own_x p2)), (.int (3 : Int32)), (.ref p0)])) _
      refine st7 _ ?_
      show Steps p.tables e below (T7.setTop (mkF m 45 #[.val (.ref p0), .val (.int (2 : Int32)), .val (.int p2), .val (.int (p2 &&& (3 : Int32))), .val (.int (((56320 : Int32) + (((p2.toUInt32 >>> ((2 : Int32) &&& 31).toUInt32).toInt32) &&& (255 : Int32))).toUInt32.toUInt16.toUInt32.toInt32)), .val (.int (own_x p2))] [])) _
      refine XS.goto X7.here hx rfl (pc0 := 45) (pc' := 120) rfl (hb hby d5_45) (by decide) (by decide) ?_
      show Steps p.tables e below (T7.setTop (mkF m 120 #[.val (.ref p0), .val (.int (2 : Int32)), .val (.int p2), .val (.int (p2 &&& (3 : Int32))), .val (.int (((56320 : Int32) + (((p2.toUInt32 >>> ((2 : Int32) &&& 31).toUInt32).toInt32) &&& (255 : Int32))).toUInt32.toUInt16.toUInt32.toInt32)), .val (.int (own_x p2))] [])) _
      exact X7.returnOut hx Bd.returns (hb hby d5_120) hr
    · show Q_rmPutL2 Z p0 p2 k ez0 ez1 ez2 ez3 ez4 ez5 h0 n0 _ T7.heap _
      rw [e7]
      exact ⟨rfl, N7, K7, (by unfold own_pa own_pb; rw [if_pos (show own_k p2 = _ from hc30_2), if_pos (show own_k p2 = _ from hc30_2)]; exact V7)⟩
  · have pre9 : ∀ t, Steps p.tables e below (T1.setTop (mkF m 50 #[.val (.ref p0), .val (.int (2 : Int32)), .val (.int p2), .val (.int (p2 &&& (3 : Int32))), .val (.int (((56320 : Int32) + (((p2.toUInt32 >>> ((2 : Int32) &&& 31).toUInt32).toInt32) &&& (255 : Int32))).toUInt32.toUInt16.toUInt32.toInt32)), .val (.int (own_x p2))] [(.int (1 : Int32)), (.int (p2 &&& (3 : Int32)))])) t → Steps p.tables e below (s₁.setTop (entryFrame m #[(.ref p0), (.int (2 : Int32)), (.int p2)] 6)) t := fun t kt => pre3 t (by
      show Steps p.tables e below (T1.setTop (mkF m 30 #[.val (.ref p0), .val (.int (2 : Int32)), .val (.int p2), .val (.int (p2 &&& (3 : Int32))), .val (.int (((56320 : Int32) + (((p2.toUInt32 >>> ((2 : Int32) &&& 31).toUInt32).toInt32) &&& (255 : Int32))).toUInt32.toUInt16.toUInt32.toInt32)), .val (.int (own_x p2))] [(.int (p2 &&& (3 : Int32)))])) _
      refine XS.ifYes X1.here hx rfl (pc0 := 30) (pc' := 48) rfl (hb hby d5_30) rfl ((if0 _ _).trans (feq hc30_2).2) (by decide) (by decide) ?_
      show Steps p.tables e below (T1.setTop (mkF m 48 #[.val (.ref p0), .val (.int (2 : Int32)), .val (.int p2), .val (.int (p2 &&& (3 : Int32))), .val (.int (((56320 : Int32) + (((p2.toUInt32 >>> ((2 : Int32) &&& 31).toUInt32).toInt32) &&& (255 : Int32))).toUInt32.toUInt16.toUInt32.toInt32)), .val (.int (own_x p2))] [])) _
      refine XS.iloadN X1.here hx rfl (hb hby d5_48) rfl  ?_
      show Steps p.tables e below (T1.setTop (mkF m 49 #[.val (.ref p0), .val (.int (2 : Int32)), .val (.int p2), .val (.int (p2 &&& (3 : Int32))), .val (.int (((56320 : Int32) + (((p2.toUInt32 >>> ((2 : Int32) &&& 31).toUInt32).toInt32) &&& (255 : Int32))).toUInt32.toUInt16.toUInt32.toInt32)), .val (.int (own_x p2))] [(.int (p2 &&& (3 : Int32)))])) _
      refine XS.iconst X1.here hx rfl (hb hby d5_49) ?_
      exact kt)
    by_cases hc50_8 : (p2 &&& (3 : Int32)) = (1 : Int32)
    · obtain ⟨cl10, Ar10, q10, S10, N10, H10, G10⟩ := id A0
      have hin10 : ¬ ((2 : Int32) < 0 ∨ cl10.slots.size ≤ ((2 : Int32)).toNatClampNeg) := inb_of S10 ⟨by decide, by decide⟩
      obtain ⟨T11, h11, X11, e11, W11, st11⟩ := stC X1 hx hZ e1 Ar10 (j := (2 : Int32)) hin10 (g := (mkF m 67 #[.val (.ref p0), .val (.int (2 : Int32)), .val (.int p2), .val (.int (p2 &&& (3 : Int32))), .val (.int (((56320 : Int32) + (((p2.toUInt32 >>> ((2 : Int32) &&& 31).toUInt32).toInt32) &&& (255 : Int32))).toUInt32.toUInt16.toUInt32.toInt32)), .val (.int (own_x p2))] [(.int (((55296 : Int32) + (((p2.toUInt32 >>> ((10 : Int32) &&& 31).toUInt32).toInt32) &&& (1023 : Int32))).toUInt32.toUInt16.toUInt32.toInt32)), (.int (2 : Int32)), (.ref p0)])) rfl rfl (hb hby d5_67)
      have N11 := Fr.snoc X11 N1 g0_
      have K11 := (Keep.refl h0 [p0]).wr W11 (Or.inl (List.mem_of_getElem? (i := 0) rfl))
      have V11 : Arv Z h11 p0 k .char (6 : Int32) [(.int ez0), (.int ez1), (.int (nar .char (((55296 : Int32) + (((p2.toUInt32 >>> ((10 : Int32) &&& 31).toUInt32).toInt32) &&& (1023 : Int32))).toUInt32.toUInt16.toUInt32.toInt32))), (.int ez3), (.int ez4), (.int ez5)] (.int (0 : Int32)) := Arv.set Ar10 q10 S10 N10 H10 G10 (fits_nar_char _) W11 2 rfl (Nat.le_of_ble_eq_true rfl)
      obtain ⟨cl12, Ar12, q12, S12, N12, H12, G12⟩ := id V11
      have hin12 : ¬ ((3 : Int32) < 0 ∨ cl12.slots.size ≤ ((3 : Int32)).toNatClampNeg) := inb_of S12 ⟨by decide, by decide⟩
      obtain ⟨T13, h13, X13, e13, W13, st13⟩ := stC X11 hx hZ e11 Ar12 (j := (3 : Int32)) hin12 (g := (mkF m 84 #[.val (.ref p0), .val (.int (2 : Int32)), .val (.int p2), .val (.int (p2 &&& (3 : Int32))), .val (.int (((56320 : Int32) + (((p2.toUInt32 >>> ((2 : Int32) &&& 31).toUInt32).toInt32) &&& (255 : Int32))).toUInt32.toUInt16.toUInt32.toInt32)), .val (.int (own_x p2))] [(.int (((56320 : Int32) + (((p2.toUInt32 >>> ((20 : Int32) &&& 31).toUInt32).toInt32) &&& (1023 : Int32))).toUInt32.toUInt16.toUInt32.toInt32)), (.int (3 : Int32)), (.ref p0)])) rfl rfl (hb hby d5_84)
      have N13 := Fr.snoc X13 N11 g0_
      have K13 := K11.wr W13 (Or.inl (List.mem_of_getElem? (i := 0) rfl))
      have V13 : Arv Z h13 p0 k .char (6 : Int32) [(.int ez0), (.int ez1), (.int (nar .char (((55296 : Int32) + (((p2.toUInt32 >>> ((10 : Int32) &&& 31).toUInt32).toInt32) &&& (1023 : Int32))).toUInt32.toUInt16.toUInt32.toInt32))), (.int (nar .char (((56320 : Int32) + (((p2.toUInt32 >>> ((20 : Int32) &&& 31).toUInt32).toInt32) &&& (1023 : Int32))).toUInt32.toUInt16.toUInt32.toInt32))), (.int ez4), (.int ez5)] (.int (0 : Int32)) := Arv.set Ar12 q12 S12 N12 H12 G12 (fits_nar_char _) W13 3 rfl (Nat.le_of_ble_eq_true rfl)
      obtain ⟨fs, hr, hrun, hended, hW, hsame⟩ := X13.leave (v := none) (fun _ => rfl)
      refine ⟨_, _, pre9 _ ?_, hrun, hended, _, _, rfl, ?_, ⟨_, rfl⟩, hW, hsame.mono (by decide) (by decide)⟩
      · show Steps p.tables e below (T1.setTop (mkF m 50 #[.val (.ref p0), .val (.int (2 : Int32)), .val (.int p2), .val (.int (p2 &&& (3 : Int32))), .val (.int (((56320 : Int32) + (((p2.toUInt32 >>> ((2 : Int32) &&& 31).toUInt32).toInt32) &&& (255 : Int32))).toUInt32.toUInt16.toUInt32.toInt32)), .val (.int (own_x p2))] [(.int (1 : Int32)), (.int (p2 &&& (3 : Int32)))])) _
        refine XS.icmpNo X1.here hx rfl (hb hby d5_50) rfl (teq hc50_8).2 ?_
        show Steps p.tables e below (T1.setTop (mkF m 53 #[.val (.ref p0), .val (.int (2 : Int32)), .val (.int p2), .val (.int (p2 &&& (3 : Int32))), .val (.int (((56320 : Int32) + (((p2.toUInt32 >>> ((2 : Int32) &&& 31).toUInt32).toInt32) &&& (255 : Int32))).toUInt32.toUInt16.toUInt32.toInt32)), .val (.int (own_x p2))] [])) _
        refine XS.aloadN X1.here hx rfl (hb hby d5_53) rfl rfl ?_
        show Steps p.tables e below (T1.setTop (mkF m 54 #[.val (.ref p0), .val (.int (2 : Int32)), .val (.int p2), .val (.int (p2 &&& (3 : Int32))), .val (.int (((56320 : Int32) + (((p2.toUInt32 >>> ((2 : Int32) &&& 31).toUInt32).toInt32) &&& (255 : Int32))).toUInt32.toUInt16.toUInt32.toInt32)), .val (.int (own_x p2))] [(.ref p0)])) _
        refine XS.iloadN X1.here hx rfl (hb hby d5_54) rfl  ?_
        show Steps p.tables e below (T1.setTop (mkF m 55 #[.val (.ref p0), .val (.int (2 : Int32)), .val (.int p2), .val (.int (p2 &&& (3 : Int32))), .val (.int (((56320 : Int32) + (((p2.toUInt32 >>> ((2 : Int32) &&& 31).toUInt32).toInt32) &&& (255 : Int32))).toUInt32.toUInt16.toUInt32.toInt32)), .val (.int (own_x p2))] [(.int (2 : Int32)), (.ref p0)])) _
        refine X1.ldcInt hx hown (mvT hZ (hw _ (List.mem_of_getElem? (i := 42) rfl))) (g := (mkF m 55 #[.val (.ref p0), .val (.int (2 : Int32)), .val (.int p2), .val (.int (p2 &&& (3 : Int32))), .val (.int (((56320 : Int32) + (((p2.toUInt32 >>> ((2 : Int32) &&& 31).toUInt32).toInt32) &&& (255 : Int32))).toUInt32.toUInt16.toUInt32.toInt32)), .val (.int (own_x p2))] [(.int (2 : Int32)), (.ref p0)])) rfl (hb hby d5_55) _ ?_
        show Steps p.tables e below (T1.setTop (mkF m 57 #[.val (.ref p0), .val (.int (2 : Int32)), .val (.int p2), .val (.int (p2 &&& (3 : Int32))), .val (.int (((56320 : Int32) + (((p2.toUInt32 >>> ((2 : Int32) &&& 31).toUInt32).toInt32) &&& (255 : Int32))).toUInt32.toUInt16.toUInt32.toInt32)), .val (.int (own_x p2))] [(.int (55296 : Int32)), (.int (2 : Int32)), (.ref p0)])) _
        refine XS.iloadN X1.here hx rfl (hb hby d5_57) rfl  ?_
        show Steps p.tables e below (T1.setTop (mkF m 58 #[.val (.ref p0), .val (.int (2 : Int32)), .val (.int p2), .val (.int (p2 &&& (3 : Int32))), .val (.int (((56320 : Int32) + (((p2.toUInt32 >>> ((2 : Int32) &&& 31).toUInt32).toInt32) &&& (255 : Int32))).toUInt32.toUInt16.toUInt32.toInt32)), .val (.int (own_x p2))] [(.int p2), (.int (55296 : Int32)), (.int (2 : Int32)), (.ref p0)])) _
        refine XS.bipush X1.here hx rfl (hb hby d5_58) ?_
        show Steps p.tables e below (T1.setTop (mkF m 60 #[.val (.ref p0), .val (.int (2 : Int32)), .val (.int p2), .val (.int (p2 &&& (3 : Int32))), .val (.int (((56320 : Int32) + (((p2.toUInt32 >>> ((2 : Int32) &&& 31).toUInt32).toInt32) &&& (255 : Int32))).toUInt32.toUInt16.toUInt32.toInt32)), .val (.int (own_x p2))] [(.int (10 : Int32)), (.int p2), (.int (55296 : Int32)), (.int (2 : Int32)), (.ref p0)])) _
        refine XS.iushr X1.here hx rfl (hb hby d5_60) rfl ?_
        show Steps p.tables e below (T1.setTop (mkF m 61 #[.val (.ref p0), .val (.int (2 : Int32)), .val (.int p2), .val (.int (p2 &&& (3 : Int32))), .val (.int (((56320 : Int32) + (((p2.toUInt32 >>> ((2 : Int32) &&& 31).toUInt32).toInt32) &&& (255 : Int32))).toUInt32.toUInt16.toUInt32.toInt32)), .val (.int (own_x p2))] [(.int ((p2.toUInt32 >>> ((10 : Int32) &&& 31).toUInt32).toInt32)), (.int (55296 : Int32)), (.int (2 : Int32)), (.ref p0)])) _
        refine XS.sipush X1.here hx rfl (hb hby d5_61) ?_
        show Steps p.tables e below (T1.setTop (mkF m 64 #[.val (.ref p0), .val (.int (2 : Int32)), .val (.int p2), .val (.int (p2 &&& (3 : Int32))), .val (.int (((56320 : Int32) + (((p2.toUInt32 >>> ((2 : Int32) &&& 31).toUInt32).toInt32) &&& (255 : Int32))).toUInt32.toUInt16.toUInt32.toInt32)), .val (.int (own_x p2))] [(.int (1023 : Int32)), (.int ((p2.toUInt32 >>> ((10 : Int32) &&& 31).toUInt32).toInt32)), (.int (55296 : Int32)), (.int (2 : Int32)), (.ref p0)])) _
        refine XS.iand X1.here hx rfl (hb hby d5_64) rfl ?_
        show Steps p.tables e below (T1.setTop (mkF m 65 #[.val (.ref p0), .val (.int (2 : Int32)), .val (.int p2), .val (.int (p2 &&& (3 : Int32))), .val (.int (((56320 : Int32) + (((p2.toUInt32 >>> ((2 : Int32) &&& 31).toUInt32).toInt32) &&& (255 : Int32))).toUInt32.toUInt16.toUInt32.toInt32)), .val (.int (own_x p2))] [(.int (((p2.toUInt32 >>> ((10 : Int32) &&& 31).toUInt32).toInt32) &&& (1023 : Int32))), (.int (55296 : Int32)), (.int (2 : Int32)), (.ref p0)])) _
        refine XS.iadd X1.here hx rfl (hb hby d5_65) rfl ?_
        show Steps p.tables e below (T1.setTop (mkF m 66 #[.val (.ref p0), .val (.int (2 : Int32)), .val (.int p2), .val (.int (p2 &&& (3 : Int32))), .val (.int (((56320 : Int32) + (((p2.toUInt32 >>> ((2 : Int32) &&& 31).toUInt32).toInt32) &&& (255 : Int32))).toUInt32.toUInt16.toUInt32.toInt32)), .val (.int (own_x p2))] [(.int ((55296 : Int32) + (((p2.toUInt32 >>> ((10 : Int32) &&& 31).toUInt32).toInt32) &&& (1023 : Int32)))), (.int (2 : Int32)), (.ref p0)])) _
        refine XS.i2c X1.here hx rfl (hb hby d5_66) rfl ?_
        show Steps p.tables e below (T1.setTop (mkF m 67 #[.val (.ref p0), .val (.int (2 : Int32)), .val (.int p2), .val (.int (p2 &&& (3 : Int32))), .val (.int (((56320 : Int32) + (((p2.toUInt32 >>> ((2 : Int32) &&& 31).toUInt32).toInt32) &&& (255 : Int32))).toUInt32.toUInt16.toUInt32.toInt32)), .val (.int (own_x p2))] [(.int (((55296 : Int32) + (((p2.toUInt32 >>> ((10 : Int32) &&& 31).toUInt32).toInt32) &&& (1023 : Int32))).toUInt32.toUInt16.toUInt32.toInt32)), (.int (2 : Int32)), (.ref p0)])) _
        refine st11 _ ?_
        show Steps p.tables e below (T11.setTop (mkF m 68 #[.val (.ref p0), .val (.int (2 : Int32)), .val (.int p2), .val (.int (p2 &&& (3 : Int32))), .val (.int (((56320 : Int32) + (((p2.toUInt32 >>> ((2 : Int32) &&& 31).toUInt32).toInt32) &&& (255 : Int32))).toUInt32.toUInt16.toUInt32.toInt32)), .val (.int (own_x p2))] [])) _
        refine XS.aloadN X11.here hx rfl (hb hby d5_68) rfl rfl ?_
        show Steps p.tables e below (T11.setTop (mkF m 69 #[.val (.ref p0), .val (.int (2 : Int32)), .val (.int p2), .val (.int (p2 &&& (3 : Int32))), .val (.int (((56320 : Int32) + (((p2.toUInt32 >>> ((2 : Int32) &&& 31).toUInt32).toInt32) &&& (255 : Int32))).toUInt32.toUInt16.toUInt32.toInt32)), .val (.int (own_x p2))] [(.ref p0)])) _
        refine XS.iloadN X11.here hx rfl (hb hby d5_69) rfl  ?_
        show Steps p.tables e below (T11.setTop (mkF m 70 #[.val (.ref p0), .val (.int (2 : Int32)), .val (.int p2), .val (.int (p2 &&& (3 : Int32))), .val (.int (((56320 : Int32) + (((p2.toUInt32 >>> ((2 : Int32) &&& 31).toUInt32).toInt32) &&& (255 : Int32))).toUInt32.toUInt16.toUInt32.toInt32)), .val (.int (own_x p2))] [(.int (2 : Int32)), (.ref p0)])) _
        refine XS.iconst X11.here hx rfl (hb hby d5_70) ?_
        show Steps p.tables e below (T11.setTop (mkF m 71 #[.val (.ref p0), .val (.int (2 : Int32)), .val (.int p2), .val (.int (p2 &&& (3 : Int32))), .val (.int (((56320 : Int32) + (((p2.toUInt32 >>> ((2 : Int32) &&& 31).toUInt32).toInt32) &&& (255 : Int32))).toUInt32.toUInt16.toUInt32.toInt32)), .val (.int (own_x p2))] [(.int (1 : Int32)), (.int (2 : Int32)), (.ref p0)])) _
        refine XS.iadd X11.here hx rfl (hb hby d5_71) rfl ?_
        show Steps p.tables e below (T11.setTop (mkF m 72 #[.val (.ref p0), .val (.int (2 : Int32)), .val (.int p2), .val (.int (p2 &&& (3 : Int32))), .val (.int (((56320 : Int32) + (((p2.toUInt32 >>> ((2 : Int32) &&& 31).toUInt32).toInt32) &&& (255 : Int32))).toUInt32.toUInt16.toUInt32.toInt32)), .val (.int (own_x p2))] [(.int (3 : Int32)), (.ref p0)])) _
        refine X11.ldcInt hx hown (mvT hZ (hw _ (List.mem_of_getElem? (i := 37) rfl))) (g := (mkF m 72 #[.val (.ref p0), .val (.int (2 : Int32)), .val (.int p2), .val (.int (p2 &&& (3 : Int32))), .val (.int (((56320 : Int32) + (((p2.toUInt32 >>> ((2 : Int32) &&& 31).toUInt32).toInt32) &&& (255 : Int32))).toUInt32.toUInt16.toUInt32.toInt32)), .val (.int (own_x p2))] [(.int (3 : Int32)), (.ref p0)])) rfl (hb hby d5_72) _ ?_
        show Steps p.tables e below (T11.setTop (mkF m 74 #[.val (.ref p0), .val (.int (2 : Int32)), .val (.int p2), .val (.int (p2 &&& (3 : Int32))), .val (.int (((56320 : Int32) + (((p2.toUInt32 >>> ((2 : Int32) &&& 31).toUInt32).toInt32) &&& (255 : Int32))).toUInt32.toUInt16.toUInt32.toInt32)), .val (.int (own_x p2))] [(.int (56320 : Int32)), (.int (3 : Int32)), (.ref p0)])) _
        refine XS.iloadN X11.here hx rfl (hb hby d5_74) rfl  ?_
        show Steps p.tables e below (T11.setTop (mkF m 75 #[.val (.ref p0), .val (.int (2 : Int32)), .val (.int p2), .val (.int (p2 &&& (3 : Int32))), .val (.int (((56320 : Int32) + (((p2.toUInt32 >>> ((2 : Int32) &&& 31).toUInt32).toInt32) &&& (255 : Int32))).toUInt32.toUInt16.toUInt32.toInt32)), .val (.int (own_x p2))] [(.int p2), (.int (56320 : Int32)), (.int (3 : Int32)), (.ref p0)])) _
        refine XS.bipush X11.here hx rfl (hb hby d5_75) ?_
        show Steps p.tables e below (T11.setTop (mkF m 77 #[.val (.ref p0), .val (.int (2 : Int32)), .val (.int p2), .val (.int (p2 &&& (3 : Int32))), .val (.int (((56320 : Int32) + (((p2.toUInt32 >>> ((2 : Int32) &&& 31).toUInt32).toInt32) &&& (255 : Int32))).toUInt32.toUInt16.toUInt32.toInt32)), .val (.int (own_x p2))] [(.int (20 : Int32)), (.int p2), (.int (56320 : Int32)), (.int (3 : Int32)), (.ref p0)])) _
        refine XS.iushr X11.here hx rfl (hb hby d5_77) rfl ?_
        show Steps p.tables e below (T11.setTop (mkF m 78 #[.val (.ref p0), .val (.int (2 : Int32)), .val (.int p2), .val (.int (p2 &&& (3 : Int32))), .val (.int (((56320 : Int32) + (((p2.toUInt32 >>> ((2 : Int32) &&& 31).toUInt32).toInt32) &&& (255 : Int32))).toUInt32.toUInt16.toUInt32.toInt32)), .val (.int (own_x p2))] [(.int ((p2.toUInt32 >>> ((20 : Int32) &&& 31).toUInt32).toInt32)), (.int (56320 : Int32)), (.int (3 : Int32)), (.ref p0)])) _
        refine XS.sipush X11.here hx rfl (hb hby d5_78) ?_
        show Steps p.tables e below (T11.setTop (mkF m 81 #[.val (.ref p0), .val (.int (2 : Int32)), .val (.int p2), .val (.int (p2 &&& (3 : Int32))), .val (.int (((56320 : Int32) + (((p2.toUInt32 >>> ((2 : Int32) &&& 31).toUInt32).toInt32) &&& (255 : Int32))).toUInt32.toUInt16.toUInt32.toInt32)), .val (.int (own_x p2))] [(.int (1023 : Int32)), (.int ((p2.toUInt32 >>> ((20 : Int32) &&& 31).toUInt32).toInt32)), (.int (56320 : Int32)), (.int (3 : Int32)), (.ref p0)])) _
        refine XS.iand X11.here hx rfl (hb hby d5_81) rfl ?_
        show Steps p.tables e below (T11.setTop (mkF m 82 #[.val (.ref p0), .val (.int (2 : Int32)), .val (.int p2), .val (.int (p2 &&& (3 : Int32))), .val (.int (((56320 : Int32) + (((p2.toUInt32 >>> ((2 : Int32) &&& 31).toUInt32).toInt32) &&& (255 : Int32))).toUInt32.toUInt16.toUInt32.toInt32)), .val (.int (own_x p2))] [(.int (((p2.toUInt32 >>> ((20 : Int32) &&& 31).toUInt32).toInt32) &&& (1023 : Int32))), (.int (56320 : Int32)), (.int (3 : Int32)), (.ref p0)])) _
        refine XS.iadd X11.here hx rfl (hb hby d5_82) rfl ?_
        show Steps p.tables e below (T11.setTop (mkF m 83 #[.val (.ref p0), .val (.int (2 : Int32)), .val (.int p2), .val (.int (p2 &&& (3 : Int32))), .val (.int (((56320 : Int32) + (((p2.toUInt32 >>> ((2 : Int32) &&& 31).toUInt32).toInt32) &&& (255 : Int32))).toUInt32.toUInt16.toUInt32.toInt32)), .val (.int (own_x p2))] [(.int ((56320 : Int32) + (((p2.toUInt32 >>> ((20 : Int32) &&& 31).toUInt32).toInt32) &&& (1023 : Int32)))), (.int (3 : Int32)), (.ref p0)])) _
        refine XS.i2c X11.here hx rfl (hb hby d5_83) rfl ?_
        show Steps p.tables e below (T11.setTop (mkF m 84 #[.val (.ref p0), .val (.int (2 : Int32)), .val (.int p2), .val (.int (p2 &&& (3 : Int32))), .val (.int (((56320 : Int32) + (((p2.toUInt32 >>> ((2 : Int32) &&& 31).toUInt32).toInt32) &&& (255 : Int32))).toUInt32.toUInt16.toUInt32.toInt32)), .val (.int (own_x p2))] [(.int (((56320 : Int32) + (((p2.toUInt32 >>> ((20 : Int32) &&& 31).toUInt32).toInt32) &&& (1023 : Int32))).toUInt32.toUInt16.toUInt32.toInt32)), (.int (3 : Int32)), (.ref p0)])) _
        refine st13 _ ?_
        show Steps p.tables e below (T13.setTop (mkF m 85 #[.val (.ref p0), .val (.int (2 : Int32)), .val (.int p2), .val (.int (p2 &&& (3 : Int32))), .val (.int (((56320 : Int32) + (((p2.toUInt32 >>> ((2 : Int32) &&& 31).toUInt32).toInt32) &&& (255 : Int32))).toUInt32.toUInt16.toUInt32.toInt32)), .val (.int (own_x p2))] [])) _
        refine XS.goto X13.here hx rfl (pc0 := 85) (pc' := 120) rfl (hb hby d5_85) (by decide) (by decide) ?_
        show Steps p.tables e below (T13.setTop (mkF m 120 #[.val (.ref p0), .val (.int (2 : Int32)), .val (.int p2), .val (.int (p2 &&& (3 : Int32))), .val (.int (((56320 : Int32) + (((p2.toUInt32 >>> ((2 : Int32) &&& 31).toUInt32).toInt32) &&& (255 : Int32))).toUInt32.toUInt16.toUInt32.toInt32)), .val (.int (own_x p2))] [])) _
        exact X13.returnOut hx Bd.returns (hb hby d5_120) hr
      · show Q_rmPutL2 Z p0 p2 k ez0 ez1 ez2 ez3 ez4 ez5 h0 n0 _ T13.heap _
        rw [e13]
        exact ⟨rfl, N13, K13, (by unfold own_pa own_pb; rw [if_neg (show ¬ own_k p2 = _ from hc30_2), if_pos (show own_k p2 = _ from hc50_8), if_neg (show ¬ own_k p2 = _ from hc30_2), if_pos (show own_k p2 = _ from hc50_8)]; exact V13)⟩
    · have pre15 : ∀ t, Steps p.tables e below (T1.setTop (mkF m 90 #[.val (.ref p0), .val (.int (2 : Int32)), .val (.int p2), .val (.int (p2 &&& (3 : Int32))), .val (.int (((56320 : Int32) + (((p2.toUInt32 >>> ((2 : Int32) &&& 31).toUInt32).toInt32) &&& (255 : Int32))).toUInt32.toUInt16.toUInt32.toInt32)), .val (.int (own_x p2))] [(.int (2 : Int32)), (.int (p2 &&& (3 : Int32)))])) t → Steps p.tables e below (s₁.setTop (entryFrame m #[(.ref p0), (.int (2 : Int32)), (.int p2)] 6)) t := fun t kt => pre9 t (by
        show Steps p.tables e below (T1.setTop (mkF m 50 #[.val (.ref p0), .val (.int (2 : Int32)), .val (.int p2), .val (.int (p2 &&& (3 : Int32))), .val (.int (((56320 : Int32) + (((p2.toUInt32 >>> ((2 : Int32) &&& 31).toUInt32).toInt32) &&& (255 : Int32))).toUInt32.toUInt16.toUInt32.toInt32)), .val (.int (own_x p2))] [(.int (1 : Int32)), (.int (p2 &&& (3 : Int32)))])) _
        refine XS.icmpYes X1.here hx rfl (pc0 := 50) (pc' := 88) rfl (hb hby d5_50) rfl (feq hc50_8).2 (by decide) (by decide) ?_
        show Steps p.tables e below (T1.setTop (mkF m 88 #[.val (.ref p0), .val (.int (2 : Int32)), .val (.int p2), .val (.int (p2 &&& (3 : Int32))), .val (.int (((56320 : Int32) + (((p2.toUInt32 >>> ((2 : Int32) &&& 31).toUInt32).toInt32) &&& (255 : Int32))).toUInt32.toUInt16.toUInt32.toInt32)), .val (.int (own_x p2))] [])) _
        refine XS.iloadN X1.here hx rfl (hb hby d5_88) rfl  ?_
        show Steps p.tables e below (T1.setTop (mkF m 89 #[.val (.ref p0), .val (.int (2 : Int32)), .val (.int p2), .val (.int (p2 &&& (3 : Int32))), .val (.int (((56320 : Int32) + (((p2.toUInt32 >>> ((2 : Int32) &&& 31).toUInt32).toInt32) &&& (255 : Int32))).toUInt32.toUInt16.toUInt32.toInt32)), .val (.int (own_x p2))] [(.int (p2 &&& (3 : Int32)))])) _
        refine XS.iconst X1.here hx rfl (hb hby d5_89) ?_
        exact kt)
      by_cases hc90_14 : (p2 &&& (3 : Int32)) = (2 : Int32)
      · obtain ⟨cl16, Ar16, q16, S16, N16, H16, G16⟩ := id A0
        have hin16 : ¬ ((2 : Int32) < 0 ∨ cl16.slots.size ≤ ((2 : Int32)).toNatClampNeg) := inb_of S16 ⟨by decide, by decide⟩
        obtain ⟨T17, h17, X17, e17, W17, st17⟩ := stC X1 hx hZ e1 Ar16 (j := (2 : Int32)) hin16 (g := (mkF m 97 #[.val (.ref p0), .val (.int (2 : Int32)), .val (.int p2), .val (.int (p2 &&& (3 : Int32))), .val (.int (((56320 : Int32) + (((p2.toUInt32 >>> ((2 : Int32) &&& 31).toUInt32).toInt32) &&& (255 : Int32))).toUInt32.toUInt16.toUInt32.toInt32)), .val (.int (own_x p2))] [(.int (((56320 : Int32) + (((p2.toUInt32 >>> ((2 : Int32) &&& 31).toUInt32).toInt32) &&& (255 : Int32))).toUInt32.toUInt16.toUInt32.toInt32)), (.int (2 : Int32)), (.ref p0)])) rfl rfl (hb hby d5_97)
        have N17 := Fr.snoc X17 N1 g0_
        have K17 := (Keep.refl h0 [p0]).wr W17 (Or.inl (List.mem_of_getElem? (i := 0) rfl))
        have V17 : Arv Z h17 p0 k .char (6 : Int32) [(.int ez0), (.int ez1), (.int (nar .char (((56320 : Int32) + (((p2.toUInt32 >>> ((2 : Int32) &&& 31).toUInt32).toInt32) &&& (255 : Int32))).toUInt32.toUInt16.toUInt32.toInt32))), (.int ez3), (.int ez4), (.int ez5)] (.int (0 : Int32)) := Arv.set Ar16 q16 S16 N16 H16 G16 (fits_nar_char _) W17 2 rfl (Nat.le_of_ble_eq_true rfl)
        obtain ⟨cl18, Ar18, q18, S18, N18, H18, G18⟩ := id V17
        have hin18 : ¬ ((3 : Int32) < 0 ∨ cl18.slots.size ≤ ((3 : Int32)).toNatClampNeg) := inb_of S18 ⟨by decide, by decide⟩
        obtain ⟨T19, h19, X19, e19, W19, st19⟩ := stC X17 hx hZ e17 Ar18 (j := (3 : Int32)) hin18 (g := (mkF m 104 #[.val (.ref p0), .val (.int (2 : Int32)), .val (.int p2), .val (.int (p2 &&& (3 : Int32))), .val (.int (((56320 : Int32) + (((p2.toUInt32 >>> ((2 : Int32) &&& 31).toUInt32).toInt32) &&& (255 : Int32))).toUInt32.toUInt16.toUInt32.toInt32)), .val (.int (own_x p2))] [(.int (own_x p2)), (.int (3 : Int32)), (.ref p0)])) rfl rfl (hb hby d5_104)
        have N19 := Fr.snoc X19 N17 g0_
        have K19 := K17.wr W19 (Or.inl (List.mem_of_getElem? (i := 0) rfl))
        have V19 : Arv Z h19 p0 k .char (6 : Int32) [(.int ez0), (.int ez1), (.int (nar .char (((56320 : Int32) + (((p2.toUInt32 >>> ((2 : Int32) &&& 31).toUInt32).toInt32) &&& (255 : Int32))).toUInt32.toUInt16.toUInt32.toInt32))), (.int (nar .char (own_x p2))), (.int ez4), (.int ez5)] (.int (0 : Int32)) := Arv.set Ar18 q18 S18 N18 H18 G18 (fits_nar_char _) W19 3 rfl (Nat.le_of_ble_eq_true rfl)
        obtain ⟨fs, hr, hrun, hended, hW, hsame⟩ := X19.leave (v := none) (fun _ => rfl)
        refine ⟨_, _, pre15 _ ?_, hrun, hended, _, _, rfl, ?_, ⟨_, rfl⟩, hW, hsame.mono (by decide) (by decide)⟩
        · show Steps p.tables e below (T1.setTop (mkF m 90 #[.val (.ref p0), .val (.int (2 : Int32)), .val (.int p2), .val (.int (p2 &&& (3 : Int32))), .val (.int (((56320 : Int32) + (((p2.toUInt32 >>> ((2 : Int32) &&& 31).toUInt32).toInt32) &&& (255 : Int32))).toUInt32.toUInt16.toUInt32.toInt32)), .val (.int (own_x p2))] [(.int (2 : Int32)), (.int (p2 &&& (3 : Int32)))])) _
          refine XS.icmpNo X1.here hx rfl (hb hby d5_90) rfl (teq hc90_14).2 ?_
          show Steps p.tables e below (T1.setTop (mkF m 93 #[.val (.ref p0), .val (.int (2 : Int32)), .val (.int p2), .val (.int (p2 &&& (3 : Int32))), .val (.int (((56320 : Int32) + (((p2.toUInt32 >>> ((2 : Int32) &&& 31).toUInt32).toInt32) &&& (255 : Int32))).toUInt32.toUInt16.toUInt32.toInt32)), .val (.int (own_x p2))] [])) _
          refine XS.aloadN X1.here hx rfl (hb hby d5_93) rfl rfl ?_
          show Steps p.tables e below (T1.setTop (mkF m 94 #[.val (.ref p0), .val (.int (2 : Int32)), .val (.int p2), .val (.int (p2 &&& (3 : Int32))), .val (.int (((56320 : Int32) + (((p2.toUInt32 >>> ((2 : Int32) &&& 31).toUInt32).toInt32) &&& (255 : Int32))).toUInt32.toUInt16.toUInt32.toInt32)), .val (.int (own_x p2))] [(.ref p0)])) _
          refine XS.iloadN X1.here hx rfl (hb hby d5_94) rfl  ?_
          show Steps p.tables e below (T1.setTop (mkF m 95 #[.val (.ref p0), .val (.int (2 : Int32)), .val (.int p2), .val (.int (p2 &&& (3 : Int32))), .val (.int (((56320 : Int32) + (((p2.toUInt32 >>> ((2 : Int32) &&& 31).toUInt32).toInt32) &&& (255 : Int32))).toUInt32.toUInt16.toUInt32.toInt32)), .val (.int (own_x p2))] [(.int (2 : Int32)), (.ref p0)])) _
          refine XS.iload X1.here hx rfl (hb hby d5_95) rfl  ?_
          show Steps p.tables e below (T1.setTop (mkF m 97 #[.val (.ref p0), .val (.int (2 : Int32)), .val (.int p2), .val (.int (p2 &&& (3 : Int32))), .val (.int (((56320 : Int32) + (((p2.toUInt32 >>> ((2 : Int32) &&& 31).toUInt32).toInt32) &&& (255 : Int32))).toUInt32.toUInt16.toUInt32.toInt32)), .val (.int (own_x p2))] [(.int (((56320 : Int32) + (((p2.toUInt32 >>> ((2 : Int32) &&& 31).toUInt32).toInt32) &&& (255 : Int32))).toUInt32.toUInt16.toUInt32.toInt32)), (.int (2 : Int32)), (.ref p0)])) _
          refine st17 _ ?_
          show Steps p.tables e below (T17.setTop (mkF m 98 #[.val (.ref p0), .val (.int (2 : Int32)), .val (.int p2), .val (.int (p2 &&& (3 : Int32))), .val (.int (((56320 : Int32) + (((p2.toUInt32 >>> ((2 : Int32) &&& 31).toUInt32).toInt32) &&& (255 : Int32))).toUInt32.toUInt16.toUInt32.toInt32)), .val (.int (own_x p2))] [])) _
          refine XS.aloadN X17.here hx rfl (hb hby d5_98) rfl rfl ?_
          show Steps p.tables e below (T17.setTop (mkF m 99 #[.val (.ref p0), .val (.int (2 : Int32)), .val (.int p2), .val (.int (p2 &&& (3 : Int32))), .val (.int (((56320 : Int32) + (((p2.toUInt32 >>> ((2 : Int32) &&& 31).toUInt32).toInt32) &&& (255 : Int32))).toUInt32.toUInt16.toUInt32.toInt32)), .val (.int (own_x p2))] [(.ref p0)])) _
          refine XS.iloadN X17.here hx rfl (hb hby d5_99) rfl  ?_
          show Steps p.tables e below (T17.setTop (mkF m 100 #[.val (.ref p0), .val (.int (2 : Int32)), .val (.int p2), .val (.int (p2 &&& (3 : Int32))), .val (.int (((56320 : Int32) + (((p2.toUInt32 >>> ((2 : Int32) &&& 31).toUInt32).toInt32) &&& (255 : Int32))).toUInt32.toUInt16.toUInt32.toInt32)), .val (.int (own_x p2))] [(.int (2 : Int32)), (.ref p0)])) _
          refine XS.iconst X17.here hx rfl (hb hby d5_100) ?_
          show Steps p.tables e below (T17.setTop (mkF m 101 #[.val (.ref p0), .val (.int (2 : Int32)), .val (.int p2), .val (.int (p2 &&& (3 : Int32))), .val (.int (((56320 : Int32) + (((p2.toUInt32 >>> ((2 : Int32) &&& 31).toUInt32).toInt32) &&& (255 : Int32))).toUInt32.toUInt16.toUInt32.toInt32)), .val (.int (own_x p2))] [(.int (1 : Int32)), (.int (2 : Int32)), (.ref p0)])) _
          refine XS.iadd X17.here hx rfl (hb hby d5_101) rfl ?_
          show Steps p.tables e below (T17.setTop (mkF m 102 #[.val (.ref p0), .val (.int (2 : Int32)), .val (.int p2), .val (.int (p2 &&& (3 : Int32))), .val (.int (((56320 : Int32) + (((p2.toUInt32 >>> ((2 : Int32) &&& 31).toUInt32).toInt32) &&& (255 : Int32))).toUInt32.toUInt16.toUInt32.toInt32)), .val (.int (own_x p2))] [(.int (3 : Int32)), (.ref p0)])) _
          refine XS.iload X17.here hx rfl (hb hby d5_102) rfl  ?_
          show Steps p.tables e below (T17.setTop (mkF m 104 #[.val (.ref p0), .val (.int (2 : Int32)), .val (.int p2), .val (.int (p2 &&& (3 : Int32))), .val (.int (((56320 : Int32) + (((p2.toUInt32 >>> ((2 : Int32) &&& 31).toUInt32).toInt32) &&& (255 : Int32))).toUInt32.toUInt16.toUInt32.toInt32)), .val (.int (own_x p2))] [(.int (own_x p2)), (.int (3 : Int32)), (.ref p0)])) _
          refine st19 _ ?_
          show Steps p.tables e below (T19.setTop (mkF m 105 #[.val (.ref p0), .val (.int (2 : Int32)), .val (.int p2), .val (.int (p2 &&& (3 : Int32))), .val (.int (((56320 : Int32) + (((p2.toUInt32 >>> ((2 : Int32) &&& 31).toUInt32).toInt32) &&& (255 : Int32))).toUInt32.toUInt16.toUInt32.toInt32)), .val (.int (own_x p2))] [])) _
          refine XS.goto X19.here hx rfl (pc0 := 105) (pc' := 120) rfl (hb hby d5_105) (by decide) (by decide) ?_
          show Steps p.tables e below (T19.setTop (mkF m 120 #[.val (.ref p0), .val (.int (2 : Int32)), .val (.int p2), .val (.int (p2 &&& (3 : Int32))), .val (.int (((56320 : Int32) + (((p2.toUInt32 >>> ((2 : Int32) &&& 31).toUInt32).toInt32) &&& (255 : Int32))).toUInt32.toUInt16.toUInt32.toInt32)), .val (.int (own_x p2))] [])) _
          exact X19.returnOut hx Bd.returns (hb hby d5_120) hr
        · show Q_rmPutL2 Z p0 p2 k ez0 ez1 ez2 ez3 ez4 ez5 h0 n0 _ T19.heap _
          rw [e19]
          exact ⟨rfl, N19, K19, (by unfold own_pa own_pb; rw [if_neg (show ¬ own_k p2 = _ from hc30_2), if_neg (show ¬ own_k p2 = _ from hc50_8), if_pos (show own_k p2 = _ from hc90_14), if_neg (show ¬ own_k p2 = _ from hc30_2), if_neg (show ¬ own_k p2 = _ from hc50_8), if_pos (show own_k p2 = _ from hc90_14)]; exact V19)⟩
      · obtain ⟨cl20, Ar20, q20, S20, N20, H20, G20⟩ := id A0
        have hin20 : ¬ ((2 : Int32) < 0 ∨ cl20.slots.size ≤ ((2 : Int32)).toNatClampNeg) := inb_of S20 ⟨by decide, by decide⟩
        obtain ⟨T21, h21, X21, e21, W21, st21⟩ := stC X1 hx hZ e1 Ar20 (j := (2 : Int32)) hin20 (g := (mkF m 112 #[.val (.ref p0), .val (.int (2 : Int32)), .val (.int p2), .val (.int (p2 &&& (3 : Int32))), .val (.int (((56320 : Int32) + (((p2.toUInt32 >>> ((2 : Int32) &&& 31).toUInt32).toInt32) &&& (255 : Int32))).toUInt32.toUInt16.toUInt32.toInt32)), .val (.int (own_x p2))] [(.int (own_x p2)), (.int (2 : Int32)), (.ref p0)])) rfl rfl (hb hby d5_112)
        have N21 := Fr.snoc X21 N1 g0_
        have K21 := (Keep.refl h0 [p0]).wr W21 (Or.inl (List.mem_of_getElem? (i := 0) rfl))
        have V21 : Arv Z h21 p0 k .char (6 : Int32) [(.int ez0), (.int ez1), (.int (nar .char (own_x p2))), (.int ez3), (.int ez4), (.int ez5)] (.int (0 : Int32)) := Arv.set Ar20 q20 S20 N20 H20 G20 (fits_nar_char _) W21 2 rfl (Nat.le_of_ble_eq_true rfl)
        obtain ⟨cl22, Ar22, q22, S22, N22, H22, G22⟩ := id V21
        have hin22 : ¬ ((3 : Int32) < 0 ∨ cl22.slots.size ≤ ((3 : Int32)).toNatClampNeg) := inb_of S22 ⟨by decide, by decide⟩
        obtain ⟨T23, h23, X23, e23, W23, st23⟩ := stC X21 hx hZ e21 Ar22 (j := (3 : Int32)) hin22 (g := (mkF m 119 #[.val (.ref p0), .val (.int (2 : Int32)), .val (.int p2), .val (.int (p2 &&& (3 : Int32))), .val (.int (((56320 : Int32) + (((p2.toUInt32 >>> ((2 : Int32) &&& 31).toUInt32).toInt32) &&& (255 : Int32))).toUInt32.toUInt16.toUInt32.toInt32)), .val (.int (own_x p2))] [(.int (((56320 : Int32) + (((p2.toUInt32 >>> ((2 : Int32) &&& 31).toUInt32).toInt32) &&& (255 : Int32))).toUInt32.toUInt16.toUInt32.toInt32)), (.int (3 : Int32)), (.ref p0)])) rfl rfl (hb hby d5_119)
        have N23 := Fr.snoc X23 N21 g0_
        have K23 := K21.wr W23 (Or.inl (List.mem_of_getElem? (i := 0) rfl))
        have V23 : Arv Z h23 p0 k .char (6 : Int32) [(.int ez0), (.int ez1), (.int (nar .char (own_x p2))), (.int (nar .char (((56320 : Int32) + (((p2.toUInt32 >>> ((2 : Int32) &&& 31).toUInt32).toInt32) &&& (255 : Int32))).toUInt32.toUInt16.toUInt32.toInt32))), (.int ez4), (.int ez5)] (.int (0 : Int32)) := Arv.set Ar22 q22 S22 N22 H22 G22 (fits_nar_char _) W23 3 rfl (Nat.le_of_ble_eq_true rfl)
        obtain ⟨fs, hr, hrun, hended, hW, hsame⟩ := X23.leave (v := none) (fun _ => rfl)
        refine ⟨_, _, pre15 _ ?_, hrun, hended, _, _, rfl, ?_, ⟨_, rfl⟩, hW, hsame.mono (by decide) (by decide)⟩
        · show Steps p.tables e below (T1.setTop (mkF m 90 #[.val (.ref p0), .val (.int (2 : Int32)), .val (.int p2), .val (.int (p2 &&& (3 : Int32))), .val (.int (((56320 : Int32) + (((p2.toUInt32 >>> ((2 : Int32) &&& 31).toUInt32).toInt32) &&& (255 : Int32))).toUInt32.toUInt16.toUInt32.toInt32)), .val (.int (own_x p2))] [(.int (2 : Int32)), (.int (p2 &&& (3 : Int32)))])) _
          refine XS.icmpYes X1.here hx rfl (pc0 := 90) (pc' := 108) rfl (hb hby d5_90) rfl (feq hc90_14).2 (by decide) (by decide) ?_
          show Steps p.tables e below (T1.setTop (mkF m 108 #[.val (.ref p0), .val (.int (2 : Int32)), .val (.int p2), .val (.int (p2 &&& (3 : Int32))), .val (.int (((56320 : Int32) + (((p2.toUInt32 >>> ((2 : Int32) &&& 31).toUInt32).toInt32) &&& (255 : Int32))).toUInt32.toUInt16.toUInt32.toInt32)), .val (.int (own_x p2))] [])) _
          refine XS.aloadN X1.here hx rfl (hb hby d5_108) rfl rfl ?_
          show Steps p.tables e below (T1.setTop (mkF m 109 #[.val (.ref p0), .val (.int (2 : Int32)), .val (.int p2), .val (.int (p2 &&& (3 : Int32))), .val (.int (((56320 : Int32) + (((p2.toUInt32 >>> ((2 : Int32) &&& 31).toUInt32).toInt32) &&& (255 : Int32))).toUInt32.toUInt16.toUInt32.toInt32)), .val (.int (own_x p2))] [(.ref p0)])) _
          refine XS.iloadN X1.here hx rfl (hb hby d5_109) rfl  ?_
          show Steps p.tables e below (T1.setTop (mkF m 110 #[.val (.ref p0), .val (.int (2 : Int32)), .val (.int p2), .val (.int (p2 &&& (3 : Int32))), .val (.int (((56320 : Int32) + (((p2.toUInt32 >>> ((2 : Int32) &&& 31).toUInt32).toInt32) &&& (255 : Int32))).toUInt32.toUInt16.toUInt32.toInt32)), .val (.int (own_x p2))] [(.int (2 : Int32)), (.ref p0)])) _
          refine XS.iload X1.here hx rfl (hb hby d5_110) rfl  ?_
          show Steps p.tables e below (T1.setTop (mkF m 112 #[.val (.ref p0), .val (.int (2 : Int32)), .val (.int p2), .val (.int (p2 &&& (3 : Int32))), .val (.int (((56320 : Int32) + (((p2.toUInt32 >>> ((2 : Int32) &&& 31).toUInt32).toInt32) &&& (255 : Int32))).toUInt32.toUInt16.toUInt32.toInt32)), .val (.int (own_x p2))] [(.int (own_x p2)), (.int (2 : Int32)), (.ref p0)])) _
          refine st21 _ ?_
          show Steps p.tables e below (T21.setTop (mkF m 113 #[.val (.ref p0), .val (.int (2 : Int32)), .val (.int p2), .val (.int (p2 &&& (3 : Int32))), .val (.int (((56320 : Int32) + (((p2.toUInt32 >>> ((2 : Int32) &&& 31).toUInt32).toInt32) &&& (255 : Int32))).toUInt32.toUInt16.toUInt32.toInt32)), .val (.int (own_x p2))] [])) _
          refine XS.aloadN X21.here hx rfl (hb hby d5_113) rfl rfl ?_
          show Steps p.tables e below (T21.setTop (mkF m 114 #[.val (.ref p0), .val (.int (2 : Int32)), .val (.int p2), .val (.int (p2 &&& (3 : Int32))), .val (.int (((56320 : Int32) + (((p2.toUInt32 >>> ((2 : Int32) &&& 31).toUInt32).toInt32) &&& (255 : Int32))).toUInt32.toUInt16.toUInt32.toInt32)), .val (.int (own_x p2))] [(.ref p0)])) _
          refine XS.iloadN X21.here hx rfl (hb hby d5_114) rfl  ?_
          show Steps p.tables e below (T21.setTop (mkF m 115 #[.val (.ref p0), .val (.int (2 : Int32)), .val (.int p2), .val (.int (p2 &&& (3 : Int32))), .val (.int (((56320 : Int32) + (((p2.toUInt32 >>> ((2 : Int32) &&& 31).toUInt32).toInt32) &&& (255 : Int32))).toUInt32.toUInt16.toUInt32.toInt32)), .val (.int (own_x p2))] [(.int (2 : Int32)), (.ref p0)])) _
          refine XS.iconst X21.here hx rfl (hb hby d5_115) ?_
          show Steps p.tables e below (T21.setTop (mkF m 116 #[.val (.ref p0), .val (.int (2 : Int32)), .val (.int p2), .val (.int (p2 &&& (3 : Int32))), .val (.int (((56320 : Int32) + (((p2.toUInt32 >>> ((2 : Int32) &&& 31).toUInt32).toInt32) &&& (255 : Int32))).toUInt32.toUInt16.toUInt32.toInt32)), .val (.int (own_x p2))] [(.int (1 : Int32)), (.int (2 : Int32)), (.ref p0)])) _
          refine XS.iadd X21.here hx rfl (hb hby d5_116) rfl ?_
          show Steps p.tables e below (T21.setTop (mkF m 117 #[.val (.ref p0), .val (.int (2 : Int32)), .val (.int p2), .val (.int (p2 &&& (3 : Int32))), .val (.int (((56320 : Int32) + (((p2.toUInt32 >>> ((2 : Int32) &&& 31).toUInt32).toInt32) &&& (255 : Int32))).toUInt32.toUInt16.toUInt32.toInt32)), .val (.int (own_x p2))] [(.int (3 : Int32)), (.ref p0)])) _
          refine XS.iload X21.here hx rfl (hb hby d5_117) rfl  ?_
          show Steps p.tables e below (T21.setTop (mkF m 119 #[.val (.ref p0), .val (.int (2 : Int32)), .val (.int p2), .val (.int (p2 &&& (3 : Int32))), .val (.int (((56320 : Int32) + (((p2.toUInt32 >>> ((2 : Int32) &&& 31).toUInt32).toInt32) &&& (255 : Int32))).toUInt32.toUInt16.toUInt32.toInt32)), .val (.int (own_x p2))] [(.int (((56320 : Int32) + (((p2.toUInt32 >>> ((2 : Int32) &&& 31).toUInt32).toInt32) &&& (255 : Int32))).toUInt32.toUInt16.toUInt32.toInt32)), (.int (3 : Int32)), (.ref p0)])) _
          refine st23 _ ?_
          show Steps p.tables e below (T23.setTop (mkF m 120 #[.val (.ref p0), .val (.int (2 : Int32)), .val (.int p2), .val (.int (p2 &&& (3 : Int32))), .val (.int (((56320 : Int32) + (((p2.toUInt32 >>> ((2 : Int32) &&& 31).toUInt32).toInt32) &&& (255 : Int32))).toUInt32.toUInt16.toUInt32.toInt32)), .val (.int (own_x p2))] [])) _
          exact X23.returnOut hx Bd.returns (hb hby d5_120) hr
        · show Q_rmPutL2 Z p0 p2 k ez0 ez1 ez2 ez3 ez4 ez5 h0 n0 _ T23.heap _
          rw [e23]
          exact ⟨rfl, N23, K23, (by unfold own_pa own_pb; rw [if_neg (show ¬ own_k p2 = _ from hc30_2), if_neg (show ¬ own_k p2 = _ from hc50_8), if_neg (show ¬ own_k p2 = _ from hc90_14), if_neg (show ¬ own_k p2 = _ from hc30_2), if_neg (show ¬ own_k p2 = _ from hc50_8), if_neg (show ¬ own_k p2 = _ from hc90_14)]; exact V23)⟩
theorem ef_rmPutL4 (m : MethodId) (p0 : Addr) (p2 : Int32) : entryFrame m #[(.ref p0), (.int (4 : Int32)), (.int p2)] 6 = mkF m 0 #[.val (.ref p0), .val (.int (4 : Int32)), .val (.int p2), .unset, .unset, .unset] [] := by first | (simp [entryFrame, mkF, argsToLocals, Value.category]; done) | rfl
def Q_rmPutL4 (Z : State) (p0 : Addr) (p2 : Int32) (k : ClassId) (ez0 : Int32) (ez1 : Int32) (ez2 : Int32) (ez3 : Int32) (ez4 : Int32) (ez5 : Int32) (h0 : Heap) (n0 : Nat) (v : Option Value) (h : Heap) (L : List Loc) : Prop := v = none ∧ Fr n0 L ∧ Keep h0 h [p0] ∧ Arv Z h p0 k .char (6 : Int32) [(.int ez0), (.int ez1), (.int ez2), (.int ez3), (.int (own_pa p2)), (.int (own_pb p2))] (.int (0 : Int32))
set_option maxRecDepth 65536 in
set_option maxHeartbeats 40000000 in
theorem rmPutL4 (l : Launch) (Z : State) (a0 : Array Value) (hw : ∀ d ∈ tables_1, d.before a0 Z = true) (ws : List Jvm.Cond) (p0 : Addr) (p2 : Int32) (k : ClassId) (ez0 : Int32) (ez1 : Int32) (ez2 : Int32) (ez3 : Int32) (ez4 : Int32) (ez5 : Int32) (h0 : Heap) (n0 : Nat) (Z0 : n0 ≤ h0.size) (A0 : Arv Z h0 p0 k .char (6 : Int32) [(.int ez0), (.int ez1), (.int ez2), (.int ez3), (.int ez4), (.int ez5)] (.int (0 : Int32))) (g0_ : n0 ≤ p0) :
    MetFree l (⟨"com/example/abeyance/abeyance/model/Utf8ReaderMalformedBytePinLaw", "put", "([CII)V"⟩ : MethodName) (head1 (Jvm.Cond.code (⟨"com/example/abeyance/abeyance/model/Utf8ReaderMalformedBytePinLaw", "put", "([CII)V"⟩ : MethodName) method_3_code 6 none :: ws) ({ frames := 1, cells := 0, slots := 0, locals := 12 } : Room)) (fun a U => a = #[(.ref p0), (.int (4 : Int32)), (.int p2)] ∧ Z.Warmed39 U.vm ∧ U.heap = h0) (fun _ _ _ _ _ => True) (fun _ U o U' => ∃ v L, o = .returned v ∧ Q_rmPutL4 Z p0 p2 k ez0 ez1 ez2 ez3 ez4 ez5 h0 n0 v U'.heap L ∧ FrameEnd U o U' L ({ frames := 1, cells := 0, slots := 0, locals := 12 } : Room).cells ({ frames := 1, cells := 0, slots := 0, locals := 12 } : Room).slots) := by
  refine MetFree.of_bodySF (plainFor_of_name pn_com_example_abeyance_abeyance_model_Utf8ReaderMalformedBytePinLaw) hisR ?_
  intro p e s m args below meth c s₁ Bd hml0 hP hK
  obtain ⟨rfl, hZ, hh⟩ := hP
  have hx := Bd.exec
  have hby := Bd.bytes
  have hml : c.maxLocals = 6 := hml0
  have hown : s.vm.findClass "com/example/abeyance/abeyance/model/Utf8ReaderMalformedBytePinLaw" = some m.cls := findClass_of_methodNamed Bd.named
  have hnm := (name_of_methodNamed Bd.named Bd.method).1
  have hZo := hZ
  have howno := hown
  have X0 : Stand p l e ({ frames := 1, cells := 0, slots := 0, locals := 12 } : Room) s m #[(.ref p0), (.int (4 : Int32)), (.int p2)] below meth c s₁ [] 0 0 := Stand.of_body Bd
  have e0 : s₁.heap = h0 := by rw [← hh, Bd.state]; rfl
  have N0 := Fr.nil n0
  have pre0 : ∀ t, Steps p.tables e below (s₁.setTop (mkF m 0 #[.val (.ref p0), .val (.int (4 : Int32)), .val (.int p2), .unset, .unset, .unset] [])) t → Steps p.tables e below (s₁.setTop (entryFrame m #[(.ref p0), (.int (4 : Int32)), (.int p2)] 6)) t := fun t k => castTop (ef_rmPutL4 m p0 p2 ) k
  obtain ⟨_, _, ⟨T1, L1, k1, n1⟩, -, X1, ⟨Lc1, hQ1, l1, y1, z1⟩, st1⟩ := Jvm.LawKit.callS X0 hx (y := (⟨"com/example/abeyance/abeyance/model/Utf8ReaderMalformedBytePinLaw", "plain", "(I)C"⟩ : MethodName)) hown (mvT hZ (hw _ (List.mem_of_getElem? (i := 39) rfl))) (mvT hZ (hw _ (List.mem_of_getElem? (i := 40) rfl))) (mvT hZ (hw _ (List.mem_of_getElem? (i := 35) rfl))) (mvT hZ (hw _ (List.mem_of_getElem? (i := 41) rfl))) (by decide) (backOf (W := 0) (rmPlain l Z a0 hw [] (((p2.toUInt32 >>> ((10 : Int32) &&& 31).toUInt32).toInt32) &&& (65535 : Int32)) (own_x p2) h0 n0 Z0 rfl) hZ (hw _ (List.mem_of_getElem? (i := 41) rfl)) (hw _ (List.mem_of_getElem? (i := 35) rfl)) (by decide) (by decide)) (g := (mkF m 24 #[.val (.ref p0), .val (.int (4 : Int32)), .val (.int p2), .val (.int (p2 &&& (3 : Int32))), .val (.int (((56320 : Int32) + (((p2.toUInt32 >>> ((2 : Int32) &&& 31).toUInt32).toInt32) &&& (255 : Int32))).toUInt32.toUInt16.toUInt32.toInt32)), .unset] [(.int (((p2.toUInt32 >>> ((10 : Int32) &&& 31).toUInt32).toInt32) &&& (65535 : Int32)))])) rfl (by rw [hml]; rfl) (argsL := [(.int (((p2.toUInt32 >>> ((10 : Int32) &&& 31).toUInt32).toInt32) &&& (65535 : Int32)))]) (rest := []) (lenOf pd__I_C rfl) rfl (by show 2 * 0 + _ ≤ _; exact Nat.le_of_eq rfl) (hb hby d5_24) (fun _ _ => ⟨rfl, e0, (by decide : 0 + 0 ≤ _), (by decide : 0 + 0 ≤ _)⟩)
  dsimp only [Pt.U, Pt.locs, Pt.cells, Pt.slots] at X1 l1 y1 z1 st1 hQ1
  subst l1 y1 z1
  obtain ⟨rfl, Nq1, e1⟩ := hQ1
  have N1 := Fr.app N0 Nq1
  have pre3 : ∀ t, Steps p.tables e below (T1.setTop (mkF m 30 #[.val (.ref p0), .val (.int (4 : Int32)), .val (.int p2), .val (.int (p2 &&& (3 : Int32))), .val (.int (((56320 : Int32) + (((p2.toUInt32 >>> ((2 : Int32) &&& 31).toUInt32).toInt32) &&& (255 : Int32))).toUInt32.toUInt16.toUInt32.toInt32)), .val (.int (own_x p2))] [(.int (p2 &&& (3 : Int32)))])) t → Steps p.tables e below (s₁.setTop (entryFrame m #[(.ref p0), (.int (4 : Int32)), (.int p2)] 6)) t := fun t kt => pre0 t (by
    show Steps p.tables e below (s₁.setTop (mkF m 0 #[.val (.ref p0), .val (.int (4 : Int32)), .val (.int p2), .unset, .unset, .unset] [])) _
    refine XS.iloadN X0.here hx rfl (hb hby d5_0) rfl  ?_
    show Steps p.tables e below (s₁.setTop (mkF m 1 #[.val (.ref p0), .val (.int (4 : Int32)), .val (.int p2), .unset, .unset, .unset] [(.int p2)])) _
    refine XS.iconst X0.here hx rfl (hb hby d5_1) ?_
    show Steps p.tables e below (s₁.setTop (mkF m 2 #[.val (.ref p0), .val (.int (4 : Int32)), .val (.int p2), .unset, .unset, .unset] [(.int (3 : Int32)), (.int p2)])) _
    refine XS.iand X0.here hx rfl (hb hby d5_2) rfl ?_
    show Steps p.tables e below (s₁.setTop (mkF m 3 #[.val (.ref p0), .val (.int (4 : Int32)), .val (.int p2), .unset, .unset, .unset] [(.int (p2 &&& (3 : Int32)))])) _
    refine XS.istoreN X0.here hx rfl (hb hby d5_3) rfl (l' := #[.val (.ref p0), .val (.int (4 : Int32)), .val (.int p2), .val (.int (p2 &&& (3 : Int32))), .unset, .unset]) rfl ?_
    show Steps p.tables e below (s₁.setTop (mkF m 4 #[.val (.ref p0), .val (.int (4 : Int32)), .val (.int p2), .val (.int (p2 &&& (3 : Int32))), .unset, .unset] [])) _
    refine X0.ldcInt hx hown (mvT hZ (hw _ (List.mem_of_getElem? (i := 37) rfl))) (g := (mkF m 4 #[.val (.ref p0), .val (.int (4 : Int32)), .val (.int p2), .val (.int (p2 &&& (3 : Int32))), .unset, .unset] [])) rfl (hb hby d5_4) _ ?_
    show Steps p.tables e below (s₁.setTop (mkF m 6 #[.val (.ref p0), .val (.int (4 : Int32)), .val (.int p2), .val (.int (p2 &&& (3 : Int32))), .unset, .unset] [(.int (56320 : Int32))])) _
    refine XS.iloadN X0.here hx rfl (hb hby d5_6) rfl  ?_
    show Steps p.tables e below (s₁.setTop (mkF m 7 #[.val (.ref p0), .val (.int (4 : Int32)), .val (.int p2), .val (.int (p2 &&& (3 : Int32))), .unset, .unset] [(.int p2), (.int (56320 : Int32))])) _
    refine XS.iconst X0.here hx rfl (hb hby d5_7) ?_
    show Steps p.tables e below (s₁.setTop (mkF m 8 #[.val (.ref p0), .val (.int (4 : Int32)), .val (.int p2), .val (.int (p2 &&& (3 : Int32))), .unset, .unset] [(.int (2 : Int32)), (.int p2), (.int (56320 : Int32))])) _
    refine XS.iushr X0.here hx rfl (hb hby d5_8) rfl ?_
    show Steps p.tables e below (s₁.setTop (mkF m 9 #[.val (.ref p0), .val (.int (4 : Int32)), .val (.int p2), .val (.int (p2 &&& (3 : Int32))), .unset, .unset] [(.int ((p2.toUInt32 >>> ((2 : Int32) &&& 31).toUInt32).toInt32)), (.int (56320 : Int32))])) _
    refine XS.sipush X0.here hx rfl (hb hby d5_9) ?_
    show Steps p.tables e below (s₁.setTop (mkF m 12 #[.val (.ref p0), .val (.int (4 : Int32)), .val (.int p2), .val (.int (p2 &&& (3 : Int32))), .unset, .unset] [(.int (255 : Int32)), (.int ((p2.toUInt32 >>> ((2 : Int32) &&& 31).toUInt32).toInt32)), (.int (56320 : Int32))])) _
    refine XS.iand X0.here hx rfl (hb hby d5_12) rfl ?_
    show Steps p.tables e below (s₁.setTop (mkF m 13 #[.val (.ref p0), .val (.int (4 : Int32)), .val (.int p2), .val (.int (p2 &&& (3 : Int32))), .unset, .unset] [(.int (((p2.toUInt32 >>> ((2 : Int32) &&& 31).toUInt32).toInt32) &&& (255 : Int32))), (.int (56320 : Int32))])) _
    refine XS.iadd X0.here hx rfl (hb hby d5_13) rfl ?_
    show Steps p.tables e below (s₁.setTop (mkF m 14 #[.val (.ref p0), .val (.int (4 : Int32)), .val (.int p2), .val (.int (p2 &&& (3 : Int32))), .unset, .unset] [(.int ((56320 : Int32) + (((p2.toUInt32 >>> ((2 : Int32) &&& 31).toUInt32).toInt32) &&& (255 : Int32))))])) _
    refine XS.i2c X0.here hx rfl (hb hby d5_14) rfl ?_
    show Steps p.tables e below (s₁.setTop (mkF m 15 #[.val (.ref p0), .val (.int (4 : Int32)), .val (.int p2), .val (.int (p2 &&& (3 : Int32))), .unset, .unset] [(.int (((56320 : Int32) + (((p2.toUInt32 >>> ((2 : Int32) &&& 31).toUInt32).toInt32) &&& (255 : Int32))).toUInt32.toUInt16.toUInt32.toInt32))])) _
    refine XS.istore X0.here hx rfl (hb hby d5_15) rfl (l' := #[.val (.ref p0), .val (.int (4 : Int32)), .val (.int p2), .val (.int (p2 &&& (3 : Int32))), .val (.int (((56320 : Int32) + (((p2.toUInt32 >>> ((2 : Int32) &&& 31).toUInt32).toInt32) &&& (255 : Int32))).toUInt32.toUInt16.toUInt32.toInt32)), .unset]) rfl ?_
    show Steps p.tables e below (s₁.setTop (mkF m 17 #[.val (.ref p0), .val (.int (4 : Int32)), .val (.int p2), .val (.int (p2 &&& (3 : Int32))), .val (.int (((56320 : Int32) + (((p2.toUInt32 >>> ((2 : Int32) &&& 31).toUInt32).toInt32) &&& (255 : Int32))).toUInt32.toUInt16.toUInt32.toInt32)), .unset] [])) _
    refine XS.iloadN X0.here hx rfl (hb hby d5_17) rfl  ?_
    show Steps p.tables e below (s₁.setTop (mkF m 18 #[.val (.ref p0), .val (.int (4 : Int32)), .val (.int p2), .val (.int (p2 &&& (3 : Int32))), .val (.int (((56320 : Int32) + (((p2.toUInt32 >>> ((2 : Int32) &&& 31).toUInt32).toInt32) &&& (255 : Int32))).toUInt32.toUInt16.toUInt32.toInt32)), .unset] [(.int p2)])) _
    refine XS.bipush X0.here hx rfl (hb hby d5_18) ?_
    show Steps p.tables e below (s₁.setTop (mkF m 20 #[.val (.ref p0), .val (.int (4 : Int32)), .val (.int p2), .val (.int (p2 &&& (3 : Int32))), .val (.int (((56320 : Int32) + (((p2.toUInt32 >>> ((2 : Int32) &&& 31).toUInt32).toInt32) &&& (255 : Int32))).toUInt32.toUInt16.toUInt32.toInt32)), .unset] [(.int (10 : Int32)), (.int p2)])) _
    refine XS.iushr X0.here hx rfl (hb hby d5_20) rfl ?_
    show Steps p.tables e below (s₁.setTop (mkF m 21 #[.val (.ref p0), .val (.int (4 : Int32)), .val (.int p2), .val (.int (p2 &&& (3 : Int32))), .val (.int (((56320 : Int32) + (((p2.toUInt32 >>> ((2 : Int32) &&& 31).toUInt32).toInt32) &&& (255 : Int32))).toUInt32.toUInt16.toUInt32.toInt32)), .unset] [(.int ((p2.toUInt32 >>> ((10 : Int32) &&& 31).toUInt32).toInt32))])) _
    refine X0.ldcInt hx hown (mvT hZ (hw _ (List.mem_of_getElem? (i := 38) rfl))) (g := (mkF m 21 #[.val (.ref p0), .val (.int (4 : Int32)), .val (.int p2), .val (.int (p2 &&& (3 : Int32))), .val (.int (((56320 : Int32) + (((p2.toUInt32 >>> ((2 : Int32) &&& 31).toUInt32).toInt32) &&& (255 : Int32))).toUInt32.toUInt16.toUInt32.toInt32)), .unset] [(.int ((p2.toUInt32 >>> ((10 : Int32) &&& 31).toUInt32).toInt32))])) rfl (hb hby d5_21) _ ?_
    show Steps p.tables e below (s₁.setTop (mkF m 23 #[.val (.ref p0), .val (.int (4 : Int32)), .val (.int p2), .val (.int (p2 &&& (3 : Int32))), .val (.int (((56320 : Int32) + (((p2.toUInt32 >>> ((2 : Int32) &&& 31).toUInt32).toInt32) &&& (255 : Int32))).toUInt32.toUInt16.toUInt32.toInt32)), .unset] [(.int (65535 : Int32)), (.int ((p2.toUInt32 >>> ((10 : Int32) &&& 31).toUInt32).toInt32))])) _
    refine XS.iand X0.here hx rfl (hb hby d5_23) rfl ?_
    show Steps p.tables e below (s₁.setTop (mkF m 24 #[.val (.ref p0), .val (.int (4 : Int32)), .val (.int p2), .val (.int (p2 &&& (3 : Int32))), .val (.int (((56320 : Int32) + (((p2.toUInt32 >>> ((2 : Int32) &&& 31).toUInt32).toInt32) &&& (255 : Int32))).toUInt32.toUInt16.toUInt32.toInt32)), .unset] [(.int (((p2.toUInt32 >>> ((10 : Int32) &&& 31).toUInt32).toInt32) &&& (65535 : Int32)))])) _
    refine st1 _ ?_
    show Steps p.tables e below (T1.setTop (mkF m 27 #[.val (.ref p0), .val (.int (4 : Int32)), .val (.int p2), .val (.int (p2 &&& (3 : Int32))), .val (.int (((56320 : Int32) + (((p2.toUInt32 >>> ((2 : Int32) &&& 31).toUInt32).toInt32) &&& (255 : Int32))).toUInt32.toUInt16.toUInt32.toInt32)), .unset] [(.int (own_x p2))])) _
    refine XS.istore X1.here hx rfl (hb hby d5_27) rfl (l' := #[.val (.ref p0), .val (.int (4 : Int32)), .val (.int p2), .val (.int (p2 &&& (3 : Int32))), .val (.int (((56320 : Int32) + (((p2.toUInt32 >>> ((2 : Int32) &&& 31).toUInt32).toInt32) &&& (255 : Int32))).toUInt32.toUInt16.toUInt32.toInt32)), .val (.int (own_x p2))]) rfl ?_
    show Steps p.tables e below (T1.setTop (mkF m 29 #[.val (.ref p0), .val (.int (4 : Int32)), .val (.int p2), .val (.int (p2 &&& (3 : Int32))), .val (.int (((56320 : Int32) + (((p2.toUInt32 >>> ((2 : Int32) &&& 31).toUInt32).toInt32) &&& (255 : Int32))).toUInt32.toUInt16.toUInt32.toInt32)), .val (.int (own_x p2))] [])) _
    refine XS.iloadN X1.here hx rfl (hb hby d5_29) rfl  ?_
    exact kt)
  by_cases hc30_2 : (p2 &&& (3 : Int32)) = (0 : Int32)
  · obtain ⟨cl4, Ar4, q4, S4, N4, H4, G4⟩ := id A0
    have hin4 : ¬ ((4 : Int32) < 0 ∨ cl4.slots.size ≤ ((4 : Int32)).toNatClampNeg) := inb_of S4 ⟨by decide, by decide⟩
    obtain ⟨T5, h5, X5, e5, W5, st5⟩ := stC X1 hx hZ e1 Ar4 (j := (4 : Int32)) hin4 (g := (mkF m 37 #[.val (.ref p0), .val (.int (4 : Int32)), .val (.int p2), .val (.int (p2 &&& (3 : Int32))), .val (.int (((56320 : Int32) + (((p2.toUInt32 >>> ((2 : Int32) &&& 31).toUInt32).toInt32) &&& (255 : Int32))).toUInt32.toUInt16.toUInt32.toInt32)), .val (.int (own_x p2))] [(.int (own_x p2)), (.int (4 : Int32)), (.ref p0)])) rfl rfl (hb hby d5_37)
    have N5 := Fr.snoc X5 N1 g0_
    have K5 := (Keep.refl h0 [p0]).wr W5 (Or.inl (List.mem_of_getElem? (i := 0) rfl))
    have V5 : Arv Z h5 p0 k .char (6 : Int32) [(.int ez0), (.int ez1), (.int ez2), (.int ez3), (.int (nar .char (own_x p2))), (.int ez5)] (.int (0 : Int32)) := Arv.set Ar4 q4 S4 N4 H4 G4 (fits_nar_char _) W5 4 rfl (Nat.le_of_ble_eq_true rfl)
    obtain ⟨cl6, Ar6, q6, S6, N6, H6, G6⟩ := id V5
    have hin6 : ¬ ((5 : Int32) < 0 ∨ cl6.slots.size ≤ ((5 : Int32)).toNatClampNeg) := inb_of S6 ⟨by decide, by decide⟩
    obtain ⟨T7, h7, X7, e7, W7, st7⟩ := stC X5 hx hZ e5 Ar6 (j := (5 : Int32)) hin6 (g := (mkF m 44 #[.val (.ref p0), .val (.int (4 : Int32)), .val (.int p2), .val (.int (p2 &&& (3 : Int32))), .val (.int (((56320 : Int32) + (((p2.toUInt32 >>> ((2 : Int32) &&& 31).toUInt32).toInt32) &&& (255 : Int32))).toUInt32.toUInt16.toUInt32.toInt32)), .val (.int (own_x p2))] [(.int (own_x p2)), (.int (5 : Int32)), (.ref p0)])) rfl rfl (hb hby d5_44)
    have N7 := Fr.snoc X7 N5 g0_
    have K7 := K5.wr W7 (Or.inl (List.mem_of_getElem? (i := 0) rfl))
    have V7 : Arv Z h7 p0 k .char (6 : Int32) [(.int ez0), (.int ez1), (.int ez2), (.int ez3), (.int (nar .char (own_x p2))), (.int (nar .char (own_x p2)))] (.int (0 : Int32)) := Arv.set Ar6 q6 S6 N6 H6 G6 (fits_nar_char _) W7 5 rfl (Nat.le_of_ble_eq_true rfl)
    obtain ⟨fs, hr, hrun, hended, hW, hsame⟩ := X7.leave (v := none) (fun _ => rfl)
    refine ⟨_, _, pre3 _ ?_, hrun, hended, _, _, rfl, ?_, ⟨_, rfl⟩, hW, hsame.mono (by decide) (by decide)⟩
    · show Steps p.tables e below (T1.setTop (mkF m 30 #[.val (.ref p0), .val (.int (4 : Int32)), .val (.int p2), .val (.int (p2 &&& (3 : Int32))), .val (.int (((56320 : Int32) + (((p2.toUInt32 >>> ((2 : Int32) &&& 31).toUInt32).toInt32) &&& (255 : Int32))).toUInt32.toUInt16.toUInt32.toInt32)), .val (.int (own_x p2))] [(.int (p2 &&& (3 : Int32)))])) _
      refine XS.ifNo X1.here hx rfl (hb hby d5_30) rfl ((if0 _ _).trans (teq hc30_2).2) ?_
      show Steps p.tables e below (T1.setTop (mkF m 33 #[.val (.ref p0), .val (.int (4 : Int32)), .val (.int p2), .val (.int (p2 &&& (3 : Int32))), .val (.int (((56320 : Int32) + (((p2.toUInt32 >>> ((2 : Int32) &&& 31).toUInt32).toInt32) &&& (255 : Int32))).toUInt32.toUInt16.toUInt32.toInt32)), .val (.int (own_x p2))] [])) _
      refine XS.aloadN X1.here hx rfl (hb hby d5_33) rfl rfl ?_
      show Steps p.tables e below (T1.setTop (mkF m 34 #[.val (.ref p0), .val (.int (4 : Int32)), .val (.int p2), .val (.int (p2 &&& (3 : Int32))), .val (.int (((56320 : Int32) + (((p2.toUInt32 >>> ((2 : Int32) &&& 31).toUInt32).toInt32) &&& (255 : Int32))).toUInt32.toUInt16.toUInt32.toInt32)), .val (.int (own_x p2))] [(.ref p0)])) _
      refine XS.iloadN X1.here hx rfl (hb hby d5_34) rfl  ?_
      show Steps p.tables e below (T1.setTop (mkF m 35 #[.val (.ref p0), .val (.int (4 : Int32)), .val (.int p2), .val (.int (p2 &&& (3 : Int32))), .val (.int (((56320 : Int32) + (((p2.toUInt32 >>> ((2 : Int32) &&& 31).toUInt32).toInt32) &&& (255 : Int32))).toUInt32.toUInt16.toUInt32.toInt32)), .val (.int (own_x p2))] [(.int (4 : Int32)), (.ref p0)])) _
      refine XS.iload X1.here hx rfl (hb hby d5_35) rfl  ?_
      show Steps p.tables e below (T1.setTop (mkF m 37 #[.val (.ref p0), .val (.int (4 : Int32)), .val (.int p2), .val (.int (p2 &&& (3 : Int32))), .val (.int (((56320 : Int32) + (((p2.toUInt32 >>> ((2 : Int32) &&& 31).toUInt32).toInt32) &&& (255 : Int32))).toUInt32.toUInt16.toUInt32.toInt32)), .val (.int (own_x p2))] [(.int (own_x p2)), (.int (4 : Int32)), (.ref p0)])) _
      refine st5 _ ?_
      show Steps p.tables e below (T5.setTop (mkF m 38 #[.val (.ref p0), .val (.int (4 : Int32)), .val (.int p2), .val (.int (p2 &&& (3 : Int32))), .val (.int (((56320 : Int32) + (((p2.toUInt32 >>> ((2 : Int32) &&& 31).toUInt32).toInt32) &&& (255 : Int32))).toUInt32.toUInt16.toUInt32.toInt32)), .val (.int (own_x p2))] [])) _
      refine XS.aloadN X5.here hx rfl (hb hby d5_38) rfl rfl ?_
      show Steps p.tables e below (T5.setTop (mkF m 39 #[.val (.ref p0), .val (.int (4 : Int32)), .val (.int p2), .val (.int (p2 &&& (3 : Int32))), .val (.int (((56320 : Int32) + (((p2.toUInt32 >>> ((2 : Int32) &&& 31).toUInt32).toInt32) &&& (255 : Int32))).toUInt32.toUInt16.toUInt32.toInt32)), .val (.int (own_x p2))] [(.ref p0)])) _
      refine XS.iloadN X5.here hx rfl (hb hby d5_39) rfl  ?_
      show Steps p.tables e below (T5.setTop (mkF m 40 #[.val (.ref p0), .val (.int (4 : Int32)), .val (.int p2), .val (.int (p2 &&& (3 : Int32))), .val (.int (((56320 : Int32) + (((p2.toUInt32 >>> ((2 : Int32) &&& 31).toUInt32).toInt32) &&& (255 : Int32))).toUInt32.toUInt16.toUInt32.toInt32)), .val (.int (own_x p2))] [(.int (4 : Int32)), (.ref p0)])) _
      refine XS.iconst X5.here hx rfl (hb hby d5_40) ?_
      show Steps p.tables e below (T5.setTop (mkF m 41 #[.val (.ref p0), .val (.int (4 : Int32)), .val (.int p2), .val (.int (p2 &&& (3 : Int32))), .val (.int (((56320 : Int32) + (((p2.toUInt32 >>> ((2 : Int32) &&& 31).toUInt32).toInt32) &&& (255 : Int32))).toUInt32.toUInt16.toUInt32.toInt32)), .val (.int (own_x p2))] [(.int (1 : Int32)), (.int (4 : Int32)), (.ref p0)])) _
      refine XS.iadd X5.here hx rfl (hb hby d5_41) rfl ?_
      show Steps p.tables e below (T5.setTop (mkF m 42 #[.val (.ref p0), .val (.int (4 : Int32)), .val (.int p2), .val (.int (p2 &&& (3 : Int32))), .val (.int (((56320 : Int32) + (((p2.toUInt32 >>> ((2 : Int32) &&& 31).toUInt32).toInt32) &&& (255 : Int32))).toUInt32.toUInt16.toUInt32.toInt32)), .val (.int (own_x p2))] [(.int (5 : Int32)), (.ref p0)])) _
      refine XS.iload X5.here hx rfl (hb hby d5_42) rfl  ?_
      show Steps p.tables e below (T5.setTop (mkF m 44 #[.val (.ref p0), .val (.int (4 : Int32)), .val (.int p2), .val (.int (p2 &&& (3 : Int32))), .val (.int (((56320 : Int32) + (((p2.toUInt32 >>> ((2 : Int32) &&& 31).toUInt32).toInt32) &&& (255 : Int32))).toUInt32.toUInt16.toUInt32.toInt32)), .val (.int (own_x p2))] [(.int (own_x p2)), (.int (5 : Int32)), (.ref p0)])) _
      refine st7 _ ?_
      show Steps p.tables e below (T7.setTop (mkF m 45 #[.val (.ref p0), .val (.int (4 : Int32)), .val (.int p2), .val (.int (p2 &&& (3 : Int32))), .val (.int (((56320 : Int32) + (((p2.toUInt32 >>> ((2 : Int32) &&& 31).toUInt32).toInt32) &&& (255 : Int32))).toUInt32.toUInt16.toUInt32.toInt32)), .val (.int (own_x p2))] [])) _
      refine XS.goto X7.here hx rfl (pc0 := 45) (pc' := 120) rfl (hb hby d5_45) (by decide) (by decide) ?_
      show Steps p.tables e below (T7.setTop (mkF m 120 #[.val (.ref p0), .val (.int (4 : Int32)), .val (.int p2), .val (.int (p2 &&& (3 : Int32))), .val (.int (((56320 : Int32) + (((p2.toUInt32 >>> ((2 : Int32) &&& 31).toUInt32).toInt32) &&& (255 : Int32))).toUInt32.toUInt16.toUInt32.toInt32)), .val (.int (own_x p2))] [])) _
      exact X7.returnOut hx Bd.returns (hb hby d5_120) hr
    · show Q_rmPutL4 Z p0 p2 k ez0 ez1 ez2 ez3 ez4 ez5 h0 n0 _ T7.heap _
      rw [e7]
      exact ⟨rfl, N7, K7, (by unfold own_pa own_pb; rw [if_pos (show own_k p2 = _ from hc30_2), if_pos (show own_k p2 = _ from hc30_2)]; exact V7)⟩
  · have pre9 : ∀ t, Steps p.tables e below (T1.setTop (mkF m 50 #[.val (.ref p0), .val (.int (4 : Int32)), .val (.int p2), .val (.int (p2 &&& (3 : Int32))), .val (.int (((56320 : Int32) + (((p2.toUInt32 >>> ((2 : Int32) &&& 31).toUInt32).toInt32) &&& (255 : Int32))).toUInt32.toUInt16.toUInt32.toInt32)), .val (.int (own_x p2))] [(.int (1 : Int32)), (.int (p2 &&& (3 : Int32)))])) t → Steps p.tables e below (s₁.setTop (entryFrame m #[(.ref p0), (.int (4 : Int32)), (.int p2)] 6)) t := fun t kt => pre3 t (by
      show Steps p.tables e below (T1.setTop (mkF m 30 #[.val (.ref p0), .val (.int (4 : Int32)), .val (.int p2), .val (.int (p2 &&& (3 : Int32))), .val (.int (((56320 : Int32) + (((p2.toUInt32 >>> ((2 : Int32) &&& 31).toUInt32).toInt32) &&& (255 : Int32))).toUInt32.toUInt16.toUInt32.toInt32)), .val (.int (own_x p2))] [(.int (p2 &&& (3 : Int32)))])) _
      refine XS.ifYes X1.here hx rfl (pc0 := 30) (pc' := 48) rfl (hb hby d5_30) rfl ((if0 _ _).trans (feq hc30_2).2) (by decide) (by decide) ?_
      show Steps p.tables e below (T1.setTop (mkF m 48 #[.val (.ref p0), .val (.int (4 : Int32)), .val (.int p2), .val (.int (p2 &&& (3 : Int32))), .val (.int (((56320 : Int32) + (((p2.toUInt32 >>> ((2 : Int32) &&& 31).toUInt32).toInt32) &&& (255 : Int32))).toUInt32.toUInt16.toUInt32.toInt32)), .val (.int (own_x p2))] [])) _
      refine XS.iloadN X1.here hx rfl (hb hby d5_48) rfl  ?_
      show Steps p.tables e below (T1.setTop (mkF m 49 #[.val (.ref p0), .val (.int (4 : Int32)), .val (.int p2), .val (.int (p2 &&& (3 : Int32))), .val (.int (((56320 : Int32) + (((p2.toUInt32 >>> ((2 : Int32) &&& 31).toUInt32).toInt32) &&& (255 : Int32))).toUInt32.toUInt16.toUInt32.toInt32)), .val (.int (own_x p2))] [(.int (p2 &&& (3 : Int32)))])) _
      refine XS.iconst X1.here hx rfl (hb hby d5_49) ?_
      exact kt)
    by_cases hc50_8 : (p2 &&& (3 : Int32)) = (1 : Int32)
    · obtain ⟨cl10, Ar10, q10, S10, N10, H10, G10⟩ := id A0
      have hin10 : ¬ ((4 : Int32) < 0 ∨ cl10.slots.size ≤ ((4 : Int32)).toNatClampNeg) := inb_of S10 ⟨by decide, by decide⟩
      obtain ⟨T11, h11, X11, e11, W11, st11⟩ := stC X1 hx hZ e1 Ar10 (j := (4 : Int32)) hin10 (g := (mkF m 67 #[.val (.ref p0), .val (.int (4 : Int32)), .val (.int p2), .val (.int (p2 &&& (3 : Int32))), .val (.int (((56320 : Int32) + (((p2.toUInt32 >>> ((2 : Int32) &&& 31).toUInt32).toInt32) &&& (255 : Int32))).toUInt32.toUInt16.toUInt32.toInt32)), .val (.int (own_x p2))] [(.int (((55296 : Int32) + (((p2.toUInt32 >>> ((10 : Int32) &&& 31).toUInt32).toInt32) &&& (1023 : Int32))).toUInt32.toUInt16.toUInt32.toInt32)), (.int (4 : Int32)), (.ref p0)])) rfl rfl (hb hby d5_67)
      have N11 := Fr.snoc X11 N1 g0_
      have K11 := (Keep.refl h0 [p0]).wr W11 (Or.inl (List.mem_of_getElem? (i := 0) rfl))
      have V11 : Arv Z h11 p0 k .char (6 : Int32) [(.int ez0), (.int ez1), (.int ez2), (.int ez3), (.int (nar .char (((55296 : Int32) + (((p2.toUInt32 >>> ((10 : Int32) &&& 31).toUInt32).toInt32) &&& (1023 : Int32))).toUInt32.toUInt16.toUInt32.toInt32))), (.int ez5)] (.int (0 : Int32)) := Arv.set Ar10 q10 S10 N10 H10 G10 (fits_nar_char _) W11 4 rfl (Nat.le_of_ble_eq_true rfl)
      obtain ⟨cl12, Ar12, q12, S12, N12, H12, G12⟩ := id V11
      have hin12 : ¬ ((5 : Int32) < 0 ∨ cl12.slots.size ≤ ((5 : Int32)).toNatClampNeg) := inb_of S12 ⟨by decide, by decide⟩
      obtain ⟨T13, h13, X13, e13, W13, st13⟩ := stC X11 hx hZ e11 Ar12 (j := (5 : Int32)) hin12 (g := (mkF m 84 #[.val (.ref p0), .val (.int (4 : Int32)), .val (.int p2), .val (.int (p2 &&& (3 : Int32))), .val (.int (((56320 : Int32) + (((p2.toUInt32 >>> ((2 : Int32) &&& 31).toUInt32).toInt32) &&& (255 : Int32))).toUInt32.toUInt16.toUInt32.toInt32)), .val (.int (own_x p2))] [(.int (((56320 : Int32) + (((p2.toUInt32 >>> ((20 : Int32) &&& 31).toUInt32).toInt32) &&& (1023 : Int32))).toUInt32.toUInt16.toUInt32.toInt32)), (.int (5 : Int32)), (.ref p0)])) rfl rfl (hb hby d5_84)
      have N13 := Fr.snoc X13 N11 g0_
      have K13 := K11.wr W13 (Or.inl (List.mem_of_getElem? (i := 0) rfl))
      have V13 : Arv Z h13 p0 k .char (6 : Int32) [(.int ez0), (.int ez1), (.int ez2), (.int ez3), (.int (nar .char (((55296 : Int32) + (((p2.toUInt32 >>> ((10 : Int32) &&& 31).toUInt32).toInt32) &&& (1023 : Int32))).toUInt32.toUInt16.toUInt32.toInt32))), (.int (nar .char (((56320 : Int32) + (((p2.toUInt32 >>> ((20 : Int32) &&& 31).toUInt32).toInt32) &&& (1023 : Int32))).toUInt32.toUInt16.toUInt32.toInt32)))] (.int (0 : Int32)) := Arv.set Ar12 q12 S12 N12 H12 G12 (fits_nar_char _) W13 5 rfl (Nat.le_of_ble_eq_true rfl)
      obtain ⟨fs, hr, hrun, hended, hW, hsame⟩ := X13.leave (v := none) (fun _ => rfl)
      refine ⟨_, _, pre9 _ ?_, hrun, hended, _, _, rfl, ?_, ⟨_, rfl⟩, hW, hsame.mono (by decide) (by decide)⟩
      · show Steps p.tables e below (T1.setTop (mkF m 50 #[.val (.ref p0), .val (.int (4 : Int32)), .val (.int p2), .val (.int (p2 &&& (3 : Int32))), .val (.int (((56320 : Int32) + (((p2.toUInt32 >>> ((2 : Int32) &&& 31).toUInt32).toInt32) &&& (255 : Int32))).toUInt32.toUInt16.toUInt32.toInt32)), .val (.int (own_x p2))] [(.int (1 : Int32)), (.int (p2 &&& (3 : Int32)))])) _
        refine XS.icmpNo X1.here hx rfl (hb hby d5_50) rfl (teq hc50_8).2 ?_
        show Steps p.tables e below (T1.setTop (mkF m 53 #[.val (.ref p0), .val (.int (4 : Int32)), .val (.int p2), .val (.int (p2 &&& (3 : Int32))), .val (.int (((56320 : Int32) + (((p2.toUInt32 >>> ((2 : Int32) &&& 31).toUInt32).toInt32) &&& (255 : Int32))).toUInt32.toUInt16.toUInt32.toInt32)), .val (.int (own_x p2))] [])) _
        refine XS.aloadN X1.here hx rfl (hb hby d5_53) rfl rfl ?_
        show Steps p.tables e below (T1.setTop (mkF m 54 #[.val (.ref p0), .val (.int (4 : Int32)), .val (.int p2), .val (.int (p2 &&& (3 : Int32))), .val (.int (((56320 : Int32) + (((p2.toUInt32 >>> ((2 : Int32) &&& 31).toUInt32).toInt32) &&& (255 : Int32))).toUInt32.toUInt16.toUInt32.toInt32)), .val (.int (own_x p2))] [(.ref p0)])) _
        refine XS.iloadN X1.here hx rfl (hb hby d5_54) rfl  ?_
        show Steps p.tables e below (T1.setTop (mkF m 55 #[.val (.ref p0), .val (.int (4 : Int32)), .val (.int p2), .val (.int (p2 &&& (3 : Int32))), .val (.int (((56320 : Int32) + (((p2.toUInt32 >>> ((2 : Int32) &&& 31).toUInt32).toInt32) &&& (255 : Int32))).toUInt32.toUInt16.toUInt32.toInt32)), .val (.int (own_x p2))] [(.int (4 : Int32)), (.ref p0)])) _
        refine X1.ldcInt hx hown (mvT hZ (hw _ (List.mem_of_getElem? (i := 42) rfl))) (g := (mkF m 55 #[.val (.ref p0), .val (.int (4 : Int32)), .val (.int p2), .val (.int (p2 &&& (3 : Int32))), .val (.int (((56320 : Int32) + (((p2.toUInt32 >>> ((2 : Int32) &&& 31).toUInt32).toInt32) &&& (255 : Int32))).toUInt32.toUInt16.toUInt32.toInt32)), .val (.int (own_x p2))] [(.int (4 : Int32)), (.ref p0)])) rfl (hb hby d5_55) _ ?_
        show Steps p.tables e below (T1.setTop (mkF m 57 #[.val (.ref p0), .val (.int (4 : Int32)), .val (.int p2), .val (.int (p2 &&& (3 : Int32))), .val (.int (((56320 : Int32) + (((p2.toUInt32 >>> ((2 : Int32) &&& 31).toUInt32).toInt32) &&& (255 : Int32))).toUInt32.toUInt16.toUInt32.toInt32)), .val (.int (own_x p2))] [(.int (55296 : Int32)), (.int (4 : Int32)), (.ref p0)])) _
        refine XS.iloadN X1.here hx rfl (hb hby d5_57) rfl  ?_
        show Steps p.tables e below (T1.setTop (mkF m 58 #[.val (.ref p0), .val (.int (4 : Int32)), .val (.int p2), .val (.int (p2 &&& (3 : Int32))), .val (.int (((56320 : Int32) + (((p2.toUInt32 >>> ((2 : Int32) &&& 31).toUInt32).toInt32) &&& (255 : Int32))).toUInt32.toUInt16.toUInt32.toInt32)), .val (.int (own_x p2))] [(.int p2), (.int (55296 : Int32)), (.int (4 : Int32)), (.ref p0)])) _
        refine XS.bipush X1.here hx rfl (hb hby d5_58) ?_
        show Steps p.tables e below (T1.setTop (mkF m 60 #[.val (.ref p0), .val (.int (4 : Int32)), .val (.int p2), .val (.int (p2 &&& (3 : Int32))), .val (.int (((56320 : Int32) + (((p2.toUInt32 >>> ((2 : Int32) &&& 31).toUInt32).toInt32) &&& (255 : Int32))).toUInt32.toUInt16.toUInt32.toInt32)), .val (.int (own_x p2))] [(.int (10 : Int32)), (.int p2), (.int (55296 : Int32)), (.int (4 : Int32)), (.ref p0)])) _
        refine XS.iushr X1.here hx rfl (hb hby d5_60) rfl ?_
        show Steps p.tables e below (T1.setTop (mkF m 61 #[.val (.ref p0), .val (.int (4 : Int32)), .val (.int p2), .val (.int (p2 &&& (3 : Int32))), .val (.int (((56320 : Int32) + (((p2.toUInt32 >>> ((2 : Int32) &&& 31).toUInt32).toInt32) &&& (255 : Int32))).toUInt32.toUInt16.toUInt32.toInt32)), .val (.int (own_x p2))] [(.int ((p2.toUInt32 >>> ((10 : Int32) &&& 31).toUInt32).toInt32)), (.int (55296 : Int32)), (.int (4 : Int32)), (.ref p0)])) _
        refine XS.sipush X1.here hx rfl (hb hby d5_61) ?_
        show Steps p.tables e below (T1.setTop (mkF m 64 #[.val (.ref p0), .val (.int (4 : Int32)), .val (.int p2), .val (.int (p2 &&& (3 : Int32))), .val (.int (((56320 : Int32) + (((p2.toUInt32 >>> ((2 : Int32) &&& 31).toUInt32).toInt32) &&& (255 : Int32))).toUInt32.toUInt16.toUInt32.toInt32)), .val (.int (own_x p2))] [(.int (1023 : Int32)), (.int ((p2.toUInt32 >>> ((10 : Int32) &&& 31).toUInt32).toInt32)), (.int (55296 : Int32)), (.int (4 : Int32)), (.ref p0)])) _
        refine XS.iand X1.here hx rfl (hb hby d5_64) rfl ?_
        show Steps p.tables e below (T1.setTop (mkF m 65 #[.val (.ref p0), .val (.int (4 : Int32)), .val (.int p2), .val (.int (p2 &&& (3 : Int32))), .val (.int (((56320 : Int32) + (((p2.toUInt32 >>> ((2 : Int32) &&& 31).toUInt32).toInt32) &&& (255 : Int32))).toUInt32.toUInt16.toUInt32.toInt32)), .val (.int (own_x p2))] [(.int (((p2.toUInt32 >>> ((10 : Int32) &&& 31).toUInt32).toInt32) &&& (1023 : Int32))), (.int (55296 : Int32)), (.int (4 : Int32)), (.ref p0)])) _
        refine XS.iadd X1.here hx rfl (hb hby d5_65) rfl ?_
        show Steps p.tables e below (T1.setTop (mkF m 66 #[.val (.ref p0), .val (.int (4 : Int32)), .val (.int p2), .val (.int (p2 &&& (3 : Int32))), .val (.int (((56320 : Int32) + (((p2.toUInt32 >>> ((2 : Int32) &&& 31).toUInt32).toInt32) &&& (255 : Int32))).toUInt32.toUInt16.toUInt32.toInt32)), .val (.int (own_x p2))] [(.int ((55296 : Int32) + (((p2.toUInt32 >>> ((10 : Int32) &&& 31).toUInt32).toInt32) &&& (1023 : Int32)))), (.int (4 : Int32)), (.ref p0)])) _
        refine XS.i2c X1.here hx rfl (hb hby d5_66) rfl ?_
        show Steps p.tables e below (T1.setTop (mkF m 67 #[.val (.ref p0), .val (.int (4 : Int32)), .val (.int p2), .val (.int (p2 &&& (3 : Int32))), .val (.int (((56320 : Int32) + (((p2.toUInt32 >>> ((2 : Int32) &&& 31).toUInt32).toInt32) &&& (255 : Int32))).toUInt32.toUInt16.toUInt32.toInt32)), .val (.int (own_x p2))] [(.int (((55296 : Int32) + (((p2.toUInt32 >>> ((10 : Int32) &&& 31).toUInt32).toInt32) &&& (1023 : Int32))).toUInt32.toUInt16.toUInt32.toInt32)), (.int (4 : Int32)), (.ref p0)])) _
        refine st11 _ ?_
        show Steps p.tables e below (T11.setTop (mkF m 68 #[.val (.ref p0), .val (.int (4 : Int32)), .val (.int p2), .val (.int (p2 &&& (3 : Int32))), .val (.int (((56320 : Int32) + (((p2.toUInt32 >>> ((2 : Int32) &&& 31).toUInt32).toInt32) &&& (255 : Int32))).toUInt32.toUInt16.toUInt32.toInt32)), .val (.int (own_x p2))] [])) _
        refine XS.aloadN X11.here hx rfl (hb hby d5_68) rfl rfl ?_
        show Steps p.tables e below (T11.setTop (mkF m 69 #[.val (.ref p0), .val (.int (4 : Int32)), .val (.int p2), .val (.int (p2 &&& (3 : Int32))), .val (.int (((56320 : Int32) + (((p2.toUInt32 >>> ((2 : Int32) &&& 31).toUInt32).toInt32) &&& (255 : Int32))).toUInt32.toUInt16.toUInt32.toInt32)), .val (.int (own_x p2))] [(.ref p0)])) _
        refine XS.iloadN X11.here hx rfl (hb hby d5_69) rfl  ?_
        show Steps p.tables e below (T11.setTop (mkF m 70 #[.val (.ref p0), .val (.int (4 : Int32)), .val (.int p2), .val (.int (p2 &&& (3 : Int32))), .val (.int (((56320 : Int32) + (((p2.toUInt32 >>> ((2 : Int32) &&& 31).toUInt32).toInt32) &&& (255 : Int32))).toUInt32.toUInt16.toUInt32.toInt32)), .val (.int (own_x p2))] [(.int (4 : Int32)), (.ref p0)])) _
        refine XS.iconst X11.here hx rfl (hb hby d5_70) ?_
        show Steps p.tables e below (T11.setTop (mkF m 71 #[.val (.ref p0), .val (.int (4 : Int32)), .val (.int p2), .val (.int (p2 &&& (3 : Int32))), .val (.int (((56320 : Int32) + (((p2.toUInt32 >>> ((2 : Int32) &&& 31).toUInt32).toInt32) &&& (255 : Int32))).toUInt32.toUInt16.toUInt32.toInt32)), .val (.int (own_x p2))] [(.int (1 : Int32)), (.int (4 : Int32)), (.ref p0)])) _
        refine XS.iadd X11.here hx rfl (hb hby d5_71) rfl ?_
        show Steps p.tables e below (T11.setTop (mkF m 72 #[.val (.ref p0), .val (.int (4 : Int32)), .val (.int p2), .val (.int (p2 &&& (3 : Int32))), .val (.int (((56320 : Int32) + (((p2.toUInt32 >>> ((2 : Int32) &&& 31).toUInt32).toInt32) &&& (255 : Int32))).toUInt32.toUInt16.toUInt32.toInt32)), .val (.int (own_x p2))] [(.int (5 : Int32)), (.ref p0)])) _
        refine X11.ldcInt hx hown (mvT hZ (hw _ (List.mem_of_getElem? (i := 37) rfl))) (g := (mkF m 72 #[.val (.ref p0), .val (.int (4 : Int32)), .val (.int p2), .val (.int (p2 &&& (3 : Int32))), .val (.int (((56320 : Int32) + (((p2.toUInt32 >>> ((2 : Int32) &&& 31).toUInt32).toInt32) &&& (255 : Int32))).toUInt32.toUInt16.toUInt32.toInt32)), .val (.int (own_x p2))] [(.int (5 : Int32)), (.ref p0)])) rfl (hb hby d5_72) _ ?_
        show Steps p.tables e below (T11.setTop (mkF m 74 #[.val (.ref p0), .val (.int (4 : Int32)), .val (.int p2), .val (.int (p2 &&& (3 : Int32))), .val (.int (((56320 : Int32) + (((p2.toUInt32 >>> ((2 : Int32) &&& 31).toUInt32).toInt32) &&& (255 : Int32))).toUInt32.toUInt16.toUInt32.toInt32)), .val (.int (own_x p2))] [(.int (56320 : Int32)), (.int (5 : Int32)), (.ref p0)])) _
        refine XS.iloadN X11.here hx rfl (hb hby d5_74) rfl  ?_
        show Steps p.tables e below (T11.setTop (mkF m 75 #[.val (.ref p0), .val (.int (4 : Int32)), .val (.int p2), .val (.int (p2 &&& (3 : Int32))), .val (.int (((56320 : Int32) + (((p2.toUInt32 >>> ((2 : Int32) &&& 31).toUInt32).toInt32) &&& (255 : Int32))).toUInt32.toUInt16.toUInt32.toInt32)), .val (.int (own_x p2))] [(.int p2), (.int (56320 : Int32)), (.int (5 : Int32)), (.ref p0)])) _
        refine XS.bipush X11.here hx rfl (hb hby d5_75) ?_
        show Steps p.tables e below (T11.setTop (mkF m 77 #[.val (.ref p0), .val (.int (4 : Int32)), .val (.int p2), .val (.int (p2 &&& (3 : Int32))), .val (.int (((56320 : Int32) + (((p2.toUInt32 >>> ((2 : Int32) &&& 31).toUInt32).toInt32) &&& (255 : Int32))).toUInt32.toUInt16.toUInt32.toInt32)), .val (.int (own_x p2))] [(.int (20 : Int32)), (.int p2), (.int (56320 : Int32)), (.int (5 : Int32)), (.ref p0)])) _
        refine XS.iushr X11.here hx rfl (hb hby d5_77) rfl ?_
        show Steps p.tables e below (T11.setTop (mkF m 78 #[.val (.ref p0), .val (.int (4 : Int32)), .val (.int p2), .val (.int (p2 &&& (3 : Int32))), .val (.int (((56320 : Int32) + (((p2.toUInt32 >>> ((2 : Int32) &&& 31).toUInt32).toInt32) &&& (255 : Int32))).toUInt32.toUInt16.toUInt32.toInt32)), .val (.int (own_x p2))] [(.int ((p2.toUInt32 >>> ((20 : Int32) &&& 31).toUInt32).toInt32)), (.int (56320 : Int32)), (.int (5 : Int32)), (.ref p0)])) _
        refine XS.sipush X11.here hx rfl (hb hby d5_78) ?_
        show Steps p.tables e below (T11.setTop (mkF m 81 #[.val (.ref p0), .val (.int (4 : Int32)), .val (.int p2), .val (.int (p2 &&& (3 : Int32))), .val (.int (((56320 : Int32) + (((p2.toUInt32 >>> ((2 : Int32) &&& 31).toUInt32).toInt32) &&& (255 : Int32))).toUInt32.toUInt16.toUInt32.toInt32)), .val (.int (own_x p2))] [(.int (1023 : Int32)), (.int ((p2.toUInt32 >>> ((20 : Int32) &&& 31).toUInt32).toInt32)), (.int (56320 : Int32)), (.int (5 : Int32)), (.ref p0)])) _
        refine XS.iand X11.here hx rfl (hb hby d5_81) rfl ?_
        show Steps p.tables e below (T11.setTop (mkF m 82 #[.val (.ref p0), .val (.int (4 : Int32)), .val (.int p2), .val (.int (p2 &&& (3 : Int32))), .val (.int (((56320 : Int32) + (((p2.toUInt32 >>> ((2 : Int32) &&& 31).toUInt32).toInt32) &&& (255 : Int32))).toUInt32.toUInt16.toUInt32.toInt32)), .val (.int (own_x p2))] [(.int (((p2.toUInt32 >>> ((20 : Int32) &&& 31).toUInt32).toInt32) &&& (1023 : Int32))), (.int (56320 : Int32)), (.int (5 : Int32)), (.ref p0)])) _
        refine XS.iadd X11.here hx rfl (hb hby d5_82) rfl ?_
        show Steps p.tables e below (T11.setTop (mkF m 83 #[.val (.ref p0), .val (.int (4 : Int32)), .val (.int p2), .val (.int (p2 &&& (3 : Int32))), .val (.int (((56320 : Int32) + (((p2.toUInt32 >>> ((2 : Int32) &&& 31).toUInt32).toInt32) &&& (255 : Int32))).toUInt32.toUInt16.toUInt32.toInt32)), .val (.int (own_x p2))] [(.int ((56320 : Int32) + (((p2.toUInt32 >>> ((20 : Int32) &&& 31).toUInt32).toInt32) &&& (1023 : Int32)))), (.int (5 : Int32)), (.ref p0)])) _
        refine XS.i2c X11.here hx rfl (hb hby d5_83) rfl ?_
        show Steps p.tables e below (T11.setTop (mkF m 84 #[.val (.ref p0), .val (.int (4 : Int32)), .val (.int p2), .val (.int (p2 &&& (3 : Int32))), .val (.int (((56320 : Int32) + (((p2.toUInt32 >>> ((2 : Int32) &&& 31).toUInt32).toInt32) &&& (255 : Int32))).toUInt32.toUInt16.toUInt32.toInt32)), .val (.int (own_x p2))] [(.int (((56320 : Int32) + (((p2.toUInt32 >>> ((20 : Int32) &&& 31).toUInt32).toInt32) &&& (1023 : Int32))).toUInt32.toUInt16.toUInt32.toInt32)), (.int (5 : Int32)), (.ref p0)])) _
        refine st13 _ ?_
        show Steps p.tables e below (T13.setTop (mkF m 85 #[.val (.ref p0), .val (.int (4 : Int32)), .val (.int p2), .val (.int (p2 &&& (3 : Int32))), .val (.int (((56320 : Int32) + (((p2.toUInt32 >>> ((2 : Int32) &&& 31).toUInt32).toInt32) &&& (255 : Int32))).toUInt32.toUInt16.toUInt32.toInt32)), .val (.int (own_x p2))] [])) _
        refine XS.goto X13.here hx rfl (pc0 := 85) (pc' := 120) rfl (hb hby d5_85) (by decide) (by decide) ?_
        show Steps p.tables e below (T13.setTop (mkF m 120 #[.val (.ref p0), .val (.int (4 : Int32)), .val (.int p2), .val (.int (p2 &&& (3 : Int32))), .val (.int (((56320 : Int32) + (((p2.toUInt32 >>> ((2 : Int32) &&& 31).toUInt32).toInt32) &&& (255 : Int32))).toUInt32.toUInt16.toUInt32.toInt32)), .val (.int (own_x p2))] [])) _
        exact X13.returnOut hx Bd.returns (hb hby d5_120) hr
      · show Q_rmPutL4 Z p0 p2 k ez0 ez1 ez2 ez3 ez4 ez5 h0 n0 _ T13.heap _
        rw [e13]
        exact ⟨rfl, N13, K13, (by unfold own_pa own_pb; rw [if_neg (show ¬ own_k p2 = _ from hc30_2), if_pos (show own_k p2 = _ from hc50_8), if_neg (show ¬ own_k p2 = _ from hc30_2), if_pos (show own_k p2 = _ from hc50_8)]; exact V13)⟩
    · have pre15 : ∀ t, Steps p.tables e below (T1.setTop (mkF m 90 #[.val (.ref p0), .val (.int (4 : Int32)), .val (.int p2), .val (.int (p2 &&& (3 : Int32))), .val (.int (((56320 : Int32) + (((p2.toUInt32 >>> ((2 : Int32) &&& 31).toUInt32).toInt32) &&& (255 : Int32))).toUInt32.toUInt16.toUInt32.toInt32)), .val (.int (own_x p2))] [(.int (2 : Int32)), (.int (p2 &&& (3 : Int32)))])) t → Steps p.tables e below (s₁.setTop (entryFrame m #[(.ref p0), (.int (4 : Int32)), (.int p2)] 6)) t := fun t kt => pre9 t (by
        show Steps p.tables e below (T1.setTop (mkF m 50 #[.val (.ref p0), .val (.int (4 : Int32)), .val (.int p2), .val (.int (p2 &&& (3 : Int32))), .val (.int (((56320 : Int32) + (((p2.toUInt32 >>> ((2 : Int32) &&& 31).toUInt32).toInt32) &&& (255 : Int32))).toUInt32.toUInt16.toUInt32.toInt32)), .val (.int (own_x p2))] [(.int (1 : Int32)), (.int (p2 &&& (3 : Int32)))])) _
        refine XS.icmpYes X1.here hx rfl (pc0 := 50) (pc' := 88) rfl (hb hby d5_50) rfl (feq hc50_8).2 (by decide) (by decide) ?_
        show Steps p.tables e below (T1.setTop (mkF m 88 #[.val (.ref p0), .val (.int (4 : Int32)), .val (.int p2), .val (.int (p2 &&& (3 : Int32))), .val (.int (((56320 : Int32) + (((p2.toUInt32 >>> ((2 : Int32) &&& 31).toUInt32).toInt32) &&& (255 : Int32))).toUInt32.toUInt16.toUInt32.toInt32)), .val (.int (own_x p2))] [])) _
        refine XS.iloadN X1.here hx rfl (hb hby d5_88) rfl  ?_
        show Steps p.tables e below (T1.setTop (mkF m 89 #[.val (.ref p0), .val (.int (4 : Int32)), .val (.int p2), .val (.int (p2 &&& (3 : Int32))), .val (.int (((56320 : Int32) + (((p2.toUInt32 >>> ((2 : Int32) &&& 31).toUInt32).toInt32) &&& (255 : Int32))).toUInt32.toUInt16.toUInt32.toInt32)), .val (.int (own_x p2))] [(.int (p2 &&& (3 : Int32)))])) _
        refine XS.iconst X1.here hx rfl (hb hby d5_89) ?_
        exact kt)
      by_cases hc90_14 : (p2 &&& (3 : Int32)) = (2 : Int32)
      · obtain ⟨cl16, Ar16, q16, S16, N16, H16, G16⟩ := id A0
        have hin16 : ¬ ((4 : Int32) < 0 ∨ cl16.slots.size ≤ ((4 : Int32)).toNatClampNeg) := inb_of S16 ⟨by decide, by decide⟩
        obtain ⟨T17, h17, X17, e17, W17, st17⟩ := stC X1 hx hZ e1 Ar16 (j := (4 : Int32)) hin16 (g := (mkF m 97 #[.val (.ref p0), .val (.int (4 : Int32)), .val (.int p2), .val (.int (p2 &&& (3 : Int32))), .val (.int (((56320 : Int32) + (((p2.toUInt32 >>> ((2 : Int32) &&& 31).toUInt32).toInt32) &&& (255 : Int32))).toUInt32.toUInt16.toUInt32.toInt32)), .val (.int (own_x p2))] [(.int (((56320 : Int32) + (((p2.toUInt32 >>> ((2 : Int32) &&& 31).toUInt32).toInt32) &&& (255 : Int32))).toUInt32.toUInt16.toUInt32.toInt32)), (.int (4 : Int32)), (.ref p0)])) rfl rfl (hb hby d5_97)
        have N17 := Fr.snoc X17 N1 g0_
        have K17 := (Keep.refl h0 [p0]).wr W17 (Or.inl (List.mem_of_getElem? (i := 0) rfl))
        have V17 : Arv Z h17 p0 k .char (6 : Int32) [(.int ez0), (.int ez1), (.int ez2), (.int ez3), (.int (nar .char (((56320 : Int32) + (((p2.toUInt32 >>> ((2 : Int32) &&& 31).toUInt32).toInt32) &&& (255 : Int32))).toUInt32.toUInt16.toUInt32.toInt32))), (.int ez5)] (.int (0 : Int32)) := Arv.set Ar16 q16 S16 N16 H16 G16 (fits_nar_char _) W17 4 rfl (Nat.le_of_ble_eq_true rfl)
        obtain ⟨cl18, Ar18, q18, S18, N18, H18, G18⟩ := id V17
        have hin18 : ¬ ((5 : Int32) < 0 ∨ cl18.slots.size ≤ ((5 : Int32)).toNatClampNeg) := inb_of S18 ⟨by decide, by decide⟩
        obtain ⟨T19, h19, X19, e19, W19, st19⟩ := stC X17 hx hZ e17 Ar18 (j := (5 : Int32)) hin18 (g := (mkF m 104 #[.val (.ref p0), .val (.int (4 : Int32)), .val (.int p2), .val (.int (p2 &&& (3 : Int32))), .val (.int (((56320 : Int32) + (((p2.toUInt32 >>> ((2 : Int32) &&& 31).toUInt32).toInt32) &&& (255 : Int32))).toUInt32.toUInt16.toUInt32.toInt32)), .val (.int (own_x p2))] [(.int (own_x p2)), (.int (5 : Int32)), (.ref p0)])) rfl rfl (hb hby d5_104)
        have N19 := Fr.snoc X19 N17 g0_
        have K19 := K17.wr W19 (Or.inl (List.mem_of_getElem? (i := 0) rfl))
        have V19 : Arv Z h19 p0 k .char (6 : Int32) [(.int ez0), (.int ez1), (.int ez2), (.int ez3), (.int (nar .char (((56320 : Int32) + (((p2.toUInt32 >>> ((2 : Int32) &&& 31).toUInt32).toInt32) &&& (255 : Int32))).toUInt32.toUInt16.toUInt32.toInt32))), (.int (nar .char (own_x p2)))] (.int (0 : Int32)) := Arv.set Ar18 q18 S18 N18 H18 G18 (fits_nar_char _) W19 5 rfl (Nat.le_of_ble_eq_true rfl)
        obtain ⟨fs, hr, hrun, hended, hW, hsame⟩ := X19.leave (v := none) (fun _ => rfl)
        refine ⟨_, _, pre15 _ ?_, hrun, hended, _, _, rfl, ?_, ⟨_, rfl⟩, hW, hsame.mono (by decide) (by decide)⟩
        · show Steps p.tables e below (T1.setTop (mkF m 90 #[.val (.ref p0), .val (.int (4 : Int32)), .val (.int p2), .val (.int (p2 &&& (3 : Int32))), .val (.int (((56320 : Int32) + (((p2.toUInt32 >>> ((2 : Int32) &&& 31).toUInt32).toInt32) &&& (255 : Int32))).toUInt32.toUInt16.toUInt32.toInt32)), .val (.int (own_x p2))] [(.int (2 : Int32)), (.int (p2 &&& (3 : Int32)))])) _
          refine XS.icmpNo X1.here hx rfl (hb hby d5_90) rfl (teq hc90_14).2 ?_
          show Steps p.tables e below (T1.setTop (mkF m 93 #[.val (.ref p0), .val (.int (4 : Int32)), .val (.int p2), .val (.int (p2 &&& (3 : Int32))), .val (.int (((56320 : Int32) + (((p2.toUInt32 >>> ((2 : Int32) &&& 31).toUInt32).toInt32) &&& (255 : Int32))).toUInt32.toUInt16.toUInt32.toInt32)), .val (.int (own_x p2))] [])) _
          refine XS.aloadN X1.here hx rfl (hb hby d5_93) rfl rfl ?_
          show Steps p.tables e below (T1.setTop (mkF m 94 #[.val (.ref p0), .val (.int (4 : Int32)), .val (.int p2), .val (.int (p2 &&& (3 : Int32))), .val (.int (((56320 : Int32) + (((p2.toUInt32 >>> ((2 : Int32) &&& 31).toUInt32).toInt32) &&& (255 : Int32))).toUInt32.toUInt16.toUInt32.toInt32)), .val (.int (own_x p2))] [(.ref p0)])) _
          refine XS.iloadN X1.here hx rfl (hb hby d5_94) rfl  ?_
          show Steps p.tables e below (T1.setTop (mkF m 95 #[.val (.ref p0), .val (.int (4 : Int32)), .val (.int p2), .val (.int (p2 &&& (3 : Int32))), .val (.int (((56320 : Int32) + (((p2.toUInt32 >>> ((2 : Int32) &&& 31).toUInt32).toInt32) &&& (255 : Int32))).toUInt32.toUInt16.toUInt32.toInt32)), .val (.int (own_x p2))] [(.int (4 : Int32)), (.ref p0)])) _
          refine XS.iload X1.here hx rfl (hb hby d5_95) rfl  ?_
          show Steps p.tables e below (T1.setTop (mkF m 97 #[.val (.ref p0), .val (.int (4 : Int32)), .val (.int p2), .val (.int (p2 &&& (3 : Int32))), .val (.int (((56320 : Int32) + (((p2.toUInt32 >>> ((2 : Int32) &&& 31).toUInt32).toInt32) &&& (255 : Int32))).toUInt32.toUInt16.toUInt32.toInt32)), .val (.int (own_x p2))] [(.int (((56320 : Int32) + (((p2.toUInt32 >>> ((2 : Int32) &&& 31).toUInt32).toInt32) &&& (255 : Int32))).toUInt32.toUInt16.toUInt32.toInt32)), (.int (4 : Int32)), (.ref p0)])) _
          refine st17 _ ?_
          show Steps p.tables e below (T17.setTop (mkF m 98 #[.val (.ref p0), .val (.int (4 : Int32)), .val (.int p2), .val (.int (p2 &&& (3 : Int32))), .val (.int (((56320 : Int32) + (((p2.toUInt32 >>> ((2 : Int32) &&& 31).toUInt32).toInt32) &&& (255 : Int32))).toUInt32.toUInt16.toUInt32.toInt32)), .val (.int (own_x p2))] [])) _
          refine XS.aloadN X17.here hx rfl (hb hby d5_98) rfl rfl ?_
          show Steps p.tables e below (T17.setTop (mkF m 99 #[.val (.ref p0), .val (.int (4 : Int32)), .val (.int p2), .val (.int (p2 &&& (3 : Int32))), .val (.int (((56320 : Int32) + (((p2.toUInt32 >>> ((2 : Int32) &&& 31).toUInt32).toInt32) &&& (255 : Int32))).toUInt32.toUInt16.toUInt32.toInt32)), .val (.int (own_x p2))] [(.ref p0)])) _
          refine XS.iloadN X17.here hx rfl (hb hby d5_99) rfl  ?_
          show Steps p.tables e below (T17.setTop (mkF m 100 #[.val (.ref p0), .val (.int (4 : Int32)), .val (.int p2), .val (.int (p2 &&& (3 : Int32))), .val (.int (((56320 : Int32) + (((p2.toUInt32 >>> ((2 : Int32) &&& 31).toUInt32).toInt32) &&& (255 : Int32))).toUInt32.toUInt16.toUInt32.toInt32)), .val (.int (own_x p2))] [(.int (4 : Int32)), (.ref p0)])) _
          refine XS.iconst X17.here hx rfl (hb hby d5_100) ?_
          show Steps p.tables e below (T17.setTop (mkF m 101 #[.val (.ref p0), .val (.int (4 : Int32)), .val (.int p2), .val (.int (p2 &&& (3 : Int32))), .val (.int (((56320 : Int32) + (((p2.toUInt32 >>> ((2 : Int32) &&& 31).toUInt32).toInt32) &&& (255 : Int32))).toUInt32.toUInt16.toUInt32.toInt32)), .val (.int (own_x p2))] [(.int (1 : Int32)), (.int (4 : Int32)), (.ref p0)])) _
          refine XS.iadd X17.here hx rfl (hb hby d5_101) rfl ?_
          show Steps p.tables e below (T17.setTop (mkF m 102 #[.val (.ref p0), .val (.int (4 : Int32)), .val (.int p2), .val (.int (p2 &&& (3 : Int32))), .val (.int (((56320 : Int32) + (((p2.toUInt32 >>> ((2 : Int32) &&& 31).toUInt32).toInt32) &&& (255 : Int32))).toUInt32.toUInt16.toUInt32.toInt32)), .val (.int (own_x p2))] [(.int (5 : Int32)), (.ref p0)])) _
          refine XS.iload X17.here hx rfl (hb hby d5_102) rfl  ?_
          show Steps p.tables e below (T17.setTop (mkF m 104 #[.val (.ref p0), .val (.int (4 : Int32)), .val (.int p2), .val (.int (p2 &&& (3 : Int32))), .val (.int (((56320 : Int32) + (((p2.toUInt32 >>> ((2 : Int32) &&& 31).toUInt32).toInt32) &&& (255 : Int32))).toUInt32.toUInt16.toUInt32.toInt32)), .val (.int (own_x p2))] [(.int (own_x p2)), (.int (5 : Int32)), (.ref p0)])) _
          refine st19 _ ?_
          show Steps p.tables e below (T19.setTop (mkF m 105 #[.val (.ref p0), .val (.int (4 : Int32)), .val (.int p2), .val (.int (p2 &&& (3 : Int32))), .val (.int (((56320 : Int32) + (((p2.toUInt32 >>> ((2 : Int32) &&& 31).toUInt32).toInt32) &&& (255 : Int32))).toUInt32.toUInt16.toUInt32.toInt32)), .val (.int (own_x p2))] [])) _
          refine XS.goto X19.here hx rfl (pc0 := 105) (pc' := 120) rfl (hb hby d5_105) (by decide) (by decide) ?_
          show Steps p.tables e below (T19.setTop (mkF m 120 #[.val (.ref p0), .val (.int (4 : Int32)), .val (.int p2), .val (.int (p2 &&& (3 : Int32))), .val (.int (((56320 : Int32) + (((p2.toUInt32 >>> ((2 : Int32) &&& 31).toUInt32).toInt32) &&& (255 : Int32))).toUInt32.toUInt16.toUInt32.toInt32)), .val (.int (own_x p2))] [])) _
          exact X19.returnOut hx Bd.returns (hb hby d5_120) hr
        · show Q_rmPutL4 Z p0 p2 k ez0 ez1 ez2 ez3 ez4 ez5 h0 n0 _ T19.heap _
          rw [e19]
          exact ⟨rfl, N19, K19, (by unfold own_pa own_pb; rw [if_neg (show ¬ own_k p2 = _ from hc30_2), if_neg (show ¬ own_k p2 = _ from hc50_8), if_pos (show own_k p2 = _ from hc90_14), if_neg (show ¬ own_k p2 = _ from hc30_2), if_neg (show ¬ own_k p2 = _ from hc50_8), if_pos (show own_k p2 = _ from hc90_14)]; exact V19)⟩
      · obtain ⟨cl20, Ar20, q20, S20, N20, H20, G20⟩ := id A0
        have hin20 : ¬ ((4 : Int32) < 0 ∨ cl20.slots.size ≤ ((4 : Int32)).toNatClampNeg) := inb_of S20 ⟨by decide, by decide⟩
        obtain ⟨T21, h21, X21, e21, W21, st21⟩ := stC X1 hx hZ e1 Ar20 (j := (4 : Int32)) hin20 (g := (mkF m 112 #[.val (.ref p0), .val (.int (4 : Int32)), .val (.int p2), .val (.int (p2 &&& (3 : Int32))), .val (.int (((56320 : Int32) + (((p2.toUInt32 >>> ((2 : Int32) &&& 31).toUInt32).toInt32) &&& (255 : Int32))).toUInt32.toUInt16.toUInt32.toInt32)), .val (.int (own_x p2))] [(.int (own_x p2)), (.int (4 : Int32)), (.ref p0)])) rfl rfl (hb hby d5_112)
        have N21 := Fr.snoc X21 N1 g0_
        have K21 := (Keep.refl h0 [p0]).wr W21 (Or.inl (List.mem_of_getElem? (i := 0) rfl))
        have V21 : Arv Z h21 p0 k .char (6 : Int32) [(.int ez0), (.int ez1), (.int ez2), (.int ez3), (.int (nar .char (own_x p2))), (.int ez5)] (.int (0 : Int32)) := Arv.set Ar20 q20 S20 N20 H20 G20 (fits_nar_char _) W21 4 rfl (Nat.le_of_ble_eq_true rfl)
        obtain ⟨cl22, Ar22, q22, S22, N22, H22, G22⟩ := id V21
        have hin22 : ¬ ((5 : Int32) < 0 ∨ cl22.slots.size ≤ ((5 : Int32)).toNatClampNeg) := inb_of S22 ⟨by decide, by decide⟩
        obtain ⟨T23, h23, X23, e23, W23, st23⟩ := stC X21 hx hZ e21 Ar22 (j := (5 : Int32)) hin22 (g := (mkF m 119 #[.val (.ref p0), .val (.int (4 : Int32)), .val (.int p2), .val (.int (p2 &&& (3 : Int32))), .val (.int (((56320 : Int32) + (((p2.toUInt32 >>> ((2 : Int32) &&& 31).toUInt32).toInt32) &&& (255 : Int32))).toUInt32.toUInt16.toUInt32.toInt32)), .val (.int (own_x p2))] [(.int (((56320 : Int32) + (((p2.toUInt32 >>> ((2 : Int32) &&& 31).toUInt32).toInt32) &&& (255 : Int32))).toUInt32.toUInt16.toUInt32.toInt32)), (.int (5 : Int32)), (.ref p0)])) rfl rfl (hb hby d5_119)
        have N23 := Fr.snoc X23 N21 g0_
        have K23 := K21.wr W23 (Or.inl (List.mem_of_getElem? (i := 0) rfl))
        have V23 : Arv Z h23 p0 k .char (6 : Int32) [(.int ez0), (.int ez1), (.int ez2), (.int ez3), (.int (nar .char (own_x p2))), (.int (nar .char (((56320 : Int32) + (((p2.toUInt32 >>> ((2 : Int32) &&& 31).toUInt32).toInt32) &&& (255 : Int32))).toUInt32.toUInt16.toUInt32.toInt32)))] (.int (0 : Int32)) := Arv.set Ar22 q22 S22 N22 H22 G22 (fits_nar_char _) W23 5 rfl (Nat.le_of_ble_eq_true rfl)
        obtain ⟨fs, hr, hrun, hended, hW, hsame⟩ := X23.leave (v := none) (fun _ => rfl)
        refine ⟨_, _, pre15 _ ?_, hrun, hended, _, _, rfl, ?_, ⟨_, rfl⟩, hW, hsame.mono (by decide) (by decide)⟩
        · show Steps p.tables e below (T1.setTop (mkF m 90 #[.val (.ref p0), .val (.int (4 : Int32)), .val (.int p2), .val (.int (p2 &&& (3 : Int32))), .val (.int (((56320 : Int32) + (((p2.toUInt32 >>> ((2 : Int32) &&& 31).toUInt32).toInt32) &&& (255 : Int32))).toUInt32.toUInt16.toUInt32.toInt32)), .val (.int (own_x p2))] [(.int (2 : Int32)), (.int (p2 &&& (3 : Int32)))])) _
          refine XS.icmpYes X1.here hx rfl (pc0 := 90) (pc' := 108) rfl (hb hby d5_90) rfl (feq hc90_14).2 (by decide) (by decide) ?_
          show Steps p.tables e below (T1.setTop (mkF m 108 #[.val (.ref p0), .val (.int (4 : Int32)), .val (.int p2), .val (.int (p2 &&& (3 : Int32))), .val (.int (((56320 : Int32) + (((p2.toUInt32 >>> ((2 : Int32) &&& 31).toUInt32).toInt32) &&& (255 : Int32))).toUInt32.toUInt16.toUInt32.toInt32)), .val (.int (own_x p2))] [])) _
          refine XS.aloadN X1.here hx rfl (hb hby d5_108) rfl rfl ?_
          show Steps p.tables e below (T1.setTop (mkF m 109 #[.val (.ref p0), .val (.int (4 : Int32)), .val (.int p2), .val (.int (p2 &&& (3 : Int32))), .val (.int (((56320 : Int32) + (((p2.toUInt32 >>> ((2 : Int32) &&& 31).toUInt32).toInt32) &&& (255 : Int32))).toUInt32.toUInt16.toUInt32.toInt32)), .val (.int (own_x p2))] [(.ref p0)])) _
          refine XS.iloadN X1.here hx rfl (hb hby d5_109) rfl  ?_
          show Steps p.tables e below (T1.setTop (mkF m 110 #[.val (.ref p0), .val (.int (4 : Int32)), .val (.int p2), .val (.int (p2 &&& (3 : Int32))), .val (.int (((56320 : Int32) + (((p2.toUInt32 >>> ((2 : Int32) &&& 31).toUInt32).toInt32) &&& (255 : Int32))).toUInt32.toUInt16.toUInt32.toInt32)), .val (.int (own_x p2))] [(.int (4 : Int32)), (.ref p0)])) _
          refine XS.iload X1.here hx rfl (hb hby d5_110) rfl  ?_
          show Steps p.tables e below (T1.setTop (mkF m 112 #[.val (.ref p0), .val (.int (4 : Int32)), .val (.int p2), .val (.int (p2 &&& (3 : Int32))), .val (.int (((56320 : Int32) + (((p2.toUInt32 >>> ((2 : Int32) &&& 31).toUInt32).toInt32) &&& (255 : Int32))).toUInt32.toUInt16.toUInt32.toInt32)), .val (.int (own_x p2))] [(.int (own_x p2)), (.int (4 : Int32)), (.ref p0)])) _
          refine st21 _ ?_
          show Steps p.tables e below (T21.setTop (mkF m 113 #[.val (.ref p0), .val (.int (4 : Int32)), .val (.int p2), .val (.int (p2 &&& (3 : Int32))), .val (.int (((56320 : Int32) + (((p2.toUInt32 >>> ((2 : Int32) &&& 31).toUInt32).toInt32) &&& (255 : Int32))).toUInt32.toUInt16.toUInt32.toInt32)), .val (.int (own_x p2))] [])) _
          refine XS.aloadN X21.here hx rfl (hb hby d5_113) rfl rfl ?_
          show Steps p.tables e below (T21.setTop (mkF m 114 #[.val (.ref p0), .val (.int (4 : Int32)), .val (.int p2), .val (.int (p2 &&& (3 : Int32))), .val (.int (((56320 : Int32) + (((p2.toUInt32 >>> ((2 : Int32) &&& 31).toUInt32).toInt32) &&& (255 : Int32))).toUInt32.toUInt16.toUInt32.toInt32)), .val (.int (own_x p2))] [(.ref p0)])) _
          refine XS.iloadN X21.here hx rfl (hb hby d5_114) rfl  ?_
          show Steps p.tables e below (T21.setTop (mkF m 115 #[.val (.ref p0), .val (.int (4 : Int32)), .val (.int p2), .val (.int (p2 &&& (3 : Int32))), .val (.int (((56320 : Int32) + (((p2.toUInt32 >>> ((2 : Int32) &&& 31).toUInt32).toInt32) &&& (255 : Int32))).toUInt32.toUInt16.toUInt32.toInt32)), .val (.int (own_x p2))] [(.int (4 : Int32)), (.ref p0)])) _
          refine XS.iconst X21.here hx rfl (hb hby d5_115) ?_
          show Steps p.tables e below (T21.setTop (mkF m 116 #[.val (.ref p0), .val (.int (4 : Int32)), .val (.int p2), .val (.int (p2 &&& (3 : Int32))), .val (.int (((56320 : Int32) + (((p2.toUInt32 >>> ((2 : Int32) &&& 31).toUInt32).toInt32) &&& (255 : Int32))).toUInt32.toUInt16.toUInt32.toInt32)), .val (.int (own_x p2))] [(.int (1 : Int32)), (.int (4 : Int32)), (.ref p0)])) _
          refine XS.iadd X21.here hx rfl (hb hby d5_116) rfl ?_
          show Steps p.tables e below (T21.setTop (mkF m 117 #[.val (.ref p0), .val (.int (4 : Int32)), .val (.int p2), .val (.int (p2 &&& (3 : Int32))), .val (.int (((56320 : Int32) + (((p2.toUInt32 >>> ((2 : Int32) &&& 31).toUInt32).toInt32) &&& (255 : Int32))).toUInt32.toUInt16.toUInt32.toInt32)), .val (.int (own_x p2))] [(.int (5 : Int32)), (.ref p0)])) _
          refine XS.iload X21.here hx rfl (hb hby d5_117) rfl  ?_
          show Steps p.tables e below (T21.setTop (mkF m 119 #[.val (.ref p0), .val (.int (4 : Int32)), .val (.int p2), .val (.int (p2 &&& (3 : Int32))), .val (.int (((56320 : Int32) + (((p2.toUInt32 >>> ((2 : Int32) &&& 31).toUInt32).toInt32) &&& (255 : Int32))).toUInt32.toUInt16.toUInt32.toInt32)), .val (.int (own_x p2))] [(.int (((56320 : Int32) + (((p2.toUInt32 >>> ((2 : Int32) &&& 31).toUInt32).toInt32) &&& (255 : Int32))).toUInt32.toUInt16.toUInt32.toInt32)), (.int (5 : Int32)), (.ref p0)])) _
          refine st23 _ ?_
          show Steps p.tables e below (T23.setTop (mkF m 120 #[.val (.ref p0), .val (.int (4 : Int32)), .val (.int p2), .val (.int (p2 &&& (3 : Int32))), .val (.int (((56320 : Int32) + (((p2.toUInt32 >>> ((2 : Int32) &&& 31).toUInt32).toInt32) &&& (255 : Int32))).toUInt32.toUInt16.toUInt32.toInt32)), .val (.int (own_x p2))] [])) _
          exact X23.returnOut hx Bd.returns (hb hby d5_120) hr
        · show Q_rmPutL4 Z p0 p2 k ez0 ez1 ez2 ez3 ez4 ez5 h0 n0 _ T23.heap _
          rw [e23]
          exact ⟨rfl, N23, K23, (by unfold own_pa own_pb; rw [if_neg (show ¬ own_k p2 = _ from hc30_2), if_neg (show ¬ own_k p2 = _ from hc50_8), if_neg (show ¬ own_k p2 = _ from hc90_14), if_neg (show ¬ own_k p2 = _ from hc30_2), if_neg (show ¬ own_k p2 = _ from hc50_8), if_neg (show ¬ own_k p2 = _ from hc90_14)]; exact V23)⟩
theorem ef_rmByteAt (m : MethodId) (p0 : Addr) (p1 : Int32) : entryFrame m #[(.ref p0), (.int p1)] 2 = mkF m 0 #[.val (.ref p0), .val (.int p1)] [] := by first | (simp [entryFrame, mkF, argsToLocals, Value.category]; done) | rfl
theorem d28_0 : decode prog_13_method_4_code 0 = .ok (.aload_n 0, 1) := by decide +kernel
theorem d28_1 : decode prog_13_method_4_code 1 = .ok (.iload_n 1, 1) := by decide +kernel
theorem d28_2 : decode prog_13_method_4_code 2 = .ok (.invokeinterface 77 2, 5) := by decide +kernel
theorem d28_7 : decode prog_13_method_4_code 7 = .ok (.ldc 90, 2) := by decide +kernel
theorem d28_9 : decode prog_13_method_4_code 9 = .ok (.isub, 1) := by decide +kernel
theorem d28_10 : decode prog_13_method_4_code 10 = .ok (.ireturn, 1) := by decide +kernel
def Q_rmByteAt (Z : State) (p0 : Addr) (p1 : Int32) (zc : Int32) (fm : Value) (cs : List Int32) (r : Int32) (h0 : Heap) (n0 : Nat) (v : Option Value) (h : Heap) (L : List Loc) : Prop := v = some (.int r) ∧ Fr n0 L ∧ h = h0
set_option maxRecDepth 65536 in
set_option maxHeartbeats 40000000 in
theorem rmByteAt (l : Launch) (Z : State) (a0 : Array Value) (hw : ∀ d ∈ tables_1, d.before a0 Z = true) (ws : List Jvm.Cond) (p0 : Addr) (p1 : Int32) (zc : Int32) (fm : Value) (cs : List Int32) (r : Int32) (h0 : Heap) (n0 : Nat) (Z0 : n0 ≤ h0.size) (hSt : own_St Z zc fm) (Ol : Old Z n0 h0) (hS : own_Str Z h0 p0 cs) (hi : ¬ p1 < (0 : Int32) ∧ p1.toNatClampNeg < cs.length) (hres : r = cs.getD p1.toNatClampNeg 0 - (56320 : Int32)) :
    MetFree l (⟨"com/example/abeyance/abeyance/model/Utf8Reader", "byteAt", "(Ljava/lang/CharSequence;I)I"⟩ : MethodName) (head1 (Jvm.Cond.code (⟨"com/example/abeyance/abeyance/model/Utf8Reader", "byteAt", "(Ljava/lang/CharSequence;I)I"⟩ : MethodName) prog_13_method_4_code 2 (some .int) :: ws) ({ frames := 5, cells := 0, slots := 0, locals := 66 } : Room)) (fun a U => a = #[(.ref p0), (.int p1)] ∧ Z.Warmed39 U.vm ∧ U.heap = h0) (fun _ _ _ _ _ => True) (fun _ U o U' => ∃ v L, o = .returned v ∧ Q_rmByteAt Z p0 p1 zc fm cs r h0 n0 v U'.heap L ∧ FrameEnd U o U' L ({ frames := 5, cells := 0, slots := 0, locals := 66 } : Room).cells ({ frames := 5, cells := 0, slots := 0, locals := 66 } : Room).slots) := by
  refine MetFree.of_bodySF (plainFor_of_name pn_com_example_abeyance_abeyance_model_Utf8Reader) hisR ?_
  intro p e s m args below meth c s₁ Bd hml0 hP hK
  obtain ⟨rfl, hZ, hh⟩ := hP
  have hx := Bd.exec
  have hby := Bd.bytes
  have hml : c.maxLocals = 2 := hml0
  have hown : s.vm.findClass "com/example/abeyance/abeyance/model/Utf8Reader" = some m.cls := findClass_of_methodNamed Bd.named
  have hnm := (name_of_methodNamed Bd.named Bd.method).1
  have hZo := hZ
  have howno := hown
  have X0 : Stand p l e ({ frames := 5, cells := 0, slots := 0, locals := 66 } : Room) s m #[(.ref p0), (.int p1)] below meth c s₁ [] 0 0 := Stand.of_body Bd
  have e0 : s₁.heap = h0 := by rw [← hh, Bd.state]; rfl
  have N0 := Fr.nil n0
  have pre0 : ∀ t, Steps p.tables e below (s₁.setTop (mkF m 0 #[.val (.ref p0), .val (.int p1)] [])) t → Steps p.tables e below (s₁.setTop (entryFrame m #[(.ref p0), (.int p1)] 2)) t := fun t k => castTop (ef_rmByteAt m p0 p1 ) k
  obtain ⟨cq1, kq1, q1a, q1b, q1c⟩ := isOf hZ e0 hS.exa
  obtain ⟨_, _, ⟨T1, L1, k1, n1⟩, -, X1, ⟨Lc1, hQ1, l1, y1, z1⟩, st1⟩ := X0.interfaceBack hx (xi := (⟨"java/lang/CharSequence", "charAt", "(I)C"⟩ : MethodName)) (y := (⟨"java/lang/String", "charAt", "(I)C"⟩ : MethodName)) hown (mvT hZ (hw _ (List.mem_of_getElem? (i := 86) rfl))) (mvT hZ (hw _ (List.mem_of_getElem? (i := 87) rfl))) (mvT hZ (hw _ (List.mem_of_getElem? (i := 88) rfl))) (mvT hZ (hw _ (List.mem_of_getElem? (i := 89) rfl))) (mvT hZ (hw _ (List.mem_of_getElem? (i := 90) rfl))) (mvT hZ (hw _ (List.mem_of_getElem? (i := 91) rfl))) (mvT hZ (hw _ (List.mem_of_getElem? (i := 92) rfl))) (mvT hZ (hw _ (List.mem_of_getElem? (i := 22) rfl))) (by decide) (backOf (W := 0) (rmCharAt l Z a0 hw [] p0 p1 zc fm cs (cs.getD p1.toNatClampNeg 0) h0 n0 Z0 hSt Ol hS hi rfl) hZ (hw _ (List.mem_of_getElem? (i := 93) rfl)) (hw _ (List.mem_of_getElem? (i := 1) rfl)) (by decide) (by decide)) q1a q1b q1c (g := (mkF m 2 #[.val (.ref p0), .val (.int p1)] [(.int p1), (.ref p0)])) rfl (by rw [hml]; rfl) (Steps.refl _) (argsL := [(.int p1)]) (rest := []) (lenOf pd__I_C rfl) rfl (by show 2 * 0 + _ ≤ _; exact Nat.le_of_eq rfl) (hb hby d28_2) (fun _ _ => ⟨rfl, e0, (by decide : 0 + 0 ≤ _), (by decide : 0 + 0 ≤ _)⟩)
  dsimp only [Pt.U, Pt.locs, Pt.cells, Pt.slots] at X1 l1 y1 z1 st1 hQ1
  subst l1 y1 z1
  obtain ⟨rfl, Nq1, e1⟩ := hQ1
  have N1 := Fr.app N0 Nq1
  obtain ⟨fs, hr, hrun, hended, hW, hsame⟩ := X1.leave (v := some (.int ((cs.getD p1.toNatClampNeg 0) - (56320 : Int32)))) (fun h => by rw [Bd.returns] at h; cases h)
  refine ⟨_, _, pre0 _ ?_, hrun, hended, _, _, rfl, ?_, ⟨_, rfl⟩, hW, hsame.mono (by decide) (by decide)⟩
  · show Steps p.tables e below (s₁.setTop (mkF m 0 #[.val (.ref p0), .val (.int p1)] [])) _
    refine XS.aloadN X0.here hx rfl (hb hby d28_0) rfl rfl ?_
    show Steps p.tables e below (s₁.setTop (mkF m 1 #[.val (.ref p0), .val (.int p1)] [(.ref p0)])) _
    refine XS.iloadN X0.here hx rfl (hb hby d28_1) rfl  ?_
    show Steps p.tables e below (s₁.setTop (mkF m 2 #[.val (.ref p0), .val (.int p1)] [(.int p1), (.ref p0)])) _
    refine st1.trans ?_
    show Steps p.tables e below (T1.setTop (mkF m 7 #[.val (.ref p0), .val (.int p1)] [(.int (cs.getD p1.toNatClampNeg 0))])) _
    refine X1.ldcInt hx hown (mvT hZ (hw _ (List.mem_of_getElem? (i := 129) rfl))) (g := (mkF m 7 #[.val (.ref p0), .val (.int p1)] [(.int (cs.getD p1.toNatClampNeg 0))])) rfl (hb hby d28_7) _ ?_
    show Steps p.tables e below (T1.setTop (mkF m 9 #[.val (.ref p0), .val (.int p1)] [(.int (56320 : Int32)), (.int (cs.getD p1.toNatClampNeg 0))])) _
    refine XS.isub X1.here hx rfl (hb hby d28_9) rfl ?_
    show Steps p.tables e below (T1.setTop (mkF m 10 #[.val (.ref p0), .val (.int p1)] [(.int ((cs.getD p1.toNatClampNeg 0) - (56320 : Int32)))])) _
    exact retI X1 hx Bd.returns (hb hby d28_10) hr
  · show Q_rmByteAt Z p0 p1 zc fm cs r h0 n0 _ T1.heap _
    rw [e1]
    exact ⟨by rw [hres], N1, rfl⟩
theorem ef_rmMalByte (m : MethodId) (p0 : Addr) : entryFrame m #[(.ref p0)] 2 = mkF m 0 #[.val (.ref p0), .unset] [] := by first | (simp [entryFrame, mkF, argsToLocals, Value.category]; done) | rfl
theorem d1_0 : decode prog_13_method_2_code 0 = .ok (.aload_n 0, 1) := by decide +kernel
theorem pd__Ljava_lang_CharSequence__I : parseMethodDescriptor "(Ljava/lang/CharSequence;)I" = some ⟨[(.object "java/lang/CharSequence")], some .int⟩ := by decide +kernel
theorem d1_1 : decode prog_13_method_2_code 1 = .ok (.invokestatic 63, 3) := by decide +kernel
theorem d1_4 : decode prog_13_method_2_code 4 = .ok (.istore_n 1, 1) := by decide +kernel
theorem d1_5 : decode prog_13_method_2_code 5 = .ok (.iload_n 1, 1) := by decide +kernel
theorem d1_6 : decode prog_13_method_2_code 6 = .ok (.ifCond .ge 7, 3) := by decide +kernel
theorem d1_9 : decode prog_13_method_2_code 9 = .ok (.iconst (-1), 1) := by decide +kernel
theorem d1_10 : decode prog_13_method_2_code 10 = .ok (.goto 8, 3) := by decide +kernel
theorem d1_18 : decode prog_13_method_2_code 18 = .ok (.ireturn, 1) := by decide +kernel
theorem d1_13 : decode prog_13_method_2_code 13 = .ok (.aload_n 0, 1) := by decide +kernel
theorem d1_14 : decode prog_13_method_2_code 14 = .ok (.iload_n 1, 1) := by decide +kernel
theorem pd__Ljava_lang_CharSequence_I_I : parseMethodDescriptor "(Ljava/lang/CharSequence;I)I" = some ⟨[(.object "java/lang/CharSequence"), .int], some .int⟩ := by decide +kernel
theorem d1_15 : decode prog_13_method_2_code 15 = .ok (.invokestatic 67, 3) := by decide +kernel
def Q_rmMalByte (Z : State) (p0 : Addr) (zc : Int32) (fm : Value) (cs : List Int32) (r : Int32) (h0 : Heap) (n0 : Nat) (v : Option Value) (h : Heap) (L : List Loc) : Prop := v = some (.int r) ∧ Fr n0 L ∧ h = h0
set_option maxRecDepth 65536 in
set_option maxHeartbeats 40000000 in
theorem rmMalByte (l : Launch) (Z : State) (a0 : Array Value) (hw : ∀ d ∈ tables_1, d.before a0 Z = true) (ws : List Jvm.Cond) (p0 : Addr) (zc : Int32) (fm : Value) (cs : List Int32) (r : Int32) (h0 : Heap) (n0 : Nat) (Z0 : n0 ≤ h0.size) (hSt : own_St Z zc fm) (Ol : Old Z n0 h0) (hS : own_Str Z h0 p0 cs) (hln : cs.length < 1000) (hin : ¬ (own_ma cs (cs.length + 1) 0) < (0 : Int32) → (own_ma cs (cs.length + 1) 0).toNatClampNeg < cs.length) (hres : r = own_mb cs) :
    MetFree l (⟨"com/example/abeyance/abeyance/model/Utf8Reader", "malformedByte", "(Ljava/lang/CharSequence;)I"⟩ : MethodName) (head1 (Jvm.Cond.code (⟨"com/example/abeyance/abeyance/model/Utf8Reader", "malformedByte", "(Ljava/lang/CharSequence;)I"⟩ : MethodName) prog_13_method_2_code 2 (some .int) :: ws) ({ frames := 6, cells := 0, slots := 0, locals := 80 } : Room)) (fun a U => a = #[(.ref p0)] ∧ Z.Warmed39 U.vm ∧ U.heap = h0) (fun _ _ _ _ _ => True) (fun _ U o U' => ∃ v L, o = .returned v ∧ Q_rmMalByte Z p0 zc fm cs r h0 n0 v U'.heap L ∧ FrameEnd U o U' L ({ frames := 6, cells := 0, slots := 0, locals := 80 } : Room).cells ({ frames := 6, cells := 0, slots := 0, locals := 80 } : Room).slots) := by
  refine MetFree.of_bodySF (plainFor_of_name pn_com_example_abeyance_abeyance_model_Utf8Reader) hisR ?_
  intro p e s m args below meth c s₁ Bd hml0 hP hK
  obtain ⟨rfl, hZ, hh⟩ := hP
  have hx := Bd.exec
  have hby := Bd.bytes
  have hml : c.maxLocals = 2 := hml0
  have hown : s.vm.findClass "com/example/abeyance/abeyance/model/Utf8Reader" = some m.cls := findClass_of_methodNamed Bd.named
  have hnm := (name_of_methodNamed Bd.named Bd.method).1
  have hZo := hZ
  have howno := hown
  have X0 : Stand p l e ({ frames := 6, cells := 0, slots := 0, locals := 80 } : Room) s m #[(.ref p0)] below meth c s₁ [] 0 0 := Stand.of_body Bd
  have e0 : s₁.heap = h0 := by rw [← hh, Bd.state]; rfl
  have N0 := Fr.nil n0
  have pre0 : ∀ t, Steps p.tables e below (s₁.setTop (mkF m 0 #[.val (.ref p0), .unset] [])) t → Steps p.tables e below (s₁.setTop (entryFrame m #[(.ref p0)] 2)) t := fun t k => castTop (ef_rmMalByte m p0 ) k
  obtain ⟨_, _, ⟨T1, L1, k1, n1⟩, -, X1, ⟨Lc1, hQ1, l1, y1, z1⟩, st1⟩ := Jvm.LawKit.callS X0 hx (y := (⟨"com/example/abeyance/abeyance/model/Utf8Reader", "malformedAt", "(Ljava/lang/CharSequence;)I"⟩ : MethodName)) hown (mvT hZ (hw _ (List.mem_of_getElem? (i := 12) rfl))) (mvT hZ (hw _ (List.mem_of_getElem? (i := 13) rfl))) (mvT hZ (hw _ (List.mem_of_getElem? (i := 10) rfl))) (mvT hZ (hw _ (List.mem_of_getElem? (i := 14) rfl))) (by decide) (backOf (W := 0) (rmMalAt l Z a0 hw [] p0 zc fm cs (own_ma cs (cs.length + 1) 0) h0 n0 Z0 hSt Ol hS hln rfl) hZ (hw _ (List.mem_of_getElem? (i := 14) rfl)) (hw _ (List.mem_of_getElem? (i := 10) rfl)) (by decide) (by decide)) (g := (mkF m 1 #[.val (.ref p0), .unset] [(.ref p0)])) rfl (by rw [hml]; rfl) (argsL := [(.ref p0)]) (rest := []) (lenOf pd__Ljava_lang_CharSequence__I rfl) rfl (by show 2 * 0 + _ ≤ _; exact Nat.le_of_eq rfl) (hb hby d1_1) (fun _ _ => ⟨rfl, e0, (by decide : 0 + 0 ≤ _), (by decide : 0 + 0 ≤ _)⟩)
  dsimp only [Pt.U, Pt.locs, Pt.cells, Pt.slots] at X1 l1 y1 z1 st1 hQ1
  subst l1 y1 z1
  obtain ⟨rfl, Nq1, e1⟩ := hQ1
  have N1 := Fr.app N0 Nq1
  have pre3 : ∀ t, Steps p.tables e below (T1.setTop (mkF m 6 #[.val (.ref p0), .val (.int (own_ma cs (cs.length + 1) 0))] [(.int (own_ma cs (cs.length + 1) 0))])) t → Steps p.tables e below (s₁.setTop (entryFrame m #[(.ref p0)] 2)) t := fun t kt => pre0 t (by
    show Steps p.tables e below (s₁.setTop (mkF m 0 #[.val (.ref p0), .unset] [])) _
    refine XS.aloadN X0.here hx rfl (hb hby d1_0) rfl rfl ?_
    show Steps p.tables e below (s₁.setTop (mkF m 1 #[.val (.ref p0), .unset] [(.ref p0)])) _
    refine st1 _ ?_
    show Steps p.tables e below (T1.setTop (mkF m 4 #[.val (.ref p0), .unset] [(.int (own_ma cs (cs.length + 1) 0))])) _
    refine XS.istoreN X1.here hx rfl (hb hby d1_4) rfl (l' := #[.val (.ref p0), .val (.int (own_ma cs (cs.length + 1) 0))]) rfl ?_
    show Steps p.tables e below (T1.setTop (mkF m 5 #[.val (.ref p0), .val (.int (own_ma cs (cs.length + 1) 0))] [])) _
    refine XS.iloadN X1.here hx rfl (hb hby d1_5) rfl  ?_
    exact kt)
  by_cases hc6_2 : (own_ma cs (cs.length + 1) 0) < (0 : Int32)
  · obtain ⟨fs, hr, hrun, hended, hW, hsame⟩ := X1.leave (v := some (.int (-1 : Int32))) (fun h => by rw [Bd.returns] at h; cases h)
    refine ⟨_, _, pre3 _ ?_, hrun, hended, _, _, rfl, ?_, ⟨_, rfl⟩, hW, hsame.mono (by decide) (by decide)⟩
    · show Steps p.tables e below (T1.setTop (mkF m 6 #[.val (.ref p0), .val (.int (own_ma cs (cs.length + 1) 0))] [(.int (own_ma cs (cs.length + 1) 0))])) _
      refine XS.ifNo X1.here hx rfl (hb hby d1_6) rfl ((if0 _ _).trans (tlt hc6_2).2.1) ?_
      show Steps p.tables e below (T1.setTop (mkF m 9 #[.val (.ref p0), .val (.int (own_ma cs (cs.length + 1) 0))] [])) _
      refine XS.iconst X1.here hx rfl (hb hby d1_9) ?_
      show Steps p.tables e below (T1.setTop (mkF m 10 #[.val (.ref p0), .val (.int (own_ma cs (cs.length + 1) 0))] [(.int (-1 : Int32))])) _
      refine XS.goto X1.here hx rfl (pc0 := 10) (pc' := 18) rfl (hb hby d1_10) (by decide) (by decide) ?_
      show Steps p.tables e below (T1.setTop (mkF m 18 #[.val (.ref p0), .val (.int (own_ma cs (cs.length + 1) 0))] [(.int (-1 : Int32))])) _
      exact retI X1 hx Bd.returns (hb hby d1_18) hr
    · show Q_rmMalByte Z p0 zc fm cs r h0 n0 _ T1.heap _
      rw [e1]
      exact ⟨by rw [hres]; unfold own_mb; rw [if_pos hc6_2], N1, rfl⟩
  · obtain ⟨_, _, ⟨T4, L4, k4, n4⟩, -, X4, ⟨Lc4, hQ4, l4, y4, z4⟩, st4⟩ := Jvm.LawKit.callS X1 hx (y := (⟨"com/example/abeyance/abeyance/model/Utf8Reader", "byteAt", "(Ljava/lang/CharSequence;I)I"⟩ : MethodName)) hown (mvT hZ (hw _ (List.mem_of_getElem? (i := 126) rfl))) (mvT hZ (hw _ (List.mem_of_getElem? (i := 127) rfl))) (mvT hZ (hw _ (List.mem_of_getElem? (i := 10) rfl))) (mvT hZ (hw _ (List.mem_of_getElem? (i := 128) rfl))) (by decide) (backOf (W := 0) (rmByteAt l Z a0 hw [] p0 (own_ma cs (cs.length + 1) 0) zc fm cs (cs.getD (own_ma cs (cs.length + 1) 0).toNatClampNeg 0 - (56320 : Int32)) h0 n0 Z0 hSt Ol hS ⟨hc6_2, hin hc6_2⟩ rfl) hZ (hw _ (List.mem_of_getElem? (i := 128) rfl)) (hw _ (List.mem_of_getElem? (i := 10) rfl)) (by decide) (by decide)) (g := (mkF m 15 #[.val (.ref p0), .val (.int (own_ma cs (cs.length + 1) 0))] [(.int (own_ma cs (cs.length + 1) 0)), (.ref p0)])) rfl (by rw [hml]; rfl) (argsL := [(.ref p0), (.int (own_ma cs (cs.length + 1) 0))]) (rest := []) (lenOf pd__Ljava_lang_CharSequence_I_I rfl) rfl (by show 2 * 0 + _ ≤ _; exact Nat.le_of_eq rfl) (hb hby d1_15) (fun _ _ => ⟨rfl, e1, (by decide : 0 + 0 ≤ _), (by decide : 0 + 0 ≤ _)⟩)
    dsimp only [Pt.U, Pt.locs, Pt.cells, Pt.slots] at X4 l4 y4 z4 st4 hQ4
    subst l4 y4 z4
    obtain ⟨rfl, Nq4, e4⟩ := hQ4
    have N4 := Fr.app N1 Nq4
    obtain ⟨fs, hr, hrun, hended, hW, hsame⟩ := X4.leave (v := some (.int (cs.getD (own_ma cs (cs.length + 1) 0).toNatClampNeg 0 - (56320 : Int32)))) (fun h => by rw [Bd.returns] at h; cases h)
    refine ⟨_, _, pre3 _ ?_, hrun, hended, _, _, rfl, ?_, ⟨_, rfl⟩, hW, hsame.mono (by decide) (by decide)⟩
    · show Steps p.tables e below (T1.setTop (mkF m 6 #[.val (.ref p0), .val (.int (own_ma cs (cs.length + 1) 0))] [(.int (own_ma cs (cs.length + 1) 0))])) _
      refine XS.ifYes X1.here hx rfl (pc0 := 6) (pc' := 13) rfl (hb hby d1_6) rfl ((if0 _ _).trans (flt hc6_2).2.1) (by decide) (by decide) ?_
      show Steps p.tables e below (T1.setTop (mkF m 13 #[.val (.ref p0), .val (.int (own_ma cs (cs.length + 1) 0))] [])) _
      refine XS.aloadN X1.here hx rfl (hb hby d1_13) rfl rfl ?_
      show Steps p.tables e below (T1.setTop (mkF m 14 #[.val (.ref p0), .val (.int (own_ma cs (cs.length + 1) 0))] [(.ref p0)])) _
      refine XS.iloadN X1.here hx rfl (hb hby d1_14) rfl  ?_
      show Steps p.tables e below (T1.setTop (mkF m 15 #[.val (.ref p0), .val (.int (own_ma cs (cs.length + 1) 0))] [(.int (own_ma cs (cs.length + 1) 0)), (.ref p0)])) _
      refine st4 _ ?_
      show Steps p.tables e below (T4.setTop (mkF m 18 #[.val (.ref p0), .val (.int (own_ma cs (cs.length + 1) 0))] [(.int (cs.getD (own_ma cs (cs.length + 1) 0).toNatClampNeg 0 - (56320 : Int32)))])) _
      exact retI X4 hx Bd.returns (hb hby d1_18) hr
    · show Q_rmMalByte Z p0 zc fm cs r h0 n0 _ T4.heap _
      rw [e4]
      exact ⟨by rw [hres]; unfold own_mb; rw [if_neg hc6_2], N4, rfl⟩
theorem ef_rm0 (m : MethodId) (p0 : Int32) (p1 : Int32) (p2 : Int32) (p3 : Int32) : entryFrame m #[(.int p0), (.int p1), (.int p2), (.int p3)] maxLocals = mkF m 0 #[.val (.int p0), .val (.int p1), .val (.int p2), .val (.int p3), .unset, .unset, .unset, .unset, .unset] [] := by first | (simp [entryFrame, mkF, argsToLocals, Value.category, maxLocals]; done) | rfl
theorem pd___CII_V : parseMethodDescriptor "([CII)V" = some ⟨[(.array .char), .int, .int], none⟩ := by decide +kernel
theorem pd___C_V : parseMethodDescriptor "([C)V" = some ⟨[(.array .char)], none⟩ := by decide +kernel
def Q_rm0 (Z : State) (p0 : Int32) (p1 : Int32) (p2 : Int32) (p3 : Int32) (zc : Int32) (fm : Value) (h0 : Heap) (n0 : Nat) (v : Option Value) (h : Heap) (L : List Loc) : Prop := v = some (.int (1 : Int32)) ∧ Fr n0 L
set_option maxRecDepth 65536 in
set_option maxHeartbeats 40000000 in
theorem rm0 (l : Launch) (Z : State) (a0 : Array Value) (hw : ∀ d ∈ tables_1, d.before a0 Z = true) (ws : List Jvm.Cond) (p0 : Int32) (p1 : Int32) (p2 : Int32) (p3 : Int32) (zc : Int32) (fm : Value) (h0 : Heap) (n0 : Nat) (Z0 : n0 ≤ h0.size) (hSt : own_St Z zc fm) (Ol : Old Z n0 h0) (hheld : Jvm.Lit.constHeld Z "com/example/abeyance/abeyance/model/Utf8ReaderMalformedBytePinLaw" 17) (hcw : Jvm.Lit.compactW.before a0 Z = true) (hZ0 : Z.heap = h0) (hnZ : n0 = Z.heap.size) :
    MetFree l x (head1 (Jvm.Cond.code x code maxLocals ret :: ws) room_1) (fun a U => a = #[(.int p0), (.int p1), (.int p2), (.int p3)] ∧ Z.Warmed39 U.vm ∧ U.heap = h0 ∧ U.vm.interned = Z.vm.interned) (fun _ _ _ _ _ => True) (fun _ U o U' => ∃ v L, o = .returned v ∧ Q_rm0 Z p0 p1 p2 p3 zc fm h0 n0 v U'.heap L ∧ ReturnedEndW U o U' L room_1.cells room_1.slots) := by
  refine MetFree.of_bodySF (plainFor_of_name pn_com_example_abeyance_abeyance_model_Utf8ReaderMalformedBytePinLaw) hisR ?_
  intro p e s m args below meth c s₁ Bd hml0 hP hK
  obtain ⟨rfl, hZ, hh, hI⟩ := hP
  have hx := Bd.exec
  have hby := Bd.bytes
  have hml : c.maxLocals = 9 := hml0
  have hown : s.vm.findClass "com/example/abeyance/abeyance/model/Utf8ReaderMalformedBytePinLaw" = some m.cls := findClass_of_methodNamed Bd.named
  have hnm := (name_of_methodNamed Bd.named Bd.method).1
  have hZo := hZ
  have howno := hown
  have X0 : Stand p l e room_1 s m #[(.int p0), (.int p1), (.int p2), (.int p3)] below meth c s₁ [] 0 0 := Stand.of_body Bd
  have e0 : s₁.heap = h0 := by rw [← hh, Bd.state]; rfl
  have N0 := Fr.nil n0
  have pre0 : ∀ t, Steps p.tables e below (s₁.setTop (mkF m 0 #[.val (.int p0), .val (.int p1), .val (.int p2), .val (.int p3), .unset, .unset, .unset, .unset, .unset] [])) t → Steps p.tables e below (s₁.setTop (entryFrame m #[(.int p0), (.int p1), (.int p2), (.int p3)] maxLocals)) t := fun t k => castTop (ef_rm0 m p0 p1 p2 p3 ) k
  have pre2 : ∀ t, Steps p.tables e below (s₁.setTop (mkF m 3 #[.val (.int p0), .val (.int p1), .val (.int p2), .val (.int p3), .unset, .unset, .unset, .unset, .unset] [(.int (p0 &&& (3 : Int32)))])) t → Steps p.tables e below (s₁.setTop (entryFrame m #[(.int p0), (.int p1), (.int p2), (.int p3)] maxLocals)) t := fun t kt => pre0 t (by
    show Steps p.tables e below (s₁.setTop (mkF m 0 #[.val (.int p0), .val (.int p1), .val (.int p2), .val (.int p3), .unset, .unset, .unset, .unset, .unset] [])) _
    refine XS.iloadN X0.here hx rfl (hb hby at_0) rfl  ?_
    show Steps p.tables e below (s₁.setTop (mkF m 1 #[.val (.int p0), .val (.int p1), .val (.int p2), .val (.int p3), .unset, .unset, .unset, .unset, .unset] [(.int p0)])) _
    refine XS.iconst X0.here hx rfl (hb hby at_1) ?_
    show Steps p.tables e below (s₁.setTop (mkF m 2 #[.val (.int p0), .val (.int p1), .val (.int p2), .val (.int p3), .unset, .unset, .unset, .unset, .unset] [(.int (3 : Int32)), (.int p0)])) _
    refine XS.iand X0.here hx rfl (hb hby at_2) rfl ?_
    exact kt)
  by_cases hc3_1 : (p0 &&& (3 : Int32)) = (0 : Int32)
  · have pre3 : ∀ t, Steps p.tables e below (s₁.setTop (mkF m 6 #[.val (.int p0), .val (.int p1), .val (.int p2), .val (.int p3), .unset, .unset, .unset, .unset, .unset] [])) t → Steps p.tables e below (s₁.setTop (entryFrame m #[(.int p0), (.int p1), (.int p2), (.int p3)] maxLocals)) t := fun t kt => pre2 t (by
      show Steps p.tables e below (s₁.setTop (mkF m 3 #[.val (.int p0), .val (.int p1), .val (.int p2), .val (.int p3), .unset, .unset, .unset, .unset, .unset] [(.int (p0 &&& (3 : Int32)))])) _
      refine XS.ifNo X0.here hx rfl (hb hby at_3) rfl ((if0 _ _).trans (teq hc3_1).2) ?_
      show Steps p.tables e below (s₁.setTop (mkF m 6 #[.val (.int p0), .val (.int p1), .val (.int p2), .val (.int p3), .unset, .unset, .unset, .unset, .unset] [])) _
      exact kt)
    have hWr := X0.warmed
    have hS4 : s.Since s₁.vm h0.size := X0.warmed.since _
    have hZ4 : Z.Warmed39 (s.setVm s₁.vm).vm := State.Warmed39.trans hZ X0.warmed.wide
    have hown4 : (s.setVm s₁.vm).vm.findClass "com/example/abeyance/abeyance/model/Utf8ReaderMalformedBytePinLaw" = some m.cls := (X0.warmed.wide.alike.findClass _ _).trans hown
    have X4 := X0.retabled X0.warmed.wide
    have hk4 : h0.size ≤ h0.size := Nat.le_refl _
    obtain ⟨a5, T5, h5, k5, b5, kk5, X5, e5, E5, hS5, hk5, hZ5, hown5, Ex5, Fc5, Fv5, Av5, -, -, -, -, st5⟩ := ldcSVL X4 hx hZ4 hown4 (hw _ (List.mem_of_getElem? (i := 0) rfl)) (own_wS hw) e0 hS4 hk4 (by rw [hh, ← hZ0, ← hnZ]; exact N0) (fun b cl q => by rw [hh, ← hZ0]; exact q) (own_IB hI hWr) (fun q => nomatch q) hheld hcw (vs := []) (z := (0 : Int32)) ⟨(fun c q => nomatch q), rfl⟩ (by decide) rfl (g := (mkF m 6 #[.val (.int p0), .val (.int p1), .val (.int p2), .val (.int p3), .unset, .unset, .unset, .unset, .unset] [])) rfl (hb hby at_6) (n := 0) (by decide) (by decide) (by decide) (by decide)
    have hSe : own_Str Z h5 a5 [] := ⟨b5, kk5, (0 : Int32), (0 : Int32), [], Ex5, Fv5, Fc5, Av5, Or.inl ⟨rfl, rfl, rfl, (fun c q => nomatch q)⟩, (fun c q => nomatch q), by decide⟩
    have f6 := (Nat.le_trans Z0 E5.1)
    have f7 := (Ol.ext E5)
    obtain ⟨_, _, ⟨T8, L8, k8, n8⟩, -, X8, ⟨Lc8, hQ8, l8, y8, z8⟩, st8⟩ := Jvm.LawKit.callS X5 hx (y := (⟨"com/example/abeyance/abeyance/model/Utf8Reader", "malformedByte", "(Ljava/lang/CharSequence;)I"⟩ : MethodName)) hown5 (mvT hZ5 (hw _ (List.mem_of_getElem? (i := 8) rfl))) (mvT hZ5 (hw _ (List.mem_of_getElem? (i := 9) rfl))) (mvT hZ5 (hw _ (List.mem_of_getElem? (i := 10) rfl))) (mvT hZ5 (hw _ (List.mem_of_getElem? (i := 11) rfl))) (by decide) (backOf (W := 0) (rmMalByte l Z a0 hw [] a5 zc fm [] (-1 : Int32) h5 n0 f6 hSt f7 hSe (by decide) (fun h => absurd (by decide) h) (by decide)) hZ5 (hw _ (List.mem_of_getElem? (i := 11) rfl)) (hw _ (List.mem_of_getElem? (i := 10) rfl)) (by decide) (by decide)) (g := (mkF m 8 #[.val (.int p0), .val (.int p1), .val (.int p2), .val (.int p3), .unset, .unset, .unset, .unset, .unset] [(.ref a5)])) rfl (by rw [hml]; rfl) (argsL := [(.ref a5)]) (rest := []) (lenOf pd__Ljava_lang_CharSequence__I rfl) rfl (by show 2 * 0 + _ ≤ _; exact Nat.le_of_eq rfl) (hb hby at_8) (fun _ _ => ⟨rfl, e5, (by decide : 2 + 0 ≤ _), (by decide : 4 + 0 ≤ _)⟩)
    dsimp only [Pt.U, Pt.locs, Pt.cells, Pt.slots] at X8 l8 y8 z8 st8 hQ8
    subst l8 y8 z8
    obtain ⟨rfl, Nq8, e8⟩ := hQ8
    have N8 := Fr.app N0 Nq8
    obtain ⟨fs, hr, hrun, hended, hEnd⟩ := X8.leaveW hS5 (by rw [e8]; exact hk5) (v := some (.int (1 : Int32))) (fun h => by rw [Bd.returns] at h; cases h)
    refine ⟨_, _, pre3 _ ?_, hrun, hended, _, _, rfl, ?_, hEnd.1, hEnd.2.1, hEnd.2.2.1, hEnd.2.2.2.mono (by decide) (by decide)⟩
    · show Steps p.tables e below (s₁.setTop (mkF m 6 #[.val (.int p0), .val (.int p1), .val (.int p2), .val (.int p3), .unset, .unset, .unset, .unset, .unset] [])) _
      refine st5 _ ?_
      show Steps p.tables e below (T5.setTop (mkF m 8 #[.val (.int p0), .val (.int p1), .val (.int p2), .val (.int p3), .unset, .unset, .unset, .unset, .unset] [(.ref a5)])) _
      refine st8 _ ?_
      show Steps p.tables e below (T8.setTop (mkF m 11 #[.val (.int p0), .val (.int p1), .val (.int p2), .val (.int p3), .unset, .unset, .unset, .unset, .unset] [(.int (-1 : Int32))])) _
      refine XS.iconst X8.here hx rfl (hb hby at_11) ?_
      show Steps p.tables e below (T8.setTop (mkF m 12 #[.val (.int p0), .val (.int p1), .val (.int p2), .val (.int p3), .unset, .unset, .unset, .unset, .unset] [(.int (-1 : Int32)), (.int (-1 : Int32))])) _
      refine XS.icmpNo X8.here hx rfl (hb hby at_12) rfl (teq (by decide : (-1 : Int32) = (-1 : Int32))).2 ?_
      show Steps p.tables e below (T8.setTop (mkF m 15 #[.val (.int p0), .val (.int p1), .val (.int p2), .val (.int p3), .unset, .unset, .unset, .unset, .unset] [])) _
      refine XS.iconst X8.here hx rfl (hb hby at_15) ?_
      show Steps p.tables e below (T8.setTop (mkF m 16 #[.val (.int p0), .val (.int p1), .val (.int p2), .val (.int p3), .unset, .unset, .unset, .unset, .unset] [(.int (1 : Int32))])) _
      refine XS.goto X8.here hx rfl (pc0 := 16) (pc' := 20) rfl (hb hby at_16) (by decide) (by decide) ?_
      show Steps p.tables e below (T8.setTop (mkF m 20 #[.val (.int p0), .val (.int p1), .val (.int p2), .val (.int p3), .unset, .unset, .unset, .unset, .unset] [(.int (1 : Int32))])) _
      exact retN X8 hx (t := .boolean) Bd.returns (by simp) (hb hby at_20) hr
    · show Q_rm0 Z p0 p1 p2 p3 zc fm h0 n0 _ T8.heap _
      rw [e8]
      exact ⟨rfl, N8⟩
  · obtain ⟨T9, h9, k9, X9, e9, E9, A9, st9⟩ := newP X0 hx hZ (hw _ (List.mem_of_getElem? (i := 32) rfl)) e0 (g := (mkF m 23 #[.val (.int p0), .val (.int p1), .val (.int p2), .val (.int p3), .unset, .unset, .unset, .unset, .unset] [(.int (6 : Int32))])) rfl (hb hby at_23) rfl (by decide) (cap := 6) (by decide) (by decide) (by decide) (by decide)
    obtain ⟨b9, g9⟩ : ∃ z, z = h0.size := ⟨_, rfl⟩
    rw [← g9] at A9 st9
    have ge9 : n0 ≤ b9 := Nat.le_trans Z0 (Nat.le_of_eq g9.symm)
    have V9 : Arv Z h9 b9 k9 .char (6 : Int32) [(.int (0 : Int32)), (.int (0 : Int32)), (.int (0 : Int32)), (.int (0 : Int32)), (.int (0 : Int32)), (.int (0 : Int32))] (.int (0 : Int32)) := (Arv.new A9 (by decide)).pad (pad_rep [] (.int (0 : Int32)) 6)
    have f10 := (Nat.le_trans Z0 E9.1)
    obtain ⟨_, _, ⟨T11, L11, k11, n11⟩, -, X11, ⟨Lc11, hQ11, l11, y11, z11⟩, st11⟩ := Jvm.LawKit.callS X9 hx (y := (⟨"com/example/abeyance/abeyance/model/Utf8ReaderMalformedBytePinLaw", "put", "([CII)V"⟩ : MethodName)) hown (mvT hZ (hw _ (List.mem_of_getElem? (i := 33) rfl))) (mvT hZ (hw _ (List.mem_of_getElem? (i := 34) rfl))) (mvT hZ (hw _ (List.mem_of_getElem? (i := 35) rfl))) (mvT hZ (hw _ (List.mem_of_getElem? (i := 36) rfl))) (by decide) (backOf (W := 0) (rmPutL0 l Z a0 hw [] b9 p1 k9 ((0 : Int32)) ((0 : Int32)) ((0 : Int32)) ((0 : Int32)) ((0 : Int32)) ((0 : Int32)) h9 n0 f10 V9 ge9) hZ (hw _ (List.mem_of_getElem? (i := 36) rfl)) (hw _ (List.mem_of_getElem? (i := 35) rfl)) (by decide) (by decide)) (g := (mkF m 31 #[.val (.int p0), .val (.int p1), .val (.int p2), .val (.int p3), .val (.ref b9), .unset, .unset, .unset, .unset] [(.int p1), (.int (0 : Int32)), (.ref b9)])) rfl (by rw [hml]; rfl) (argsL := [(.ref b9), (.int (0 : Int32)), (.int p1)]) (rest := []) (lenOf pd___CII_V rfl) rfl (by show 2 * 0 + _ ≤ _; exact Nat.le_of_eq rfl) (hb hby at_31) (fun _ _ => ⟨rfl, e9, (by decide : 1 + 0 ≤ _), (by decide : 6 + 0 ≤ _)⟩)
    dsimp only [Pt.U, Pt.locs, Pt.cells, Pt.slots] at X11 l11 y11 z11 st11 hQ11
    subst l11 y11 z11
    obtain ⟨rfl, Nq11, K11, Vp11⟩ := hQ11
    have N11 := Fr.app N0 Nq11
    have f12 := (Nat.le_trans f10 K11.1)
    obtain ⟨_, _, ⟨T13, L13, k13, n13⟩, -, X13, ⟨Lc13, hQ13, l13, y13, z13⟩, st13⟩ := Jvm.LawKit.callS X11 hx (y := (⟨"com/example/abeyance/abeyance/model/Utf8ReaderMalformedBytePinLaw", "put", "([CII)V"⟩ : MethodName)) hown (mvT hZ (hw _ (List.mem_of_getElem? (i := 33) rfl))) (mvT hZ (hw _ (List.mem_of_getElem? (i := 34) rfl))) (mvT hZ (hw _ (List.mem_of_getElem? (i := 35) rfl))) (mvT hZ (hw _ (List.mem_of_getElem? (i := 36) rfl))) (by decide) (backOf (W := 0) (rmPutL2 l Z a0 hw [] b9 p2 k9 ((own_pa p1)) ((own_pb p1)) ((0 : Int32)) ((0 : Int32)) ((0 : Int32)) ((0 : Int32)) T11.heap n0 f12 Vp11 ge9) hZ (hw _ (List.mem_of_getElem? (i := 36) rfl)) (hw _ (List.mem_of_getElem? (i := 35) rfl)) (by decide) (by decide)) (g := (mkF m 38 #[.val (.int p0), .val (.int p1), .val (.int p2), .val (.int p3), .val (.ref b9), .unset, .unset, .unset, .unset] [(.int p2), (.int (2 : Int32)), (.ref b9)])) rfl (by rw [hml]; rfl) (argsL := [(.ref b9), (.int (2 : Int32)), (.int p2)]) (rest := []) (lenOf pd___CII_V rfl) rfl (by show 2 * 0 + _ ≤ _; exact Nat.le_of_eq rfl) (hb hby at_38) (fun _ _ => ⟨rfl, rfl, (by decide : 1 + 0 ≤ _), (by decide : 6 + 0 ≤ _)⟩)
    dsimp only [Pt.U, Pt.locs, Pt.cells, Pt.slots] at X13 l13 y13 z13 st13 hQ13
    subst l13 y13 z13
    obtain ⟨rfl, Nq13, K13, Vp13⟩ := hQ13
    have N13 := Fr.app N11 Nq13
    have f14 := (Nat.le_trans f12 K13.1)
    obtain ⟨_, _, ⟨T15, L15, k15, n15⟩, -, X15, ⟨Lc15, hQ15, l15, y15, z15⟩, st15⟩ := Jvm.LawKit.callS X13 hx (y := (⟨"com/example/abeyance/abeyance/model/Utf8ReaderMalformedBytePinLaw", "put", "([CII)V"⟩ : MethodName)) hown (mvT hZ (hw _ (List.mem_of_getElem? (i := 33) rfl))) (mvT hZ (hw _ (List.mem_of_getElem? (i := 34) rfl))) (mvT hZ (hw _ (List.mem_of_getElem? (i := 35) rfl))) (mvT hZ (hw _ (List.mem_of_getElem? (i := 36) rfl))) (by decide) (backOf (W := 0) (rmPutL4 l Z a0 hw [] b9 p3 k9 ((own_pa p1)) ((own_pb p1)) ((own_pa p2)) ((own_pb p2)) ((0 : Int32)) ((0 : Int32)) T13.heap n0 f14 Vp13 ge9) hZ (hw _ (List.mem_of_getElem? (i := 36) rfl)) (hw _ (List.mem_of_getElem? (i := 35) rfl)) (by decide) (by decide)) (g := (mkF m 45 #[.val (.int p0), .val (.int p1), .val (.int p2), .val (.int p3), .val (.ref b9), .unset, .unset, .unset, .unset] [(.int p3), (.int (4 : Int32)), (.ref b9)])) rfl (by rw [hml]; rfl) (argsL := [(.ref b9), (.int (4 : Int32)), (.int p3)]) (rest := []) (lenOf pd___CII_V rfl) rfl (by show 2 * 0 + _ ≤ _; exact Nat.le_of_eq rfl) (hb hby at_45) (fun _ _ => ⟨rfl, rfl, (by decide : 1 + 0 ≤ _), (by decide : 6 + 0 ≤ _)⟩)
    dsimp only [Pt.U, Pt.locs, Pt.cells, Pt.slots] at X15 l15 y15 z15 st15 hQ15
    subst l15 y15 z15
    obtain ⟨rfl, Nq15, K15, Vp15⟩ := hQ15
    have N15 := Fr.app N13 Nq15
    have f16 := (Nat.le_trans f14 K15.1)
    obtain ⟨_, _, ⟨T17, L17, k17, n17⟩, -, X17, ⟨Lc17, hQ17, l17, y17, z17⟩, st17⟩ := Jvm.LawKit.callS X15 hx (y := (⟨"com/example/abeyance/abeyance/model/Utf8ReaderMalformedBytePinLaw", "expect", "(I)I"⟩ : MethodName)) hown (mvT hZ (hw _ (List.mem_of_getElem? (i := 43) rfl))) (mvT hZ (hw _ (List.mem_of_getElem? (i := 44) rfl))) (mvT hZ (hw _ (List.mem_of_getElem? (i := 35) rfl))) (mvT hZ (hw _ (List.mem_of_getElem? (i := 45) rfl))) (by decide) (backOf (W := 0) (rmExpect l Z a0 hw [] p1 (own_exp p1) T15.heap n0 f16 rfl) hZ (hw _ (List.mem_of_getElem? (i := 45) rfl)) (hw _ (List.mem_of_getElem? (i := 35) rfl)) (by decide) (by decide)) (g := (mkF m 49 #[.val (.int p0), .val (.int p1), .val (.int p2), .val (.int p3), .val (.ref b9), .unset, .unset, .unset, .unset] [(.int p1)])) rfl (by rw [hml]; rfl) (argsL := [(.int p1)]) (rest := []) (lenOf pd__I_I rfl) rfl (by show 2 * 0 + _ ≤ _; exact Nat.le_of_eq rfl) (hb hby at_49) (fun _ _ => ⟨rfl, rfl, (by decide : 1 + 0 ≤ _), (by decide : 6 + 0 ≤ _)⟩)
    dsimp only [Pt.U, Pt.locs, Pt.cells, Pt.slots] at X17 l17 y17 z17 st17 hQ17
    subst l17 y17 z17
    obtain ⟨rfl, Nq17, e17⟩ := hQ17
    have N17 := Fr.app N15 Nq17
    obtain ⟨_, _, ⟨T18, L18, k18, n18⟩, -, X18, ⟨Lc18, hQ18, l18, y18, z18⟩, st18⟩ := Jvm.LawKit.callS X17 hx (y := (⟨"com/example/abeyance/abeyance/model/Utf8ReaderMalformedBytePinLaw", "expect", "(I)I"⟩ : MethodName)) hown (mvT hZ (hw _ (List.mem_of_getElem? (i := 43) rfl))) (mvT hZ (hw _ (List.mem_of_getElem? (i := 44) rfl))) (mvT hZ (hw _ (List.mem_of_getElem? (i := 35) rfl))) (mvT hZ (hw _ (List.mem_of_getElem? (i := 45) rfl))) (by decide) (backOf (W := 0) (rmExpect l Z a0 hw [] p2 (own_exp p2) T15.heap n0 f16 rfl) hZ (hw _ (List.mem_of_getElem? (i := 45) rfl)) (hw _ (List.mem_of_getElem? (i := 35) rfl)) (by decide) (by decide)) (g := (mkF m 55 #[.val (.int p0), .val (.int p1), .val (.int p2), .val (.int p3), .val (.ref b9), .val (.int (own_exp p1)), .unset, .unset, .unset] [(.int p2)])) rfl (by rw [hml]; rfl) (argsL := [(.int p2)]) (rest := []) (lenOf pd__I_I rfl) rfl (by show 2 * 0 + _ ≤ _; exact Nat.le_of_eq rfl) (hb hby at_55) (fun _ _ => ⟨rfl, e17, (by decide : 1 + 0 ≤ _), (by decide : 6 + 0 ≤ _)⟩)
    dsimp only [Pt.U, Pt.locs, Pt.cells, Pt.slots] at X18 l18 y18 z18 st18 hQ18
    subst l18 y18 z18
    obtain ⟨rfl, Nq18, e18⟩ := hQ18
    have N18 := Fr.app N17 Nq18
    obtain ⟨_, _, ⟨T19, L19, k19, n19⟩, -, X19, ⟨Lc19, hQ19, l19, y19, z19⟩, st19⟩ := Jvm.LawKit.callS X18 hx (y := (⟨"com/example/abeyance/abeyance/model/Utf8ReaderMalformedBytePinLaw", "expect", "(I)I"⟩ : MethodName)) hown (mvT hZ (hw _ (List.mem_of_getElem? (i := 43) rfl))) (mvT hZ (hw _ (List.mem_of_getElem? (i := 44) rfl))) (mvT hZ (hw _ (List.mem_of_getElem? (i := 35) rfl))) (mvT hZ (hw _ (List.mem_of_getElem? (i := 45) rfl))) (by decide) (backOf (W := 0) (rmExpect l Z a0 hw [] p3 (own_exp p3) T15.heap n0 f16 rfl) hZ (hw _ (List.mem_of_getElem? (i := 45) rfl)) (hw _ (List.mem_of_getElem? (i := 35) rfl)) (by decide) (by decide)) (g := (mkF m 61 #[.val (.int p0), .val (.int p1), .val (.int p2), .val (.int p3), .val (.ref b9), .val (.int (own_exp p1)), .val (.int (own_exp p2)), .unset, .unset] [(.int p3)])) rfl (by rw [hml]; rfl) (argsL := [(.int p3)]) (rest := []) (lenOf pd__I_I rfl) rfl (by show 2 * 0 + _ ≤ _; exact Nat.le_of_eq rfl) (hb hby at_61) (fun _ _ => ⟨rfl, e18, (by decide : 1 + 0 ≤ _), (by decide : 6 + 0 ≤ _)⟩)
    dsimp only [Pt.U, Pt.locs, Pt.cells, Pt.slots] at X19 l19 y19 z19 st19 hQ19
    subst l19 y19 z19
    obtain ⟨rfl, Nq19, e19⟩ := hQ19
    have N19 := Fr.app N18 Nq19
    have pre21 : ∀ t, Steps p.tables e below (T19.setTop (mkF m 68 #[.val (.int p0), .val (.int p1), .val (.int p2), .val (.int p3), .val (.ref b9), .val (.int (own_exp p1)), .val (.int (own_exp p2)), .val (.int (own_exp p3)), .unset] [(.int (own_exp p1))])) t → Steps p.tables e below (s₁.setTop (entryFrame m #[(.int p0), (.int p1), (.int p2), (.int p3)] maxLocals)) t := fun t kt => pre2 t (by
      show Steps p.tables e below (s₁.setTop (mkF m 3 #[.val (.int p0), .val (.int p1), .val (.int p2), .val (.int p3), .unset, .unset, .unset, .unset, .unset] [(.int (p0 &&& (3 : Int32)))])) _
      refine XS.ifYes X0.here hx rfl (pc0 := 3) (pc' := 21) rfl (hb hby at_3) rfl ((if0 _ _).trans (feq hc3_1).2) (by decide) (by decide) ?_
      show Steps p.tables e below (s₁.setTop (mkF m 21 #[.val (.int p0), .val (.int p1), .val (.int p2), .val (.int p3), .unset, .unset, .unset, .unset, .unset] [])) _
      refine XS.bipush X0.here hx rfl (hb hby at_21) ?_
      show Steps p.tables e below (s₁.setTop (mkF m 23 #[.val (.int p0), .val (.int p1), .val (.int p2), .val (.int p3), .unset, .unset, .unset, .unset, .unset] [(.int (6 : Int32))])) _
      refine st9 _ ?_
      show Steps p.tables e below (T9.setTop (mkF m 25 #[.val (.int p0), .val (.int p1), .val (.int p2), .val (.int p3), .unset, .unset, .unset, .unset, .unset] [(.ref b9)])) _
      refine XS.astore X9.here hx rfl (hb hby at_25) rfl rfl (l' := #[.val (.int p0), .val (.int p1), .val (.int p2), .val (.int p3), .val (.ref b9), .unset, .unset, .unset, .unset]) rfl ?_
      show Steps p.tables e below (T9.setTop (mkF m 27 #[.val (.int p0), .val (.int p1), .val (.int p2), .val (.int p3), .val (.ref b9), .unset, .unset, .unset, .unset] [])) _
      refine XS.aload X9.here hx rfl (hb hby at_27) rfl rfl ?_
      show Steps p.tables e below (T9.setTop (mkF m 29 #[.val (.int p0), .val (.int p1), .val (.int p2), .val (.int p3), .val (.ref b9), .unset, .unset, .unset, .unset] [(.ref b9)])) _
      refine XS.iconst X9.here hx rfl (hb hby at_29) ?_
      show Steps p.tables e below (T9.setTop (mkF m 30 #[.val (.int p0), .val (.int p1), .val (.int p2), .val (.int p3), .val (.ref b9), .unset, .unset, .unset, .unset] [(.int (0 : Int32)), (.ref b9)])) _
      refine XS.iloadN X9.here hx rfl (hb hby at_30) rfl  ?_
      show Steps p.tables e below (T9.setTop (mkF m 31 #[.val (.int p0), .val (.int p1), .val (.int p2), .val (.int p3), .val (.ref b9), .unset, .unset, .unset, .unset] [(.int p1), (.int (0 : Int32)), (.ref b9)])) _
      refine st11 _ ?_
      show Steps p.tables e below (T11.setTop (mkF m 34 #[.val (.int p0), .val (.int p1), .val (.int p2), .val (.int p3), .val (.ref b9), .unset, .unset, .unset, .unset] [])) _
      refine XS.aload X11.here hx rfl (hb hby at_34) rfl rfl ?_
      show Steps p.tables e below (T11.setTop (mkF m 36 #[.val (.int p0), .val (.int p1), .val (.int p2), .val (.int p3), .val (.ref b9), .unset, .unset, .unset, .unset] [(.ref b9)])) _
      refine XS.iconst X11.here hx rfl (hb hby at_36) ?_
      show Steps p.tables e below (T11.setTop (mkF m 37 #[.val (.int p0), .val (.int p1), .val (.int p2), .val (.int p3), .val (.ref b9), .unset, .unset, .unset, .unset] [(.int (2 : Int32)), (.ref b9)])) _
      refine XS.iloadN X11.here hx rfl (hb hby at_37) rfl  ?_
      show Steps p.tables e below (T11.setTop (mkF m 38 #[.val (.int p0), .val (.int p1), .val (.int p2), .val (.int p3), .val (.ref b9), .unset, .unset, .unset, .unset] [(.int p2), (.int (2 : Int32)), (.ref b9)])) _
      refine st13 _ ?_
      show Steps p.tables e below (T13.setTop (mkF m 41 #[.val (.int p0), .val (.int p1), .val (.int p2), .val (.int p3), .val (.ref b9), .unset, .unset, .unset, .unset] [])) _
      refine XS.aload X13.here hx rfl (hb hby at_41) rfl rfl ?_
      show Steps p.tables e below (T13.setTop (mkF m 43 #[.val (.int p0), .val (.int p1), .val (.int p2), .val (.int p3), .val (.ref b9), .unset, .unset, .unset, .unset] [(.ref b9)])) _
      refine XS.iconst X13.here hx rfl (hb hby at_43) ?_
      show Steps p.tables e below (T13.setTop (mkF m 44 #[.val (.int p0), .val (.int p1), .val (.int p2), .val (.int p3), .val (.ref b9), .unset, .unset, .unset, .unset] [(.int (4 : Int32)), (.ref b9)])) _
      refine XS.iloadN X13.here hx rfl (hb hby at_44) rfl  ?_
      show Steps p.tables e below (T13.setTop (mkF m 45 #[.val (.int p0), .val (.int p1), .val (.int p2), .val (.int p3), .val (.ref b9), .unset, .unset, .unset, .unset] [(.int p3), (.int (4 : Int32)), (.ref b9)])) _
      refine st15 _ ?_
      show Steps p.tables e below (T15.setTop (mkF m 48 #[.val (.int p0), .val (.int p1), .val (.int p2), .val (.int p3), .val (.ref b9), .unset, .unset, .unset, .unset] [])) _
      refine XS.iloadN X15.here hx rfl (hb hby at_48) rfl  ?_
      show Steps p.tables e below (T15.setTop (mkF m 49 #[.val (.int p0), .val (.int p1), .val (.int p2), .val (.int p3), .val (.ref b9), .unset, .unset, .unset, .unset] [(.int p1)])) _
      refine st17 _ ?_
      show Steps p.tables e below (T17.setTop (mkF m 52 #[.val (.int p0), .val (.int p1), .val (.int p2), .val (.int p3), .val (.ref b9), .unset, .unset, .unset, .unset] [(.int (own_exp p1))])) _
      refine XS.istore X17.here hx rfl (hb hby at_52) rfl (l' := #[.val (.int p0), .val (.int p1), .val (.int p2), .val (.int p3), .val (.ref b9), .val (.int (own_exp p1)), .unset, .unset, .unset]) rfl ?_
      show Steps p.tables e below (T17.setTop (mkF m 54 #[.val (.int p0), .val (.int p1), .val (.int p2), .val (.int p3), .val (.ref b9), .val (.int (own_exp p1)), .unset, .unset, .unset] [])) _
      refine XS.iloadN X17.here hx rfl (hb hby at_54) rfl  ?_
      show Steps p.tables e below (T17.setTop (mkF m 55 #[.val (.int p0), .val (.int p1), .val (.int p2), .val (.int p3), .val (.ref b9), .val (.int (own_exp p1)), .unset, .unset, .unset] [(.int p2)])) _
      refine st18 _ ?_
      show Steps p.tables e below (T18.setTop (mkF m 58 #[.val (.int p0), .val (.int p1), .val (.int p2), .val (.int p3), .val (.ref b9), .val (.int (own_exp p1)), .unset, .unset, .unset] [(.int (own_exp p2))])) _
      refine XS.istore X18.here hx rfl (hb hby at_58) rfl (l' := #[.val (.int p0), .val (.int p1), .val (.int p2), .val (.int p3), .val (.ref b9), .val (.int (own_exp p1)), .val (.int (own_exp p2)), .unset, .unset]) rfl ?_
      show Steps p.tables e below (T18.setTop (mkF m 60 #[.val (.int p0), .val (.int p1), .val (.int p2), .val (.int p3), .val (.ref b9), .val (.int (own_exp p1)), .val (.int (own_exp p2)), .unset, .unset] [])) _
      refine XS.iloadN X18.here hx rfl (hb hby at_60) rfl  ?_
      show Steps p.tables e below (T18.setTop (mkF m 61 #[.val (.int p0), .val (.int p1), .val (.int p2), .val (.int p3), .val (.ref b9), .val (.int (own_exp p1)), .val (.int (own_exp p2)), .unset, .unset] [(.int p3)])) _
      refine st19 _ ?_
      show Steps p.tables e below (T19.setTop (mkF m 64 #[.val (.int p0), .val (.int p1), .val (.int p2), .val (.int p3), .val (.ref b9), .val (.int (own_exp p1)), .val (.int (own_exp p2)), .unset, .unset] [(.int (own_exp p3))])) _
      refine XS.istore X19.here hx rfl (hb hby at_64) rfl (l' := #[.val (.int p0), .val (.int p1), .val (.int p2), .val (.int p3), .val (.ref b9), .val (.int (own_exp p1)), .val (.int (own_exp p2)), .val (.int (own_exp p3)), .unset]) rfl ?_
      show Steps p.tables e below (T19.setTop (mkF m 66 #[.val (.int p0), .val (.int p1), .val (.int p2), .val (.int p3), .val (.ref b9), .val (.int (own_exp p1)), .val (.int (own_exp p2)), .val (.int (own_exp p3)), .unset] [])) _
      refine XS.iload X19.here hx rfl (hb hby at_66) rfl  ?_
      exact kt)
    by_cases hc68_20 : (own_exp p1) < (0 : Int32)
    · have pre23 : ∀ t, Steps p.tables e below (T19.setTop (mkF m 80 #[.val (.int p0), .val (.int p1), .val (.int p2), .val (.int p3), .val (.ref b9), .val (.int (own_exp p1)), .val (.int (own_exp p2)), .val (.int (own_exp p3)), .unset] [(.int (own_exp p2))])) t → Steps p.tables e below (s₁.setTop (entryFrame m #[(.int p0), (.int p1), (.int p2), (.int p3)] maxLocals)) t := fun t kt => pre21 t (by
        show Steps p.tables e below (T19.setTop (mkF m 68 #[.val (.int p0), .val (.int p1), .val (.int p2), .val (.int p3), .val (.ref b9), .val (.int (own_exp p1)), .val (.int (own_exp p2)), .val (.int (own_exp p3)), .unset] [(.int (own_exp p1))])) _
        refine XS.ifYes X19.here hx rfl (pc0 := 68) (pc' := 78) rfl (hb hby at_68) rfl ((if0 _ _).trans (tlt hc68_20).1) (by decide) (by decide) ?_
        show Steps p.tables e below (T19.setTop (mkF m 78 #[.val (.int p0), .val (.int p1), .val (.int p2), .val (.int p3), .val (.ref b9), .val (.int (own_exp p1)), .val (.int (own_exp p2)), .val (.int (own_exp p3)), .unset] [])) _
        refine XS.iload X19.here hx rfl (hb hby at_78) rfl  ?_
        exact kt)
      by_cases hc80_22 : (own_exp p2) < (0 : Int32)
      · obtain ⟨T24, h24, X24, e24, E24, A24, D24, -, st24⟩ := newO X19 hx hZ hown (hw _ (List.mem_of_getElem? (i := 46) rfl)) (hw _ (List.mem_of_getElem? (i := 2) rfl)) (hw _ (List.mem_of_getElem? (i := 1) rfl)) e19 (g := (mkF m 94 #[.val (.int p0), .val (.int p1), .val (.int p2), .val (.int p3), .val (.ref b9), .val (.int (own_exp p1)), .val (.int (own_exp p2)), .val (.int (own_exp p3)), .val (.int (own_exp p3))] [])) rfl (hb hby at_94) (by decide) (by decide)
        obtain ⟨b24, g24⟩ : ∃ z, z = T15.heap.size := ⟨_, rfl⟩
        rw [← g24] at A24 D24 st24
        have ne24_b9 : b9 ≠ b24 := Nat.ne_of_lt (Nat.lt_of_lt_of_le Vp15.lt (Nat.le_of_eq g24.symm))
        have ge24 : n0 ≤ b24 := Nat.le_trans f16 (Nat.le_of_eq g24.symm)
        have F24_value : Fld Z h24 b24 "java/lang/String" "value" "[B" .null := D24 (Or.inr (hw _ (List.mem_of_getElem? (i := 4) rfl))) (ty := (.array .byte)) (by decide)
        have F24_coder : Fld Z h24 b24 "java/lang/String" "coder" "B" (.int (0 : Int32)) := D24 (Or.inr (hw _ (List.mem_of_getElem? (i := 5) rfl))) (ty := .byte) (by decide)
        have f25 := (Vp15.ext E24)
        have f26 := (Nat.le_trans f16 E24.1)
        have f27 := (((((Ol.ext E9).keep K11 (allS ge9 all0)).keep K13 (allS ge9 all0)).keep K15 (allS ge9 all0)).ext E24)
        obtain ⟨_, _, ⟨T28, L28, k28, n28⟩, -, X28, ⟨Lc28, hQ28, l28, y28, z28⟩, st28⟩ := X24.specialBack hx (y := (⟨"java/lang/String", "<init>", "([C)V"⟩ : MethodName)) rfl hown (mvT hZ (hw _ (List.mem_of_getElem? (i := 47) rfl))) (mvT hZ (hw _ (List.mem_of_getElem? (i := 48) rfl))) (mvT hZ (hw _ (List.mem_of_getElem? (i := 49) rfl))) (by decide) (backOf (W := 1) (rmNew6 l Z a0 hw [] b24 b9 zc fm k9 ((own_pa p1)) ((own_pb p1)) ((own_pa p2)) ((own_pb p2)) ((own_pa p3)) ((own_pb p3)) h24 n0 f26 hSt f27 A24 F24_value F24_coder ge24 f25 (own_allc (own_par p1) (own_allc (own_pbr p1) (own_allc (own_par p2) (own_allc (own_pbr p2) (own_allc (own_par p3) (own_allc (own_pbr p3) (fun _ q => nomatch q)))))))) hZ (hw _ (List.mem_of_getElem? (i := 49) rfl)) (hw _ (List.mem_of_getElem? (i := 1) rfl)) (by decide) (by decide)) (g := (mkF m 100 #[.val (.int p0), .val (.int p1), .val (.int p2), .val (.int p3), .val (.ref b9), .val (.int (own_exp p1)), .val (.int (own_exp p2)), .val (.int (own_exp p3)), .val (.int (own_exp p3))] [(.ref b9), (.ref b24), (.ref b24)])) rfl (by rw [hml]; rfl) (Steps.refl _) (a := b24) (argsL := [(.ref b9)]) (rest := [(.ref b24)]) (lenOf pd___C_V rfl) rfl (by show 2 * 0 + _ ≤ _; exact Nat.le_of_eq rfl) (hb hby at_100) (fun _ _ => ⟨rfl, e24, (by decide : 2 + 2 ≤ _), (by decide : 10 + 18 ≤ _)⟩)
        dsimp only [Pt.U, Pt.locs, Pt.cells, Pt.slots] at X28 l28 y28 z28 st28 hQ28
        subst l28 y28 z28
        obtain ⟨rfl, Nq28, K28, hS6⟩ := hQ28
        have N28 := Fr.app N19 Nq28
        have f29 := (Nat.le_trans f26 K28.1)
        have f30 := (f27.keep K28 (allS ge24 all0))
        obtain ⟨_, _, ⟨T31, L31, k31, n31⟩, -, X31, ⟨Lc31, hQ31, l31, y31, z31⟩, st31⟩ := Jvm.LawKit.callS X28 hx (y := (⟨"com/example/abeyance/abeyance/model/Utf8Reader", "malformedByte", "(Ljava/lang/CharSequence;)I"⟩ : MethodName)) hown (mvT hZ (hw _ (List.mem_of_getElem? (i := 8) rfl))) (mvT hZ (hw _ (List.mem_of_getElem? (i := 9) rfl))) (mvT hZ (hw _ (List.mem_of_getElem? (i := 10) rfl))) (mvT hZ (hw _ (List.mem_of_getElem? (i := 11) rfl))) (by decide) (backOf (W := 0) (rmMalByte l Z a0 hw [] b24 zc fm [own_pa p1, own_pb p1, own_pa p2, own_pb p2, own_pa p3, own_pb p3] (own_exp p3) T28.heap n0 f29 hSt f30 hS6 (Nat.le_of_ble_eq_true rfl) (own_three p1 p2 p3).2 (by rw [(own_three p1 p2 p3).1, if_pos hc68_20, if_pos hc80_22])) hZ (hw _ (List.mem_of_getElem? (i := 11) rfl)) (hw _ (List.mem_of_getElem? (i := 10) rfl)) (by decide) (by decide)) (g := (mkF m 103 #[.val (.int p0), .val (.int p1), .val (.int p2), .val (.int p3), .val (.ref b9), .val (.int (own_exp p1)), .val (.int (own_exp p2)), .val (.int (own_exp p3)), .val (.int (own_exp p3))] [(.ref b24)])) rfl (by rw [hml]; rfl) (argsL := [(.ref b24)]) (rest := []) (lenOf pd__Ljava_lang_CharSequence__I rfl) rfl (by show 2 * 0 + _ ≤ _; exact Nat.le_of_eq rfl) (hb hby at_103) (fun _ _ => ⟨rfl, rfl, (by decide : 4 + 0 ≤ _), (by decide : 28 + 0 ≤ _)⟩)
        dsimp only [Pt.U, Pt.locs, Pt.cells, Pt.slots] at X31 l31 y31 z31 st31 hQ31
        subst l31 y31 z31
        obtain ⟨rfl, Nq31, e31⟩ := hQ31
        have N31 := Fr.app N28 Nq31
        obtain ⟨fs, hr, hrun, hended, hW, hsame⟩ := X31.leave (v := some (.int (1 : Int32))) (fun h => by rw [Bd.returns] at h; cases h)
        refine ⟨_, _, pre23 _ ?_, hrun, hended, _, _, rfl, ?_, ReturnedEndW.of_narrow ⟨_, rfl⟩ hW (hsame.mono (by decide) (by decide))⟩
        · show Steps p.tables e below (T19.setTop (mkF m 80 #[.val (.int p0), .val (.int p1), .val (.int p2), .val (.int p3), .val (.ref b9), .val (.int (own_exp p1)), .val (.int (own_exp p2)), .val (.int (own_exp p3)), .unset] [(.int (own_exp p2))])) _
          refine XS.ifYes X19.here hx rfl (pc0 := 80) (pc' := 90) rfl (hb hby at_80) rfl ((if0 _ _).trans (tlt hc80_22).1) (by decide) (by decide) ?_
          show Steps p.tables e below (T19.setTop (mkF m 90 #[.val (.int p0), .val (.int p1), .val (.int p2), .val (.int p3), .val (.ref b9), .val (.int (own_exp p1)), .val (.int (own_exp p2)), .val (.int (own_exp p3)), .unset] [])) _
          refine XS.iload X19.here hx rfl (hb hby at_90) rfl  ?_
          show Steps p.tables e below (T19.setTop (mkF m 92 #[.val (.int p0), .val (.int p1), .val (.int p2), .val (.int p3), .val (.ref b9), .val (.int (own_exp p1)), .val (.int (own_exp p2)), .val (.int (own_exp p3)), .unset] [(.int (own_exp p3))])) _
          refine XS.istore X19.here hx rfl (hb hby at_92) rfl (l' := #[.val (.int p0), .val (.int p1), .val (.int p2), .val (.int p3), .val (.ref b9), .val (.int (own_exp p1)), .val (.int (own_exp p2)), .val (.int (own_exp p3)), .val (.int (own_exp p3))]) rfl ?_
          show Steps p.tables e below (T19.setTop (mkF m 94 #[.val (.int p0), .val (.int p1), .val (.int p2), .val (.int p3), .val (.ref b9), .val (.int (own_exp p1)), .val (.int (own_exp p2)), .val (.int (own_exp p3)), .val (.int (own_exp p3))] [])) _
          refine st24 _ ?_
          show Steps p.tables e below (T24.setTop (mkF m 97 #[.val (.int p0), .val (.int p1), .val (.int p2), .val (.int p3), .val (.ref b9), .val (.int (own_exp p1)), .val (.int (own_exp p2)), .val (.int (own_exp p3)), .val (.int (own_exp p3))] [(.ref b24)])) _
          refine XS.dup X24.here hx rfl (hb hby at_97) rfl rfl ?_
          show Steps p.tables e below (T24.setTop (mkF m 98 #[.val (.int p0), .val (.int p1), .val (.int p2), .val (.int p3), .val (.ref b9), .val (.int (own_exp p1)), .val (.int (own_exp p2)), .val (.int (own_exp p3)), .val (.int (own_exp p3))] [(.ref b24), (.ref b24)])) _
          refine XS.aload X24.here hx rfl (hb hby at_98) rfl rfl ?_
          show Steps p.tables e below (T24.setTop (mkF m 100 #[.val (.int p0), .val (.int p1), .val (.int p2), .val (.int p3), .val (.ref b9), .val (.int (own_exp p1)), .val (.int (own_exp p2)), .val (.int (own_exp p3)), .val (.int (own_exp p3))] [(.ref b9), (.ref b24), (.ref b24)])) _
          refine st28.trans ?_
          show Steps p.tables e below (T28.setTop (mkF m 103 #[.val (.int p0), .val (.int p1), .val (.int p2), .val (.int p3), .val (.ref b9), .val (.int (own_exp p1)), .val (.int (own_exp p2)), .val (.int (own_exp p3)), .val (.int (own_exp p3))] [(.ref b24)])) _
          refine st31 _ ?_
          show Steps p.tables e below (T31.setTop (mkF m 106 #[.val (.int p0), .val (.int p1), .val (.int p2), .val (.int p3), .val (.ref b9), .val (.int (own_exp p1)), .val (.int (own_exp p2)), .val (.int (own_exp p3)), .val (.int (own_exp p3))] [(.int (own_exp p3))])) _
          refine XS.iload X31.here hx rfl (hb hby at_106) rfl  ?_
          show Steps p.tables e below (T31.setTop (mkF m 108 #[.val (.int p0), .val (.int p1), .val (.int p2), .val (.int p3), .val (.ref b9), .val (.int (own_exp p1)), .val (.int (own_exp p2)), .val (.int (own_exp p3)), .val (.int (own_exp p3))] [(.int (own_exp p3)), (.int (own_exp p3))])) _
          refine XS.icmpNo X31.here hx rfl (hb hby at_108) rfl (teq (rfl : (own_exp p3) = (own_exp p3))).2 ?_
          show Steps p.tables e below (T31.setTop (mkF m 111 #[.val (.int p0), .val (.int p1), .val (.int p2), .val (.int p3), .val (.ref b9), .val (.int (own_exp p1)), .val (.int (own_exp p2)), .val (.int (own_exp p3)), .val (.int (own_exp p3))] [])) _
          refine XS.iconst X31.here hx rfl (hb hby at_111) ?_
          show Steps p.tables e below (T31.setTop (mkF m 112 #[.val (.int p0), .val (.int p1), .val (.int p2), .val (.int p3), .val (.ref b9), .val (.int (own_exp p1)), .val (.int (own_exp p2)), .val (.int (own_exp p3)), .val (.int (own_exp p3))] [(.int (1 : Int32))])) _
          refine XS.goto X31.here hx rfl (pc0 := 112) (pc' := 116) rfl (hb hby at_112) (by decide) (by decide) ?_
          show Steps p.tables e below (T31.setTop (mkF m 116 #[.val (.int p0), .val (.int p1), .val (.int p2), .val (.int p3), .val (.ref b9), .val (.int (own_exp p1)), .val (.int (own_exp p2)), .val (.int (own_exp p3)), .val (.int (own_exp p3))] [(.int (1 : Int32))])) _
          exact retN X31 hx (t := .boolean) Bd.returns (by simp) (hb hby at_116) hr
        · show Q_rm0 Z p0 p1 p2 p3 zc fm h0 n0 _ T31.heap _
          rw [e31]
          exact ⟨rfl, N31⟩
      · obtain ⟨T32, h32, X32, e32, E32, A32, D32, -, st32⟩ := newO X19 hx hZ hown (hw _ (List.mem_of_getElem? (i := 46) rfl)) (hw _ (List.mem_of_getElem? (i := 2) rfl)) (hw _ (List.mem_of_getElem? (i := 1) rfl)) e19 (g := (mkF m 94 #[.val (.int p0), .val (.int p1), .val (.int p2), .val (.int p3), .val (.ref b9), .val (.int (own_exp p1)), .val (.int (own_exp p2)), .val (.int (own_exp p3)), .val (.int (own_exp p2))] [])) rfl (hb hby at_94) (by decide) (by decide)
        obtain ⟨b32, g32⟩ : ∃ z, z = T15.heap.size := ⟨_, rfl⟩
        rw [← g32] at A32 D32 st32
        have ne32_b9 : b9 ≠ b32 := Nat.ne_of_lt (Nat.lt_of_lt_of_le Vp15.lt (Nat.le_of_eq g32.symm))
        have ge32 : n0 ≤ b32 := Nat.le_trans f16 (Nat.le_of_eq g32.symm)
        have F32_value : Fld Z h32 b32 "java/lang/String" "value" "[B" .null := D32 (Or.inr (hw _ (List.mem_of_getElem? (i := 4) rfl))) (ty := (.array .byte)) (by decide)
        have F32_coder : Fld Z h32 b32 "java/lang/String" "coder" "B" (.int (0 : Int32)) := D32 (Or.inr (hw _ (List.mem_of_getElem? (i := 5) rfl))) (ty := .byte) (by decide)
        have f33 := (Vp15.ext E32)
        have f34 := (Nat.le_trans f16 E32.1)
        have f35 := (((((Ol.ext E9).keep K11 (allS ge9 all0)).keep K13 (allS ge9 all0)).keep K15 (allS ge9 all0)).ext E32)
        obtain ⟨_, _, ⟨T36, L36, k36, n36⟩, -, X36, ⟨Lc36, hQ36, l36, y36, z36⟩, st36⟩ := X32.specialBack hx (y := (⟨"java/lang/String", "<init>", "([C)V"⟩ : MethodName)) rfl hown (mvT hZ (hw _ (List.mem_of_getElem? (i := 47) rfl))) (mvT hZ (hw _ (List.mem_of_getElem? (i := 48) rfl))) (mvT hZ (hw _ (List.mem_of_getElem? (i := 49) rfl))) (by decide) (backOf (W := 1) (rmNew6 l Z a0 hw [] b32 b9 zc fm k9 ((own_pa p1)) ((own_pb p1)) ((own_pa p2)) ((own_pb p2)) ((own_pa p3)) ((own_pb p3)) h32 n0 f34 hSt f35 A32 F32_value F32_coder ge32 f33 (own_allc (own_par p1) (own_allc (own_pbr p1) (own_allc (own_par p2) (own_allc (own_pbr p2) (own_allc (own_par p3) (own_allc (own_pbr p3) (fun _ q => nomatch q)))))))) hZ (hw _ (List.mem_of_getElem? (i := 49) rfl)) (hw _ (List.mem_of_getElem? (i := 1) rfl)) (by decide) (by decide)) (g := (mkF m 100 #[.val (.int p0), .val (.int p1), .val (.int p2), .val (.int p3), .val (.ref b9), .val (.int (own_exp p1)), .val (.int (own_exp p2)), .val (.int (own_exp p3)), .val (.int (own_exp p2))] [(.ref b9), (.ref b32), (.ref b32)])) rfl (by rw [hml]; rfl) (Steps.refl _) (a := b32) (argsL := [(.ref b9)]) (rest := [(.ref b32)]) (lenOf pd___C_V rfl) rfl (by show 2 * 0 + _ ≤ _; exact Nat.le_of_eq rfl) (hb hby at_100) (fun _ _ => ⟨rfl, e32, (by decide : 2 + 2 ≤ _), (by decide : 10 + 18 ≤ _)⟩)
        dsimp only [Pt.U, Pt.locs, Pt.cells, Pt.slots] at X36 l36 y36 z36 st36 hQ36
        subst l36 y36 z36
        obtain ⟨rfl, Nq36, K36, hS6⟩ := hQ36
        have N36 := Fr.app N19 Nq36
        have f37 := (Nat.le_trans f34 K36.1)
        have f38 := (f35.keep K36 (allS ge32 all0))
        obtain ⟨_, _, ⟨T39, L39, k39, n39⟩, -, X39, ⟨Lc39, hQ39, l39, y39, z39⟩, st39⟩ := Jvm.LawKit.callS X36 hx (y := (⟨"com/example/abeyance/abeyance/model/Utf8Reader", "malformedByte", "(Ljava/lang/CharSequence;)I"⟩ : MethodName)) hown (mvT hZ (hw _ (List.mem_of_getElem? (i := 8) rfl))) (mvT hZ (hw _ (List.mem_of_getElem? (i := 9) rfl))) (mvT hZ (hw _ (List.mem_of_getElem? (i := 10) rfl))) (mvT hZ (hw _ (List.mem_of_getElem? (i := 11) rfl))) (by decide) (backOf (W := 0) (rmMalByte l Z a0 hw [] b32 zc fm [own_pa p1, own_pb p1, own_pa p2, own_pb p2, own_pa p3, own_pb p3] (own_exp p2) T36.heap n0 f37 hSt f38 hS6 (Nat.le_of_ble_eq_true rfl) (own_three p1 p2 p3).2 (by rw [(own_three p1 p2 p3).1, if_pos hc68_20, if_neg hc80_22])) hZ (hw _ (List.mem_of_getElem? (i := 11) rfl)) (hw _ (List.mem_of_getElem? (i := 10) rfl)) (by decide) (by decide)) (g := (mkF m 103 #[.val (.int p0), .val (.int p1), .val (.int p2), .val (.int p3), .val (.ref b9), .val (.int (own_exp p1)), .val (.int (own_exp p2)), .val (.int (own_exp p3)), .val (.int (own_exp p2))] [(.ref b32)])) rfl (by rw [hml]; rfl) (argsL := [(.ref b32)]) (rest := []) (lenOf pd__Ljava_lang_CharSequence__I rfl) rfl (by show 2 * 0 + _ ≤ _; exact Nat.le_of_eq rfl) (hb hby at_103) (fun _ _ => ⟨rfl, rfl, (by decide : 4 + 0 ≤ _), (by decide : 28 + 0 ≤ _)⟩)
        dsimp only [Pt.U, Pt.locs, Pt.cells, Pt.slots] at X39 l39 y39 z39 st39 hQ39
        subst l39 y39 z39
        obtain ⟨rfl, Nq39, e39⟩ := hQ39
        have N39 := Fr.app N36 Nq39
        obtain ⟨fs, hr, hrun, hended, hW, hsame⟩ := X39.leave (v := some (.int (1 : Int32))) (fun h => by rw [Bd.returns] at h; cases h)
        refine ⟨_, _, pre23 _ ?_, hrun, hended, _, _, rfl, ?_, ReturnedEndW.of_narrow ⟨_, rfl⟩ hW (hsame.mono (by decide) (by decide))⟩
        · show Steps p.tables e below (T19.setTop (mkF m 80 #[.val (.int p0), .val (.int p1), .val (.int p2), .val (.int p3), .val (.ref b9), .val (.int (own_exp p1)), .val (.int (own_exp p2)), .val (.int (own_exp p3)), .unset] [(.int (own_exp p2))])) _
          refine XS.ifNo X19.here hx rfl (hb hby at_80) rfl ((if0 _ _).trans (flt hc80_22).1) ?_
          show Steps p.tables e below (T19.setTop (mkF m 83 #[.val (.int p0), .val (.int p1), .val (.int p2), .val (.int p3), .val (.ref b9), .val (.int (own_exp p1)), .val (.int (own_exp p2)), .val (.int (own_exp p3)), .unset] [])) _
          refine XS.iload X19.here hx rfl (hb hby at_83) rfl  ?_
          show Steps p.tables e below (T19.setTop (mkF m 85 #[.val (.int p0), .val (.int p1), .val (.int p2), .val (.int p3), .val (.ref b9), .val (.int (own_exp p1)), .val (.int (own_exp p2)), .val (.int (own_exp p3)), .unset] [(.int (own_exp p2))])) _
          refine XS.istore X19.here hx rfl (hb hby at_85) rfl (l' := #[.val (.int p0), .val (.int p1), .val (.int p2), .val (.int p3), .val (.ref b9), .val (.int (own_exp p1)), .val (.int (own_exp p2)), .val (.int (own_exp p3)), .val (.int (own_exp p2))]) rfl ?_
          show Steps p.tables e below (T19.setTop (mkF m 87 #[.val (.int p0), .val (.int p1), .val (.int p2), .val (.int p3), .val (.ref b9), .val (.int (own_exp p1)), .val (.int (own_exp p2)), .val (.int (own_exp p3)), .val (.int (own_exp p2))] [])) _
          refine XS.goto X19.here hx rfl (pc0 := 87) (pc' := 94) rfl (hb hby at_87) (by decide) (by decide) ?_
          show Steps p.tables e below (T19.setTop (mkF m 94 #[.val (.int p0), .val (.int p1), .val (.int p2), .val (.int p3), .val (.ref b9), .val (.int (own_exp p1)), .val (.int (own_exp p2)), .val (.int (own_exp p3)), .val (.int (own_exp p2))] [])) _
          refine st32 _ ?_
          show Steps p.tables e below (T32.setTop (mkF m 97 #[.val (.int p0), .val (.int p1), .val (.int p2), .val (.int p3), .val (.ref b9), .val (.int (own_exp p1)), .val (.int (own_exp p2)), .val (.int (own_exp p3)), .val (.int (own_exp p2))] [(.ref b32)])) _
          refine XS.dup X32.here hx rfl (hb hby at_97) rfl rfl ?_
          show Steps p.tables e below (T32.setTop (mkF m 98 #[.val (.int p0), .val (.int p1), .val (.int p2), .val (.int p3), .val (.ref b9), .val (.int (own_exp p1)), .val (.int (own_exp p2)), .val (.int (own_exp p3)), .val (.int (own_exp p2))] [(.ref b32), (.ref b32)])) _
          refine XS.aload X32.here hx rfl (hb hby at_98) rfl rfl ?_
          show Steps p.tables e below (T32.setTop (mkF m 100 #[.val (.int p0), .val (.int p1), .val (.int p2), .val (.int p3), .val (.ref b9), .val (.int (own_exp p1)), .val (.int (own_exp p2)), .val (.int (own_exp p3)), .val (.int (own_exp p2))] [(.ref b9), (.ref b32), (.ref b32)])) _
          refine st36.trans ?_
          show Steps p.tables e below (T36.setTop (mkF m 103 #[.val (.int p0), .val (.int p1), .val (.int p2), .val (.int p3), .val (.ref b9), .val (.int (own_exp p1)), .val (.int (own_exp p2)), .val (.int (own_exp p3)), .val (.int (own_exp p2))] [(.ref b32)])) _
          refine st39 _ ?_
          show Steps p.tables e below (T39.setTop (mkF m 106 #[.val (.int p0), .val (.int p1), .val (.int p2), .val (.int p3), .val (.ref b9), .val (.int (own_exp p1)), .val (.int (own_exp p2)), .val (.int (own_exp p3)), .val (.int (own_exp p2))] [(.int (own_exp p2))])) _
          refine XS.iload X39.here hx rfl (hb hby at_106) rfl  ?_
          show Steps p.tables e below (T39.setTop (mkF m 108 #[.val (.int p0), .val (.int p1), .val (.int p2), .val (.int p3), .val (.ref b9), .val (.int (own_exp p1)), .val (.int (own_exp p2)), .val (.int (own_exp p3)), .val (.int (own_exp p2))] [(.int (own_exp p2)), (.int (own_exp p2))])) _
          refine XS.icmpNo X39.here hx rfl (hb hby at_108) rfl (teq (rfl : (own_exp p2) = (own_exp p2))).2 ?_
          show Steps p.tables e below (T39.setTop (mkF m 111 #[.val (.int p0), .val (.int p1), .val (.int p2), .val (.int p3), .val (.ref b9), .val (.int (own_exp p1)), .val (.int (own_exp p2)), .val (.int (own_exp p3)), .val (.int (own_exp p2))] [])) _
          refine XS.iconst X39.here hx rfl (hb hby at_111) ?_
          show Steps p.tables e below (T39.setTop (mkF m 112 #[.val (.int p0), .val (.int p1), .val (.int p2), .val (.int p3), .val (.ref b9), .val (.int (own_exp p1)), .val (.int (own_exp p2)), .val (.int (own_exp p3)), .val (.int (own_exp p2))] [(.int (1 : Int32))])) _
          refine XS.goto X39.here hx rfl (pc0 := 112) (pc' := 116) rfl (hb hby at_112) (by decide) (by decide) ?_
          show Steps p.tables e below (T39.setTop (mkF m 116 #[.val (.int p0), .val (.int p1), .val (.int p2), .val (.int p3), .val (.ref b9), .val (.int (own_exp p1)), .val (.int (own_exp p2)), .val (.int (own_exp p3)), .val (.int (own_exp p2))] [(.int (1 : Int32))])) _
          exact retN X39 hx (t := .boolean) Bd.returns (by simp) (hb hby at_116) hr
        · show Q_rm0 Z p0 p1 p2 p3 zc fm h0 n0 _ T39.heap _
          rw [e39]
          exact ⟨rfl, N39⟩
    · obtain ⟨T40, h40, X40, e40, E40, A40, D40, -, st40⟩ := newO X19 hx hZ hown (hw _ (List.mem_of_getElem? (i := 46) rfl)) (hw _ (List.mem_of_getElem? (i := 2) rfl)) (hw _ (List.mem_of_getElem? (i := 1) rfl)) e19 (g := (mkF m 94 #[.val (.int p0), .val (.int p1), .val (.int p2), .val (.int p3), .val (.ref b9), .val (.int (own_exp p1)), .val (.int (own_exp p2)), .val (.int (own_exp p3)), .val (.int (own_exp p1))] [])) rfl (hb hby at_94) (by decide) (by decide)
      obtain ⟨b40, g40⟩ : ∃ z, z = T15.heap.size := ⟨_, rfl⟩
      rw [← g40] at A40 D40 st40
      have ne40_b9 : b9 ≠ b40 := Nat.ne_of_lt (Nat.lt_of_lt_of_le Vp15.lt (Nat.le_of_eq g40.symm))
      have ge40 : n0 ≤ b40 := Nat.le_trans f16 (Nat.le_of_eq g40.symm)
      have F40_value : Fld Z h40 b40 "java/lang/String" "value" "[B" .null := D40 (Or.inr (hw _ (List.mem_of_getElem? (i := 4) rfl))) (ty := (.array .byte)) (by decide)
      have F40_coder : Fld Z h40 b40 "java/lang/String" "coder" "B" (.int (0 : Int32)) := D40 (Or.inr (hw _ (List.mem_of_getElem? (i := 5) rfl))) (ty := .byte) (by decide)
      have f41 := (Vp15.ext E40)
      have f42 := (Nat.le_trans f16 E40.1)
      have f43 := (((((Ol.ext E9).keep K11 (allS ge9 all0)).keep K13 (allS ge9 all0)).keep K15 (allS ge9 all0)).ext E40)
      obtain ⟨_, _, ⟨T44, L44, k44, n44⟩, -, X44, ⟨Lc44, hQ44, l44, y44, z44⟩, st44⟩ := X40.specialBack hx (y := (⟨"java/lang/String", "<init>", "([C)V"⟩ : MethodName)) rfl hown (mvT hZ (hw _ (List.mem_of_getElem? (i := 47) rfl))) (mvT hZ (hw _ (List.mem_of_getElem? (i := 48) rfl))) (mvT hZ (hw _ (List.mem_of_getElem? (i := 49) rfl))) (by decide) (backOf (W := 1) (rmNew6 l Z a0 hw [] b40 b9 zc fm k9 ((own_pa p1)) ((own_pb p1)) ((own_pa p2)) ((own_pb p2)) ((own_pa p3)) ((own_pb p3)) h40 n0 f42 hSt f43 A40 F40_value F40_coder ge40 f41 (own_allc (own_par p1) (own_allc (own_pbr p1) (own_allc (own_par p2) (own_allc (own_pbr p2) (own_allc (own_par p3) (own_allc (own_pbr p3) (fun _ q => nomatch q)))))))) hZ (hw _ (List.mem_of_getElem? (i := 49) rfl)) (hw _ (List.mem_of_getElem? (i := 1) rfl)) (by decide) (by decide)) (g := (mkF m 100 #[.val (.int p0), .val (.int p1), .val (.int p2), .val (.int p3), .val (.ref b9), .val (.int (own_exp p1)), .val (.int (own_exp p2)), .val (.int (own_exp p3)), .val (.int (own_exp p1))] [(.ref b9), (.ref b40), (.ref b40)])) rfl (by rw [hml]; rfl) (Steps.refl _) (a := b40) (argsL := [(.ref b9)]) (rest := [(.ref b40)]) (lenOf pd___C_V rfl) rfl (by show 2 * 0 + _ ≤ _; exact Nat.le_of_eq rfl) (hb hby at_100) (fun _ _ => ⟨rfl, e40, (by decide : 2 + 2 ≤ _), (by decide : 10 + 18 ≤ _)⟩)
      dsimp only [Pt.U, Pt.locs, Pt.cells, Pt.slots] at X44 l44 y44 z44 st44 hQ44
      subst l44 y44 z44
      obtain ⟨rfl, Nq44, K44, hS6⟩ := hQ44
      have N44 := Fr.app N19 Nq44
      have f45 := (Nat.le_trans f42 K44.1)
      have f46 := (f43.keep K44 (allS ge40 all0))
      obtain ⟨_, _, ⟨T47, L47, k47, n47⟩, -, X47, ⟨Lc47, hQ47, l47, y47, z47⟩, st47⟩ := Jvm.LawKit.callS X44 hx (y := (⟨"com/example/abeyance/abeyance/model/Utf8Reader", "malformedByte", "(Ljava/lang/CharSequence;)I"⟩ : MethodName)) hown (mvT hZ (hw _ (List.mem_of_getElem? (i := 8) rfl))) (mvT hZ (hw _ (List.mem_of_getElem? (i := 9) rfl))) (mvT hZ (hw _ (List.mem_of_getElem? (i := 10) rfl))) (mvT hZ (hw _ (List.mem_of_getElem? (i := 11) rfl))) (by decide) (backOf (W := 0) (rmMalByte l Z a0 hw [] b40 zc fm [own_pa p1, own_pb p1, own_pa p2, own_pb p2, own_pa p3, own_pb p3] (own_exp p1) T44.heap n0 f45 hSt f46 hS6 (Nat.le_of_ble_eq_true rfl) (own_three p1 p2 p3).2 (by rw [(own_three p1 p2 p3).1, if_neg hc68_20])) hZ (hw _ (List.mem_of_getElem? (i := 11) rfl)) (hw _ (List.mem_of_getElem? (i := 10) rfl)) (by decide) (by decide)) (g := (mkF m 103 #[.val (.int p0), .val (.int p1), .val (.int p2), .val (.int p3), .val (.ref b9), .val (.int (own_exp p1)), .val (.int (own_exp p2)), .val (.int (own_exp p3)), .val (.int (own_exp p1))] [(.ref b40)])) rfl (by rw [hml]; rfl) (argsL := [(.ref b40)]) (rest := []) (lenOf pd__Ljava_lang_CharSequence__I rfl) rfl (by show 2 * 0 + _ ≤ _; exact Nat.le_of_eq rfl) (hb hby at_103) (fun _ _ => ⟨rfl, rfl, (by decide : 4 + 0 ≤ _), (by decide : 28 + 0 ≤ _)⟩)
      dsimp only [Pt.U, Pt.locs, Pt.cells, Pt.slots] at X47 l47 y47 z47 st47 hQ47
      subst l47 y47 z47
      obtain ⟨rfl, Nq47, e47⟩ := hQ47
      have N47 := Fr.app N44 Nq47
      obtain ⟨fs, hr, hrun, hended, hW, hsame⟩ := X47.leave (v := some (.int (1 : Int32))) (fun h => by rw [Bd.returns] at h; cases h)
      refine ⟨_, _, pre21 _ ?_, hrun, hended, _, _, rfl, ?_, ReturnedEndW.of_narrow ⟨_, rfl⟩ hW (hsame.mono (by decide) (by decide))⟩
      · show Steps p.tables e below (T19.setTop (mkF m 68 #[.val (.int p0), .val (.int p1), .val (.int p2), .val (.int p3), .val (.ref b9), .val (.int (own_exp p1)), .val (.int (own_exp p2)), .val (.int (own_exp p3)), .unset] [(.int (own_exp p1))])) _
        refine XS.ifNo X19.here hx rfl (hb hby at_68) rfl ((if0 _ _).trans (flt hc68_20).1) ?_
        show Steps p.tables e below (T19.setTop (mkF m 71 #[.val (.int p0), .val (.int p1), .val (.int p2), .val (.int p3), .val (.ref b9), .val (.int (own_exp p1)), .val (.int (own_exp p2)), .val (.int (own_exp p3)), .unset] [])) _
        refine XS.iload X19.here hx rfl (hb hby at_71) rfl  ?_
        show Steps p.tables e below (T19.setTop (mkF m 73 #[.val (.int p0), .val (.int p1), .val (.int p2), .val (.int p3), .val (.ref b9), .val (.int (own_exp p1)), .val (.int (own_exp p2)), .val (.int (own_exp p3)), .unset] [(.int (own_exp p1))])) _
        refine XS.istore X19.here hx rfl (hb hby at_73) rfl (l' := #[.val (.int p0), .val (.int p1), .val (.int p2), .val (.int p3), .val (.ref b9), .val (.int (own_exp p1)), .val (.int (own_exp p2)), .val (.int (own_exp p3)), .val (.int (own_exp p1))]) rfl ?_
        show Steps p.tables e below (T19.setTop (mkF m 75 #[.val (.int p0), .val (.int p1), .val (.int p2), .val (.int p3), .val (.ref b9), .val (.int (own_exp p1)), .val (.int (own_exp p2)), .val (.int (own_exp p3)), .val (.int (own_exp p1))] [])) _
        refine XS.goto X19.here hx rfl (pc0 := 75) (pc' := 94) rfl (hb hby at_75) (by decide) (by decide) ?_
        show Steps p.tables e below (T19.setTop (mkF m 94 #[.val (.int p0), .val (.int p1), .val (.int p2), .val (.int p3), .val (.ref b9), .val (.int (own_exp p1)), .val (.int (own_exp p2)), .val (.int (own_exp p3)), .val (.int (own_exp p1))] [])) _
        refine st40 _ ?_
        show Steps p.tables e below (T40.setTop (mkF m 97 #[.val (.int p0), .val (.int p1), .val (.int p2), .val (.int p3), .val (.ref b9), .val (.int (own_exp p1)), .val (.int (own_exp p2)), .val (.int (own_exp p3)), .val (.int (own_exp p1))] [(.ref b40)])) _
        refine XS.dup X40.here hx rfl (hb hby at_97) rfl rfl ?_
        show Steps p.tables e below (T40.setTop (mkF m 98 #[.val (.int p0), .val (.int p1), .val (.int p2), .val (.int p3), .val (.ref b9), .val (.int (own_exp p1)), .val (.int (own_exp p2)), .val (.int (own_exp p3)), .val (.int (own_exp p1))] [(.ref b40), (.ref b40)])) _
        refine XS.aload X40.here hx rfl (hb hby at_98) rfl rfl ?_
        show Steps p.tables e below (T40.setTop (mkF m 100 #[.val (.int p0), .val (.int p1), .val (.int p2), .val (.int p3), .val (.ref b9), .val (.int (own_exp p1)), .val (.int (own_exp p2)), .val (.int (own_exp p3)), .val (.int (own_exp p1))] [(.ref b9), (.ref b40), (.ref b40)])) _
        refine st44.trans ?_
        show Steps p.tables e below (T44.setTop (mkF m 103 #[.val (.int p0), .val (.int p1), .val (.int p2), .val (.int p3), .val (.ref b9), .val (.int (own_exp p1)), .val (.int (own_exp p2)), .val (.int (own_exp p3)), .val (.int (own_exp p1))] [(.ref b40)])) _
        refine st47 _ ?_
        show Steps p.tables e below (T47.setTop (mkF m 106 #[.val (.int p0), .val (.int p1), .val (.int p2), .val (.int p3), .val (.ref b9), .val (.int (own_exp p1)), .val (.int (own_exp p2)), .val (.int (own_exp p3)), .val (.int (own_exp p1))] [(.int (own_exp p1))])) _
        refine XS.iload X47.here hx rfl (hb hby at_106) rfl  ?_
        show Steps p.tables e below (T47.setTop (mkF m 108 #[.val (.int p0), .val (.int p1), .val (.int p2), .val (.int p3), .val (.ref b9), .val (.int (own_exp p1)), .val (.int (own_exp p2)), .val (.int (own_exp p3)), .val (.int (own_exp p1))] [(.int (own_exp p1)), (.int (own_exp p1))])) _
        refine XS.icmpNo X47.here hx rfl (hb hby at_108) rfl (teq (rfl : (own_exp p1) = (own_exp p1))).2 ?_
        show Steps p.tables e below (T47.setTop (mkF m 111 #[.val (.int p0), .val (.int p1), .val (.int p2), .val (.int p3), .val (.ref b9), .val (.int (own_exp p1)), .val (.int (own_exp p2)), .val (.int (own_exp p3)), .val (.int (own_exp p1))] [])) _
        refine XS.iconst X47.here hx rfl (hb hby at_111) ?_
        show Steps p.tables e below (T47.setTop (mkF m 112 #[.val (.int p0), .val (.int p1), .val (.int p2), .val (.int p3), .val (.ref b9), .val (.int (own_exp p1)), .val (.int (own_exp p2)), .val (.int (own_exp p3)), .val (.int (own_exp p1))] [(.int (1 : Int32))])) _
        refine XS.goto X47.here hx rfl (pc0 := 112) (pc' := 116) rfl (hb hby at_112) (by decide) (by decide) ?_
        show Steps p.tables e below (T47.setTop (mkF m 116 #[.val (.int p0), .val (.int p1), .val (.int p2), .val (.int p3), .val (.ref b9), .val (.int (own_exp p1)), .val (.int (own_exp p2)), .val (.int (own_exp p3)), .val (.int (own_exp p1))] [(.int (1 : Int32))])) _
        exact retN X47 hx (t := .boolean) Bd.returns (by simp) (hb hby at_116) hr
      · show Q_rm0 Z p0 p1 p2 p3 zc fm h0 n0 _ T47.heap _
        rw [e47]
        exact ⟨rfl, N47⟩
set_option maxRecDepth 65536 in
set_option maxHeartbeats 40000000 in
theorem comes_1 {Post : Tables → Env → Array Value → State → Outcome → State → Prop} (hpost : ∀ tb e args s v u, (limb_1_1.after args s (.returned v) u = true ∧ limb_1_2.after args s (.returned v) u = true ∧ True) → FramedW s (.returned v) u (Jvm.fieldLocs frame_1_writes args s ++ Jvm.arrayLocs frame_1_arrays args s ++ Jvm.staticLocs frame_1_statics s) 24 1152 → Post tb e args s (.returned v) u) :
    ArmFor flags0 classFile x code maxLocals ret World_1 tables_1 room_1 Calls_1 rest_1 Pre_1 Post := by
  intro l hfl _ _ p e ha hc hk s m args below hf hA hF happ hP
  obtain ⟨hcalls, hrest, hpre⟩ := hP
  obtain ⟨-, -, -, hnamed, -, -, -, hat⟩ := (Spec.applies_iff hf).mp happ
  obtain ⟨hg, hn⟩ := and_e (Cond.before_iff.mp (show (Jvm.Cond.and given_1 narrow_1).before args s = true from hpre))
  obtain ⟨gc, gr0⟩ := and_e hg
  obtain ⟨ga0, gr1⟩ := and_e gr0
  obtain ⟨ga1, gr2⟩ := and_e gr1
  obtain ⟨ga2, gr3⟩ := and_e gr2
  obtain ⟨w0, w1, w2, w3, rfl⟩ : ∃ w0 w1 w2 w3 : Value, args = #[w0, w1, w2, w3] := by
    have hs : args.size = 4 := by simpa [Cond.value, given_1] using gc
    obtain ⟨L⟩ := args
    match L, hs with
    | [w0, w1, w2, w3], _ => exact ⟨w0, w1, w2, w3, rfl⟩
  have hw := fun d (hd : d ∈ tables_1) => atoms_spec (ws := Jvm.Cond.code x code maxLocals ret :: tables_1) hat d (List.mem_cons_of_mem _ hd)
  have hfit : Fit s := fun {y c} hc i hi => by
    obtain ⟨ha, rfl⟩ := Array.getElem?_eq_some_iff.mp hc
    have q := List.all_eq_true.mp ((Array.all_eq_true_iff_forall_mem.mp hF) _ (Array.getElem_mem ha)) i (List.mem_range.mpr hi)
    simpa [Array.getElem?_eq_getElem hi] using q
  obtain ⟨i0, ei0⟩ := is_v ga0
  obtain rfl : w0 = (.int i0) := Option.some.inj ei0
  obtain ⟨i1, ei1⟩ := is_v ga1
  obtain rfl : w1 = (.int i1) := Option.some.inj ei1
  obtain ⟨i2, ei2⟩ := is_v ga2
  obtain rfl : w2 = (.int i2) := Option.some.inj ei2
  obtain ⟨i3, ei3⟩ := is_v gr3
  obtain rfl : w3 = (.int i3) := Option.some.inj ei3
  obtain ⟨hsets, hown0⟩ := atoms_of _ (rest_1_c_eq ▸ (show rest_1_c.before _ s = true from hrest))
  obtain ⟨zc, evz⟩ := is_v (Cond.before_iff.mp (hsets _ (List.mem_of_getElem? (i := 1) rfl)))
  have hzc : ¬ zc = (0 : Int32) := fun q => by
    have h3 := not_v (Cond.before_iff.mp (hsets _ (List.mem_of_getElem? (i := 2) rfl)))
    rw [eq_i evz (Term.int_eval (0)) (by rw [q])] at h3; cases h3
  obtain ⟨fm, evf, hfm⟩ := isR_v (Cond.before_iff.mp (hsets _ (List.mem_of_getElem? (i := 8) rfl)))
  have hSt : own_St s zc fm := ⟨Sta.start evz (Or.inl (hsets _ (List.mem_of_getElem? (i := 0) rfl))), hzc, Sta.start evf (Or.inl (hsets _ (List.mem_of_getElem? (i := 7) rfl))), hfm, Sta.start (own_sti (Cond.before_iff.mp (hsets _ (List.mem_of_getElem? (i := 12) rfl)))) (Or.inl (hsets _ (List.mem_of_getElem? (i := 11) rfl))), Sta.start (own_sti (Cond.before_iff.mp (hsets _ (List.mem_of_getElem? (i := 15) rfl)))) (Or.inl (hsets _ (List.mem_of_getElem? (i := 14) rfl))), Sta.start (own_sti (Cond.before_iff.mp (hsets _ (List.mem_of_getElem? (i := 18) rfl)))) (Or.inl (hsets _ (List.mem_of_getElem? (i := 17) rfl)))⟩
  have hcw : Jvm.Lit.compactW.before _ s = true := (hsets _ (List.mem_of_getElem? (i := 2) rfl))
  have hheld : Jvm.Lit.constHeld s "com/example/abeyance/abeyance/model/Utf8ReaderMalformedBytePinLaw" 17 := hcalls.1 ("com/example/abeyance/abeyance/model/Utf8ReaderMalformedBytePinLaw", 17) (List.mem_cons_self ..)
  obtain ⟨n, o, h1, h2, h3, _, L, rfl, ⟨rfl, N⟩, hq⟩ := rm0 l s _ hw tables_1 i0 i1 i2 i3 zc fm s.heap s.heap.size (Nat.le_refl _) hSt (Old.start s) hheld hcw rfl rfl p e ha hc hk s m _ below hf ((Spec.applies_iff_loose hf).mp happ).1 ⟨rfl, State.Warmed39.refl s, rfl, rfl⟩ trivial
  refine ⟨n, _, h1, h2, h3, hpost _ _ _ _ _ _ ⟨Cond.after_iff.mpr rfl, Cond.after_iff.mpr (eq_i res_at (Term.int_eval (1)) rfl), trivial⟩ ⟨hq.1, hq.2.1, hq.2.2.1, (hq.2.2.2.sift fun y hy => Or.inr (N y hy)).mono (by decide) (by decide)⟩⟩
theorem main_1_1 : Claimed_1_1 := comes_1 fun _ _ _ _ _ _ h hF => ⟨h.1, hF⟩
theorem main_1_2 : Claimed_1_2 := comes_1 fun _ _ _ _ _ _ h hF => ⟨h.2.1, hF⟩
end Jvm.Pilot.@@N@@
namespace Jvm.Pilot.@@N@@
open Jvm Jvm.ClassFile Sem Op Lib Jvm.Free Jvm.Stand Jvm.Pilot.@@N@@.Jvm.D
/-! MADE BY PROGRAM (witnessworld.py) out of the Statement's table words and the real class files: 25 classes; the members and pool entries that the words name. The judged class is class 1, her method 4. -/
namespace start1
open Jvm.ClassFile
def u (s : String) : CpInfo := .utf8 (stringToUtf16 s)
/-- a pool by its gaps: so many unusable entries, then the entry; so many at the end -/
def gap : Nat → List CpInfo → List CpInfo
  | 0, r => r
  | n + 1, r => .unusable :: gap n r
def poolList (es : List (Nat × CpInfo)) (last : Nat) : List CpInfo := es.foldr (fun e r => gap e.1 (e.2 :: r)) (gap last [])
def pool (es : List (Nat × CpInfo)) (last : Nat) : Array CpInfo := ⟨poolList es last⟩
def fileOf (pool : Array CpInfo) (this : Nat) (attrs : Array Attribute := #[]) (ms : Array MethodInfo := #[]) (fl : Nat := 33) (sup : Nat := 0) (ifs : Array Nat := #[]) (fds : Array FieldInfo := #[]) : ClassFile where
  minorVersion := 0
  majorVersion := 65
  constantPool := pool
  accessFlags := fl
  thisClass := this
  superClass := sup
  interfaces := ifs
  fields := fds
  methods := ms
  attributes := attrs
def plain (name : String) (sup : Option ClassId) : Class where
  name := name
  kind := .ordinary
  loader := none
  accessFlags := 33
  super := sup
  interfaces := #[]
  cf := none
  fields := #[]
  methods := #[]
  instanceTypes := #[]
  staticTypes := #[]
  resolved := #[]
  callSites := []
  init := .initialized
  statics := none
  mirror := none

def pool0 : Array CpInfo := pool [(5, u "<init>"), (0, u "()V"), (1, .class_ 10), (1, u "java/lang/Object")] 113

def k0c0 : Code := { maxStack := 0, maxLocals := 1, code := object_method_1_code, exceptionTable := #[], attributes := #[] }
def k0m0 : Method := { name := "<init>", desc := "()V", sig := { parameters := [], returnType := none }, accessFlags := 1, code := some k0c0 }
/-- java/lang/Object -/
def k0 : Class := { plain "java/lang/Object" none with
  accessFlags := 33
  interfaces := #[]
  cf := some (fileOf pool0 8 #[] #[{ accessFlags := 1, nameIndex := 5, descriptorIndex := 6, attributes := #[] }] 33 0 #[] #[])
  fields := #[]
  methods := #[k0m0]
  instanceTypes := #[]
  staticTypes := #[]
  resolved := Array.replicate 124 none
  statics := none }

def pool1 : Array CpInfo := pool [(2, .class_ 4), (1, u "java/lang/Object"), (0, u "<init>"), (0, u "()V"), (0, .integer 55296), (0, .integer 57343), (0, .integer 56320), (0, .integer 65535), (0, .methodref 12 13), (0, .class_ 14), (0, .nameAndType 15 16), (0, u "com/example/abeyance/abeyance/model/Utf8ReaderMalformedBytePinLaw"), (0, u "plain"), (0, u "(I)C"), (0, .string 18), (0, u ""), (0, .methodref 20 21), (0, .class_ 22), (0, .nameAndType 23 24), (0, u "com/example/abeyance/abeyance/model/Utf8Reader"), (0, u "malformedByte"), (0, u "(Ljava/lang/CharSequence;)I"), (0, .methodref 12 26), (0, .nameAndType 27 28), (0, u "put"), (0, u "([CII)V"), (0, .methodref 12 30), (0, .nameAndType 31 32), (0, u "expect"), (0, u "(I)I"), (0, .class_ 34), (0, u "java/lang/String"), (0, .methodref 33 36), (0, .nameAndType 5 37), (0, u "([C)V"), (3, u "law"), (0, u "(IIII)Z")] 4

def k1m0 : Method := { name := "<init>", desc := "()V", sig := { parameters := [], returnType := none }, accessFlags := 1, code := none }
def k1c1 : Code := { maxStack := 2, maxLocals := 1, code := method_2_code, exceptionTable := #[], attributes := #[] }
def k1m1 : Method := { name := "plain", desc := "(I)C", sig := { parameters := [.int], returnType := some .char }, accessFlags := 10, code := some k1c1 }
def k1c2 : Code := { maxStack := 5, maxLocals := 6, code := method_3_code, exceptionTable := #[], attributes := #[] }
def k1m2 : Method := { name := "put", desc := "([CII)V", sig := { parameters := [(.array .char), .int, .int], returnType := none }, accessFlags := 10, code := some k1c2 }
def k1c3 : Code := { maxStack := 2, maxLocals := 2, code := method_4_code, exceptionTable := #[], attributes := #[] }
def k1m3 : Method := { name := "expect", desc := "(I)I", sig := { parameters := [.int], returnType := some .int }, accessFlags := 10, code := some k1c3 }
def k1c4 : Code := { maxStack := 3, maxLocals := 9, code := code, exceptionTable := #[], attributes := #[] }
def k1m4 : Method := { name := "law", desc := "(IIII)Z", sig := { parameters := [.int, .int, .int, .int], returnType := some .boolean }, accessFlags := 9, code := some k1c4 }
/-- com/example/abeyance/abeyance/model/Utf8ReaderMalformedBytePinLaw -/
def k1 : Class := { plain "com/example/abeyance/abeyance/model/Utf8ReaderMalformedBytePinLaw" (some 0) with
  accessFlags := 49
  interfaces := #[]
  cf := some (fileOf pool1 12 #[] #[{ accessFlags := 1, nameIndex := 5, descriptorIndex := 6, attributes := #[] }, { accessFlags := 10, nameIndex := 15, descriptorIndex := 16, attributes := #[] }, { accessFlags := 10, nameIndex := 27, descriptorIndex := 28, attributes := #[] }, { accessFlags := 10, nameIndex := 31, descriptorIndex := 32, attributes := #[] }, { accessFlags := 9, nameIndex := 41, descriptorIndex := 42, attributes := #[] }] 49 2 #[] #[])
  fields := #[]
  methods := #[k1m0, k1m1, k1m2, k1m3, k1m4]
  instanceTypes := #[]
  staticTypes := #[]
  resolved := Array.replicate 47 none
  statics := none }

def pool2 : Array CpInfo := pool [(1, .class_ 2), (0, u "java/io/Serializable"), (0, .class_ 4), (0, u "java/lang/Object")] 2

/-- java/io/Serializable -/
def k2 : Class := { plain "java/io/Serializable" (some 0) with
  accessFlags := 1537
  interfaces := #[]
  cf := some (fileOf pool2 1 #[] #[] 1537 3 #[] #[])
  fields := #[]
  methods := #[]
  instanceTypes := #[]
  staticTypes := #[]
  resolved := Array.replicate 7 none
  statics := none }

def pool3 : Array CpInfo := pool [(1, .class_ 2), (0, u "java/lang/Comparable"), (0, .class_ 4), (0, u "java/lang/Object")] 7

/-- java/lang/Comparable -/
def k3 : Class := { plain "java/lang/Comparable" (some 0) with
  accessFlags := 1537
  interfaces := #[]
  cf := some (fileOf pool3 1 #[] #[] 1537 3 #[] #[])
  fields := #[]
  methods := #[]
  instanceTypes := #[]
  staticTypes := #[]
  resolved := Array.replicate 12 none
  statics := none }

def pool4 : Array CpInfo := pool [(2, .class_ 4), (1, u "java/lang/CharSequence"), (0, u "length"), (0, u "()I"), (38, u "charAt"), (0, u "(I)C"), (0, .class_ 48), (0, u "java/lang/CharSequence$1CodePointIterator"), (10, .class_ 60), (0, u "java/lang/CharSequence$1CharIterator"), (5, .class_ 67), (0, u "java/lang/Object")] 63

def k4m0 : Method := { name := "length", desc := "()I", sig := { parameters := [], returnType := some .int }, accessFlags := 1025, code := none }
def k4m1 : Method := { name := "charAt", desc := "(I)C", sig := { parameters := [.int], returnType := some .char }, accessFlags := 1025, code := none }
/-- java/lang/CharSequence -/
def k4 : Class := { plain "java/lang/CharSequence" (some 0) with
  accessFlags := 1537
  interfaces := #[]
  cf := some (fileOf pool4 2 #[.nestMembers #[47, 59]] #[{ accessFlags := 1025, nameIndex := 5, descriptorIndex := 6, attributes := #[] }, { accessFlags := 1025, nameIndex := 45, descriptorIndex := 46, attributes := #[] }] 1537 66 #[] #[])
  fields := #[]
  methods := #[k4m0, k4m1]
  instanceTypes := #[]
  staticTypes := #[]
  resolved := Array.replicate 131 none
  statics := none }

def pool5 : Array CpInfo := pool [(1, .class_ 2), (0, u "java/lang/constant/Constable"), (0, .class_ 4), (0, u "java/lang/Object")] 6

/-- java/lang/constant/Constable -/
def k5 : Class := { plain "java/lang/constant/Constable" (some 0) with
  accessFlags := 1537
  interfaces := #[]
  cf := some (fileOf pool5 1 #[] #[] 1537 3 #[] #[])
  fields := #[]
  methods := #[]
  instanceTypes := #[]
  staticTypes := #[]
  resolved := Array.replicate 11 none
  statics := none }

def pool6 : Array CpInfo := pool [(1, .class_ 2), (0, u "java/lang/constant/ConstantDesc"), (0, .class_ 4), (0, u "java/lang/Object")] 32

/-- java/lang/constant/ConstantDesc -/
def k6 : Class := { plain "java/lang/constant/ConstantDesc" (some 0) with
  accessFlags := 1537
  interfaces := #[]
  cf := some (fileOf pool6 1 #[] #[] 1537 3 #[] #[])
  fields := #[]
  methods := #[]
  instanceTypes := #[]
  staticTypes := #[]
  resolved := Array.replicate 37 none
  statics := none }

def pool7 : Array CpInfo := pool [(1, .methodref 2 3), (0, .class_ 4), (0, .nameAndType 5 6), (0, u "java/lang/Object"), (0, u "<init>"), (0, u "()V"), (2, .fieldref 10 11), (0, .class_ 12), (0, .nameAndType 13 14), (0, u "java/lang/String"), (0, u "value"), (0, u "[B"), (0, .fieldref 10 16), (0, .nameAndType 17 18), (0, u "coder"), (0, u "B"), (2, u "hash"), (0, u "I"), (2, u "hashIsZero"), (0, u "Z"), (0, .methodref 10 28), (0, .nameAndType 5 29), (0, u "([CIILjava/lang/Void;)V"), (8, .fieldref 10 39), (0, .nameAndType 40 26), (0, u "COMPACT_STRINGS"), (1, .class_ 44), (1, u "java/lang/StringUTF16"), (0, u "compress"), (1, .methodref 42 48), (0, .nameAndType 49 50), (0, u "coderFromArrayLen"), (0, u "([BI)B"), (56, .class_ 109), (1, u "java/lang/StringLatin1"), (32, u "()Z"), (34, .methodref 42 178), (0, .nameAndType 45 179), (0, u "([CII)[B"), (154, u "()I"), (0, .methodref 10 336), (0, .nameAndType 17 337), (0, u "()B"), (25, u "([BI)C"), (27, u "(II)V"), (35, u "(I)C"), (64, .methodref 10 493), (0, .nameAndType 494 142), (0, u "isLatin1"), (0, .methodref 107 496), (0, .nameAndType 497 363), (0, u "charAt"), (0, .methodref 42 496), (2, u "checkIndex"), (5, u "length"), (67, .class_ 576), (0, u "java/lang/CharSequence"), (22, u "CASE_INSENSITIVE_ORDER"), (0, u "Ljava/util/Comparator;"), (409, u "([C)V"), (42, .fieldref 1054 1055), (0, .class_ 1056), (0, .nameAndType 1057 1058), (0, u "jdk/internal/util/Preconditions"), (0, u "SIOOBE_FORMATTER"), (0, u "Ljava/util/function/BiFunction;"), (0, .methodref 1054 1060), (0, .nameAndType 501 1061), (0, u "(IILjava/util/function/BiFunction;)I"), (39, u "serialPersistentFields"), (0, u "[Ljava/io/ObjectStreamField;"), (0, .class_ 1104), (0, u "java/lang/String$CaseInsensitiveComparator"), (1, .class_ 1107), (0, u "java/io/Serializable"), (0, .class_ 1109), (0, u "java/lang/Comparable"), (0, .class_ 1111), (0, u "java/lang/constant/Constable"), (0, .class_ 1113), (0, u "java/lang/constant/ConstantDesc"), (2, u "serialVersionUID"), (0, u "J"), (3, u "REPL"), (0, u "C"), (2, u "LATIN1"), (1, u "UTF16")] 323

def k7m0 : Method := { name := "<init>", desc := "()V", sig := { parameters := [], returnType := none }, accessFlags := 1, code := none }
def k7c1 : Code := { maxStack := 5, maxLocals := 2, code := jdk_42_method_3_code, exceptionTable := #[], attributes := #[] }
def k7m1 : Method := { name := "<init>", desc := "([C)V", sig := { parameters := [(.array .char)], returnType := none }, accessFlags := 1, code := some k7c1 }
def k7c2 : Code := { maxStack := 2, maxLocals := 1, code := jdk_42_method_54_code, exceptionTable := #[], attributes := #[] }
def k7m2 : Method := { name := "length", desc := "()I", sig := { parameters := [], returnType := some .int }, accessFlags := 1, code := some k7c2 }
def k7c3 : Code := { maxStack := 2, maxLocals := 2, code := jdk_42_method_56_code, exceptionTable := #[], attributes := #[] }
def k7m3 : Method := { name := "charAt", desc := "(I)C", sig := { parameters := [.int], returnType := some .char }, accessFlags := 1, code := some k7c3 }
def k7c4 : Code := { maxStack := 4, maxLocals := 6, code := jdk_42_method_149_code, exceptionTable := #[], attributes := #[] }
def k7m4 : Method := { name := "<init>", desc := "([CIILjava/lang/Void;)V", sig := { parameters := [(.array .char), .int, .int, (.object "java/lang/Void")], returnType := none }, accessFlags := 2, code := some k7c4 }
def k7c5 : Code := { maxStack := 1, maxLocals := 1, code := jdk_42_method_152_code, exceptionTable := #[], attributes := #[] }
def k7m5 : Method := { name := "coder", desc := "()B", sig := { parameters := [], returnType := some .byte }, accessFlags := 0, code := some k7c5 }
def k7c6 : Code := { maxStack := 1, maxLocals := 1, code := jdk_42_method_154_code, exceptionTable := #[], attributes := #[] }
def k7m6 : Method := { name := "isLatin1", desc := "()Z", sig := { parameters := [], returnType := some .boolean }, accessFlags := 0, code := some k7c6 }
def k7c7 : Code := { maxStack := 3, maxLocals := 2, code := jdk_42_method_155_code, exceptionTable := #[], attributes := #[] }
def k7m7 : Method := { name := "checkIndex", desc := "(II)V", sig := { parameters := [.int, .int], returnType := none }, accessFlags := 8, code := some k7c7 }
/-- java/lang/String -/
def k7 : Class := { plain "java/lang/String" (some 0) with
  accessFlags := 49
  interfaces := #[2, 3, 4, 5, 6]
  cf := some (fileOf pool7 10 #[.nestMembers #[1103]] #[{ accessFlags := 1, nameIndex := 5, descriptorIndex := 6, attributes := #[] }, { accessFlags := 1, nameIndex := 5, descriptorIndex := 1010, attributes := #[] }, { accessFlags := 1, nameIndex := 507, descriptorIndex := 334, attributes := #[] }, { accessFlags := 1, nameIndex := 497, descriptorIndex := 427, attributes := #[] }, { accessFlags := 2, nameIndex := 5, descriptorIndex := 29, attributes := #[] }, { accessFlags := 0, nameIndex := 17, descriptorIndex := 337, attributes := #[] }, { accessFlags := 0, nameIndex := 494, descriptorIndex := 142, attributes := #[] }, { accessFlags := 8, nameIndex := 501, descriptorIndex := 391, attributes := #[] }] 49 2 #[1106, 1108, 575, 1110, 1112] #[{ accessFlags := 18, nameIndex := 13, descriptorIndex := 14, attributes := #[] }, { accessFlags := 18, nameIndex := 17, descriptorIndex := 18, attributes := #[] }, { accessFlags := 2, nameIndex := 21, descriptorIndex := 22, attributes := #[] }, { accessFlags := 2, nameIndex := 25, descriptorIndex := 26, attributes := #[] }, { accessFlags := 26, nameIndex := 1116, descriptorIndex := 1117, attributes := #[] }, { accessFlags := 24, nameIndex := 40, descriptorIndex := 26, attributes := #[] }, { accessFlags := 26, nameIndex := 1101, descriptorIndex := 1102, attributes := #[] }, { accessFlags := 26, nameIndex := 1121, descriptorIndex := 1122, attributes := #[] }, { accessFlags := 25, nameIndex := 599, descriptorIndex := 600, attributes := #[] }, { accessFlags := 24, nameIndex := 1125, descriptorIndex := 18, attributes := #[] }, { accessFlags := 24, nameIndex := 1127, descriptorIndex := 18, attributes := #[] }])
  fields := #[{ name := "value", type := (.array .byte), accessFlags := 18, slot := 0, constantValue := 0 }, { name := "coder", type := .byte, accessFlags := 18, slot := 1, constantValue := 0 }, { name := "hash", type := .int, accessFlags := 2, slot := 2, constantValue := 0 }, { name := "hashIsZero", type := .boolean, accessFlags := 2, slot := 3, constantValue := 0 }, { name := "serialVersionUID", type := .long, accessFlags := 26, slot := 0, constantValue := 0 }, { name := "COMPACT_STRINGS", type := .boolean, accessFlags := 24, slot := 1, constantValue := 0 }, { name := "serialPersistentFields", type := (.array (.object "java/io/ObjectStreamField")), accessFlags := 26, slot := 2, constantValue := 0 }, { name := "REPL", type := .char, accessFlags := 26, slot := 3, constantValue := 0 }, { name := "CASE_INSENSITIVE_ORDER", type := (.object "java/util/Comparator"), accessFlags := 25, slot := 4, constantValue := 0 }, { name := "LATIN1", type := .byte, accessFlags := 24, slot := 5, constantValue := 0 }, { name := "UTF16", type := .byte, accessFlags := 24, slot := 6, constantValue := 0 }]
  methods := #[k7m0, k7m1, k7m2, k7m3, k7m4, k7m5, k7m6, k7m7]
  instanceTypes := #[(.array .byte), .byte, .int, .boolean]
  staticTypes := #[.long, .boolean, (.array (.object "java/io/ObjectStreamField")), .char, (.object "java/util/Comparator"), .byte, .byte]
  resolved := Array.replicate 1451 none
  statics := some 0 }

def pool8 : Array CpInfo := pool [(1, .class_ 2), (0, u "java/lang/Readable"), (0, .class_ 4), (0, u "java/lang/Object")] 7

/-- java/lang/Readable -/
def k8 : Class := { plain "java/lang/Readable" (some 0) with
  accessFlags := 1537
  interfaces := #[]
  cf := some (fileOf pool8 1 #[] #[] 1537 3 #[] #[])
  fields := #[]
  methods := #[]
  instanceTypes := #[]
  staticTypes := #[]
  resolved := Array.replicate 12 none
  statics := none }

def pool9 : Array CpInfo := pool [(1, .class_ 2), (0, u "java/lang/AutoCloseable"), (0, .class_ 4), (0, u "java/lang/Object")] 7

/-- java/lang/AutoCloseable -/
def k9 : Class := { plain "java/lang/AutoCloseable" (some 0) with
  accessFlags := 1537
  interfaces := #[]
  cf := some (fileOf pool9 1 #[] #[] 1537 3 #[] #[])
  fields := #[]
  methods := #[]
  instanceTypes := #[]
  staticTypes := #[]
  resolved := Array.replicate 12 none
  statics := none }

def pool10 : Array CpInfo := pool [(1, .class_ 2), (0, u "java/io/Closeable"), (0, .class_ 4), (0, u "java/lang/Object"), (0, .class_ 6), (0, u "java/lang/AutoCloseable")] 7

/-- java/io/Closeable -/
def k10 : Class := { plain "java/io/Closeable" (some 0) with
  accessFlags := 1537
  interfaces := #[9]
  cf := some (fileOf pool10 1 #[] #[] 1537 3 #[5] #[])
  fields := #[]
  methods := #[]
  instanceTypes := #[]
  staticTypes := #[]
  resolved := Array.replicate 14 none
  statics := none }

def pool11 : Array CpInfo := pool [(1, .class_ 2), (0, u "java/io/Reader$1"), (2, u "<init>"), (0, u "()V"), (1, .class_ 9), (0, u "java/lang/Object"), (1, .class_ 13), (1, u "java/io/Reader"), (0, u "skipBuffer"), (0, u "[C"), (2, u "lock"), (0, u "Ljava/lang/Object;"), (117, .class_ 138), (0, u "java/lang/Readable"), (0, .class_ 140), (0, u "java/io/Closeable"), (0, u "TRANSFER_BUFFER_SIZE"), (0, u "I"), (2, u "maxSkipBufferSize")] 59

def k11m0 : Method := { name := "<init>", desc := "()V", sig := { parameters := [], returnType := none }, accessFlags := 4, code := none }
/-- java/io/Reader -/
def k11 : Class := { plain "java/io/Reader" (some 0) with
  accessFlags := 1057
  interfaces := #[8, 10]
  cf := some (fileOf pool11 11 #[.nestMembers #[1]] #[{ accessFlags := 4, nameIndex := 5, descriptorIndex := 6, attributes := #[] }] 1057 8 #[137, 139] #[{ accessFlags := 26, nameIndex := 141, descriptorIndex := 142, attributes := #[] }, { accessFlags := 4, nameIndex := 18, descriptorIndex := 19, attributes := #[] }, { accessFlags := 26, nameIndex := 145, descriptorIndex := 142, attributes := #[] }, { accessFlags := 2, nameIndex := 14, descriptorIndex := 15, attributes := #[] }])
  fields := #[{ name := "TRANSFER_BUFFER_SIZE", type := .int, accessFlags := 26, slot := 0, constantValue := 0 }, { name := "lock", type := (.object "java/lang/Object"), accessFlags := 4, slot := 0, constantValue := 0 }, { name := "maxSkipBufferSize", type := .int, accessFlags := 26, slot := 1, constantValue := 0 }, { name := "skipBuffer", type := (.array .char), accessFlags := 2, slot := 1, constantValue := 0 }]
  methods := #[k11m0]
  instanceTypes := #[(.object "java/lang/Object"), (.array .char)]
  staticTypes := #[.int, .int]
  resolved := Array.replicate 205 none
  statics := none }

def pool12 : Array CpInfo := pool [(2, .class_ 4), (1, u "java/io/Reader"), (15, .class_ 22), (1, u "com/example/abeyance/abeyance/model/Utf8Reader"), (0, u "decoder"), (0, u "Ljava/nio/charset/CharsetDecoder;"), (8, u "bytes"), (0, u "Ljava/nio/ByteBuffer;"), (2, u "in"), (0, u "Ljava/io/InputStream;"), (2, u "BYTE_ORDER_MARK"), (0, u "[B"), (20, .methodref 20 64), (0, .nameAndType 65 66), (0, u "malformedAt"), (0, u "(Ljava/lang/CharSequence;)I"), (0, .methodref 20 68), (0, .nameAndType 69 70), (0, u "byteAt"), (0, u "(Ljava/lang/CharSequence;I)I"), (0, .interfaceMethodref 72 73), (0, .class_ 74), (0, .nameAndType 75 76), (0, u "java/lang/CharSequence"), (0, u "length"), (0, u "()I"), (0, .interfaceMethodref 72 78), (0, .nameAndType 79 80), (0, u "charAt"), (0, u "(I)C"), (0, .methodref 82 83), (0, .class_ 84), (0, .nameAndType 85 86), (0, u "java/lang/Character"), (0, u "isHighSurrogate"), (0, u "(C)Z"), (0, .methodref 82 88), (0, .nameAndType 89 86), (0, u "isLowSurrogate"), (0, .integer 56320), (8, u "endOfInput"), (0, u "Z"), (57, u "BYTE_ESCAPE"), (0, u "C"), (9, u "malformedByte")] 4

def k12c0 : Code := { maxStack := 2, maxLocals := 2, code := prog_13_method_2_code, exceptionTable := #[], attributes := #[] }
def k12m0 : Method := { name := "malformedByte", desc := "(Ljava/lang/CharSequence;)I", sig := { parameters := [(.object "java/lang/CharSequence")], returnType := some .int }, accessFlags := 8, code := some k12c0 }
def k12c1 : Code := { maxStack := 2, maxLocals := 3, code := prog_13_method_3_code, exceptionTable := #[], attributes := #[] }
def k12m1 : Method := { name := "malformedAt", desc := "(Ljava/lang/CharSequence;)I", sig := { parameters := [(.object "java/lang/CharSequence")], returnType := some .int }, accessFlags := 8, code := some k12c1 }
def k12c2 : Code := { maxStack := 2, maxLocals := 2, code := prog_13_method_4_code, exceptionTable := #[], attributes := #[] }
def k12m2 : Method := { name := "byteAt", desc := "(Ljava/lang/CharSequence;I)I", sig := { parameters := [(.object "java/lang/CharSequence"), .int], returnType := some .int }, accessFlags := 8, code := some k12c2 }
/-- com/example/abeyance/abeyance/model/Utf8Reader -/
def k12 : Class := { plain "com/example/abeyance/abeyance/model/Utf8Reader" (some 11) with
  accessFlags := 48
  interfaces := #[]
  cf := some (fileOf pool12 20 #[] #[{ accessFlags := 8, nameIndex := 169, descriptorIndex := 66, attributes := #[] }, { accessFlags := 8, nameIndex := 65, descriptorIndex := 66, attributes := #[] }, { accessFlags := 8, nameIndex := 69, descriptorIndex := 70, attributes := #[] }] 48 2 #[] #[{ accessFlags := 26, nameIndex := 41, descriptorIndex := 42, attributes := #[] }, { accessFlags := 26, nameIndex := 158, descriptorIndex := 159, attributes := #[] }, { accessFlags := 18, nameIndex := 37, descriptorIndex := 38, attributes := #[] }, { accessFlags := 18, nameIndex := 23, descriptorIndex := 24, attributes := #[] }, { accessFlags := 18, nameIndex := 33, descriptorIndex := 34, attributes := #[] }, { accessFlags := 2, nameIndex := 99, descriptorIndex := 100, attributes := #[] }])
  fields := #[{ name := "BYTE_ORDER_MARK", type := (.array .byte), accessFlags := 26, slot := 0, constantValue := 0 }, { name := "BYTE_ESCAPE", type := .char, accessFlags := 26, slot := 1, constantValue := 0 }, { name := "in", type := (.object "java/io/InputStream"), accessFlags := 18, slot := 2, constantValue := 0 }, { name := "decoder", type := (.object "java/nio/charset/CharsetDecoder"), accessFlags := 18, slot := 3, constantValue := 0 }, { name := "bytes", type := (.object "java/nio/ByteBuffer"), accessFlags := 18, slot := 4, constantValue := 0 }, { name := "endOfInput", type := .boolean, accessFlags := 2, slot := 5, constantValue := 0 }]
  methods := #[k12m0, k12m1, k12m2]
  instanceTypes := #[(.object "java/lang/Object"), (.array .char), (.object "java/io/InputStream"), (.object "java/nio/charset/CharsetDecoder"), (.object "java/nio/ByteBuffer"), .boolean]
  staticTypes := #[(.array .byte), .char]
  resolved := Array.replicate 174 none
  statics := none }

def pool13 : Array CpInfo := pool [(3, .class_ 4), (0, u "java/lang/String"), (1, .class_ 8), (1, u "java/lang/Object"), (0, u "<init>"), (0, u "()V"), (0, .methodref 12 13), (0, .class_ 14), (0, .nameAndType 15 16), (0, u "java/lang/StringUTF16"), (0, u "newBytesLength"), (0, u "(I)I"), (3, .integer 1073741823), (23, .fieldref 12 45), (0, .nameAndType 46 47), (0, u "$assertionsDisabled"), (0, u "Z"), (0, .methodref 12 49), (0, .nameAndType 50 51), (0, u "length"), (0, u "([B)I"), (7, .fieldref 12 60), (0, .nameAndType 61 62), (0, u "HI_BYTE_SHIFT"), (0, u "I"), (0, .fieldref 12 64), (0, .nameAndType 65 62), (0, u "LO_BYTE_SHIFT"), (1, .methodref 12 68), (0, .nameAndType 69 70), (0, u "checkIndex"), (0, u "(I[B)V"), (0, .methodref 12 72), (0, .nameAndType 73 74), (0, u "getChar"), (0, u "([BI)C"), (32, .methodref 12 108), (0, .nameAndType 109 110), (0, u "newBytesFor"), (0, u "(I)[B"), (0, .methodref 12 112), (0, .nameAndType 113 114), (0, u "putChar"), (0, u "([BII)V"), (0, .methodref 12 116), (0, .nameAndType 117 118), (0, u "compress"), (0, u "([CI[BII)I"), (0, .methodref 12 120), (0, .nameAndType 121 122), (0, u "toBytes"), (0, u "([CII)[B"), (138, u "coderFromArrayLen"), (0, u "([BI)B"), (106, .class_ 371), (1, u "java/lang/StringUTF16$LinesSpliterator"), (20, u "charAt"), (21, .methodref 3 415), (0, .nameAndType 69 416), (0, u "(II)V"), (13, u "MAX_LENGTH"), (196, .class_ 628), (0, u "java/lang/StringUTF16$CodePointsSpliterator"), (0, .class_ 630), (0, u "java/lang/StringUTF16$CharsSpliterator")] 4

def k13m0 : Method := { name := "<init>", desc := "()V", sig := { parameters := [], returnType := none }, accessFlags := 0, code := none }
def k13c1 : Code := { maxStack := 1, maxLocals := 1, code := jdk_52_method_2_code, exceptionTable := #[], attributes := #[] }
def k13m1 : Method := { name := "newBytesFor", desc := "(I)[B", sig := { parameters := [.int], returnType := some (.array .byte) }, accessFlags := 9, code := some k13c1 }
def k13c2 : Code := { maxStack := 4, maxLocals := 1, code := jdk_52_method_3_code, exceptionTable := #[], attributes := #[] }
def k13m2 : Method := { name := "newBytesLength", desc := "(I)I", sig := { parameters := [.int], returnType := some .int }, accessFlags := 9, code := some k13c2 }
def k13c3 : Code := { maxStack := 4, maxLocals := 3, code := jdk_52_method_4_code, exceptionTable := #[], attributes := #[] }
def k13m3 : Method := { name := "putChar", desc := "([BII)V", sig := { parameters := [(.array .byte), .int, .int], returnType := none }, accessFlags := 8, code := some k13c3 }
def k13c4 : Code := { maxStack := 3, maxLocals := 2, code := jdk_52_method_5_code, exceptionTable := #[], attributes := #[] }
def k13m4 : Method := { name := "getChar", desc := "([BI)C", sig := { parameters := [(.array .byte), .int], returnType := some .char }, accessFlags := 8, code := some k13c4 }
def k13c5 : Code := { maxStack := 2, maxLocals := 1, code := jdk_52_method_6_code, exceptionTable := #[], attributes := #[] }
def k13m5 : Method := { name := "length", desc := "([B)I", sig := { parameters := [(.array .byte)], returnType := some .int }, accessFlags := 9, code := some k13c5 }
def k13c6 : Code := { maxStack := 4, maxLocals := 5, code := jdk_52_method_14_code, exceptionTable := #[], attributes := #[] }
def k13m6 : Method := { name := "toBytes", desc := "([CII)[B", sig := { parameters := [(.array .char), .int, .int], returnType := some (.array .byte) }, accessFlags := 9, code := some k13c6 }
def k13c7 : Code := { maxStack := 2, maxLocals := 2, code := jdk_52_method_15_code, exceptionTable := #[], attributes := #[] }
def k13m7 : Method := { name := "coderFromArrayLen", desc := "([BI)B", sig := { parameters := [(.array .byte), .int], returnType := some .byte }, accessFlags := 8, code := some k13c7 }
def k13c8 : Code := { maxStack := 5, maxLocals := 6, code := jdk_52_method_16_code, exceptionTable := #[], attributes := #[] }
def k13m8 : Method := { name := "compress", desc := "([CII)[B", sig := { parameters := [(.array .char), .int, .int], returnType := some (.array .byte) }, accessFlags := 9, code := some k13c8 }
def k13c9 : Code := { maxStack := 3, maxLocals := 7, code := jdk_52_method_21_code, exceptionTable := #[], attributes := #[] }
def k13m9 : Method := { name := "compress", desc := "([CI[BII)I", sig := { parameters := [(.array .char), .int, (.array .byte), .int, .int], returnType := some .int }, accessFlags := 9, code := some k13c9 }
def k13c10 : Code := { maxStack := 2, maxLocals := 2, code := jdk_52_method_83_code, exceptionTable := #[], attributes := #[] }
def k13m10 : Method := { name := "charAt", desc := "([BI)C", sig := { parameters := [(.array .byte), .int], returnType := some .char }, accessFlags := 9, code := some k13c10 }
def k13c11 : Code := { maxStack := 2, maxLocals := 2, code := jdk_52_method_91_code, exceptionTable := #[], attributes := #[] }
def k13m11 : Method := { name := "checkIndex", desc := "(I[B)V", sig := { parameters := [.int, (.array .byte)], returnType := none }, accessFlags := 9, code := some k13c11 }
/-- java/lang/StringUTF16 -/
def k13 : Class := { plain "java/lang/StringUTF16" (some 0) with
  accessFlags := 48
  interfaces := #[]
  cf := some (fileOf pool13 12 #[.nestMembers #[627, 629, 369]] #[{ accessFlags := 0, nameIndex := 9, descriptorIndex := 10, attributes := #[] }, { accessFlags := 9, nameIndex := 109, descriptorIndex := 110, attributes := #[] }, { accessFlags := 9, nameIndex := 15, descriptorIndex := 16, attributes := #[] }, { accessFlags := 8, nameIndex := 113, descriptorIndex := 114, attributes := #[] }, { accessFlags := 8, nameIndex := 73, descriptorIndex := 74, attributes := #[] }, { accessFlags := 9, nameIndex := 50, descriptorIndex := 51, attributes := #[] }, { accessFlags := 9, nameIndex := 121, descriptorIndex := 122, attributes := #[] }, { accessFlags := 8, nameIndex := 261, descriptorIndex := 262, attributes := #[] }, { accessFlags := 9, nameIndex := 117, descriptorIndex := 122, attributes := #[] }, { accessFlags := 9, nameIndex := 117, descriptorIndex := 118, attributes := #[] }, { accessFlags := 9, nameIndex := 392, descriptorIndex := 74, attributes := #[] }, { accessFlags := 9, nameIndex := 69, descriptorIndex := 70, attributes := #[] }] 48 6 #[] #[{ accessFlags := 26, nameIndex := 61, descriptorIndex := 62, attributes := #[] }, { accessFlags := 26, nameIndex := 65, descriptorIndex := 62, attributes := #[] }, { accessFlags := 24, nameIndex := 430, descriptorIndex := 62, attributes := #[] }, { accessFlags := 4120, nameIndex := 46, descriptorIndex := 47, attributes := #[] }])
  fields := #[{ name := "HI_BYTE_SHIFT", type := .int, accessFlags := 26, slot := 0, constantValue := 0 }, { name := "LO_BYTE_SHIFT", type := .int, accessFlags := 26, slot := 1, constantValue := 0 }, { name := "MAX_LENGTH", type := .int, accessFlags := 24, slot := 2, constantValue := 0 }, { name := "$assertionsDisabled", type := .boolean, accessFlags := 4120, slot := 3, constantValue := 0 }]
  methods := #[k13m0, k13m1, k13m2, k13m3, k13m4, k13m5, k13m6, k13m7, k13m8, k13m9, k13m10, k13m11]
  instanceTypes := #[]
  staticTypes := #[.int, .int, .int, .boolean]
  resolved := Array.replicate 635 none
  statics := some 1 }

def pool14 : Array CpInfo := pool [(2, .class_ 4), (1, u "java/lang/Object"), (0, u "<init>"), (0, u "()V"), (17, .class_ 26), (1, u "jdk/internal/util/Preconditions"), (6, u "checkIndex"), (21, .class_ 56), (0, u "jdk/internal/util/Preconditions$4"), (57, .class_ 115), (0, u "jdk/internal/util/Preconditions$1"), (7, u "SIOOBE_FORMATTER"), (0, u "Ljava/util/function/BiFunction;"), (0, .class_ 126), (0, u "jdk/internal/util/Preconditions$2"), (3, u "AIOOBE_FORMATTER"), (0, .class_ 132), (0, u "jdk/internal/util/Preconditions$3"), (3, u "IOOBE_FORMATTER"), (41, u "(IILjava/util/function/BiFunction;)I")] 15

def k14m0 : Method := { name := "<init>", desc := "()V", sig := { parameters := [], returnType := none }, accessFlags := 1, code := none }
def k14c1 : Code := { maxStack := 3, maxLocals := 3, code := jdk_41_method_11_code, exceptionTable := #[], attributes := #[] }
def k14m1 : Method := { name := "checkIndex", desc := "(IILjava/util/function/BiFunction;)I", sig := { parameters := [.int, .int, (.object "java/util/function/BiFunction")], returnType := some .int }, accessFlags := 9, code := some k14c1 }
/-- jdk/internal/util/Preconditions -/
def k14 : Class := { plain "jdk/internal/util/Preconditions" (some 0) with
  accessFlags := 33
  interfaces := #[]
  cf := some (fileOf pool14 24 #[.nestMembers #[55, 131, 125, 114]] #[{ accessFlags := 1, nameIndex := 5, descriptorIndex := 6, attributes := #[] }, { accessFlags := 9, nameIndex := 33, descriptorIndex := 178, attributes := #[] }] 33 2 #[] #[{ accessFlags := 25, nameIndex := 123, descriptorIndex := 124, attributes := #[] }, { accessFlags := 25, nameIndex := 130, descriptorIndex := 124, attributes := #[] }, { accessFlags := 25, nameIndex := 136, descriptorIndex := 124, attributes := #[] }])
  fields := #[{ name := "SIOOBE_FORMATTER", type := (.object "java/util/function/BiFunction"), accessFlags := 25, slot := 0, constantValue := 0 }, { name := "AIOOBE_FORMATTER", type := (.object "java/util/function/BiFunction"), accessFlags := 25, slot := 1, constantValue := 0 }, { name := "IOOBE_FORMATTER", type := (.object "java/util/function/BiFunction"), accessFlags := 25, slot := 2, constantValue := 0 }]
  methods := #[k14m0, k14m1]
  instanceTypes := #[]
  staticTypes := #[(.object "java/util/function/BiFunction"), (.object "java/util/function/BiFunction"), (.object "java/util/function/BiFunction")]
  resolved := Array.replicate 194 none
  statics := some 2 }

def pool15 : Array CpInfo := pool [(1, .class_ 2), (0, u "java/lang/Character"), (18, u "value"), (0, u "C"), (19, .class_ 44), (1, u "java/lang/Object"), (3, .class_ 50), (1, u "java/lang/Character$CharacterCache"), (24, .integer 55296), (0, .integer 56320), (0, .integer 57344), (2, u "isHighSurrogate"), (0, u "(C)Z"), (2, u "isLowSurrogate"), (199, u "$assertionsDisabled"), (0, u "Z"), (21, .class_ 309), (1, u "java/lang/Character$UnicodeBlock"), (73, u "TYPE"), (0, u "Ljava/lang/Class;"), (0, .class_ 386), (0, u "java/io/Serializable"), (0, .class_ 388), (0, u "java/lang/Comparable"), (0, .class_ 390), (0, u "java/lang/constant/Constable"), (0, u "MIN_RADIX"), (0, u "I"), (2, u "MAX_RADIX"), (1, u "MIN_VALUE"), (1, u "MAX_VALUE"), (3, u "UNASSIGNED"), (0, u "B"), (0, u "UPPERCASE_LETTER"), (1, u "LOWERCASE_LETTER"), (0, u "TITLECASE_LETTER"), (1, u "MODIFIER_LETTER"), (1, u "OTHER_LETTER"), (1, u "NON_SPACING_MARK"), (1, u "ENCLOSING_MARK"), (1, u "COMBINING_SPACING_MARK"), (1, u "DECIMAL_DIGIT_NUMBER"), (1, u "LETTER_NUMBER"), (1, u "OTHER_NUMBER"), (1, u "SPACE_SEPARATOR"), (1, u "LINE_SEPARATOR"), (1, u "PARAGRAPH_SEPARATOR"), (1, u "CONTROL"), (1, u "FORMAT"), (1, u "PRIVATE_USE"), (1, u "SURROGATE"), (1, u "DASH_PUNCTUATION"), (1, u "START_PUNCTUATION"), (1, u "END_PUNCTUATION"), (1, u "CONNECTOR_PUNCTUATION"), (1, u "OTHER_PUNCTUATION"), (1, u "MATH_SYMBOL"), (1, u "CURRENCY_SYMBOL"), (1, u "MODIFIER_SYMBOL"), (1, u "OTHER_SYMBOL"), (1, u "INITIAL_QUOTE_PUNCTUATION"), (1, u "FINAL_QUOTE_PUNCTUATION"), (1, u "ERROR"), (1, u "DIRECTIONALITY_UNDEFINED"), (0, u "DIRECTIONALITY_LEFT_TO_RIGHT"), (0, u "DIRECTIONALITY_RIGHT_TO_LEFT"), (0, u "DIRECTIONALITY_RIGHT_TO_LEFT_ARABIC"), (0, u "DIRECTIONALITY_EUROPEAN_NUMBER"), (0, u "DIRECTIONALITY_EUROPEAN_NUMBER_SEPARATOR"), (0, u "DIRECTIONALITY_EUROPEAN_NUMBER_TERMINATOR"), (0, u "DIRECTIONALITY_ARABIC_NUMBER"), (0, u "DIRECTIONALITY_COMMON_NUMBER_SEPARATOR"), (0, u "DIRECTIONALITY_NONSPACING_MARK"), (0, u "DIRECTIONALITY_BOUNDARY_NEUTRAL"), (0, u "DIRECTIONALITY_PARAGRAPH_SEPARATOR"), (0, u "DIRECTIONALITY_SEGMENT_SEPARATOR"), (0, u "DIRECTIONALITY_WHITESPACE"), (0, u "DIRECTIONALITY_OTHER_NEUTRALS"), (0, u "DIRECTIONALITY_LEFT_TO_RIGHT_EMBEDDING"), (0, u "DIRECTIONALITY_LEFT_TO_RIGHT_OVERRIDE"), (0, u "DIRECTIONALITY_RIGHT_TO_LEFT_EMBEDDING"), (0, u "DIRECTIONALITY_RIGHT_TO_LEFT_OVERRIDE"), (1, u "DIRECTIONALITY_POP_DIRECTIONAL_FORMAT"), (0, u "DIRECTIONALITY_LEFT_TO_RIGHT_ISOLATE"), (0, u "DIRECTIONALITY_RIGHT_TO_LEFT_ISOLATE"), (0, u "DIRECTIONALITY_FIRST_STRONG_ISOLATE"), (0, u "DIRECTIONALITY_POP_DIRECTIONAL_ISOLATE"), (0, u "MIN_HIGH_SURROGATE"), (0, u "MAX_HIGH_SURROGATE"), (1, u "MIN_LOW_SURROGATE"), (0, u "MAX_LOW_SURROGATE"), (1, u "MIN_SURROGATE"), (0, u "MAX_SURROGATE"), (0, u "MIN_SUPPLEMENTARY_CODE_POINT"), (0, u "MIN_CODE_POINT"), (0, u "MAX_CODE_POINT"), (1, u "serialVersionUID"), (0, u "J"), (2, u "SIZE"), (0, u "BYTES"), (88, .class_ 596), (0, u "java/lang/Character$UnicodeScript"), (0, .class_ 598), (0, u "java/lang/Character$Subset")] 5

def k15c0 : Code := { maxStack := 2, maxLocals := 1, code := jdk_89_method_14_code, exceptionTable := #[], attributes := #[] }
def k15m0 : Method := { name := "isHighSurrogate", desc := "(C)Z", sig := { parameters := [.char], returnType := some .boolean }, accessFlags := 9, code := some k15c0 }
def k15c1 : Code := { maxStack := 2, maxLocals := 1, code := jdk_89_method_15_code, exceptionTable := #[], attributes := #[] }
def k15m1 : Method := { name := "isLowSurrogate", desc := "(C)Z", sig := { parameters := [.char], returnType := some .boolean }, accessFlags := 9, code := some k15c1 }
/-- java/lang/Character -/
def k15 : Class := { plain "java/lang/Character" (some 0) with
  accessFlags := 49
  interfaces := #[2, 3, 5]
  cf := some (fileOf pool15 1 #[.nestMembers #[48, 595, 307, 597]] #[{ accessFlags := 9, nameIndex := 80, descriptorIndex := 81, attributes := #[] }, { accessFlags := 9, nameIndex := 84, descriptorIndex := 81, attributes := #[] }] 49 42 #[385, 387, 389] #[{ accessFlags := 25, nameIndex := 391, descriptorIndex := 392, attributes := #[] }, { accessFlags := 25, nameIndex := 395, descriptorIndex := 392, attributes := #[] }, { accessFlags := 25, nameIndex := 397, descriptorIndex := 22, attributes := #[] }, { accessFlags := 25, nameIndex := 399, descriptorIndex := 22, attributes := #[] }, { accessFlags := 25, nameIndex := 383, descriptorIndex := 384, attributes := #[] }, { accessFlags := 25, nameIndex := 403, descriptorIndex := 404, attributes := #[] }, { accessFlags := 25, nameIndex := 405, descriptorIndex := 404, attributes := #[] }, { accessFlags := 25, nameIndex := 407, descriptorIndex := 404, attributes := #[] }, { accessFlags := 25, nameIndex := 408, descriptorIndex := 404, attributes := #[] }, { accessFlags := 25, nameIndex := 410, descriptorIndex := 404, attributes := #[] }, { accessFlags := 25, nameIndex := 412, descriptorIndex := 404, attributes := #[] }, { accessFlags := 25, nameIndex := 414, descriptorIndex := 404, attributes := #[] }, { accessFlags := 25, nameIndex := 416, descriptorIndex := 404, attributes := #[] }, { accessFlags := 25, nameIndex := 418, descriptorIndex := 404, attributes := #[] }, { accessFlags := 25, nameIndex := 420, descriptorIndex := 404, attributes := #[] }, { accessFlags := 25, nameIndex := 422, descriptorIndex := 404, attributes := #[] }, { accessFlags := 25, nameIndex := 424, descriptorIndex := 404, attributes := #[] }, { accessFlags := 25, nameIndex := 426, descriptorIndex := 404, attributes := #[] }, { accessFlags := 25, nameIndex := 428, descriptorIndex := 404, attributes := #[] }, { accessFlags := 25, nameIndex := 430, descriptorIndex := 404, attributes := #[] }, { accessFlags := 25, nameIndex := 432, descriptorIndex := 404, attributes := #[] }, { accessFlags := 25, nameIndex := 434, descriptorIndex := 404, attributes := #[] }, { accessFlags := 25, nameIndex := 436, descriptorIndex := 404, attributes := #[] }, { accessFlags := 25, nameIndex := 438, descriptorIndex := 404, attributes := #[] }, { accessFlags := 25, nameIndex := 440, descriptorIndex := 404, attributes := #[] }, { accessFlags := 25, nameIndex := 442, descriptorIndex := 404, attributes := #[] }, { accessFlags := 25, nameIndex := 444, descriptorIndex := 404, attributes := #[] }, { accessFlags := 25, nameIndex := 446, descriptorIndex := 404, attributes := #[] }, { accessFlags := 25, nameIndex := 448, descriptorIndex := 404, attributes := #[] }, { accessFlags := 25, nameIndex := 450, descriptorIndex := 404, attributes := #[] }, { accessFlags := 25, nameIndex := 452, descriptorIndex := 404, attributes := #[] }, { accessFlags := 25, nameIndex := 454, descriptorIndex := 404, attributes := #[] }, { accessFlags := 25, nameIndex := 456, descriptorIndex := 404, attributes := #[] }, { accessFlags := 25, nameIndex := 458, descriptorIndex := 404, attributes := #[] }, { accessFlags := 25, nameIndex := 460, descriptorIndex := 404, attributes := #[] }, { accessFlags := 24, nameIndex := 462, descriptorIndex := 392, attributes := #[] }, { accessFlags := 25, nameIndex := 464, descriptorIndex := 404, attributes := #[] }, { accessFlags := 25, nameIndex := 465, descriptorIndex := 404, attributes := #[] }, { accessFlags := 25, nameIndex := 466, descriptorIndex := 404, attributes := #[] }, { accessFlags := 25, nameIndex := 467, descriptorIndex := 404, attributes := #[] }, { accessFlags := 25, nameIndex := 468, descriptorIndex := 404, attributes := #[] }, { accessFlags := 25, nameIndex := 469, descriptorIndex := 404, attributes := #[] }, { accessFlags := 25, nameIndex := 470, descriptorIndex := 404, attributes := #[] }, { accessFlags := 25, nameIndex := 471, descriptorIndex := 404, attributes := #[] }, { accessFlags := 25, nameIndex := 472, descriptorIndex := 404, attributes := #[] }, { accessFlags := 25, nameIndex := 473, descriptorIndex := 404, attributes := #[] }, { accessFlags := 25, nameIndex := 474, descriptorIndex := 404, attributes := #[] }, { accessFlags := 25, nameIndex := 475, descriptorIndex := 404, attributes := #[] }, { accessFlags := 25, nameIndex := 476, descriptorIndex := 404, attributes := #[] }, { accessFlags := 25, nameIndex := 477, descriptorIndex := 404, attributes := #[] }, { accessFlags := 25, nameIndex := 478, descriptorIndex := 404, attributes := #[] }, { accessFlags := 25, nameIndex := 479, descriptorIndex := 404, attributes := #[] }, { accessFlags := 25, nameIndex := 480, descriptorIndex := 404, attributes := #[] }, { accessFlags := 25, nameIndex := 481, descriptorIndex := 404, attributes := #[] }, { accessFlags := 25, nameIndex := 482, descriptorIndex := 404, attributes := #[] }, { accessFlags := 25, nameIndex := 484, descriptorIndex := 404, attributes := #[] }, { accessFlags := 25, nameIndex := 485, descriptorIndex := 404, attributes := #[] }, { accessFlags := 25, nameIndex := 486, descriptorIndex := 404, attributes := #[] }, { accessFlags := 25, nameIndex := 487, descriptorIndex := 404, attributes := #[] }, { accessFlags := 25, nameIndex := 488, descriptorIndex := 404, attributes := #[] }, { accessFlags := 25, nameIndex := 489, descriptorIndex := 22, attributes := #[] }, { accessFlags := 25, nameIndex := 490, descriptorIndex := 22, attributes := #[] }, { accessFlags := 25, nameIndex := 492, descriptorIndex := 22, attributes := #[] }, { accessFlags := 25, nameIndex := 493, descriptorIndex := 22, attributes := #[] }, { accessFlags := 25, nameIndex := 495, descriptorIndex := 22, attributes := #[] }, { accessFlags := 25, nameIndex := 496, descriptorIndex := 22, attributes := #[] }, { accessFlags := 25, nameIndex := 497, descriptorIndex := 392, attributes := #[] }, { accessFlags := 25, nameIndex := 498, descriptorIndex := 392, attributes := #[] }, { accessFlags := 25, nameIndex := 499, descriptorIndex := 392, attributes := #[] }, { accessFlags := 18, nameIndex := 21, descriptorIndex := 22, attributes := #[] }, { accessFlags := 26, nameIndex := 501, descriptorIndex := 502, attributes := #[] }, { accessFlags := 25, nameIndex := 505, descriptorIndex := 392, attributes := #[] }, { accessFlags := 25, nameIndex := 506, descriptorIndex := 392, attributes := #[] }, { accessFlags := 4120, nameIndex := 284, descriptorIndex := 285, attributes := #[] }])
  fields := #[{ name := "MIN_RADIX", type := .int, accessFlags := 25, slot := 0, constantValue := 0 }, { name := "MAX_RADIX", type := .int, accessFlags := 25, slot := 1, constantValue := 0 }, { name := "MIN_VALUE", type := .char, accessFlags := 25, slot := 2, constantValue := 0 }, { name := "MAX_VALUE", type := .char, accessFlags := 25, slot := 3, constantValue := 0 }, { name := "TYPE", type := (.object "java/lang/Class"), accessFlags := 25, slot := 4, constantValue := 0 }, { name := "UNASSIGNED", type := .byte, accessFlags := 25, slot := 5, constantValue := 0 }, { name := "UPPERCASE_LETTER", type := .byte, accessFlags := 25, slot := 6, constantValue := 0 }, { name := "LOWERCASE_LETTER", type := .byte, accessFlags := 25, slot := 7, constantValue := 0 }, { name := "TITLECASE_LETTER", type := .byte, accessFlags := 25, slot := 8, constantValue := 0 }, { name := "MODIFIER_LETTER", type := .byte, accessFlags := 25, slot := 9, constantValue := 0 }, { name := "OTHER_LETTER", type := .byte, accessFlags := 25, slot := 10, constantValue := 0 }, { name := "NON_SPACING_MARK", type := .byte, accessFlags := 25, slot := 11, constantValue := 0 }, { name := "ENCLOSING_MARK", type := .byte, accessFlags := 25, slot := 12, constantValue := 0 }, { name := "COMBINING_SPACING_MARK", type := .byte, accessFlags := 25, slot := 13, constantValue := 0 }, { name := "DECIMAL_DIGIT_NUMBER", type := .byte, accessFlags := 25, slot := 14, constantValue := 0 }, { name := "LETTER_NUMBER", type := .byte, accessFlags := 25, slot := 15, constantValue := 0 }, { name := "OTHER_NUMBER", type := .byte, accessFlags := 25, slot := 16, constantValue := 0 }, { name := "SPACE_SEPARATOR", type := .byte, accessFlags := 25, slot := 17, constantValue := 0 }, { name := "LINE_SEPARATOR", type := .byte, accessFlags := 25, slot := 18, constantValue := 0 }, { name := "PARAGRAPH_SEPARATOR", type := .byte, accessFlags := 25, slot := 19, constantValue := 0 }, { name := "CONTROL", type := .byte, accessFlags := 25, slot := 20, constantValue := 0 }, { name := "FORMAT", type := .byte, accessFlags := 25, slot := 21, constantValue := 0 }, { name := "PRIVATE_USE", type := .byte, accessFlags := 25, slot := 22, constantValue := 0 }, { name := "SURROGATE", type := .byte, accessFlags := 25, slot := 23, constantValue := 0 }, { name := "DASH_PUNCTUATION", type := .byte, accessFlags := 25, slot := 24, constantValue := 0 }, { name := "START_PUNCTUATION", type := .byte, accessFlags := 25, slot := 25, constantValue := 0 }, { name := "END_PUNCTUATION", type := .byte, accessFlags := 25, slot := 26, constantValue := 0 }, { name := "CONNECTOR_PUNCTUATION", type := .byte, accessFlags := 25, slot := 27, constantValue := 0 }, { name := "OTHER_PUNCTUATION", type := .byte, accessFlags := 25, slot := 28, constantValue := 0 }, { name := "MATH_SYMBOL", type := .byte, accessFlags := 25, slot := 29, constantValue := 0 }, { name := "CURRENCY_SYMBOL", type := .byte, accessFlags := 25, slot := 30, constantValue := 0 }, { name := "MODIFIER_SYMBOL", type := .byte, accessFlags := 25, slot := 31, constantValue := 0 }, { name := "OTHER_SYMBOL", type := .byte, accessFlags := 25, slot := 32, constantValue := 0 }, { name := "INITIAL_QUOTE_PUNCTUATION", type := .byte, accessFlags := 25, slot := 33, constantValue := 0 }, { name := "FINAL_QUOTE_PUNCTUATION", type := .byte, accessFlags := 25, slot := 34, constantValue := 0 }, { name := "ERROR", type := .int, accessFlags := 24, slot := 35, constantValue := 0 }, { name := "DIRECTIONALITY_UNDEFINED", type := .byte, accessFlags := 25, slot := 36, constantValue := 0 }, { name := "DIRECTIONALITY_LEFT_TO_RIGHT", type := .byte, accessFlags := 25, slot := 37, constantValue := 0 }, { name := "DIRECTIONALITY_RIGHT_TO_LEFT", type := .byte, accessFlags := 25, slot := 38, constantValue := 0 }, { name := "DIRECTIONALITY_RIGHT_TO_LEFT_ARABIC", type := .byte, accessFlags := 25, slot := 39, constantValue := 0 }, { name := "DIRECTIONALITY_EUROPEAN_NUMBER", type := .byte, accessFlags := 25, slot := 40, constantValue := 0 }, { name := "DIRECTIONALITY_EUROPEAN_NUMBER_SEPARATOR", type := .byte, accessFlags := 25, slot := 41, constantValue := 0 }, { name := "DIRECTIONALITY_EUROPEAN_NUMBER_TERMINATOR", type := .byte, accessFlags := 25, slot := 42, constantValue := 0 }, { name := "DIRECTIONALITY_ARABIC_NUMBER", type := .byte, accessFlags := 25, slot := 43, constantValue := 0 }, { name := "DIRECTIONALITY_COMMON_NUMBER_SEPARATOR", type := .byte, accessFlags := 25, slot := 44, constantValue := 0 }, { name := "DIRECTIONALITY_NONSPACING_MARK", type := .byte, accessFlags := 25, slot := 45, constantValue := 0 }, { name := "DIRECTIONALITY_BOUNDARY_NEUTRAL", type := .byte, accessFlags := 25, slot := 46, constantValue := 0 }, { name := "DIRECTIONALITY_PARAGRAPH_SEPARATOR", type := .byte, accessFlags := 25, slot := 47, constantValue := 0 }, { name := "DIRECTIONALITY_SEGMENT_SEPARATOR", type := .byte, accessFlags := 25, slot := 48, constantValue := 0 }, { name := "DIRECTIONALITY_WHITESPACE", type := .byte, accessFlags := 25, slot := 49, constantValue := 0 }, { name := "DIRECTIONALITY_OTHER_NEUTRALS", type := .byte, accessFlags := 25, slot := 50, constantValue := 0 }, { name := "DIRECTIONALITY_LEFT_TO_RIGHT_EMBEDDING", type := .byte, accessFlags := 25, slot := 51, constantValue := 0 }, { name := "DIRECTIONALITY_LEFT_TO_RIGHT_OVERRIDE", type := .byte, accessFlags := 25, slot := 52, constantValue := 0 }, { name := "DIRECTIONALITY_RIGHT_TO_LEFT_EMBEDDING", type := .byte, accessFlags := 25, slot := 53, constantValue := 0 }, { name := "DIRECTIONALITY_RIGHT_TO_LEFT_OVERRIDE", type := .byte, accessFlags := 25, slot := 54, constantValue := 0 }, { name := "DIRECTIONALITY_POP_DIRECTIONAL_FORMAT", type := .byte, accessFlags := 25, slot := 55, constantValue := 0 }, { name := "DIRECTIONALITY_LEFT_TO_RIGHT_ISOLATE", type := .byte, accessFlags := 25, slot := 56, constantValue := 0 }, { name := "DIRECTIONALITY_RIGHT_TO_LEFT_ISOLATE", type := .byte, accessFlags := 25, slot := 57, constantValue := 0 }, { name := "DIRECTIONALITY_FIRST_STRONG_ISOLATE", type := .byte, accessFlags := 25, slot := 58, constantValue := 0 }, { name := "DIRECTIONALITY_POP_DIRECTIONAL_ISOLATE", type := .byte, accessFlags := 25, slot := 59, constantValue := 0 }, { name := "MIN_HIGH_SURROGATE", type := .char, accessFlags := 25, slot := 60, constantValue := 0 }, { name := "MAX_HIGH_SURROGATE", type := .char, accessFlags := 25, slot := 61, constantValue := 0 }, { name := "MIN_LOW_SURROGATE", type := .char, accessFlags := 25, slot := 62, constantValue := 0 }, { name := "MAX_LOW_SURROGATE", type := .char, accessFlags := 25, slot := 63, constantValue := 0 }, { name := "MIN_SURROGATE", type := .char, accessFlags := 25, slot := 64, constantValue := 0 }, { name := "MAX_SURROGATE", type := .char, accessFlags := 25, slot := 65, constantValue := 0 }, { name := "MIN_SUPPLEMENTARY_CODE_POINT", type := .int, accessFlags := 25, slot := 66, constantValue := 0 }, { name := "MIN_CODE_POINT", type := .int, accessFlags := 25, slot := 67, constantValue := 0 }, { name := "MAX_CODE_POINT", type := .int, accessFlags := 25, slot := 68, constantValue := 0 }, { name := "value", type := .char, accessFlags := 18, slot := 0, constantValue := 0 }, { name := "serialVersionUID", type := .long, accessFlags := 26, slot := 69, constantValue := 0 }, { name := "SIZE", type := .int, accessFlags := 25, slot := 70, constantValue := 0 }, { name := "BYTES", type := .int, accessFlags := 25, slot := 71, constantValue := 0 }, { name := "$assertionsDisabled", type := .boolean, accessFlags := 4120, slot := 72, constantValue := 0 }]
  methods := #[k15m0, k15m1]
  instanceTypes := #[.char]
  staticTypes := #[.int, .int, .char, .char, (.object "java/lang/Class"), .byte, .byte, .byte, .byte, .byte, .byte, .byte, .byte, .byte, .byte, .byte, .byte, .byte, .byte, .byte, .byte, .byte, .byte, .byte, .byte, .byte, .byte, .byte, .byte, .byte, .byte, .byte, .byte, .byte, .byte, .int, .byte, .byte, .byte, .byte, .byte, .byte, .byte, .byte, .byte, .byte, .byte, .byte, .byte, .byte, .byte, .byte, .byte, .byte, .byte, .byte, .byte, .byte, .byte, .byte, .char, .char, .char, .char, .char, .char, .int, .int, .int, .long, .int, .int, .boolean]
  resolved := Array.replicate 604 none
  statics := none }

def pool16 : Array CpInfo := pool [(1, .class_ 2), (0, u "java/lang/String"), (1, .class_ 6), (1, u "java/lang/Object"), (0, u "<init>"), (0, u "()V"), (0, .methodref 1 10), (0, .nameAndType 11 12), (0, u "checkIndex"), (0, u "(II)V"), (1, .class_ 16), (1, u "java/lang/StringLatin1"), (36, u "([BI)C"), (67, u "$assertionsDisabled"), (0, u "Z"), (98, .class_ 223), (1, u "java/lang/StringLatin1$LinesSpliterator"), (28, u "charAt"), (137, .class_ 391), (0, u "java/lang/StringLatin1$CharsSpliterator")] 3

def k16m0 : Method := { name := "<init>", desc := "()V", sig := { parameters := [], returnType := none }, accessFlags := 0, code := none }
def k16c1 : Code := { maxStack := 2, maxLocals := 2, code := jdk_43_method_2_code, exceptionTable := #[], attributes := #[] }
def k16m1 : Method := { name := "charAt", desc := "([BI)C", sig := { parameters := [(.array .byte), .int], returnType := some .char }, accessFlags := 9, code := some k16c1 }
/-- java/lang/StringLatin1 -/
def k16 : Class := { plain "java/lang/StringLatin1" (some 0) with
  accessFlags := 48
  interfaces := #[]
  cf := some (fileOf pool16 14 #[.nestMembers #[390, 221]] #[{ accessFlags := 0, nameIndex := 7, descriptorIndex := 8, attributes := #[] }, { accessFlags := 9, nameIndex := 252, descriptorIndex := 53, attributes := #[] }] 48 4 #[] #[{ accessFlags := 4120, nameIndex := 121, descriptorIndex := 122, attributes := #[] }])
  fields := #[{ name := "$assertionsDisabled", type := .boolean, accessFlags := 4120, slot := 0, constantValue := 0 }]
  methods := #[k16m0, k16m1]
  instanceTypes := #[]
  staticTypes := #[.boolean]
  resolved := Array.replicate 395 none
  statics := none }

def pool17 : Array CpInfo := pool [(9, u "<init>"), (6, .class_ 18), (1, u "java/lang/Object"), (0, u "()V"), (1, .class_ 23), (1, u "jdk/internal/util/ArraysSupport"), (0, u "LOG2_ARRAY_LONG_INDEX_SCALE"), (0, u "I"), (2, u "U"), (0, u "Ljdk/internal/misc/Unsafe;"), (8, u "BIG_ENDIAN"), (0, u "Z"), (8, u "LOG2_BYTE_BIT_SIZE"), (4, u "LOG2_ARRAY_INT_INDEX_SCALE"), (54, u "JLA"), (0, u "Ljdk/internal/access/JavaLangAccess;"), (11, u "LOG2_ARRAY_BOOLEAN_INDEX_SCALE"), (9, u "LOG2_ARRAY_BYTE_INDEX_SCALE"), (5, u "LOG2_ARRAY_CHAR_INDEX_SCALE"), (5, u "LOG2_ARRAY_SHORT_INDEX_SCALE"), (18, u "LOG2_ARRAY_FLOAT_INDEX_SCALE"), (24, u "LOG2_ARRAY_DOUBLE_INDEX_SCALE"), (89, u "T_BOOLEAN"), (2, u "T_CHAR"), (1, u "T_FLOAT"), (1, u "T_DOUBLE"), (1, u "T_BYTE"), (1, u "T_SHORT"), (1, u "T_INT"), (1, u "T_LONG"), (1, u "SOFT_MAX_ARRAY_LENGTH")] 83

def k17m0 : Method := { name := "<init>", desc := "()V", sig := { parameters := [], returnType := none }, accessFlags := 2, code := none }
/-- jdk/internal/util/ArraysSupport -/
def k17 : Class := { plain "jdk/internal/util/ArraysSupport" (some 0) with
  accessFlags := 33
  interfaces := #[]
  cf := some (fileOf pool17 21 #[] #[{ accessFlags := 2, nameIndex := 9, descriptorIndex := 19, attributes := #[] }] 33 16 #[] #[{ accessFlags := 24, nameIndex := 28, descriptorIndex := 29, attributes := #[] }, { accessFlags := 26, nameIndex := 38, descriptorIndex := 39, attributes := #[] }, { accessFlags := 25, nameIndex := 121, descriptorIndex := 25, attributes := #[] }, { accessFlags := 25, nameIndex := 131, descriptorIndex := 25, attributes := #[] }, { accessFlags := 25, nameIndex := 137, descriptorIndex := 25, attributes := #[] }, { accessFlags := 25, nameIndex := 143, descriptorIndex := 25, attributes := #[] }, { accessFlags := 25, nameIndex := 53, descriptorIndex := 25, attributes := #[] }, { accessFlags := 25, nameIndex := 24, descriptorIndex := 25, attributes := #[] }, { accessFlags := 25, nameIndex := 162, descriptorIndex := 25, attributes := #[] }, { accessFlags := 25, nameIndex := 187, descriptorIndex := 25, attributes := #[] }, { accessFlags := 26, nameIndex := 48, descriptorIndex := 25, attributes := #[] }, { accessFlags := 25, nameIndex := 277, descriptorIndex := 25, attributes := #[] }, { accessFlags := 25, nameIndex := 280, descriptorIndex := 25, attributes := #[] }, { accessFlags := 25, nameIndex := 282, descriptorIndex := 25, attributes := #[] }, { accessFlags := 25, nameIndex := 284, descriptorIndex := 25, attributes := #[] }, { accessFlags := 25, nameIndex := 286, descriptorIndex := 25, attributes := #[] }, { accessFlags := 25, nameIndex := 288, descriptorIndex := 25, attributes := #[] }, { accessFlags := 25, nameIndex := 290, descriptorIndex := 25, attributes := #[] }, { accessFlags := 25, nameIndex := 292, descriptorIndex := 25, attributes := #[] }, { accessFlags := 26, nameIndex := 108, descriptorIndex := 109, attributes := #[] }, { accessFlags := 25, nameIndex := 294, descriptorIndex := 25, attributes := #[] }])
  fields := #[{ name := "U", type := (.object "jdk/internal/misc/Unsafe"), accessFlags := 24, slot := 0, constantValue := 0 }, { name := "BIG_ENDIAN", type := .boolean, accessFlags := 26, slot := 1, constantValue := 0 }, { name := "LOG2_ARRAY_BOOLEAN_INDEX_SCALE", type := .int, accessFlags := 25, slot := 2, constantValue := 0 }, { name := "LOG2_ARRAY_BYTE_INDEX_SCALE", type := .int, accessFlags := 25, slot := 3, constantValue := 0 }, { name := "LOG2_ARRAY_CHAR_INDEX_SCALE", type := .int, accessFlags := 25, slot := 4, constantValue := 0 }, { name := "LOG2_ARRAY_SHORT_INDEX_SCALE", type := .int, accessFlags := 25, slot := 5, constantValue := 0 }, { name := "LOG2_ARRAY_INT_INDEX_SCALE", type := .int, accessFlags := 25, slot := 6, constantValue := 0 }, { name := "LOG2_ARRAY_LONG_INDEX_SCALE", type := .int, accessFlags := 25, slot := 7, constantValue := 0 }, { name := "LOG2_ARRAY_FLOAT_INDEX_SCALE", type := .int, accessFlags := 25, slot := 8, constantValue := 0 }, { name := "LOG2_ARRAY_DOUBLE_INDEX_SCALE", type := .int, accessFlags := 25, slot := 9, constantValue := 0 }, { name := "LOG2_BYTE_BIT_SIZE", type := .int, accessFlags := 26, slot := 10, constantValue := 0 }, { name := "T_BOOLEAN", type := .int, accessFlags := 25, slot := 11, constantValue := 0 }, { name := "T_CHAR", type := .int, accessFlags := 25, slot := 12, constantValue := 0 }, { name := "T_FLOAT", type := .int, accessFlags := 25, slot := 13, constantValue := 0 }, { name := "T_DOUBLE", type := .int, accessFlags := 25, slot := 14, constantValue := 0 }, { name := "T_BYTE", type := .int, accessFlags := 25, slot := 15, constantValue := 0 }, { name := "T_SHORT", type := .int, accessFlags := 25, slot := 16, constantValue := 0 }, { name := "T_INT", type := .int, accessFlags := 25, slot := 17, constantValue := 0 }, { name := "T_LONG", type := .int, accessFlags := 25, slot := 18, constantValue := 0 }, { name := "JLA", type := (.object "jdk/internal/access/JavaLangAccess"), accessFlags := 26, slot := 19, constantValue := 0 }, { name := "SOFT_MAX_ARRAY_LENGTH", type := .int, accessFlags := 25, slot := 20, constantValue := 0 }]
  methods := #[k17m0]
  instanceTypes := #[]
  staticTypes := #[(.object "jdk/internal/misc/Unsafe"), .boolean, .int, .int, .int, .int, .int, .int, .int, .int, .int, .int, .int, .int, .int, .int, .int, .int, .int, (.object "jdk/internal/access/JavaLangAccess"), .int]
  resolved := Array.replicate 378 none
  statics := none }

def pool18 : Array CpInfo := pool [(1, u "java/lang/Cloneable"), (0, .class_ 1), (0, u "java/lang/Object"), (0, .class_ 3)] 3

/-- java/lang/Cloneable -/
def k18 : Class := { plain "java/lang/Cloneable" (some 0) with
  accessFlags := 1537
  interfaces := #[]
  cf := some (fileOf pool18 2 #[] #[] 1537 4 #[] #[])
  fields := #[]
  methods := #[]
  instanceTypes := #[]
  staticTypes := #[]
  resolved := Array.replicate 8 none
  statics := none }

/-- the primitive byte -/
def k19 : Class := { plain "byte" none with kind := .primitive 'B', accessFlags := 0x411 }
/-- [B -/
def k20 : Class := { plain "[B" (some 0) with kind := .array 19 .byte, interfaces := #[18, 2], accessFlags := 1041 }

/-- the primitive char -/
def k21 : Class := { plain "char" none with kind := .primitive 'C', accessFlags := 0x411 }
/-- [C -/
def k22 : Class := { plain "[C" (some 0) with kind := .array 21 .char, interfaces := #[18, 2], accessFlags := 1041 }

/-- the primitive int -/
def k23 : Class := { plain "int" none with kind := .primitive 'I', accessFlags := 0x411 }
/-- [I -/
def k24 : Class := { plain "[I" (some 0) with kind := .array 23 .int, interfaces := #[18, 2], accessFlags := 1041 }

def heap : Heap := #[{ cls := 7, slots := #[.long 0, .int 1, .null, .int 0, .null, .int 0, .int 0], vm := .statics 7 },
  { cls := 13, slots := #[.int 0, .int 8, .int 0, .int 1], vm := .statics 13 },
  { cls := 14, slots := #[.null, .null, .null], vm := .statics 14 }]
def classes : Array Class := #[k0, k1, k2, k3, k4, k5, k6, k7, k8, k9, k10, k11, k12, k13, k14, k15, k16, k17, k18, k19, k20, k21, k22, k23, k24]
def interned : List (Array UInt16 × Addr) := []
def slotsUsed : Nat := 14
def theMethod : MethodId := ⟨1, 4⟩
def args0 : Array Value := #[.int 5, .int 5, .int 5, .int 5]
def aboutOver (below : List Frame) : State where
  vm := { classes := classes, interned := interned.toArray }
  heap := heap
  slotsUsed := slotsUsed
  threads := #[{ frames := .invoking theMethod args0 :: below }]
def below0 : List Frame := [.native { method := ⟨0, 0⟩, args := #[] }]
def about1 : State := aboutOver below0
def p0 : Program := .bare "" "" ""
def e0 : Env := launch0.env 0 0 0
theorem w_frames : about1.frames = Frame.invoking theMethod args0 :: below0 := rfl
set_option maxRecDepth 65536 in
theorem w_args : argsFit about1.vm theMethod args0 = true := by decide +kernel
set_option maxRecDepth 65536 in
theorem w_heap : heapFits about1 = true := by decide +kernel
set_option maxRecDepth 65536 in
theorem w_runnable : about1.curStatus? = some .runnable := by decide +kernel
set_option maxRecDepth 65536 in
theorem w_alone : about1.alone = true := by decide +kernel
set_option maxRecDepth 65536 in
theorem w_named : about1.methodNamed? x = some theMethod := by decide +kernel
set_option maxRecDepth 65536 in
theorem w_hears : about1.hears theMethod below0 = true := by decide +kernel
set_option maxRecDepth 65536 in
theorem w_ripe : about1.ripe theMethod args0 below0 = true := by decide +kernel
theorem w_running : about1.status = .running := rfl
set_option maxRecDepth 65536 in
theorem w_room : about1.hasRoom e0.platform room_1 = true :=
  launch0.hasRoom_least _ room_1 (by decide +kernel) (by decide +kernel) (by decide +kernel) (by decide +kernel) (by decide +kernel) (by decide +kernel)
theorem allAtoms_all (ts : List Jvm.Cond) (a : Array Jvm.Value) (st : Jvm.State) : (allAtoms ts).before a st = ts.all (fun c => c.before a st) := by
  induction ts with
  | nil => rfl
  | cons c t ih =>
    show (Jvm.Cond.and c (allAtoms t)).before a st = _
    rw [Jvm.Cond.before_and, ih, List.all_cons]
def words1 : List Jvm.Cond := Jvm.Cond.code x code maxLocals ret :: tables_1
/-- a 'code' word, met by the world's own term for the bytes: nothing is compared byte by byte -/
theorem code_word {y : MethodName} {bytes : ByteArray} {mx : Nat} {rt : Option FieldType} {a : Array Value} {s : State} {m : MethodId} {meth : Method} {c : Code} (h1 : s.methodNamed? y = some m) (h2 : s.vm.method? m = some meth) (h3 : meth.code = some c) (h4 : c.code = bytes)
    (h5 : (c.maxLocals == mx && c.exceptionTable.isEmpty && decide (c.maxStack ≤ mostOperands) && decide (meth.sig.returnType = rt) && !meth.locks && decide (parseMethodDescriptor y.desc = some meth.sig)) = true) : (Jvm.Cond.code y bytes mx rt).before a s = true := by
  simp only [Bool.and_eq_true, beq_iff_eq, Bool.not_eq_true', decide_eq_true_eq] at h5
  obtain ⟨⟨⟨⟨⟨g1, g2⟩, g3⟩, g4⟩, g5⟩, g6⟩ := h5
  simp [Cond.before, Cond.holds, Cond.value, h1, h2, h3, h4, g1, g2, g3, g4, g5, g6]
def isCode : Jvm.Cond → Bool
  | .code _ _ _ _ => true
  | _ => false
theorem all_split {L : List Jvm.Cond} {P : Jvm.Cond → Bool} (h1 : L.all (fun c => isCode c || P c) = true) (h2 : ∀ c ∈ L.filter isCode, P c = true) : L.all P = true := by
  refine List.all_eq_true.mpr fun c hc => ?_
  have h := List.all_eq_true.mp h1 c hc
  rcases Bool.eq_false_or_eq_true (isCode c) with hi | hi
  · exact h2 c (List.mem_filter.mpr ⟨hc, hi⟩)
  · simpa [hi] using h
set_option maxRecDepth 65536 in
theorem w_c0 : (Jvm.Cond.code x code maxLocals ret).before args0 about1 = true := code_word (m := ⟨1, 4⟩) (meth := k1m4) (c := k1c4) (by decide +kernel) rfl rfl rfl (by decide +kernel)
set_option maxRecDepth 65536 in
theorem w_c1 : (Jvm.Cond.code ({ cls := "com/example/abeyance/abeyance/model/Utf8Reader", name := "malformedByte", desc := "(Ljava/lang/CharSequence;)I" } : Jvm.MethodName) prog_13_method_2_code (2 : Nat) (Option.some Jvm.ClassFile.FieldType.int)).before args0 about1 = true := code_word (m := ⟨12, 0⟩) (meth := k12m0) (c := k12c0) (by decide +kernel) rfl rfl rfl (by decide +kernel)
set_option maxRecDepth 65536 in
theorem w_c2 : (Jvm.Cond.code ({ cls := "com/example/abeyance/abeyance/model/Utf8Reader", name := "malformedAt", desc := "(Ljava/lang/CharSequence;)I" } : Jvm.MethodName) prog_13_method_3_code (3 : Nat) (Option.some Jvm.ClassFile.FieldType.int)).before args0 about1 = true := code_word (m := ⟨12, 1⟩) (meth := k12m1) (c := k12c1) (by decide +kernel) rfl rfl rfl (by decide +kernel)
set_option maxRecDepth 65536 in
theorem w_c3 : (Jvm.Cond.code ({ cls := "java/lang/String", name := "length", desc := "()I" } : Jvm.MethodName) jdk_42_method_54_code (1 : Nat) (Option.some Jvm.ClassFile.FieldType.int)).before args0 about1 = true := code_word (m := ⟨7, 2⟩) (meth := k7m2) (c := k7c2) (by decide +kernel) rfl rfl rfl (by decide +kernel)
set_option maxRecDepth 65536 in
theorem w_c4 : (Jvm.Cond.code ({ cls := "java/lang/String", name := "coder", desc := "()B" } : Jvm.MethodName) jdk_42_method_152_code (1 : Nat) (Option.some Jvm.ClassFile.FieldType.byte)).before args0 about1 = true := code_word (m := ⟨7, 5⟩) (meth := k7m5) (c := k7c5) (by decide +kernel) rfl rfl rfl (by decide +kernel)
set_option maxRecDepth 65536 in
theorem w_c5 : (Jvm.Cond.code ({ cls := "com/example/abeyance/abeyance/model/Utf8ReaderMalformedBytePinLaw", name := "put", desc := "([CII)V" } : Jvm.MethodName) method_3_code (6 : Nat) (Option.none : Option Jvm.ClassFile.FieldType)).before args0 about1 = true := code_word (m := ⟨1, 2⟩) (meth := k1m2) (c := k1c2) (by decide +kernel) rfl rfl rfl (by decide +kernel)
set_option maxRecDepth 65536 in
theorem w_c6 : (Jvm.Cond.code ({ cls := "com/example/abeyance/abeyance/model/Utf8ReaderMalformedBytePinLaw", name := "plain", desc := "(I)C" } : Jvm.MethodName) method_2_code (1 : Nat) (Option.some Jvm.ClassFile.FieldType.char)).before args0 about1 = true := code_word (m := ⟨1, 1⟩) (meth := k1m1) (c := k1c1) (by decide +kernel) rfl rfl rfl (by decide +kernel)
set_option maxRecDepth 65536 in
theorem w_c7 : (Jvm.Cond.code ({ cls := "com/example/abeyance/abeyance/model/Utf8ReaderMalformedBytePinLaw", name := "expect", desc := "(I)I" } : Jvm.MethodName) method_4_code (2 : Nat) (Option.some Jvm.ClassFile.FieldType.int)).before args0 about1 = true := code_word (m := ⟨1, 3⟩) (meth := k1m3) (c := k1c3) (by decide +kernel) rfl rfl rfl (by decide +kernel)
set_option maxRecDepth 65536 in
theorem w_c8 : (Jvm.Cond.code ({ cls := "java/lang/String", name := "<init>", desc := "([C)V" } : Jvm.MethodName) jdk_42_method_3_code (2 : Nat) (Option.none : Option Jvm.ClassFile.FieldType)).before args0 about1 = true := code_word (m := ⟨7, 1⟩) (meth := k7m1) (c := k7c1) (by decide +kernel) rfl rfl rfl (by decide +kernel)
set_option maxRecDepth 65536 in
theorem w_c9 : (Jvm.Cond.code ({ cls := "java/lang/String", name := "<init>", desc := "([CIILjava/lang/Void;)V" } : Jvm.MethodName) jdk_42_method_149_code (6 : Nat) (Option.none : Option Jvm.ClassFile.FieldType)).before args0 about1 = true := code_word (m := ⟨7, 4⟩) (meth := k7m4) (c := k7c4) (by decide +kernel) rfl rfl rfl (by decide +kernel)
set_option maxRecDepth 65536 in
theorem w_c10 : (Jvm.Cond.code ({ cls := "java/lang/Object", name := "<init>", desc := "()V" } : Jvm.MethodName) object_method_1_code (1 : Nat) (Option.none : Option Jvm.ClassFile.FieldType)).before args0 about1 = true := code_word (m := ⟨0, 0⟩) (meth := k0m0) (c := k0c0) (by decide +kernel) rfl rfl rfl (by decide +kernel)
set_option maxRecDepth 65536 in
theorem w_c11 : (Jvm.Cond.code ({ cls := "java/lang/StringUTF16", name := "compress", desc := "([CII)[B" } : Jvm.MethodName) jdk_52_method_16_code (6 : Nat) (Option.some (Jvm.ClassFile.FieldType.array Jvm.ClassFile.FieldType.byte))).before args0 about1 = true := code_word (m := ⟨13, 8⟩) (meth := k13m8) (c := k13c8) (by decide +kernel) rfl rfl rfl (by decide +kernel)
set_option maxRecDepth 65536 in
theorem w_c12 : (Jvm.Cond.code ({ cls := "java/lang/StringUTF16", name := "compress", desc := "([CI[BII)I" } : Jvm.MethodName) jdk_52_method_21_code (7 : Nat) (Option.some Jvm.ClassFile.FieldType.int)).before args0 about1 = true := code_word (m := ⟨13, 9⟩) (meth := k13m9) (c := k13c9) (by decide +kernel) rfl rfl rfl (by decide +kernel)
set_option maxRecDepth 65536 in
theorem w_c13 : (Jvm.Cond.code ({ cls := "java/lang/StringUTF16", name := "toBytes", desc := "([CII)[B" } : Jvm.MethodName) jdk_52_method_14_code (5 : Nat) (Option.some (Jvm.ClassFile.FieldType.array Jvm.ClassFile.FieldType.byte))).before args0 about1 = true := code_word (m := ⟨13, 6⟩) (meth := k13m6) (c := k13c6) (by decide +kernel) rfl rfl rfl (by decide +kernel)
set_option maxRecDepth 65536 in
theorem w_c14 : (Jvm.Cond.code ({ cls := "java/lang/StringUTF16", name := "newBytesFor", desc := "(I)[B" } : Jvm.MethodName) jdk_52_method_2_code (1 : Nat) (Option.some (Jvm.ClassFile.FieldType.array Jvm.ClassFile.FieldType.byte))).before args0 about1 = true := code_word (m := ⟨13, 1⟩) (meth := k13m1) (c := k13c1) (by decide +kernel) rfl rfl rfl (by decide +kernel)
set_option maxRecDepth 65536 in
theorem w_c15 : (Jvm.Cond.code ({ cls := "java/lang/StringUTF16", name := "newBytesLength", desc := "(I)I" } : Jvm.MethodName) jdk_52_method_3_code (1 : Nat) (Option.some Jvm.ClassFile.FieldType.int)).before args0 about1 = true := code_word (m := ⟨13, 2⟩) (meth := k13m2) (c := k13c2) (by decide +kernel) rfl rfl rfl (by decide +kernel)
set_option maxRecDepth 65536 in
theorem w_c16 : (Jvm.Cond.code ({ cls := "java/lang/StringUTF16", name := "putChar", desc := "([BII)V" } : Jvm.MethodName) jdk_52_method_4_code (3 : Nat) (Option.none : Option Jvm.ClassFile.FieldType)).before args0 about1 = true := code_word (m := ⟨13, 3⟩) (meth := k13m3) (c := k13c3) (by decide +kernel) rfl rfl rfl (by decide +kernel)
set_option maxRecDepth 65536 in
theorem w_c17 : (Jvm.Cond.code ({ cls := "java/lang/StringUTF16", name := "getChar", desc := "([BI)C" } : Jvm.MethodName) jdk_52_method_5_code (2 : Nat) (Option.some Jvm.ClassFile.FieldType.char)).before args0 about1 = true := code_word (m := ⟨13, 4⟩) (meth := k13m4) (c := k13c4) (by decide +kernel) rfl rfl rfl (by decide +kernel)
set_option maxRecDepth 65536 in
theorem w_c18 : (Jvm.Cond.code ({ cls := "java/lang/StringUTF16", name := "coderFromArrayLen", desc := "([BI)B" } : Jvm.MethodName) jdk_52_method_15_code (2 : Nat) (Option.some Jvm.ClassFile.FieldType.byte)).before args0 about1 = true := code_word (m := ⟨13, 7⟩) (meth := k13m7) (c := k13c7) (by decide +kernel) rfl rfl rfl (by decide +kernel)
set_option maxRecDepth 65536 in
theorem w_c19 : (Jvm.Cond.code ({ cls := "java/lang/String", name := "charAt", desc := "(I)C" } : Jvm.MethodName) jdk_42_method_56_code (2 : Nat) (Option.some Jvm.ClassFile.FieldType.char)).before args0 about1 = true := code_word (m := ⟨7, 3⟩) (meth := k7m3) (c := k7c3) (by decide +kernel) rfl rfl rfl (by decide +kernel)
set_option maxRecDepth 65536 in
theorem w_c20 : (Jvm.Cond.code ({ cls := "java/lang/String", name := "isLatin1", desc := "()Z" } : Jvm.MethodName) jdk_42_method_154_code (1 : Nat) (Option.some Jvm.ClassFile.FieldType.boolean)).before args0 about1 = true := code_word (m := ⟨7, 6⟩) (meth := k7m6) (c := k7c6) (by decide +kernel) rfl rfl rfl (by decide +kernel)
set_option maxRecDepth 65536 in
theorem w_c21 : (Jvm.Cond.code ({ cls := "java/lang/StringUTF16", name := "charAt", desc := "([BI)C" } : Jvm.MethodName) jdk_52_method_83_code (2 : Nat) (Option.some Jvm.ClassFile.FieldType.char)).before args0 about1 = true := code_word (m := ⟨13, 10⟩) (meth := k13m10) (c := k13c10) (by decide +kernel) rfl rfl rfl (by decide +kernel)
set_option maxRecDepth 65536 in
theorem w_c22 : (Jvm.Cond.code ({ cls := "java/lang/StringUTF16", name := "checkIndex", desc := "(I[B)V" } : Jvm.MethodName) jdk_52_method_91_code (2 : Nat) (Option.none : Option Jvm.ClassFile.FieldType)).before args0 about1 = true := code_word (m := ⟨13, 11⟩) (meth := k13m11) (c := k13c11) (by decide +kernel) rfl rfl rfl (by decide +kernel)
set_option maxRecDepth 65536 in
theorem w_c23 : (Jvm.Cond.code ({ cls := "java/lang/StringUTF16", name := "length", desc := "([B)I" } : Jvm.MethodName) jdk_52_method_6_code (1 : Nat) (Option.some Jvm.ClassFile.FieldType.int)).before args0 about1 = true := code_word (m := ⟨13, 5⟩) (meth := k13m5) (c := k13c5) (by decide +kernel) rfl rfl rfl (by decide +kernel)
set_option maxRecDepth 65536 in
theorem w_c24 : (Jvm.Cond.code ({ cls := "java/lang/String", name := "checkIndex", desc := "(II)V" } : Jvm.MethodName) jdk_42_method_155_code (2 : Nat) (Option.none : Option Jvm.ClassFile.FieldType)).before args0 about1 = true := code_word (m := ⟨7, 7⟩) (meth := k7m7) (c := k7c7) (by decide +kernel) rfl rfl rfl (by decide +kernel)
set_option maxRecDepth 65536 in
theorem w_c25 : (Jvm.Cond.code ({ cls := "jdk/internal/util/Preconditions", name := "checkIndex", desc := "(IILjava/util/function/BiFunction;)I" } : Jvm.MethodName) jdk_41_method_11_code (3 : Nat) (Option.some Jvm.ClassFile.FieldType.int)).before args0 about1 = true := code_word (m := ⟨14, 1⟩) (meth := k14m1) (c := k14c1) (by decide +kernel) rfl rfl rfl (by decide +kernel)
set_option maxRecDepth 65536 in
theorem w_c26 : (Jvm.Cond.code ({ cls := "java/lang/Character", name := "isHighSurrogate", desc := "(C)Z" } : Jvm.MethodName) jdk_89_method_14_code (1 : Nat) (Option.some Jvm.ClassFile.FieldType.boolean)).before args0 about1 = true := code_word (m := ⟨15, 0⟩) (meth := k15m0) (c := k15c0) (by decide +kernel) rfl rfl rfl (by decide +kernel)
set_option maxRecDepth 65536 in
theorem w_c27 : (Jvm.Cond.code ({ cls := "java/lang/Character", name := "isLowSurrogate", desc := "(C)Z" } : Jvm.MethodName) jdk_89_method_15_code (1 : Nat) (Option.some Jvm.ClassFile.FieldType.boolean)).before args0 about1 = true := code_word (m := ⟨15, 1⟩) (meth := k15m1) (c := k15c1) (by decide +kernel) rfl rfl rfl (by decide +kernel)
set_option maxRecDepth 65536 in
theorem w_c28 : (Jvm.Cond.code ({ cls := "com/example/abeyance/abeyance/model/Utf8Reader", name := "byteAt", desc := "(Ljava/lang/CharSequence;I)I" } : Jvm.MethodName) prog_13_method_4_code (2 : Nat) (Option.some Jvm.ClassFile.FieldType.int)).before args0 about1 = true := code_word (m := ⟨12, 2⟩) (meth := k12m2) (c := k12c2) (by decide +kernel) rfl rfl rfl (by decide +kernel)
set_option maxRecDepth 65536 in
theorem w_c29 : (Jvm.Cond.code ({ cls := "java/lang/StringLatin1", name := "charAt", desc := "([BI)C" } : Jvm.MethodName) jdk_43_method_2_code (2 : Nat) (Option.some Jvm.ClassFile.FieldType.char)).before args0 about1 = true := code_word (m := ⟨16, 1⟩) (meth := k16m1) (c := k16c1) (by decide +kernel) rfl rfl rfl (by decide +kernel)
def codes1 : List Jvm.Cond := [Jvm.Cond.code x code maxLocals ret, Jvm.Cond.code ({ cls := "com/example/abeyance/abeyance/model/Utf8Reader", name := "malformedByte", desc := "(Ljava/lang/CharSequence;)I" } : Jvm.MethodName) prog_13_method_2_code (2 : Nat) (Option.some Jvm.ClassFile.FieldType.int), Jvm.Cond.code ({ cls := "com/example/abeyance/abeyance/model/Utf8Reader", name := "malformedAt", desc := "(Ljava/lang/CharSequence;)I" } : Jvm.MethodName) prog_13_method_3_code (3 : Nat) (Option.some Jvm.ClassFile.FieldType.int), Jvm.Cond.code ({ cls := "java/lang/String", name := "length", desc := "()I" } : Jvm.MethodName) jdk_42_method_54_code (1 : Nat) (Option.some Jvm.ClassFile.FieldType.int), Jvm.Cond.code ({ cls := "java/lang/String", name := "coder", desc := "()B" } : Jvm.MethodName) jdk_42_method_152_code (1 : Nat) (Option.some Jvm.ClassFile.FieldType.byte), Jvm.Cond.code ({ cls := "com/example/abeyance/abeyance/model/Utf8ReaderMalformedBytePinLaw", name := "put", desc := "([CII)V" } : Jvm.MethodName) method_3_code (6 : Nat) (Option.none : Option Jvm.ClassFile.FieldType), Jvm.Cond.code ({ cls := "com/example/abeyance/abeyance/model/Utf8ReaderMalformedBytePinLaw", name := "plain", desc := "(I)C" } : Jvm.MethodName) method_2_code (1 : Nat) (Option.some Jvm.ClassFile.FieldType.char), Jvm.Cond.code ({ cls := "com/example/abeyance/abeyance/model/Utf8ReaderMalformedBytePinLaw", name := "expect", desc := "(I)I" } : Jvm.MethodName) method_4_code (2 : Nat) (Option.some Jvm.ClassFile.FieldType.int), Jvm.Cond.code ({ cls := "java/lang/String", name := "<init>", desc := "([C)V" } : Jvm.MethodName) jdk_42_method_3_code (2 : Nat) (Option.none : Option Jvm.ClassFile.FieldType), Jvm.Cond.code ({ cls := "java/lang/String", name := "<init>", desc := "([CIILjava/lang/Void;)V" } : Jvm.MethodName) jdk_42_method_149_code (6 : Nat) (Option.none : Option Jvm.ClassFile.FieldType), Jvm.Cond.code ({ cls := "java/lang/Object", name := "<init>", desc := "()V" } : Jvm.MethodName) object_method_1_code (1 : Nat) (Option.none : Option Jvm.ClassFile.FieldType), Jvm.Cond.code ({ cls := "java/lang/StringUTF16", name := "compress", desc := "([CII)[B" } : Jvm.MethodName) jdk_52_method_16_code (6 : Nat) (Option.some (Jvm.ClassFile.FieldType.array Jvm.ClassFile.FieldType.byte)), Jvm.Cond.code ({ cls := "java/lang/StringUTF16", name := "compress", desc := "([CI[BII)I" } : Jvm.MethodName) jdk_52_method_21_code (7 : Nat) (Option.some Jvm.ClassFile.FieldType.int), Jvm.Cond.code ({ cls := "java/lang/StringUTF16", name := "toBytes", desc := "([CII)[B" } : Jvm.MethodName) jdk_52_method_14_code (5 : Nat) (Option.some (Jvm.ClassFile.FieldType.array Jvm.ClassFile.FieldType.byte)), Jvm.Cond.code ({ cls := "java/lang/StringUTF16", name := "newBytesFor", desc := "(I)[B" } : Jvm.MethodName) jdk_52_method_2_code (1 : Nat) (Option.some (Jvm.ClassFile.FieldType.array Jvm.ClassFile.FieldType.byte)), Jvm.Cond.code ({ cls := "java/lang/StringUTF16", name := "newBytesLength", desc := "(I)I" } : Jvm.MethodName) jdk_52_method_3_code (1 : Nat) (Option.some Jvm.ClassFile.FieldType.int), Jvm.Cond.code ({ cls := "java/lang/StringUTF16", name := "putChar", desc := "([BII)V" } : Jvm.MethodName) jdk_52_method_4_code (3 : Nat) (Option.none : Option Jvm.ClassFile.FieldType), Jvm.Cond.code ({ cls := "java/lang/StringUTF16", name := "getChar", desc := "([BI)C" } : Jvm.MethodName) jdk_52_method_5_code (2 : Nat) (Option.some Jvm.ClassFile.FieldType.char), Jvm.Cond.code ({ cls := "java/lang/StringUTF16", name := "coderFromArrayLen", desc := "([BI)B" } : Jvm.MethodName) jdk_52_method_15_code (2 : Nat) (Option.some Jvm.ClassFile.FieldType.byte), Jvm.Cond.code ({ cls := "java/lang/String", name := "charAt", desc := "(I)C" } : Jvm.MethodName) jdk_42_method_56_code (2 : Nat) (Option.some Jvm.ClassFile.FieldType.char), Jvm.Cond.code ({ cls := "java/lang/String", name := "isLatin1", desc := "()Z" } : Jvm.MethodName) jdk_42_method_154_code (1 : Nat) (Option.some Jvm.ClassFile.FieldType.boolean), Jvm.Cond.code ({ cls := "java/lang/StringUTF16", name := "charAt", desc := "([BI)C" } : Jvm.MethodName) jdk_52_method_83_code (2 : Nat) (Option.some Jvm.ClassFile.FieldType.char), Jvm.Cond.code ({ cls := "java/lang/StringUTF16", name := "checkIndex", desc := "(I[B)V" } : Jvm.MethodName) jdk_52_method_91_code (2 : Nat) (Option.none : Option Jvm.ClassFile.FieldType), Jvm.Cond.code ({ cls := "java/lang/StringUTF16", name := "length", desc := "([B)I" } : Jvm.MethodName) jdk_52_method_6_code (1 : Nat) (Option.some Jvm.ClassFile.FieldType.int), Jvm.Cond.code ({ cls := "java/lang/String", name := "checkIndex", desc := "(II)V" } : Jvm.MethodName) jdk_42_method_155_code (2 : Nat) (Option.none : Option Jvm.ClassFile.FieldType), Jvm.Cond.code ({ cls := "jdk/internal/util/Preconditions", name := "checkIndex", desc := "(IILjava/util/function/BiFunction;)I" } : Jvm.MethodName) jdk_41_method_11_code (3 : Nat) (Option.some Jvm.ClassFile.FieldType.int), Jvm.Cond.code ({ cls := "java/lang/Character", name := "isHighSurrogate", desc := "(C)Z" } : Jvm.MethodName) jdk_89_method_14_code (1 : Nat) (Option.some Jvm.ClassFile.FieldType.boolean), Jvm.Cond.code ({ cls := "java/lang/Character", name := "isLowSurrogate", desc := "(C)Z" } : Jvm.MethodName) jdk_89_method_15_code (1 : Nat) (Option.some Jvm.ClassFile.FieldType.boolean), Jvm.Cond.code ({ cls := "com/example/abeyance/abeyance/model/Utf8Reader", name := "byteAt", desc := "(Ljava/lang/CharSequence;I)I" } : Jvm.MethodName) prog_13_method_4_code (2 : Nat) (Option.some Jvm.ClassFile.FieldType.int), Jvm.Cond.code ({ cls := "java/lang/StringLatin1", name := "charAt", desc := "([BI)C" } : Jvm.MethodName) jdk_43_method_2_code (2 : Nat) (Option.some Jvm.ClassFile.FieldType.char)]
set_option maxRecDepth 65536 in
theorem codes_eq : words1.filter isCode = codes1 := rfl
theorem w_codes : ∀ c ∈ words1.filter isCode, c.before args0 about1 = true := by
  rw [codes_eq]
  intro c hc
  simp only [codes1, List.mem_cons, List.not_mem_nil, or_false] at hc
  rcases hc with rfl | rfl | rfl | rfl | rfl | rfl | rfl | rfl | rfl | rfl | rfl | rfl | rfl | rfl | rfl | rfl | rfl | rfl | rfl | rfl | rfl | rfl | rfl | rfl | rfl | rfl | rfl | rfl | rfl | rfl
  · exact w_c0
  · exact w_c1
  · exact w_c2
  · exact w_c3
  · exact w_c4
  · exact w_c5
  · exact w_c6
  · exact w_c7
  · exact w_c8
  · exact w_c9
  · exact w_c10
  · exact w_c11
  · exact w_c12
  · exact w_c13
  · exact w_c14
  · exact w_c15
  · exact w_c16
  · exact w_c17
  · exact w_c18
  · exact w_c19
  · exact w_c20
  · exact w_c21
  · exact w_c22
  · exact w_c23
  · exact w_c24
  · exact w_c25
  · exact w_c26
  · exact w_c27
  · exact w_c28
  · exact w_c29
set_option maxRecDepth 65536 in
theorem w_t1 : (words1.take 24).all (fun c => isCode c || c.before args0 about1) = true := by decide +kernel
set_option maxRecDepth 65536 in
theorem w_t2 : ((words1.drop 24).take 24).all (fun c => isCode c || c.before args0 about1) = true := by decide +kernel
set_option maxRecDepth 65536 in
theorem w_t3 : (((words1.drop 24).drop 24).take 24).all (fun c => isCode c || c.before args0 about1) = true := by decide +kernel
set_option maxRecDepth 65536 in
theorem w_t4 : ((((words1.drop 24).drop 24).drop 24).take 24).all (fun c => isCode c || c.before args0 about1) = true := by decide +kernel
set_option maxRecDepth 65536 in
theorem w_t5 : (((((words1.drop 24).drop 24).drop 24).drop 24).take 24).all (fun c => isCode c || c.before args0 about1) = true := by decide +kernel
set_option maxRecDepth 65536 in
theorem w_t6 : (((((words1.drop 24).drop 24).drop 24).drop 24).drop 24).all (fun c => isCode c || c.before args0 about1) = true := by decide +kernel
theorem w_tables : (allAtoms (Jvm.Cond.code x code maxLocals ret :: tables_1)).before args0 about1 = true := by
  rw [allAtoms_all]
  show words1.all (fun c => c.before args0 about1) = true
  refine all_split ?_ w_codes
  rw [← List.take_append_drop 24 words1, List.all_append, w_t1, ← List.take_append_drop 24 (words1.drop 24), List.all_append, w_t2, ← List.take_append_drop 24 ((words1.drop 24).drop 24), List.all_append, w_t3, ← List.take_append_drop 24 (((words1.drop 24).drop 24).drop 24), List.all_append, w_t4, ← List.take_append_drop 24 ((((words1.drop 24).drop 24).drop 24).drop 24), List.all_append, w_t5, w_t6]
  rfl
set_option maxRecDepth 65536 in
theorem w_rest : rest_1_c.before args0 about1 = true := by decide +kernel
set_option maxRecDepth 65536 in
theorem w_case : (Jvm.Cond.and given_1 narrow_1).before args0 about1 = true := by decide +kernel
set_option maxRecDepth 65536 in
theorem w_consts : constsHeld consts_1 about1 := Jvm.Lit.constsHeldB_iff.mp (by decide +kernel)
theorem w_applies : (headSpec (Jvm.Cond.code x code maxLocals ret :: tables_1) room_1).applies x e0.platform about1 = true :=
  (Spec.applies_iff w_frames).mpr ⟨w_running, w_runnable, w_alone, w_named, w_hears, w_ripe, w_room, w_tables⟩
theorem atStart : AtStart classFile x code maxLocals ret World_1 tables_1 room_1 Calls_1 rest_1 Pre_1 launch0 p0 e0 about1 theMethod args0 below0 :=
  ⟨lists_1, trivial, launch0.admits_env _ _ _, launch0.least_env, fairChoices_fair.cas, fairChoices_fair.clock, w_frames, w_args, w_heap, w_applies, ⟨w_consts, trivial⟩, w_rest, w_case⟩
end start1
theorem witness_1 : WitnessClaimed_1 := ⟨start1.p0, start1.e0, start1.about1, start1.theMethod, start1.args0, start1.below0, start1.atStart⟩
end Jvm.Pilot.@@N@@
