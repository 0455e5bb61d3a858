import JvmDerived
import JvmDerived.Pilot.@@N@@Statement
import JvmDerived.Pilot.@@N@@Code
set_option linter.unusedVariables false
set_option linter.unusedSimpArgs false
namespace Jvm.RoadKit
open Sem ClassFile Op Lib Jvm.Stand Jvm.Free Jvm.LawKit
section New
variable {p : Program} {l : Launch} {e : Env} {R : Room} {s : State} {m : MethodId} {args : Array Value} {below : List Frame} {meth : Method} {c : Code} {T : State} {locs : List Loc} {cells slots : Nat}
theorem retI (X : Stand p l e R s m args below meth c T locs cells slots) (hx : p.tables.exec = Jvm.exec) {pc : Nat} {Ls : Array Slot} {z : Int32} {rest : List Value} (hret : meth.sig.returnType = some .int) (hd : decode c.code pc = .ok (.ireturn, 1)) {fs : List Frame}
    (hl : ∀ (f : JFrame) (acts : List Action), f.method = m → f.locked = none → f.entered = [] → (doReturn e (T.setTop f) acts (some (.int z))).1 = T.setFrames fs) : Steps p.tables e below (T.setTop (mkF m pc Ls (.int z :: rest))) (T.setFrames fs) := by
  have hm' : T.vm.method? m = some meth := X.method'
  have hn : narrow .int (.int z) = .int z := rfl
  show Steps p.tables e below (T.setTop { method := m, pc := pc, locals := Ls, stack := _ :: rest, locked := none }) _
  jvm_step X.here [X.here.top, hx, hd, hm', hret, hn]
  first | (intro acts; rw [hl _ acts rfl rfl rfl]) | rw [hl _ _ rfl rfl rfl]
  exact Steps.refl _
theorem seg (X : Stand p l e R s m args below meth c T locs cells slots) (P : State → Prop) (h : ∃ T', Stand p l e R s m args below meth c T' locs cells slots ∧ P T') : ∃ T', Stand p l e R s m args below meth c T' locs cells slots ∧ P T' := h
/-- int to char -/
def i2c (x : Int32) : Int32 := x.toUInt32.toUInt16.toUInt32.toInt32
/-- int to byte -/
def own_lo (x : Int32) : Int32 := x.toInt8.toInt32
/-- the unsigned shift of an int -/
def ushr (x y : Int32) : Int32 := (x.toUInt32 >>> (y &&& 31).toUInt32).toInt32
/-- the unsigned shift of a long -/
def ushrJ (x : Int64) (y : Int32) : Int64 := (x.toUInt64 >>> (y &&& 0x3f).toInt64.toUInt64).toInt64
end New
end Jvm.RoadKit
namespace Jvm.Pilot.@@N@@
open Jvm Jvm.ClassFile Sem Op Lib Jvm.Free Jvm.Stand Jvm.LawKit Jvm.RoadKit Bundle Jvm.Pilot.@@N@@.Jvm.D
theorem own_neN {a b : Addr} (h : @Ne Nat a b) : ¬ (a = b) := h
theorem own_arvne {Z : State} {h : Heap} {a b : Addr} {k k' : ClassId} {ty ty' : FieldType} {z z' : Int32} {vs vs' : List Value} {d d' : Value} (F : Arv Z h a k ty z vs d) (G : Arv Z h b k' ty' z' vs' d') (hn : ty ≠ ty') : a ≠ b := fun q => by
  subst q
  obtain ⟨c1, ⟨e1, ⟨-, k1, hk1, comp1, h1⟩, -⟩, -⟩ := F
  obtain ⟨c2, ⟨e2, ⟨-, k2, hk2, comp2, h2⟩, -⟩, -⟩ := G
  cases e1.symm.trans e2
  cases hk1.symm.trans hk2
  have := h1.symm.trans h2
  injection this with _ e
  exact hn e
theorem own_narb {q : Prop} [Decidable q] : nar .boolean (if q then (1 : Int32) else (0 : Int32)) = (if q then (1 : Int32) else (0 : Int32)) := by split <;> rfl
theorem own_declares {Z : State} {a0 : Array Value} {y : MethodName} {bytes : ByteArray} {mx : Nat} {r : Option FieldType} (w1 : (Jvm.Cond.instanceMethod y).before a0 Z = true) (w2 : (Jvm.Cond.code y bytes mx r).before a0 Z = true) : (Jvm.Cond.declares y).before a0 Z = true := by
  obtain ⟨mk, meth, h1, h2, h3, -⟩ := Cond.instanceMethod_spec w1
  obtain ⟨meth', c, q1, -, -, -, -, -, -, q2⟩ := Cond.code_spec h1 w2
  cases h2.symm.trans q1
  simp [Cond.before, Cond.holds, Cond.value, h1, h2, h3, q2]
/-- the class of a method that an object selects is no interface -/
theorem own_nf {Z : State} {a0 : Array Value} {y z : MethodName} {C : String} (hz : z.cls = y.cls) (w : (Jvm.Cond.selects C z z).before a0 Z = true) : ∀ r, Z.methodNamed? y = some r → ∃ k, Z.vm.classes[r.cls]? = some k ∧ k.isInterface = false := fun r hr => by
  obtain ⟨c, r2, m2, -, -, q3, -, kP, hkP, hkPi⟩ := Cond.selects_spec w
  have h1 := findClass_of_methodNamed q3
  have h2 := findClass_of_methodNamed hr
  rw [hz, h2] at h1
  rw [Option.some.inj h1]
  exact ⟨kP, hkP, hkPi⟩
/-- a method that its class declares itself is the one that the look-up finds -/
theorem own_same {Z : State} {a0 : Array Value} {y : MethodName} (w1 : (Jvm.Cond.instanceMethod y).before a0 Z = true) (w2 : ∀ r, Z.methodNamed? y = some r → ∃ k, Z.vm.classes[r.cls]? = some k ∧ k.isInterface = false) (hy : y.cls ≠ "java/lang/invoke/MethodHandle" ∧ y.cls ≠ "java/lang/invoke/VarHandle") : (Jvm.Cond.sameMethod y.cls y.cls y.name y.desc).before a0 Z = true := by
  obtain ⟨mk, meth, h1, -⟩ := Cond.instanceMethod_spec w1
  have hc := findClass_of_methodNamed h1
  obtain ⟨k, hk, hi⟩ := w2 mk h1
  have hf := State.methodFound?_of_named h1 hy
  have hk' : Z.vm.classes[mk.cls]? = some k := hk
  simp [Cond.before, Cond.holds, Cond.value, hc, hf, h1, hk', hi]
theorem own_ti {n : Nat} (h : n ≤ 8000) : (Int32.ofNat n).toInt = n := Int32.toInt_ofNat_of_lt (by omega)
theorem own_tn {n : Nat} (h : n ≤ 8000) : (Int32.ofNat n).toNatClampNeg = n := by
  rw [Int32.toNatClampNeg, own_ti h]; omega
theorem own_lt {i n : Nat} (h : i < n) (hn : n ≤ 8000) : (Int32.ofNat i) < (Int32.ofNat n) := by
  rw [Int32.lt_iff_toInt_lt, own_ti (by omega), own_ti hn]; omega
theorem own_nlt {i n : Nat} (h : n ≤ i) (hn : i ≤ 8000) : ¬ ((Int32.ofNat i) < (Int32.ofNat n)) := by
  rw [Int32.lt_iff_toInt_lt, own_ti hn, own_ti (by omega : n ≤ 8000)]; omega
theorem own_nn {n : Nat} (h : n ≤ 8000) : ¬ ((Int32.ofNat n) < (0 : Int32)) := by
  rw [Int32.lt_iff_toInt_lt, own_ti h]
  show ¬ ((n : Int) < 0)
  omega
theorem own_inj {i n : Nat} (h : i ≤ 8000) (hn : n ≤ 8000) (e : Int32.ofNat i = Int32.ofNat n) : i = n := by
  have := congrArg Int32.toInt e
  rw [own_ti h, own_ti hn] at this; omega
theorem own_up (k : Nat) : Int32.ofNat (k + 1) = Int32.ofNat k + (1 : Int32) := Int32.ofNat_add k 1
theorem own_in {i n : Nat} (h : i < n) (hn : n ≤ 8000) : ¬ (Int32.ofNat i) < 0 ∧ (Int32.ofNat i) < (Int32.ofNat n) := ⟨own_nn (by omega), own_lt h hn⟩
theorem own_eqI {z w : Int32} (h : z.toInt = w.toInt) : z = w := Int32.toInt_inj.mp h
theorem own_shl1 {n : Nat} (h : n ≤ 4000) : (Int32.ofNat n) <<< ((1 : Int32) &&& 31) = Int32.ofNat (2 * n) := by
  apply own_eqI
  have h1 := c_ishl (Int32.ofNat n) 1 1 (by decide)
  rw [own_ti (by omega)] at h1
  rw [own_ti (by omega : 2 * n ≤ 8000)]
  have := rng32 ((Int32.ofNat n) <<< ((1 : Int32) &&& 31))
  omega
theorem own_shr1 {n : Nat} (h : n ≤ 4000) : (Int32.ofNat (2 * n)) >>> ((1 : Int32) &&& 31) = Int32.ofNat n := by
  apply own_eqI
  rw [c_ishr (Int32.ofNat (2 * n)) 1 1 (by decide), own_ti (by omega : 2 * n ≤ 8000), own_ti (by omega)]
  omega
theorem own_shr0 (z : Int32) : z >>> ((0 : Int32) &&& 31) = z := by
  apply own_eqI
  rw [c_ishr z 0 0 (by decide)]; simp
def own_mix {α : Type} (ys vs : List α) (j : Nat) : List α := ys.take j ++ vs.drop j
theorem own_mix0 {α : Type} (ys vs : List α) : own_mix ys vs 0 = vs := by simp [own_mix]
theorem own_mixn {α : Type} (ys vs : List α) (n : Nat) (h : ys.length = n) (h2 : vs.length = n) : own_mix ys vs n = ys := by
  simp [own_mix, ← h, ← h2]
  omega
theorem own_mixl {α : Type} (ys vs : List α) (j : Nat) (h : ys.length = vs.length) : (own_mix ys vs j).length = vs.length := by simp [own_mix]; omega
theorem own_mixs {α : Type} (ys vs : List α) (d : α) (j : Nat) (h : ys.length = vs.length) (hj : j < vs.length) : (own_mix ys vs j).set j (ys.getD j d) = own_mix ys vs (j + 1) := by
  have hj' : j < ys.length := by omega
  apply List.ext_getElem?
  intro i
  simp only [own_mix, List.getElem?_set, List.length_append, List.length_take, List.length_drop, List.getElem?_append, List.getElem?_take, List.getElem?_drop, List.getD_eq_getElem?_getD, List.getElem?_eq_getElem hj', Option.getD_some]
  by_cases h1 : j = i
  · subst h1
    rw [if_pos rfl, if_pos (by omega), if_pos (by omega), if_pos (by omega), List.getElem?_eq_getElem hj']
  · rw [if_neg h1]
    by_cases h2 : i < j
    · rw [if_pos (by omega), if_pos (by omega), if_pos (by omega), if_pos (by omega)]
    · rw [if_neg (by omega), if_neg (by omega)]
      congr 1
      omega
/-- every char lies below 256 -/
abbrev own_lat (cs : List Int32) : Prop := ∀ c ∈ cs, ¬ ((255 : Int32) < c)
/-- every one is a char -/
abbrev own_chs (cs : List Int32) : Prop := ∀ c ∈ cs, ¬ (c < (0 : Int32)) ∧ ¬ ((65535 : Int32) < c)
def own_low (cs : List Int32) : List Value := cs.map fun c => .int (own_lo c)
def own_wide : List Int32 → List Value
  | [] => []
  | c :: r => .int (own_lo (c >>> ((0 : Int32) &&& 31))) :: .int (own_lo (c >>> ((8 : Int32) &&& 31))) :: own_wide r
def own_cod (cs : List Int32) : Int32 := if own_lat cs then 0 else 1
def own_enc (cs : List Int32) : List Value := if own_lat cs then own_low cs else own_wide cs
def own_enl (cs : List Int32) : Nat := if own_lat cs then cs.length else 2 * cs.length
theorem own_lowl (cs : List Int32) : (own_low cs).length = cs.length := by simp [own_low]
theorem own_widel : ∀ cs : List Int32, (own_wide cs).length = 2 * cs.length
  | [] => rfl
  | c :: r => by simp only [own_wide, List.length_cons, own_widel r]; omega
theorem own_getc (cs : List Int32) (j : Nat) (d : Value) (hj : j < cs.length) (hb : cs.length ≤ 8000) : (cs.map Value.int).getD (Int32.ofNat j).toNatClampNeg d = .int (cs.getD j 0) := by
  rw [own_tn (by omega)]
  simp [List.getD_eq_getElem?_getD, List.getElem?_map, List.getElem?_eq_getElem hj]
theorem own_getl (cs : List Int32) (j : Nat) (d : Value) (hj : j < cs.length) (hb : cs.length ≤ 8000) : (own_low cs).getD (Int32.ofNat j).toNatClampNeg d = .int (own_lo (cs.getD j 0)) := by
  rw [own_tn (by omega)]
  simp [own_low, List.getD_eq_getElem?_getD, List.getElem?_map, List.getElem?_eq_getElem hj]
theorem own_mem (cs : List Int32) (j : Nat) (hj : j < cs.length) : cs.getD j 0 ∈ cs := by
  simp [List.getD_eq_getElem?_getD, List.getElem?_eq_getElem hj]
theorem own_lolo (c : Int32) : nar .byte (own_lo c) = own_lo c := by
  show (own_lo c).toInt8.toInt32 = own_lo c
  simp [own_lo]
theorem own_mixc (cs : List Int32) (vs : List Value) (j : Nat) (h : cs.length = vs.length) (hj : j < vs.length) : (own_mix (own_low cs) vs j).set j (.int (nar .byte (own_lo (cs.getD j 0)))) = own_mix (own_low cs) vs (j + 1) := by
  have e : Value.int (own_lo (cs.getD j 0)) = (own_low cs).getD j (.int 0) := by
    simp [own_low, List.getD_eq_getElem?_getD, List.getElem?_map, List.getElem?_eq_getElem (by omega : j < cs.length)]
  rw [own_lolo, e]
  exact own_mixs _ _ _ _ (by rw [own_lowl]; exact h) hj
theorem own_wide0 (d : Value) : ∀ (cs : List Int32) (j : Nat), j < cs.length → (own_wide cs).getD (2 * j) d = .int (own_lo ((cs.getD j 0) >>> ((0 : Int32) &&& 31)))
  | [], _, h => nomatch h
  | c :: r, 0, _ => rfl
  | c :: r, j + 1, h => by
    have := own_wide0 d r j (by simpa using h)
    show (own_wide (c :: r)).getD (2 * j + 2) d = _
    simpa [own_wide] using this
theorem own_wide1 (d : Value) : ∀ (cs : List Int32) (j : Nat), j < cs.length → (own_wide cs).getD (2 * j + 1) d = .int (own_lo ((cs.getD j 0) >>> ((8 : Int32) &&& 31)))
  | [], _, h => nomatch h
  | c :: r, 0, _ => rfl
  | c :: r, j + 1, h => by
    have := own_wide1 d r j (by simpa using h)
    show (own_wide (c :: r)).getD (2 * j + 1 + 2) d = _
    simpa [own_wide] using this
theorem own_mixw (cs : List Int32) (vs : List Value) (j : Nat) (h : 2 * cs.length = vs.length) (hj : j < cs.length) :
    ((own_mix (own_wide cs) vs (2 * j)).set (2 * j) (.int (own_lo ((cs.getD j 0) >>> ((0 : Int32) &&& 31))))).set (2 * j + 1) (.int (own_lo ((cs.getD j 0) >>> ((8 : Int32) &&& 31)))) = own_mix (own_wide cs) vs (2 * (j + 1)) := by
  have hl : (own_wide cs).length = vs.length := by rw [own_widel]; exact h
  rw [← own_wide0 (.int 0) cs j hj, own_mixs _ _ _ _ hl (by omega), ← own_wide1 (.int 0) cs j hj, own_mixs _ _ _ _ hl (by omega)]
  rfl
/-- two bytes make the char again -/
theorem own_pair {c : Int32} (h0 : ¬ (c < (0 : Int32))) (h1 : ¬ ((65535 : Int32) < c)) :
    i2c (((own_lo (c >>> ((0 : Int32) &&& 31)) &&& (255 : Int32)) <<< ((0 : Int32) &&& 31)) ||| ((own_lo (c >>> ((8 : Int32) &&& 31)) &&& (255 : Int32)) <<< ((8 : Int32) &&& 31))) = c := by
  have b0 : 0 ≤ c.toInt ∧ c.toInt ≤ 65535 := by
    rw [Int32.lt_iff_toInt_lt] at h0 h1
    have : (0 : Int32).toInt = 0 := rfl
    have : (65535 : Int32).toInt = 65535 := rfl
    omega
  rw [own_shr0]
  have e8 : (c >>> ((8 : Int32) &&& 31)).toInt = c.toInt / 256 := c_ishr c 8 8 (by decide)
  have a1 := c_i2b c
  have a2 := c_i2b (c >>> ((8 : Int32) &&& 31))
  have m1 : (own_lo c &&& (255 : Int32)).toInt = (own_lo c).toInt % 256 := c_mask (own_lo c) 255 8 (by decide) (by decide)
  have m2 : (own_lo (c >>> ((8 : Int32) &&& 31)) &&& (255 : Int32)).toInt = (own_lo (c >>> ((8 : Int32) &&& 31))).toInt % 256 := c_mask (own_lo (c >>> ((8 : Int32) &&& 31))) 255 8 (by decide) (by decide)
  change ((own_lo c).toInt - c.toInt) % 256 = 0 ∧ _ at a1
  change ((own_lo (c >>> ((8 : Int32) &&& 31))).toInt - (c >>> ((8 : Int32) &&& 31)).toInt) % 256 = 0 ∧ _ at a2
  generalize own_lo c = u at *
  generalize own_lo (c >>> ((8 : Int32) &&& 31)) = w at *
  have s1 : ((u &&& (255 : Int32)) <<< ((0 : Int32) &&& 31)) = (u &&& (255 : Int32)) := by
    apply own_eqI
    have := c_ishl (u &&& (255 : Int32)) 0 0 (by decide)
    have := rng32 ((u &&& (255 : Int32)) <<< ((0 : Int32) &&& 31))
    omega
  have s2 := c_ishl (w &&& (255 : Int32)) 8 8 (by decide)
  have r2 := rng32 ((w &&& (255 : Int32)) <<< ((8 : Int32) &&& 31))
  rw [s1]
  generalize (w &&& (255 : Int32)) <<< ((8 : Int32) &&& 31) = y at *
  generalize u &&& (255 : Int32) = z at *
  have o := c_or' z y 8 (by decide) 256 rfl (by omega) (by omega) (by omega)
  have i := c_i2c (z ||| y)
  have r3 := rng32 (z ||| y)
  apply own_eqI
  show ((z ||| y).toUInt32.toUInt16.toUInt32.toInt32).toInt = _
  omega
theorem own_lo_inj {c d : Int32} (h0 : ¬ (c < (0 : Int32))) (h1 : ¬ ((255 : Int32) < c)) (g0 : ¬ (d < (0 : Int32))) (g1 : ¬ ((255 : Int32) < d)) (e : own_lo c = own_lo d) : c = d := by
  apply own_eqI
  have a1 := c_i2b c
  have a2 := c_i2b d
  have e' : c.toInt8.toInt32.toInt = d.toInt8.toInt32.toInt := congrArg Int32.toInt e
  rw [Int32.lt_iff_toInt_lt] at h0 h1 g0 g1
  have : (0 : Int32).toInt = 0 := rfl
  have : (255 : Int32).toInt = 255 := rfl
  omega
theorem own_ltbig {n : Nat} (h : n ≤ 8000) : (Int32.ofNat n) < (1073741823 : Int32) := by
  rw [Int32.lt_iff_toInt_lt, own_ti h]
  show (n : Int) < 1073741823
  omega
theorem own_narc {c : Int32} (h0 : ¬ (c < (0 : Int32))) (h1 : ¬ ((65535 : Int32) < c)) : nar .char c = c := by
  apply own_eqI
  have i := c_i2c c
  show (c.toUInt32.toUInt16.toUInt32.toInt32).toInt = _
  rw [Int32.lt_iff_toInt_lt] at h0 h1
  have : (0 : Int32).toInt = 0 := rfl
  have : (65535 : Int32).toInt = 65535 := rfl
  omega
theorem own_first {cs : List Int32} (h : ¬ own_lat cs) : ∃ i, i < cs.length ∧ (255 : Int32) < (cs.getD i 0) ∧ ∀ j, j < i → ¬ ((255 : Int32) < cs.getD j 0) := by
  induction cs with
  | nil => exact absurd (fun c hc => nomatch hc) h
  | cons c r ih =>
    by_cases hc : (255 : Int32) < c
    · exact ⟨0, by simp, hc, fun j hj => absurd hj (Nat.not_lt_zero j)⟩
    · have : ¬ own_lat r := fun hr => h fun d hd => by
        rcases List.mem_cons.mp hd with rfl | hd
        · exact hc
        · exact hr d hd
      obtain ⟨i, h1, h2, h3⟩ := ih this
      refine ⟨i + 1, by simpa using h1, by simpa using h2, fun j hj => ?_⟩
      cases j with
      | zero => simpa using hc
      | succ j => simpa using h3 j (by omega)
theorem own_fixL {Z : State} {hh : Heap} {b : Addr} {kb : ClassId} {cs : List Int32} {n : Nat} {vs : List Value} {d : Value} (h : own_lat cs) (F : Arv Z hh b kb .byte (Int32.ofNat n) (own_mix (own_low cs) vs n) d) (hn : cs.length = n) (hv : vs.length = n) : Arv Z hh b kb .byte (Int32.ofNat (own_enl cs)) (own_enc cs) d := by
  rw [own_mixn _ _ n (by rw [own_lowl]; exact hn) hv] at F
  rw [own_enl, own_enc, if_pos h, if_pos h, hn]; exact F
theorem own_fixW {Z : State} {hh : Heap} {b : Addr} {kb : ClassId} {cs : List Int32} {n : Nat} {d : Value} (h : ¬ own_lat cs) (F : Arv Z hh b kb .byte (Int32.ofNat (2 * n)) (own_wide cs) d) (hn : cs.length = n) : Arv Z hh b kb .byte (Int32.ofNat (own_enl cs)) (own_enc cs) d := by
  rw [own_enl, own_enc, if_neg h, if_neg h, hn]; exact F
theorem own_ne0 {n : Nat} (h : 0 < n) (hb : n ≤ 8000) : ¬ ((Int32.ofNat n) = (0 : Int32)) := fun e => by
  have := own_inj (n := 0) hb (by omega) e
  omega
theorem own_codl {cs : List Int32} {n : Nat} (hn : cs.length = n) (hp : 0 < n) (hb : n ≤ 4000) : nar .byte (own_lo (ushr ((Int32.ofNat n) - (Int32.ofNat (own_enl cs))) (31 : Int32))) = own_cod cs := by
  rw [own_lolo, own_enl, own_cod]
  by_cases h : own_lat cs
  · rw [if_pos h, if_pos h, hn, Int32.sub_self]; rfl
  · rw [if_neg h, if_neg h, hn]
    have e : ushr ((Int32.ofNat n) - (Int32.ofNat (2 * n))) (31 : Int32) = 1 := by
      apply own_eqI
      have a := c_isub (Int32.ofNat n) (Int32.ofNat (2 * n))
      rw [own_ti (by omega), own_ti (by omega : 2 * n ≤ 8000)] at a
      have r := rng32 ((Int32.ofNat n) - (Int32.ofNat (2 * n)))
      have s := c_iushr ((Int32.ofNat n) - (Int32.ofNat (2 * n))) 31 31 (by decide) (by decide)
      show (((Int32.ofNat n) - (Int32.ofNat (2 * n))).toUInt32 >>> ((31 : Int32) &&& 31).toUInt32).toInt32.toInt = 1
      rw [s]
      omega
    rw [e]; rfl
theorem own_c01 (cs : List Int32) : own_cod cs = 0 ∨ own_cod cs = 1 := by
  unfold own_cod; split
  · exact Or.inl rfl
  · exact Or.inr rfl
theorem own_cnar (cs : List Int32) : narrow .byte (.int (own_cod cs)) = .int (own_cod cs) := by rcases own_c01 cs with h | h <;> rw [h] <;> rfl
theorem own_cnarb (cs : List Int32) : nar .byte (own_cod cs) = own_cod cs := by rcases own_c01 cs with h | h <;> rw [h] <;> rfl
theorem own_cfit (cs : List Int32) : fits .byte (.int (own_cod cs)) = true := by rcases own_c01 cs with h | h <;> rw [h] <;> rfl
theorem own_lenq (cs : List Int32) (hb : cs.length ≤ 4000) : (Int32.ofNat (own_enl cs)) >>> ((own_cod cs) &&& 31) = Int32.ofNat cs.length := by
  rw [own_enl, own_cod]
  by_cases h : own_lat cs
  · rw [if_pos h, if_pos h]; exact own_shr0 _
  · rw [if_neg h, if_neg h]; exact own_shr1 hb
/-- one more than the place of the first ch among k chars from j on; 0: none -/
def own_ix (cs : List Int32) (ch : Int32) : Nat → Nat → Nat
  | _, 0 => 0
  | j, k + 1 => if cs.getD j 0 = ch then j + 1 else own_ix cs ch (j + 1) k
theorem own_ixle (cs : List Int32) (ch : Int32) : ∀ (k j : Nat), own_ix cs ch j k ≤ j + k
  | 0, j => by simp [own_ix]
  | k + 1, j => by
    unfold own_ix; split
    · omega
    · have := own_ixle cs ch k (j + 1); omega
theorem own_ix0 (cs : List Int32) (ch : Int32) (h : ∀ c ∈ cs, c ≠ ch) : ∀ (k j : Nat), j + k ≤ cs.length → own_ix cs ch j k = 0
  | 0, j, _ => rfl
  | k + 1, j, hj => by
    unfold own_ix
    rw [if_neg (h _ (own_mem cs j (by omega)))]
    exact own_ix0 cs ch h k (j + 1) (by omega)
theorem own_minT {i j : Nat} (hi : i ≤ 8000) (hj : j ≤ 8000) (h : ¬ ((Int32.ofNat j) < (Int32.ofNat i))) : Int32.ofNat i = Int32.ofNat (min i j) := by
  by_cases q : i ≤ j
  · rw [Nat.min_eq_left q]
  · exact absurd (own_lt (by omega) hi) h
theorem own_minF {i j : Nat} (hi : i ≤ 8000) (hj : j ≤ 8000) (h : (Int32.ofNat j) < (Int32.ofNat i)) : Int32.ofNat j = Int32.ofNat (min i j) := by
  by_cases q : i ≤ j
  · exact absurd h (own_nlt q hj)
  · rw [Nat.min_eq_right (by omega)]
theorem own_maxT {i j : Nat} (hi : i ≤ 8000) (hj : j ≤ 8000) (h : (Int32.ofNat i) < (Int32.ofNat j)) : Int32.ofNat j = Int32.ofNat (max i j) := by
  by_cases q : j ≤ i
  · exact absurd h (own_nlt q hi)
  · rw [Nat.max_eq_right (by omega)]
theorem own_maxF {i j : Nat} (hi : i ≤ 8000) (hj : j ≤ 8000) (h : ¬ ((Int32.ofNat i) < (Int32.ofNat j))) : Int32.ofNat i = Int32.ofNat (max i j) := by
  by_cases q : j ≤ i
  · rw [Nat.max_eq_left q]
  · exact absurd (own_lt (by omega) hj) h
theorem own_found (j : Nat) : Int32.ofNat j = Int32.ofNat (j + 1) - (1 : Int32) := by rw [own_up, Int32.add_sub_cancel]
theorem own_geth (cs : List Int32) (j : Nat) (d : Value) (hl : own_lat cs) (hj : j < cs.length) (hb : cs.length ≤ 8000) : (own_enc cs).getD (Int32.ofNat j).toNatClampNeg d = .int (own_lo (cs.getD j 0)) := by
  rw [own_enc, if_pos hl]; exact own_getl cs j d hj hb
theorem own_nari2c (z : Int32) : nar .char (i2c z) = i2c z := by
  have i := c_i2c z
  have k := c_i2c (z.toUInt32.toUInt16.toUInt32.toInt32)
  apply own_eqI
  show (z.toUInt32.toUInt16.toUInt32.toInt32).toUInt32.toUInt16.toUInt32.toInt32.toInt = z.toUInt32.toUInt16.toUInt32.toInt32.toInt
  omega
theorem own_rng {q z : Int32} (h : q = i2c z) : ¬ (q < (0 : Int32)) ∧ ¬ ((65535 : Int32) < q) := by
  have i := c_i2c z
  have e : q.toInt = z.toUInt32.toUInt16.toUInt32.toInt32.toInt := congrArg Int32.toInt h
  rw [Int32.lt_iff_toInt_lt, Int32.lt_iff_toInt_lt]
  have : (0 : Int32).toInt = 0 := rfl
  have : (65535 : Int32).toInt = 65535 := rfl
  omega
theorem own_chs0 : own_chs [] := fun _ h => nomatch h
theorem own_chsS {c : Int32} {r : List Int32} (h : ¬ (c < (0 : Int32)) ∧ ¬ ((65535 : Int32) < c)) (g : own_chs r) : own_chs (c :: r) := fun d hd => by
  rcases List.mem_cons.mp hd with rfl | hd
  · exact h
  · exact g d hd
theorem own_lat0 : own_lat [] := fun _ h => nomatch h
theorem own_latS {c : Int32} {r : List Int32} (h : ¬ ((255 : Int32) < c)) (g : own_lat r) : own_lat (c :: r) := fun d hd => by
  rcases List.mem_cons.mp hd with rfl | hd
  · exact h
  · exact g d hd
theorem own_int (z : Int32) (n : Nat) (h : z.toInt = n) : z = Int32.ofNat n := by
  apply Int32.toInt_inj.mp
  rw [h]
  have := z.toInt_lt
  have := z.le_toInt
  rw [Int32.toInt_ofNat_of_lt]
  omega
theorem own_and3 (z : Int32) : ∃ n : Nat, (z &&& (3 : Int32)) = Int32.ofNat n ∧ n < 4 := by
  have h := c_mask z 3 2 (by decide) (by decide)
  refine ⟨(z.toInt % 4).toNat, own_int _ _ ?_, by omega⟩
  rw [h]; omega
theorem own_modn (z : Int32) (d : Int32) (k : Nat) (hd : d.toInt = k) (hk : 0 < k) (hk2 : k ≤ 100) : ∃ n : Nat, ((z &&& (2147483647 : Int32)) % d) = Int32.ofNat n ∧ n < k := by
  have h := c_mask z 2147483647 31 (by decide) (by decide)
  have h2 := (c_irem (z &&& (2147483647 : Int32)) d k hd).1 (by rw [h]; omega)
  have h3 : 0 ≤ (z &&& (2147483647 : Int32)).toInt := by rw [h]; omega
  have h4 := Int.emod_nonneg (z &&& (2147483647 : Int32)).toInt (show (k : Int) ≠ 0 by omega)
  have h5 := Int.emod_lt_of_pos (z &&& (2147483647 : Int32)).toInt (show (0 : Int) < k by omega)
  refine ⟨((z &&& (2147483647 : Int32)).toInt % k).toNat, own_int _ _ ?_, by omega⟩
  rw [h2]; omega
theorem own_lt16 {c : Int32} (h : ¬ ((65535 : Int32) < c)) : c < (65536 : Int32) := by
  rw [Int32.lt_iff_toInt_lt] at *
  have : (65535 : Int32).toInt = 65535 := rfl
  have : (65536 : Int32).toInt = 65536 := rfl
  omega
theorem own_sub0 {i n : Nat} (h : ¬ ((Int32.ofNat i) < (Int32.ofNat n))) (hn : n ≤ 8000) : n - i = 0 := by
  by_cases q : i < n
  · exact absurd (own_lt q hn) h
  · omega
theorem own_cod0 {cs : List Int32} (h : own_lat cs) : own_cod cs = (0 : Int32) := if_pos h
theorem own_cod1 {cs : List Int32} (h : ¬ own_lat cs) : ¬ (own_cod cs = (0 : Int32)) := by rw [own_cod, if_neg h]; decide
/-- a String's bytes as ints -/
def own_wb : List Int32 → List Int32
  | [] => []
  | c :: r => own_lo (c >>> ((0 : Int32) &&& 31)) :: own_lo (c >>> ((8 : Int32) &&& 31)) :: own_wb r
def own_eb (cs : List Int32) : List Int32 := if own_lat cs then cs.map own_lo else own_wb cs
theorem own_wideb : ∀ cs : List Int32, own_wide cs = (own_wb cs).map Value.int
  | [] => rfl
  | c :: r => by simp only [own_wide, own_wb, List.map_cons, own_wideb r]
theorem own_encb (cs : List Int32) : own_enc cs = (own_eb cs).map Value.int := by
  rw [own_enc, own_eb]; split
  · simp [own_low]
  · exact own_wideb cs
theorem own_wbl : ∀ cs : List Int32, (own_wb cs).length = 2 * cs.length
  | [] => rfl
  | c :: r => by simp only [own_wb, List.length_cons, own_wbl r]; omega
theorem own_ebl (cs : List Int32) : (own_eb cs).length = own_enl cs := by
  rw [own_eb, own_enl]; split
  · simp
  · exact own_wbl cs
theorem own_mapinj : ∀ (cs ds : List Int32), own_chs cs → own_chs ds → own_lat cs → own_lat ds → cs.map own_lo = ds.map own_lo → cs = ds
  | [], [], _, _, _, _, _ => rfl
  | [], _ :: _, _, _, _, _, h => nomatch h
  | _ :: _, [], _, _, _, _, h => nomatch h
  | c :: r, d :: q, hc, hd, lc, ld, h => by
    simp only [List.map_cons, List.cons.injEq] at h
    have e : c = d := own_lo_inj (hc c (by simp)).1 (lc c (by simp)) (hd d (by simp)).1 (ld d (by simp)) h.1
    rw [e, own_mapinj r q (fun x hx => hc x (by simp [hx])) (fun x hx => hd x (by simp [hx])) (fun x hx => lc x (by simp [hx])) (fun x hx => ld x (by simp [hx])) h.2]
theorem own_wbinj : ∀ (cs ds : List Int32), own_chs cs → own_chs ds → own_wb cs = own_wb ds → cs = ds
  | [], [], _, _, _ => rfl
  | [], _ :: _, _, _, h => nomatch h
  | _ :: _, [], _, _, h => nomatch h
  | c :: r, d :: q, hc, hd, h => by
    simp only [own_wb, List.cons.injEq] at h
    have e : c = d := by
      rw [← own_pair (hc c (by simp)).1 (hc c (by simp)).2, ← own_pair (hd d (by simp)).1 (hd d (by simp)).2, h.1, h.2.1]
    rw [e, own_wbinj r q (fun x hx => hc x (by simp [hx])) (fun x hx => hd x (by simp [hx])) h.2.2]
theorem own_encinj {cs ds : List Int32} (hc : own_chs cs) (hd : own_chs ds) (h : own_cod cs = own_cod ds) (e : own_eb cs = own_eb ds) : cs = ds := by
  by_cases l1 : own_lat cs <;> by_cases l2 : own_lat ds
  · rw [own_eb, own_eb, if_pos l1, if_pos l2] at e; exact own_mapinj _ _ hc hd l1 l2 e
  · rw [own_cod, own_cod, if_pos l1, if_neg l2] at h; exact absurd h (by decide)
  · rw [own_cod, own_cod, if_neg l1, if_pos l2] at h; exact absurd h (by decide)
  · rw [own_eb, own_eb, if_neg l1, if_neg l2] at e; exact own_wbinj _ _ hc hd e
theorem own_ext {xs ys : List Int32} (hl : xs.length = ys.length) (h : ∀ i, i < xs.length → xs.getD i 0 = ys.getD i 0) : xs = ys := by
  apply List.ext_getElem hl
  intro i h1 h2
  have := h i h1
  simpa [List.getD_eq_getElem?_getD, List.getElem?_eq_getElem h1, List.getElem?_eq_getElem h2] using this
theorem own_enll (cs : List Int32) : own_enl cs ≤ 2 * cs.length := by rw [own_enl]; split <;> omega
def own_mk : Nat → Int32 → Int32 → Int32 → List Int32
  | 0, _, _, _ => []
  | 1, x, _, _ => [x]
  | 2, x, y, _ => [x, y]
  | _ + 3, x, y, z => [x, y, z]
theorem own_mkl (n : Nat) (x y z : Int32) : (own_mk n x y z).length ≤ 3 := by
  unfold own_mk; split <;> simp
theorem own_mkchs {n : Nat} {x y z : Int32} (h : n < 4) (hx : ¬ (x < (0 : Int32)) ∧ ¬ ((65535 : Int32) < x)) (hy : ¬ (y < (0 : Int32)) ∧ ¬ ((65535 : Int32) < y)) (hz : ¬ (z < (0 : Int32)) ∧ ¬ ((65535 : Int32) < z)) : own_chs (own_mk n x y z) := by
  unfold own_mk; split
  · exact own_chs0
  · exact own_chsS hx own_chs0
  · exact own_chsS hx (own_chsS hy own_chs0)
  · exact own_chsS hx (own_chsS hy (own_chsS hz own_chs0))
theorem own_le64k {c : Int32} (h : ¬ ((255 : Int32) < c)) : ¬ ((65535 : Int32) < c) := by
  rw [Int32.lt_iff_toInt_lt] at *
  have : (65535 : Int32).toInt = 65535 := rfl
  have : (255 : Int32).toInt = 255 := rfl
  omega
theorem own_small {z : Int32} (h : 0 ≤ z.toInt ∧ z.toInt ≤ 255) : ¬ (i2c z < (0 : Int32)) ∧ ¬ ((255 : Int32) < i2c z) := by
  have i := c_i2c z
  rw [Int32.lt_iff_toInt_lt, Int32.lt_iff_toInt_lt]
  have : (0 : Int32).toInt = 0 := rfl
  have : (255 : Int32).toInt = 255 := rfl
  show ¬ ((z.toUInt32.toUInt16.toUInt32.toInt32).toInt < (0 : Int32).toInt) ∧ ¬ ((255 : Int32).toInt < (z.toUInt32.toUInt16.toUInt32.toInt32).toInt)
  omega
theorem own_m255 (z : Int32) : 0 ≤ (z &&& (255 : Int32)).toInt ∧ (z &&& (255 : Int32)).toInt ≤ 255 := by
  have := c_mask z 255 8 (by decide) (by decide)
  omega
theorem own_b255 (z : Int32) : ¬ (i2c (z &&& (255 : Int32)) < (0 : Int32)) ∧ ¬ ((255 : Int32) < i2c (z &&& (255 : Int32))) := own_small (own_m255 z)
theorem own_k255 (z : Int32) : ¬ ((z &&& (255 : Int32)) < (0 : Int32)) ∧ ¬ ((255 : Int32) < (z &&& (255 : Int32))) := by
  have := own_m255 z
  rw [Int32.lt_iff_toInt_lt, Int32.lt_iff_toInt_lt]
  have : (0 : Int32).toInt = 0 := rfl
  have : (255 : Int32).toInt = 255 := rfl
  omega
theorem own_xb (z w : Int32) (h : 0 ≤ z.toInt ∧ z.toInt ≤ 255) (g : 0 ≤ w.toInt ∧ w.toInt ≤ 255) : 0 ≤ (z ^^^ w).toInt ∧ (z ^^^ w).toInt ≤ 255 := by
  have t (v : Int32) (h : 0 ≤ v.toInt ∧ v.toInt ≤ 255) : v.toBitVec.toNat < 256 := by
    have := v.toBitVec.isLt
    have e : v.toInt = v.toBitVec.toInt := rfl
    rw [BitVec.toInt_eq_toNat_cond] at e
    split at e <;> omega
  have h1 := t z h
  have h2 := t w g
  have h3 : (z ^^^ w).toBitVec.toNat < 256 := by
    rw [Int32.toBitVec_xor, BitVec.toNat_xor]
    exact Nat.xor_lt_two_pow (n := 8) h1 h2
  have e : (z ^^^ w).toInt = (z ^^^ w).toBitVec.toInt := rfl
  rw [BitVec.toInt_eq_toNat_cond] at e
  split at e <;> omega
theorem own_x255 {z w : Int32} (h : ¬ (z < (0 : Int32)) ∧ ¬ ((255 : Int32) < z)) (g : ¬ (w < (0 : Int32)) ∧ ¬ ((255 : Int32) < w)) : ¬ (i2c (z ^^^ w) < (0 : Int32)) ∧ ¬ ((255 : Int32) < i2c (z ^^^ w)) := by
  rw [Int32.lt_iff_toInt_lt, Int32.lt_iff_toInt_lt] at h g
  have : (0 : Int32).toInt = 0 := rfl
  have : (255 : Int32).toInt = 255 := rfl
  exact own_small (own_xb z w (by omega) (by omega))
abbrev ELs : List (String × Nat) := consts_1
theorem own_EW {Z : State} {a0 : Array Value} (hw : ∀ d ∈ tables_1, d.before a0 Z = true) : EW Z a0 ELs := (EW.cons (hw _ (List.mem_of_getElem? (i := 58) rfl)) (by decide) (EW.cons (hw _ (List.mem_of_getElem? (i := 66) rfl)) (by decide) (EW.cons (hw _ (List.mem_of_getElem? (i := 69) rfl)) (by decide) (EW.cons (hw _ (List.mem_of_getElem? (i := 46) rfl)) (by decide) EW.nil))))
theorem own_wS {Z : State} {a0 : Array Value} (hw : ∀ d ∈ tables_1, d.before a0 Z = true) : ∀ a ∈ Bundle.stringAtoms, a.before a0 Z = true := by
  intro a ha
  simp only [Bundle.stringAtoms, List.mem_cons, List.not_mem_nil, or_false] at ha
  rcases ha with rfl | rfl | rfl | rfl | rfl | rfl | rfl
  · exact (hw _ (List.mem_of_getElem? (i := 19) rfl))
  · exact (hw _ (List.mem_of_getElem? (i := 18) rfl))
  · exact (hw _ (List.mem_of_getElem? (i := 35) rfl))
  · exact (hw _ (List.mem_of_getElem? (i := 45) rfl))
  · exact (hw _ (List.mem_of_getElem? (i := 43) rfl))
  · exact (hw _ (List.mem_of_getElem? (i := 47) rfl))
  · exact (hw _ (List.mem_of_getElem? (i := 48) rfl))
theorem own_NSroot {Z : State} {a0 : Array Value} {O K : String} {n : Nat} (w : (Jvm.Cond.noSuperclass O).before a0 Z = true) (wk : (Jvm.Cond.instantiable K n).before a0 Z = true) (hn : O ≠ K) : NS Z O K := by
  obtain ⟨c, k, h1, h2, h3, -, -⟩ := Cond.noSuperclass_spec w
  obtain ⟨t, kt, g1, -⟩ := Cond.instantiable_spec wk
  have ne := ids_ne h1 g1 hn
  refine ⟨c, t, h1, g1, fun fuel => ?_⟩
  cases fuel with
  | zero => rfl
  | succ f => simp [Vm.isSubclassAux, ne, h2, h3]
theorem own_NSno {Z : State} {a0 : Array Value} {C S K : String} {m : Nat} (w : (Jvm.Cond.superclass C S).before a0 Z = true) (wk : (Jvm.Cond.instantiable K m).before a0 Z = true) (n : NS Z C K) (hn : C ≠ K) : ∃ c t, Z.vm.findClass C = some c ∧ Z.vm.findClass K = some t ∧ Z.vm.assignable c t = false := by
  obtain ⟨c, t, h0, g0, n3⟩ := n
  obtain ⟨p, k, kp, h1, h2, h3, h4, h5, -, h7⟩ := Cond.superclass_spec h0 w
  obtain ⟨t', k', q1, q2, q3, q4, -⟩ := Cond.instantiable_spec wk
  cases g0.symm.trans q1
  have q5 : k'.isInterface = false := (Bool.or_eq_false_iff.mp q4).1
  have ne := ids_ne h0 g0 hn
  refine ⟨c, t, h0, g0, ?_⟩
  show Z.vm.assignableAux (255 + 1) c t = false
  simp [Vm.assignableAux, ne, h2, q2, h5, q3, q5, Vm.isSubclass, n3]
/-- a String whose value is still null is no constant's -/
theorem own_safeN {Z : State} {EL : List (String × Nat)} {vm : Vm} {h : Heap} {a : Addr} (hal : Z.vm.Alike vm) (E : Exa Z h a "java/lang/String") (F : Fld Z h a "java/lang/String" "value" "[B" .null) : Safe Z EL vm h a := fun B => by
  obtain ⟨p, -, u, a', -, q, -, S, rfl | rfl⟩ := B
  · obtain ⟨cS, ⟨⟨s1, -, -, ⟨c1, k1, i1, f1, -⟩, -, -, -, v1, -⟩, -⟩, -⟩ := S
    obtain ⟨cell, cf, k', i', f, e1, e2, -, -, -, -, e7⟩ := F
    cases (show h[q.sa]? = some q.sC from s1).symm.trans e1
    obtain ⟨k3, e3, -⟩ := State.fieldFound?_setVm (s := Z) hal e2
    have e4 := (show (Wst Z vm h).fieldFound? _ _ _ = _ from e3).symm.trans f1
    simp only [Option.some.injEq, Prod.mk.injEq] at e4
    rw [← e4.2.2.2, e7] at v1
    cases v1
  · obtain ⟨cell, k, e1, e2, e3, -, -⟩ := E
    cases (show h[q.sd]? = some q.SA from S.hd).symm.trans e1
    obtain ⟨cS, -, -, f, -⟩ := S
    have f' : vm.findClass "[B" = some q.SA.cls := f
    rw [hal.findClass] at f'
    obtain ⟨k1, q1, q2⟩ := Vm.findClass_spec f'
    obtain ⟨k2, q3, q4⟩ := Vm.findClass_spec e2
    cases q1.symm.trans q3
    exact absurd (q2.symm.trans q4) (by decide)
theorem own_fix0 {Z : State} {hh : Heap} {b : Addr} {kb : ClassId} {cs : List Int32} {d : Value} (h : cs = []) (F : Arv Z hh b kb .byte (0 : Int32) [] d) : Arv Z hh b kb .byte (Int32.ofNat (own_enl cs)) (own_enc cs) d := by
  subst h
  rw [own_enl, own_enc, if_pos own_lat0, if_pos own_lat0]; exact F
theorem own_pos {n : Nat} (h : ¬ ((Int32.ofNat n) = (0 : Int32))) : 0 < n := by
  cases n with
  | zero => exact absurd rfl h
  | succ n => omega
theorem own_lc0 (z : Int64) : (lcmpW z z) = (0 : Int32) := by
  apply own_eqI
  exact (c_lcmp z z).2.1 rfl
theorem own_lcs {z w : Int64} (h : (lcmpW z w) = (0 : Int32)) : (lcmpW w z) = (0 : Int32) := by
  have e : (lcmpW z w).toInt = 0 := by rw [h]; rfl
  have c1 := c_lcmp z w
  have c2 := c_lcmp w z
  apply own_eqI
  show _ = 0
  rcases (by omega : z.toInt < w.toInt ∨ z.toInt = w.toInt ∨ w.toInt < z.toInt) with q | q | q
  · rw [c1.1 q] at e; omega
  · exact c2.2.1 q.symm
  · rw [c1.2.2 q] at e; omega
def own_ln (z : Int32) : Nat := ((ushr z (24 : Int32)) &&& (3 : Int32)).toInt.toNat
theorem own_lnq (z : Int32) : ((ushr z (24 : Int32)) &&& (3 : Int32)) = Int32.ofNat (own_ln z) ∧ own_ln z < 4 := by
  have h := c_mask (ushr z (24 : Int32)) 3 2 (by decide) (by decide)
  refine ⟨own_int _ _ ?_, ?_⟩
  · unfold own_ln; omega
  · unfold own_ln; omega
def own_str (z : Int32) : List Int32 := own_mk (own_ln z) (z &&& (255 : Int32)) ((ushr z (8 : Int32)) &&& (255 : Int32)) ((ushr z (16 : Int32)) &&& (255 : Int32))
theorem own_i255 (z : Int32) : i2c (z &&& (255 : Int32)) = (z &&& (255 : Int32)) := by
  apply own_eqI
  have h := own_m255 z
  have i := c_i2c (z &&& (255 : Int32))
  show ((z &&& (255 : Int32)).toUInt32.toUInt16.toUInt32.toInt32).toInt = _
  omega
theorem own_lnk {z : Int32} {k : Nat} (hk : k < 4) (h : ((ushr z (24 : Int32)) &&& (3 : Int32)) = Int32.ofNat k) : own_ln z = k := own_inj (by have := (own_lnq z).2; omega) (by omega) ((own_lnq z).1.symm.trans h)
theorem own_str0 (z : Int32) (h : ((ushr z (24 : Int32)) &&& (3 : Int32)) = (0 : Int32)) : own_str z = [] := by rw [own_str, own_lnk (k := 0) (by decide) h]; rfl
theorem own_str1 (z : Int32) (h : ((ushr z (24 : Int32)) &&& (3 : Int32)) = (1 : Int32)) : own_str z = [i2c (z &&& (255 : Int32))] := by rw [own_str, own_lnk (k := 1) (by decide) h, own_i255]; rfl
theorem own_str2 (z : Int32) (h : ((ushr z (24 : Int32)) &&& (3 : Int32)) = (2 : Int32)) : own_str z = [i2c (z &&& (255 : Int32)), i2c ((ushr z (8 : Int32)) &&& (255 : Int32))] := by rw [own_str, own_lnk (k := 2) (by decide) h, own_i255, own_i255]; rfl
theorem own_str3 (z : Int32) (h0 : ¬ (((ushr z (24 : Int32)) &&& (3 : Int32)) = (0 : Int32))) (h1 : ¬ (((ushr z (24 : Int32)) &&& (3 : Int32)) = (1 : Int32))) (h2 : ¬ (((ushr z (24 : Int32)) &&& (3 : Int32)) = (2 : Int32))) : own_str z = [i2c (z &&& (255 : Int32)), i2c ((ushr z (8 : Int32)) &&& (255 : Int32)), i2c ((ushr z (16 : Int32)) &&& (255 : Int32))] := by
  have q := own_lnq z
  have h : own_ln z = 3 := by
    rcases (by omega : own_ln z = 0 ∨ own_ln z = 1 ∨ own_ln z = 2 ∨ own_ln z = 3) with e | e | e | e
    · exact absurd (by rw [q.1, e]; rfl) h0
    · exact absurd (by rw [q.1, e]; rfl) h1
    · exact absurd (by rw [q.1, e]; rfl) h2
    · exact e
  rw [own_str, h, own_i255, own_i255, own_i255]; rfl
theorem own_strl (z : Int32) : (own_str z).length ≤ 3 := own_mkl _ _ _ _
theorem own_strchs (z : Int32) : own_chs (own_str z) := own_mkchs (own_lnq z).2 ⟨(own_k255 _).1, own_le64k (own_k255 _).2⟩ ⟨(own_k255 _).1, own_le64k (own_k255 _).2⟩ ⟨(own_k255 _).1, own_le64k (own_k255 _).2⟩
theorem own_streq0 (n k : Nat) (ix iy iz jx jy jz : Int32) (hn : n < 4) (hm : k < 4) : (if (Int32.ofNat n) = (Int32.ofNat k) then (if (Int32.ofNat n) < (1 : Int32) then (if (Int32.ofNat n) < (2 : Int32) then (if (Int32.ofNat n) < (3 : Int32) then (1 : Int32) else (if iz = jz then (1 : Int32) else (0 : Int32))) else (if iy = jy then (if (Int32.ofNat n) < (3 : Int32) then (1 : Int32) else (if iz = jz then (1 : Int32) else (0 : Int32))) else (0 : Int32))) else (if ix = jx then (if (Int32.ofNat n) < (2 : Int32) then (if (Int32.ofNat n) < (3 : Int32) then (1 : Int32) else (if iz = jz then (1 : Int32) else (0 : Int32))) else (if iy = jy then (if (Int32.ofNat n) < (3 : Int32) then (1 : Int32) else (if iz = jz then (1 : Int32) else (0 : Int32))) else (0 : Int32))) else (0 : Int32))) else (0 : Int32)) = (if (own_mk n ix iy iz) = (own_mk k jx jy jz) then (1 : Int32) else (0 : Int32)) := by
  by_cases hx : ix = jx <;> by_cases hy : iy = jy <;> by_cases hz : iz = jz <;>
  rcases (by omega : n = 0 ∨ n = 1 ∨ n = 2 ∨ n = 3) with rfl | rfl | rfl | rfl <;> rcases (by omega : k = 0 ∨ k = 1 ∨ k = 2 ∨ k = 3) with rfl | rfl | rfl | rfl <;>
  simp +decide [own_mk, hx, hy, hz]
theorem own_streq (sx sy : Int32) : (if ((ushr sx (24 : Int32)) &&& (3 : Int32)) = ((ushr sy (24 : Int32)) &&& (3 : Int32)) then (if ((ushr sx (24 : Int32)) &&& (3 : Int32)) < (1 : Int32) then (if ((ushr sx (24 : Int32)) &&& (3 : Int32)) < (2 : Int32) then (if ((ushr sx (24 : Int32)) &&& (3 : Int32)) < (3 : Int32) then (1 : Int32) else (if ((ushr sx (16 : Int32)) &&& (255 : Int32)) = ((ushr sy (16 : Int32)) &&& (255 : Int32)) then (1 : Int32) else (0 : Int32))) else (if ((ushr sx (8 : Int32)) &&& (255 : Int32)) = ((ushr sy (8 : Int32)) &&& (255 : Int32)) then (if ((ushr sx (24 : Int32)) &&& (3 : Int32)) < (3 : Int32) then (1 : Int32) else (if ((ushr sx (16 : Int32)) &&& (255 : Int32)) = ((ushr sy (16 : Int32)) &&& (255 : Int32)) then (1 : Int32) else (0 : Int32))) else (0 : Int32))) else (if (sx &&& (255 : Int32)) = (sy &&& (255 : Int32)) then (if ((ushr sx (24 : Int32)) &&& (3 : Int32)) < (2 : Int32) then (if ((ushr sx (24 : Int32)) &&& (3 : Int32)) < (3 : Int32) then (1 : Int32) else (if ((ushr sx (16 : Int32)) &&& (255 : Int32)) = ((ushr sy (16 : Int32)) &&& (255 : Int32)) then (1 : Int32) else (0 : Int32))) else (if ((ushr sx (8 : Int32)) &&& (255 : Int32)) = ((ushr sy (8 : Int32)) &&& (255 : Int32)) then (if ((ushr sx (24 : Int32)) &&& (3 : Int32)) < (3 : Int32) then (1 : Int32) else (if ((ushr sx (16 : Int32)) &&& (255 : Int32)) = ((ushr sy (16 : Int32)) &&& (255 : Int32)) then (1 : Int32) else (0 : Int32))) else (0 : Int32))) else (0 : Int32))) else (0 : Int32)) = (if (own_str sx) = (own_str sy) then (1 : Int32) else (0 : Int32)) := by
  rw [(own_lnq sx).1, (own_lnq sy).1]
  exact own_streq0 (own_ln sx) (own_ln sy) _ _ _ _ _ _ (own_lnq sx).2 (own_lnq sy).2
def own_st4 : Nat → Addr → Addr → Addr → Addr → Addr
  | 0, r, _, _, _ => r
  | 1, _, r, _, _ => r
  | 2, _, _, r, _ => r
  | _ + 3, _, _, _, r => r
theorem own_st4E {Z : State} {h : Heap} {C : String} (n : Nat) {ra rb rc rd : Addr} (h0 : Exa Z h ra C) (h1 : Exa Z h rb C) (h2 : Exa Z h rc C) (h3 : Exa Z h rd C) : Exa Z h (own_st4 n ra rb rc rd) C := by
  unfold own_st4; split
  · exact h0
  · exact h1
  · exact h2
  · exact h3
theorem own_getst (n : Nat) (ra rb rc rd : Addr) (d : Value) (h : n < 4) : [(.ref ra), (.ref rb), (.ref rc), (.ref rd)].getD (Int32.ofNat n).toNatClampNeg d = .ref (own_st4 n ra rb rc rd) := by
  rw [own_tn (by omega)]
  rcases (by omega : n = 0 ∨ n = 1 ∨ n = 2 ∨ n = 3) with rfl | rfl | rfl | rfl <;> rfl
theorem own_stT {i j : Nat} {ra rb rc rd x y : Addr} (h : (Int32.ofNat i) = (Int32.ofNat j)) (hi : i < 4) (hj : j < 4) (hx : x = own_st4 i ra rb rc rd) (hy : y = own_st4 j ra rb rc rd) : x = y := by
  rw [hx, hy, own_inj (by omega) (by omega) h]
theorem own_stF {i j : Nat} {ra rb rc rd x y : Addr} (h : ¬ ((Int32.ofNat i) = (Int32.ofNat j))) (hi : i < 4) (hj : j < 4) (hx : x = own_st4 i ra rb rc rd) (hy : y = own_st4 j ra rb rc rd) (hab : ra ≠ rb) (hac : ra ≠ rc) (had : ra ≠ rd) (hbc : rb ≠ rc) (hbd : rb ≠ rd) (hcd : rc ≠ rd) : ¬ (x = y) := by
  subst hx; subst hy
  rcases (by omega : i = 0 ∨ i = 1 ∨ i = 2 ∨ i = 3) with rfl | rfl | rfl | rfl <;> rcases (by omega : j = 0 ∨ j = 1 ∨ j = 2 ∨ j = 3) with rfl | rfl | rfl | rfl <;>
  first | exact absurd rfl h | assumption | (exact Ne.symm (by assumption))
theorem own_fldne {Z : State} {h : Heap} {a b : Addr} {C n d : String} {v w : Value} (F : Fld Z h a C n d v) (G : Fld Z h b C n d w) (hv : v ≠ w) : a ≠ b := fun q => by
  subst q
  obtain ⟨c1, cf1, k1, i1, f1, e1, e2, -, -, -, -, e7⟩ := F
  obtain ⟨c2, cf2, k2, i2, f2, g1, g2, -, -, -, -, g7⟩ := G
  cases e1.symm.trans g1
  cases e2.symm.trans g2
  exact hv (Option.some.inj (e7.symm.trans g7))
theorem pn_java_lang_StringUTF16 : plainName "java/lang/StringUTF16" = true := by first | (simp [plainName, overriddenIn]; done) | decide +kernel
theorem d_jdk_52_method_21_0 : decode jdk_52_method_21_code 0 = .ok (.iconst 0, 1) := by decide +kernel
theorem d_jdk_52_method_21_1 : decode jdk_52_method_21_code 1 = .ok (.istore 5, 2) := by decide +kernel
theorem d_jdk_52_method_21_3 : decode jdk_52_method_21_code 3 = .ok (.iload 5, 2) := by decide +kernel
theorem d_jdk_52_method_21_5 : decode jdk_52_method_21_code 5 = .ok (.iload 4, 2) := by decide +kernel
theorem d_jdk_52_method_21_7 : decode jdk_52_method_21_code 7 = .ok (.if_icmp .ge 37, 3) := by decide +kernel
theorem d_jdk_52_method_21_10 : decode jdk_52_method_21_code 10 = .ok (.aload_n 0, 1) := by decide +kernel
theorem d_jdk_52_method_21_11 : decode jdk_52_method_21_code 11 = .ok (.iload_n 1, 1) := by decide +kernel
theorem d_jdk_52_method_21_12 : decode jdk_52_method_21_code 12 = .ok (.caload, 1) := by decide +kernel
theorem os_rmCmpL_13 {z0 : Value} {z1 : Value} {z2 : Value} {z3 : Value} {z4 : Value} {z5 : Value} {s6 : Slot} {v : Int32} (h : One s6) : storeLocals #[.val z0, .val z1, .val z2, .val z3, .val z4, .val z5, s6] 6 (.int v) = some #[.val z0, .val z1, .val z2, .val z3, .val z4, .val z5, .val (.int v)] := by
  rcases h with rfl | ⟨w, rfl, hw⟩
  · rfl
  · cases w <;> first | rfl | (simp [Value.category] at hw)
theorem d_jdk_52_method_21_13 : decode jdk_52_method_21_code 13 = .ok (.istore 6, 2) := by decide +kernel
theorem d_jdk_52_method_21_15 : decode jdk_52_method_21_code 15 = .ok (.iload 6, 2) := by decide +kernel
theorem d_jdk_52_method_21_17 : decode jdk_52_method_21_code 17 = .ok (.sipush 255, 3) := by decide +kernel
theorem d_jdk_52_method_21_20 : decode jdk_52_method_21_code 20 = .ok (.if_icmp .le 6, 3) := by decide +kernel
theorem d_jdk_52_method_21_26 : decode jdk_52_method_21_code 26 = .ok (.aload_n 2, 1) := by decide +kernel
theorem d_jdk_52_method_21_27 : decode jdk_52_method_21_code 27 = .ok (.iload_n 3, 1) := by decide +kernel
theorem d_jdk_52_method_21_28 : decode jdk_52_method_21_code 28 = .ok (.iload 6, 2) := by decide +kernel
theorem d_jdk_52_method_21_30 : decode jdk_52_method_21_code 30 = .ok (.i2b, 1) := by decide +kernel
theorem d_jdk_52_method_21_31 : decode jdk_52_method_21_code 31 = .ok (.bastore, 1) := by decide +kernel
theorem d_jdk_52_method_21_32 : decode jdk_52_method_21_code 32 = .ok (.iinc 1 1, 3) := by decide +kernel
theorem d_jdk_52_method_21_35 : decode jdk_52_method_21_code 35 = .ok (.iinc 3 1, 3) := by decide +kernel
theorem d_jdk_52_method_21_38 : decode jdk_52_method_21_code 38 = .ok (.iinc 5 1, 3) := by decide +kernel
theorem d_jdk_52_method_21_41 : decode jdk_52_method_21_code 41 = .ok (.goto (-38), 3) := by decide +kernel
theorem d_jdk_52_method_21_44 : decode jdk_52_method_21_code 44 = .ok (.iload 4, 2) := by decide +kernel
theorem d_jdk_52_method_21_46 : decode jdk_52_method_21_code 46 = .ok (.ireturn, 1) := by decide +kernel
theorem ef_rmCmpL (m : MethodId) (x0 : Addr) (x1 : Int32) (x2 : Addr) (x3 : Int32) (x4 : Int32) : entryFrame m #[(.ref x0), (.int x1), (.ref x2), (.int x3), (.int x4)] 7 = mkF m 0 #[.val (.ref x0), .val (.int x1), .val (.ref x2), .val (.int x3), .val (.int x4), .unset, .unset] [] := by first | (simp [entryFrame, mkF, argsToLocals, Value.category]; done) | rfl
def Q_rmCmpL (Z : State) (ca : Addr) (ba : Addr) (cs : List Int32) (kc : ClassId) (n : Nat) (kb : ClassId) (vs : List Value) (h0 : Heap) (n0 : Nat) (v : Option Value) (h : Heap) (L : List Loc) : Prop := (v = some (.int (Int32.ofNat n))) ∧ (Fr n0 L) ∧ (Keep h0 h [ba]) ∧ (Arv Z h ba kb .byte (Int32.ofNat n) (own_mix (own_low cs) vs n) (.int (0 : Int32)))
set_option maxRecDepth 65536 in
set_option maxHeartbeats 40000000 in
theorem rmCmpL (l : Launch) (Z : State) (a0 : Array Value) (hw : ∀ d ∈ tables_1, d.before a0 Z = true) (ws : List Jvm.Cond) (ca : Addr) (ba : Addr) (cs : List Int32) (kc : ClassId) (n : Nat) (kb : ClassId) (vs : List Value) (h0 : Heap) (n0 : Nat) (Z0 : n0 ≤ h0.size) (I1 : Arv Z h0 ca kc .char (Int32.ofNat n) (cs.map Value.int) (.int (0 : Int32))) (I2 : Arv Z h0 ba kb .byte (Int32.ofNat n) vs (.int (0 : Int32))) (hn : cs.length = n) (hb : n ≤ 3) (hvs : vs.length = n) (gb : n0 ≤ ba) (hne : @Ne Nat ca ba) (hlat : own_lat cs) :
    MetFree l (⟨"java/lang/StringUTF16", "compress", "([CI[BII)I"⟩ : MethodName) (head1 (Jvm.Cond.code (⟨"java/lang/StringUTF16", "compress", "([CI[BII)I"⟩ : MethodName) jdk_52_method_21_code 7 (some .int) :: ws) ({ frames := 0, cells := 0, slots := 0, locals := 0 } : Room)) (fun ar_ U => ar_ = #[(.ref ca), (.int (0 : Int32)), (.ref ba), (.int (0 : Int32)), (.int (Int32.ofNat n))] ∧ Z.Warmed39 U.vm ∧ U.heap = h0) (fun _ _ _ _ _ => True) (fun _ U o U' => ∃ v L, o = .returned v ∧ Q_rmCmpL Z ca ba cs kc n kb vs h0 n0 v U'.heap L ∧ FrameEnd U o U' L ({ frames := 0, cells := 0, slots := 0, locals := 0 } : Room).cells ({ frames := 0, cells := 0, slots := 0, locals := 0 } : Room).slots) := by
  refine MetFree.of_bodySF (plainFor_of_name pn_java_lang_StringUTF16) hisR ?_
  intro p e s m args below meth c s₁ Bd hml0 hP hK
  obtain ⟨rfl, hZ, hh⟩ := hP
  have hx := Bd.exec
  have hby := Bd.bytes
  have hml : c.maxLocals = 7 := hml0
  have hown : s.vm.findClass "java/lang/StringUTF16" = some m.cls := findClass_of_methodNamed Bd.named
  have hnm := (name_of_methodNamed Bd.named Bd.method).1
  have X0 : Stand p l e ({ frames := 0, cells := 0, slots := 0, locals := 0 } : Room) s m #[(.ref ca), (.int (0 : Int32)), (.ref ba), (.int (0 : Int32)), (.int (Int32.ofNat n))] below meth c s₁ [] 0 0 := Stand.of_body Bd
  have e0 : s₁.heap = h0 := by rw [← hh, Bd.state]; rfl
  have N0 := Fr.nil n0
  have pre0 : ∀ t_, Steps p.tables e below (s₁.setTop (mkF m 0 #[.val (.ref ca), .val (.int (0 : Int32)), .val (.ref ba), .val (.int (0 : Int32)), .val (.int (Int32.ofNat n)), .unset, .unset] [])) t_ → Steps p.tables e below (s₁.setTop (entryFrame m #[(.ref ca), (.int (0 : Int32)), (.ref ba), (.int (0 : Int32)), (.int (Int32.ofNat n))] 7)) t_ := fun t_ k_ => castTop (ef_rmCmpL m ca (0 : Int32) ba (0 : Int32) (Int32.ofNat n)) k_
  have lt_I1 : @LT.lt Nat _ ca h0.size := I1.lt
  have lt_I2 : @LT.lt Nat _ ba h0.size := I2.lt
  have s1 : ∀ t_, Steps p.tables e below (s₁.setTop (mkF m 3 #[.val (.ref ca), .val (.int (0 : Int32)), .val (.ref ba), .val (.int (0 : Int32)), .val (.int (Int32.ofNat n)), .val (.int (0 : Int32)), .unset] [])) t_ → Steps p.tables e below (s₁.setTop (entryFrame m #[(.ref ca), (.int (0 : Int32)), (.ref ba), (.int (0 : Int32)), (.int (Int32.ofNat n))] 7)) t_ := fun t_ k_ => pre0 t_ (by
    show Steps p.tables e below (s₁.setTop (mkF m 0 #[.val (.ref ca), .val (.int (0 : Int32)), .val (.ref ba), .val (.int (0 : Int32)), .val (.int (Int32.ofNat n)), .unset, .unset] [])) t_
    refine XS.iconst X0.here hx rfl (Jvm.hb hby d_jdk_52_method_21_0) ?_
    refine XS.istore X0.here hx rfl (Jvm.hb hby d_jdk_52_method_21_1) rfl (l' := #[.val (.ref ca), .val (.int (0 : Int32)), .val (.ref ba), .val (.int (0 : Int32)), .val (.int (Int32.ofNat n)), .val (.int (0 : Int32)), .unset]) rfl ?_
    show Steps p.tables e below (s₁.setTop (mkF m 3 #[.val (.ref ca), .val (.int (0 : Int32)), .val (.ref ba), .val (.int (0 : Int32)), .val (.int (Int32.ofNat n)), .val (.int (0 : Int32)), .unset] [])) t_
    exact k_)
  have lp2 : ∀ (k_ : Nat) (j : Nat) (s6 : Slot) (T_ : State) (lo_ : List Loc) (hh2 : Heap), j + k_ = n → Stand p l e ({ frames := 0, cells := 0, slots := 0, locals := 0 } : Room) s m #[(.ref ca), (.int (0 : Int32)), (.ref ba), (.int (0 : Int32)), (.int (Int32.ofNat n))] below meth c T_ lo_ 0 0 → T_.heap = hh2 → Fr n0 lo_ → Keep h0 hh2 [ba] → Arv Z hh2 ba kb .byte (Int32.ofNat n) (own_mix (own_low cs) vs j) (.int (0 : Int32)) → (One s6) → ∃ (T' : State) (lo' : List Loc) (hx_ : Heap) (fe_ : JFrame), Stand p l e ({ frames := 0, cells := 0, slots := 0, locals := 0 } : Room) s m #[(.ref ca), (.int (0 : Int32)), (.ref ba), (.int (0 : Int32)), (.int (Int32.ofNat n))] below meth c T' lo' 0 0 ∧ T'.heap = hx_ ∧ Fr n0 lo' ∧ Keep h0 hx_ [ba] ∧ ((∃ (s6 : Slot), fe_ = (mkF m 44 #[.val (.ref ca), .val (.int (Int32.ofNat n)), .val (.ref ba), .val (.int (Int32.ofNat n)), .val (.int (Int32.ofNat n)), .val (.int (Int32.ofNat n)), s6] []) ∧ Arv Z hx_ ba kb .byte (Int32.ofNat n) (own_mix (own_low cs) vs n) (.int (0 : Int32)))) ∧ ∀ t_, Steps p.tables e below (T'.setTop fe_) t_ → Steps p.tables e below (T_.setTop (mkF m 3 #[.val (.ref ca), .val (.int (Int32.ofNat j)), .val (.ref ba), .val (.int (Int32.ofNat j)), .val (.int (Int32.ofNat n)), .val (.int (Int32.ofNat j)), s6] [])) t_ := by
    intro k_
    induction k_ with
    | zero => 
      intro j s6 T_ lo_ hh2 hm_ X_ e_ N_ K_ F_0 hs6
      have zk_ : h0.size ≤ hh2.size := K_.1
      have s3 : ∀ t_, Steps p.tables e below (T_.setTop (mkF m 44 #[.val (.ref ca), .val (.int (Int32.ofNat j)), .val (.ref ba), .val (.int (Int32.ofNat j)), .val (.int (Int32.ofNat n)), .val (.int (Int32.ofNat j)), s6] [])) t_ → Steps p.tables e below (T_.setTop (mkF m 3 #[.val (.ref ca), .val (.int (Int32.ofNat j)), .val (.ref ba), .val (.int (Int32.ofNat j)), .val (.int (Int32.ofNat n)), .val (.int (Int32.ofNat j)), s6] [])) t_ := fun t_ k_ => (fun _ k_ => k_) t_ (by
        show Steps p.tables e below (T_.setTop (mkF m 3 #[.val (.ref ca), .val (.int (Int32.ofNat j)), .val (.ref ba), .val (.int (Int32.ofNat j)), .val (.int (Int32.ofNat n)), .val (.int (Int32.ofNat j)), s6] [])) t_
        refine XS.iload X_.here hx rfl (Jvm.hb hby d_jdk_52_method_21_3) rfl ?_
        refine XS.iload X_.here hx rfl (Jvm.hb hby d_jdk_52_method_21_5) rfl ?_
        refine XS.icmpYes X_.here hx rfl (pc0 := 7) (pc' := 44) rfl (Jvm.hb hby d_jdk_52_method_21_7) rfl (flt (own_nlt (by omega) (by omega))).2.1 (by decide) (by decide) ?_
        show Steps p.tables e below (T_.setTop (mkF m 44 #[.val (.ref ca), .val (.int (Int32.ofNat j)), .val (.ref ba), .val (.int (Int32.ofNat j)), .val (.int (Int32.ofNat n)), .val (.int (Int32.ofNat j)), s6] [])) _
        show Steps p.tables e below (T_.setTop (mkF m 44 #[.val (.ref ca), .val (.int (Int32.ofNat j)), .val (.ref ba), .val (.int (Int32.ofNat j)), .val (.int (Int32.ofNat n)), .val (.int (Int32.ofNat j)), s6] [])) t_
        exact k_)
      exact ⟨T_, _, _, _, X_, e_, N_, ((Keep.refl h0 [ba]).trans K_ (allS (Or.inl (by simp)) all0)), ⟨s6, (by rw [show j = n by omega]), (by obtain rfl : j = n := (by omega); exact F_0)⟩, s3⟩
    | succ k_ ih => 
      intro j s6 T_ lo_ hh2 hm_ X_ e_ N_ K_ F_0 hs6
      have zk_ : h0.size ≤ hh2.size := K_.1
      have f4 : Arv Z hh2 ca kc .char (Int32.ofNat n) (cs.map Value.int) (.int (0 : Int32)) := (I1.keep K_ (ninS (show @Ne Nat ca ba by omega) nin0))
      obtain ⟨cl5, Ar5, -, S5, M5, H5, -⟩ := id f4
      have hin5 : ¬ ((Int32.ofNat j) < 0 ∨ cl5.slots.size ≤ ((Int32.ofNat j)).toNatClampNeg) := inb_of S5 (own_in (by omega) (by omega))
      have hat5 : cl5.slots[((Int32.ofNat j)).toNatClampNeg]? = some (.int (cs.getD j 0)) := H5.at hin5 (own_getc cs j _ (by omega) (by omega))
      obtain ⟨cl6, Ar6, q6, S6, M6, H6, G6⟩ := id F_0
      have hin6 : ¬ ((Int32.ofNat j) < 0 ∨ cl6.slots.size ≤ ((Int32.ofNat j)).toNatClampNeg) := inb_of S6 (own_in (by omega) (by omega))
      obtain ⟨T7, h7, X7, e7, W7, st7⟩ := stB X_ hx hZ e_ Ar6 (j := (Int32.ofNat j)) hin6 (g := (mkF m 31 #[.val (.ref ca), .val (.int (Int32.ofNat j)), .val (.ref ba), .val (.int (Int32.ofNat j)), .val (.int (Int32.ofNat n)), .val (.int (Int32.ofNat j)), .val (.int (cs.getD j 0))] [(.int (own_lo (cs.getD j 0))), (.int (Int32.ofNat j)), (.ref ba)])) rfl rfl (Jvm.hb hby d_jdk_52_method_21_31)
      have z8 : hh2.size ≤ h7.size := Nat.le_of_eq W7.size.symm
      have V7 : Arv Z h7 ba kb .byte (Int32.ofNat n) (own_mix (own_low cs) vs (j + 1)) (.int (0 : Int32)) := by
        have q : Arv Z h7 ba kb .byte (Int32.ofNat n) ((own_mix (own_low cs) vs j).set j (.int (nar .byte (own_lo (cs.getD j 0))))) (.int (0 : Int32)) := Arv.set Ar6 q6 S6 M6 H6 G6 (fits_nar_byte _) W7 j (own_tn (by omega)) (by rw [own_mixl _ _ _ (by rw [own_lowl]; omega)]; omega)
        rw [own_mixc cs vs j (by omega) (by omega)] at q
        exact q
      have N7 := Fr.snoc X7 N_ (show n0 ≤ ba by omega)
      have s9 : ∀ t_, Steps p.tables e below (T7.setTop (mkF m 3 #[.val (.ref ca), .val (.int ((Int32.ofNat j) + (1 : Int32))), .val (.ref ba), .val (.int ((Int32.ofNat j) + (1 : Int32))), .val (.int (Int32.ofNat n)), .val (.int ((Int32.ofNat j) + (1 : Int32))), .val (.int (cs.getD j 0))] [])) t_ → Steps p.tables e below (T_.setTop (mkF m 3 #[.val (.ref ca), .val (.int (Int32.ofNat j)), .val (.ref ba), .val (.int (Int32.ofNat j)), .val (.int (Int32.ofNat n)), .val (.int (Int32.ofNat j)), s6] [])) t_ := fun t_ k_ => (fun _ k_ => k_) t_ (by
        show Steps p.tables e below (T_.setTop (mkF m 3 #[.val (.ref ca), .val (.int (Int32.ofNat j)), .val (.ref ba), .val (.int (Int32.ofNat j)), .val (.int (Int32.ofNat n)), .val (.int (Int32.ofNat j)), s6] [])) t_
        refine XS.iload X_.here hx rfl (Jvm.hb hby d_jdk_52_method_21_3) rfl ?_
        refine XS.iload X_.here hx rfl (Jvm.hb hby d_jdk_52_method_21_5) rfl ?_
        refine XS.icmpNo X_.here hx rfl (Jvm.hb hby d_jdk_52_method_21_7) rfl (tlt (own_lt (by omega) (by omega))).2.1 ?_
        show Steps p.tables e below (T_.setTop (mkF m 10 #[.val (.ref ca), .val (.int (Int32.ofNat j)), .val (.ref ba), .val (.int (Int32.ofNat j)), .val (.int (Int32.ofNat n)), .val (.int (Int32.ofNat j)), s6] [])) _
        refine XS.aloadN X_.here hx rfl (Jvm.hb hby d_jdk_52_method_21_10) rfl rfl ?_
        refine XS.iloadN X_.here hx rfl (Jvm.hb hby d_jdk_52_method_21_11) rfl ?_
        refine X_.caload hx (j := (Int32.ofNat j)) (v := (.int (cs.getD j 0))) (by rw [e_]; exact Ar5.1) (State.isArrayOf_alike hZ.alike Ar5.2.1) Ar5.2.2 hin5 hat5 (g := (mkF m 12 #[.val (.ref ca), .val (.int (Int32.ofNat j)), .val (.ref ba), .val (.int (Int32.ofNat j)), .val (.int (Int32.ofNat n)), .val (.int (Int32.ofNat j)), s6] [(.int (Int32.ofNat j)), (.ref ca)])) rfl rfl (Jvm.hb hby d_jdk_52_method_21_12) _ ?_
        show Steps p.tables e below (T_.setTop (mkF m 13 #[.val (.ref ca), .val (.int (Int32.ofNat j)), .val (.ref ba), .val (.int (Int32.ofNat j)), .val (.int (Int32.ofNat n)), .val (.int (Int32.ofNat j)), s6] [(.int (cs.getD j 0))])) _
        refine XS.istore X_.here hx rfl (Jvm.hb hby d_jdk_52_method_21_13) rfl (l' := #[.val (.ref ca), .val (.int (Int32.ofNat j)), .val (.ref ba), .val (.int (Int32.ofNat j)), .val (.int (Int32.ofNat n)), .val (.int (Int32.ofNat j)), .val (.int (cs.getD j 0))]) (os_rmCmpL_13 hs6) ?_
        refine XS.iload X_.here hx rfl (Jvm.hb hby d_jdk_52_method_21_15) rfl ?_
        refine XS.sipush X_.here hx rfl (Jvm.hb hby d_jdk_52_method_21_17) ?_
        refine XS.icmpYes X_.here hx rfl (pc0 := 20) (pc' := 26) rfl (Jvm.hb hby d_jdk_52_method_21_20) rfl (flt (hlat _ (own_mem cs j (by omega)))).2.2.2 (by decide) (by decide) ?_
        show Steps p.tables e below (T_.setTop (mkF m 26 #[.val (.ref ca), .val (.int (Int32.ofNat j)), .val (.ref ba), .val (.int (Int32.ofNat j)), .val (.int (Int32.ofNat n)), .val (.int (Int32.ofNat j)), .val (.int (cs.getD j 0))] [])) _
        refine XS.aloadN X_.here hx rfl (Jvm.hb hby d_jdk_52_method_21_26) rfl rfl ?_
        refine XS.iloadN X_.here hx rfl (Jvm.hb hby d_jdk_52_method_21_27) rfl ?_
        refine XS.iload X_.here hx rfl (Jvm.hb hby d_jdk_52_method_21_28) rfl ?_
        refine XS.i2b X_.here hx rfl (Jvm.hb hby d_jdk_52_method_21_30) rfl ?_
        refine st7 _ ?_
        show Steps p.tables e below (T7.setTop (mkF m 32 #[.val (.ref ca), .val (.int (Int32.ofNat j)), .val (.ref ba), .val (.int (Int32.ofNat j)), .val (.int (Int32.ofNat n)), .val (.int (Int32.ofNat j)), .val (.int (cs.getD j 0))] [])) _
        refine XS.iinc X7.here hx rfl (Jvm.hb hby d_jdk_52_method_21_32) rfl (l' := #[.val (.ref ca), .val (.int ((Int32.ofNat j) + (1 : Int32))), .val (.ref ba), .val (.int (Int32.ofNat j)), .val (.int (Int32.ofNat n)), .val (.int (Int32.ofNat j)), .val (.int (cs.getD j 0))]) rfl ?_
        refine XS.iinc X7.here hx rfl (Jvm.hb hby d_jdk_52_method_21_35) rfl (l' := #[.val (.ref ca), .val (.int ((Int32.ofNat j) + (1 : Int32))), .val (.ref ba), .val (.int ((Int32.ofNat j) + (1 : Int32))), .val (.int (Int32.ofNat n)), .val (.int (Int32.ofNat j)), .val (.int (cs.getD j 0))]) rfl ?_
        refine XS.iinc X7.here hx rfl (Jvm.hb hby d_jdk_52_method_21_38) rfl (l' := #[.val (.ref ca), .val (.int ((Int32.ofNat j) + (1 : Int32))), .val (.ref ba), .val (.int ((Int32.ofNat j) + (1 : Int32))), .val (.int (Int32.ofNat n)), .val (.int ((Int32.ofNat j) + (1 : Int32))), .val (.int (cs.getD j 0))]) rfl ?_
        refine XS.goto X7.here hx rfl (pc0 := 41) (pc' := 3) rfl (Jvm.hb hby d_jdk_52_method_21_41) (by decide) (by decide) ?_
        show Steps p.tables e below (T7.setTop (mkF m 3 #[.val (.ref ca), .val (.int ((Int32.ofNat j) + (1 : Int32))), .val (.ref ba), .val (.int ((Int32.ofNat j) + (1 : Int32))), .val (.int (Int32.ofNat n)), .val (.int ((Int32.ofNat j) + (1 : Int32))), .val (.int (cs.getD j 0))] [])) t_
        exact k_)
      obtain ⟨T10, lo10, h10, fe10, X10, e10, N10, K10, A10, st10⟩ := ih (j + 1) (.val (.int (cs.getD j 0))) T7 _ h7 (by omega) X7 e7 N7 (((Keep.refl h0 [ba]).trans K_ (allS (Or.inl (by simp)) all0)).wr W7 (Or.inl (by simp))) V7 (One.val rfl)
      exact ⟨T10, lo10, h10, fe10, X10, e10, N10, K10, A10, fun t_ k_ => s9 t_ (castTop (by rw [own_up]) (st10 t_ k_))⟩
  obtain ⟨T11, lo11, h11, fe11, X11, e11, N11, K11, A11, st11⟩ := lp2 n 0 .unset s₁ _ h0 (by omega) X0 e0 N0 (Keep.refl _ _) (by rw [own_mix0]; exact I2) One.u
  have z12 : h0.size ≤ h11.size := K11.1
  obtain ⟨s6_11, rfl, G11_0⟩ := A11
  have s13 : ∀ t_, Steps p.tables e below (T11.setTop (mkF m 44 #[.val (.ref ca), .val (.int (Int32.ofNat n)), .val (.ref ba), .val (.int (Int32.ofNat n)), .val (.int (Int32.ofNat n)), .val (.int (Int32.ofNat n)), s6_11] [])) t_ → Steps p.tables e below (s₁.setTop (entryFrame m #[(.ref ca), (.int (0 : Int32)), (.ref ba), (.int (0 : Int32)), (.int (Int32.ofNat n))] 7)) t_ := fun t_ k_ => s1 t_ (st11 t_ k_)
  have s14 : ∀ t_, Steps p.tables e below (T11.setTop (mkF m 46 #[.val (.ref ca), .val (.int (Int32.ofNat n)), .val (.ref ba), .val (.int (Int32.ofNat n)), .val (.int (Int32.ofNat n)), .val (.int (Int32.ofNat n)), s6_11] [(.int (Int32.ofNat n))])) t_ → Steps p.tables e below (s₁.setTop (entryFrame m #[(.ref ca), (.int (0 : Int32)), (.ref ba), (.int (0 : Int32)), (.int (Int32.ofNat n))] 7)) t_ := fun t_ k_ => s13 t_ (by
    show Steps p.tables e below (T11.setTop (mkF m 44 #[.val (.ref ca), .val (.int (Int32.ofNat n)), .val (.ref ba), .val (.int (Int32.ofNat n)), .val (.int (Int32.ofNat n)), .val (.int (Int32.ofNat n)), s6_11] [])) t_
    refine XS.iload X11.here hx rfl (Jvm.hb hby d_jdk_52_method_21_44) rfl ?_
    show Steps p.tables e below (T11.setTop (mkF m 46 #[.val (.ref ca), .val (.int (Int32.ofNat n)), .val (.ref ba), .val (.int (Int32.ofNat n)), .val (.int (Int32.ofNat n)), .val (.int (Int32.ofNat n)), s6_11] [(.int (Int32.ofNat n))])) t_
    exact k_)
  obtain ⟨fs, hr, hrun, hended, hW, hsame⟩ := X11.leave (v := some (.int (Int32.ofNat n))) (fun h => by rw [Bd.returns] at h; cases h)
  refine ⟨_, _, s14 _ ?_, hrun, hended, _, _, rfl, ?_, ⟨_, rfl⟩, hW, hsame.mono (by decide) (by decide)⟩
  · show Steps p.tables e below (T11.setTop (mkF m 46 #[.val (.ref ca), .val (.int (Int32.ofNat n)), .val (.ref ba), .val (.int (Int32.ofNat n)), .val (.int (Int32.ofNat n)), .val (.int (Int32.ofNat n)), s6_11] [(.int (Int32.ofNat n))])) _
    exact retI X11 hx Bd.returns (Jvm.hb hby d_jdk_52_method_21_46) hr
  · show Q_rmCmpL Z _ _ _ _ _ _ _ h0 n0 _ T11.heap _
    rw [e11]
    exact ⟨rfl, N11, ((Keep.refl h0 [ba]).trans K11 (allS (Or.inl (by simp)) all0)), G11_0⟩
theorem d_jdk_52_method_15_0 : decode jdk_52_method_15_code 0 = .ok (.iload_n 1, 1) := by decide +kernel
theorem d_jdk_52_method_15_1 : decode jdk_52_method_15_code 1 = .ok (.aload_n 0, 1) := by decide +kernel
theorem d_jdk_52_method_15_2 : decode jdk_52_method_15_code 2 = .ok (.arraylength, 1) := by decide +kernel
theorem d_jdk_52_method_15_3 : decode jdk_52_method_15_code 3 = .ok (.isub, 1) := by decide +kernel
theorem d_jdk_52_method_15_4 : decode jdk_52_method_15_code 4 = .ok (.bipush 31, 2) := by decide +kernel
theorem d_jdk_52_method_15_6 : decode jdk_52_method_15_code 6 = .ok (.iushr, 1) := by decide +kernel
theorem d_jdk_52_method_15_7 : decode jdk_52_method_15_code 7 = .ok (.i2b, 1) := by decide +kernel
theorem d_jdk_52_method_15_8 : decode jdk_52_method_15_code 8 = .ok (.ireturn, 1) := by decide +kernel
theorem ef_rmCod (m : MethodId) (x0 : Addr) (x1 : Int32) : entryFrame m #[(.ref x0), (.int x1)] 2 = mkF m 0 #[.val (.ref x0), .val (.int x1)] [] := by first | (simp [entryFrame, mkF, argsToLocals, Value.category]; done) | rfl
def Q_rmCod (Z : State) (ba : Addr) (nn : Int32) (kb : ClassId) (zz : Int32) (vs : List Value) (h0 : Heap) (n0 : Nat) (v : Option Value) (h : Heap) (L : List Loc) : Prop := (v = some (.int (nar .byte (own_lo (ushr (nn - zz) (31 : Int32)))))) ∧ (Fr n0 L) ∧ (h = h0)
set_option maxRecDepth 65536 in
set_option maxHeartbeats 40000000 in
theorem rmCod (l : Launch) (Z : State) (a0 : Array Value) (hw : ∀ d ∈ tables_1, d.before a0 Z = true) (ws : List Jvm.Cond) (ba : Addr) (nn : Int32) (kb : ClassId) (zz : Int32) (vs : List Value) (h0 : Heap) (n0 : Nat) (Z0 : n0 ≤ h0.size) (I1 : Arv Z h0 ba kb .byte zz vs (.int (0 : Int32))) :
    MetFree l (⟨"java/lang/StringUTF16", "coderFromArrayLen", "([BI)B"⟩ : MethodName) (head1 (Jvm.Cond.code (⟨"java/lang/StringUTF16", "coderFromArrayLen", "([BI)B"⟩ : MethodName) jdk_52_method_15_code 2 (some .byte) :: ws) ({ frames := 0, cells := 0, slots := 0, locals := 0 } : Room)) (fun ar_ U => ar_ = #[(.ref ba), (.int nn)] ∧ Z.Warmed39 U.vm ∧ U.heap = h0) (fun _ _ _ _ _ => True) (fun _ U o U' => ∃ v L, o = .returned v ∧ Q_rmCod Z ba nn kb zz vs h0 n0 v U'.heap L ∧ FrameEnd U o U' L ({ frames := 0, cells := 0, slots := 0, locals := 0 } : Room).cells ({ frames := 0, cells := 0, slots := 0, locals := 0 } : Room).slots) := by
  refine MetFree.of_bodySF (plainFor_of_name pn_java_lang_StringUTF16) hisR ?_
  intro p e s m args below meth c s₁ Bd hml0 hP hK
  obtain ⟨rfl, hZ, hh⟩ := hP
  have hx := Bd.exec
  have hby := Bd.bytes
  have hml : c.maxLocals = 2 := hml0
  have hown : s.vm.findClass "java/lang/StringUTF16" = some m.cls := findClass_of_methodNamed Bd.named
  have hnm := (name_of_methodNamed Bd.named Bd.method).1
  have X0 : Stand p l e ({ frames := 0, cells := 0, slots := 0, locals := 0 } : Room) s m #[(.ref ba), (.int nn)] below meth c s₁ [] 0 0 := Stand.of_body Bd
  have e0 : s₁.heap = h0 := by rw [← hh, Bd.state]; rfl
  have N0 := Fr.nil n0
  have pre0 : ∀ t_, Steps p.tables e below (s₁.setTop (mkF m 0 #[.val (.ref ba), .val (.int nn)] [])) t_ → Steps p.tables e below (s₁.setTop (entryFrame m #[(.ref ba), (.int nn)] 2)) t_ := fun t_ k_ => castTop (ef_rmCod m ba nn) k_
  have lt_I1 : @LT.lt Nat _ ba h0.size := I1.lt
  obtain ⟨cl1, Ar1, -, S1, M1, -, -⟩ := id I1
  have s2 : ∀ t_, Steps p.tables e below (s₁.setTop (mkF m 8 #[.val (.ref ba), .val (.int nn)] [(.int (own_lo (ushr (nn - zz) (31 : Int32))))])) t_ → Steps p.tables e below (s₁.setTop (entryFrame m #[(.ref ba), (.int nn)] 2)) t_ := fun t_ k_ => pre0 t_ (by
    show Steps p.tables e below (s₁.setTop (mkF m 0 #[.val (.ref ba), .val (.int nn)] [])) t_
    refine XS.iloadN X0.here hx rfl (Jvm.hb hby d_jdk_52_method_15_0) rfl ?_
    refine XS.aloadN X0.here hx rfl (Jvm.hb hby d_jdk_52_method_15_1) rfl rfl ?_
    refine X0.arraylength hx (by rw [e0]; exact Ar1.1) (State.isArrayOf_alike hZ.alike Ar1.2.1) (g := (mkF m 2 #[.val (.ref ba), .val (.int nn)] [(.ref ba), (.int nn)])) rfl rfl (Jvm.hb hby d_jdk_52_method_15_2) _ ?_
    rw [len_of S1 M1]
    show Steps p.tables e below (s₁.setTop (mkF m 3 #[.val (.ref ba), .val (.int nn)] [(.int zz), (.int nn)])) _
    refine XS.isub X0.here hx rfl (Jvm.hb hby d_jdk_52_method_15_3) rfl ?_
    refine XS.bipush X0.here hx rfl (Jvm.hb hby d_jdk_52_method_15_4) ?_
    refine XS.iushr X0.here hx rfl (Jvm.hb hby d_jdk_52_method_15_6) rfl ?_
    refine XS.i2b X0.here hx rfl (Jvm.hb hby d_jdk_52_method_15_7) rfl ?_
    show Steps p.tables e below (s₁.setTop (mkF m 8 #[.val (.ref ba), .val (.int nn)] [(.int (own_lo (ushr (nn - zz) (31 : Int32))))])) t_
    exact k_)
  obtain ⟨fs, hr, hrun, hended, hW, hsame⟩ := X0.leave (v := some (.int (nar .byte (own_lo (ushr (nn - zz) (31 : Int32)))))) (fun h => by rw [Bd.returns] at h; cases h)
  refine ⟨_, _, s2 _ ?_, hrun, hended, _, _, rfl, ?_, ⟨_, rfl⟩, hW, hsame.mono (by decide) (by decide)⟩
  · show Steps p.tables e below (s₁.setTop (mkF m 8 #[.val (.ref ba), .val (.int nn)] [(.int (own_lo (ushr (nn - zz) (31 : Int32))))])) _
    exact retN X0 hx (t := .byte) Bd.returns (by simp) (Jvm.hb hby d_jdk_52_method_15_8) hr
  · show Q_rmCod Z _ _ _ _ _ h0 n0 _ s₁.heap _
    rw [e0]
    exact ⟨rfl, N0, rfl⟩
theorem d_jdk_52_method_16_0 : decode jdk_52_method_16_code 0 = .ok (.iload_n 2, 1) := by decide +kernel
theorem d_jdk_52_method_16_1 : decode jdk_52_method_16_code 1 = .ok (.newarray .byte, 2) := by decide +kernel
theorem d_jdk_52_method_16_3 : decode jdk_52_method_16_code 3 = .ok (.astore_n 3, 1) := by decide +kernel
theorem d_jdk_52_method_16_4 : decode jdk_52_method_16_code 4 = .ok (.aload_n 0, 1) := by decide +kernel
theorem d_jdk_52_method_16_5 : decode jdk_52_method_16_code 5 = .ok (.iload_n 1, 1) := by decide +kernel
theorem d_jdk_52_method_16_6 : decode jdk_52_method_16_code 6 = .ok (.aload_n 3, 1) := by decide +kernel
theorem d_jdk_52_method_16_7 : decode jdk_52_method_16_code 7 = .ok (.iconst 0, 1) := by decide +kernel
theorem d_jdk_52_method_16_8 : decode jdk_52_method_16_code 8 = .ok (.iload_n 2, 1) := by decide +kernel
theorem pd___CI_BII_I : parseMethodDescriptor "([CI[BII)I" = some ⟨[(.array .char), .int, (.array .byte), .int, .int], some .int⟩ := by decide +kernel
theorem d_jdk_52_method_16_9 : decode jdk_52_method_16_code 9 = .ok (.invokestatic 115, 3) := by decide +kernel
theorem d_jdk_52_method_16_12 : decode jdk_52_method_16_code 12 = .ok (.istore 4, 2) := by decide +kernel
theorem d_jdk_52_method_16_14 : decode jdk_52_method_16_code 14 = .ok (.iload 4, 2) := by decide +kernel
theorem d_jdk_52_method_16_16 : decode jdk_52_method_16_code 16 = .ok (.iload_n 2, 1) := by decide +kernel
theorem d_jdk_52_method_16_17 : decode jdk_52_method_16_code 17 = .ok (.if_icmp .eq 40, 3) := by decide +kernel
theorem d_jdk_52_method_16_57 : decode jdk_52_method_16_code 57 = .ok (.aload_n 3, 1) := by decide +kernel
theorem d_jdk_52_method_16_58 : decode jdk_52_method_16_code 58 = .ok (.areturn, 1) := by decide +kernel
theorem ef_rmComp (m : MethodId) (x0 : Addr) (x1 : Int32) (x2 : Int32) : entryFrame m #[(.ref x0), (.int x1), (.int x2)] 6 = mkF m 0 #[.val (.ref x0), .val (.int x1), .val (.int x2), .unset, .unset, .unset] [] := by first | (simp [entryFrame, mkF, argsToLocals, Value.category]; done) | rfl
def Q_rmComp (Z : State) (ca : Addr) (cs : List Int32) (kc : ClassId) (n : Nat) (h0 : Heap) (n0 : Nat) (v : Option Value) (h : Heap) (L : List Loc) : Prop := ∃ (b : Addr), ∃ (kb : ClassId), (v = some (.ref b)) ∧ (Fr n0 L) ∧ (Keep h0 h []) ∧ (Arv Z h b kb .byte (Int32.ofNat (own_enl cs)) (own_enc cs) (.int (0 : Int32))) ∧ (h0.size ≤ b)
set_option maxRecDepth 65536 in
set_option maxHeartbeats 40000000 in
theorem rmComp (l : Launch) (Z : State) (a0 : Array Value) (hw : ∀ d ∈ tables_1, d.before a0 Z = true) (ws : List Jvm.Cond) (ca : Addr) (cs : List Int32) (kc : ClassId) (n : Nat) (h0 : Heap) (n0 : Nat) (Z0 : n0 ≤ h0.size) (I1 : Arv Z h0 ca kc .char (Int32.ofNat n) (cs.map Value.int) (.int (0 : Int32))) (hn : cs.length = n) (hb : n ≤ 3) (hlat : own_lat cs) :
    MetFree l (⟨"java/lang/StringUTF16", "compress", "([CII)[B"⟩ : MethodName) (head1 (Jvm.Cond.code (⟨"java/lang/StringUTF16", "compress", "([CII)[B"⟩ : MethodName) jdk_52_method_16_code 6 (some (.array .byte)) :: ws) ({ frames := 1, cells := 1, slots := 3, locals := 18 } : Room)) (fun ar_ U => ar_ = #[(.ref ca), (.int (0 : Int32)), (.int (Int32.ofNat n))] ∧ Z.Warmed39 U.vm ∧ U.heap = h0) (fun _ _ _ _ _ => True) (fun _ U o U' => ∃ v L, o = .returned v ∧ Q_rmComp Z ca cs kc n h0 n0 v U'.heap L ∧ FrameEnd U o U' L ({ frames := 1, cells := 1, slots := 3, locals := 18 } : Room).cells ({ frames := 1, cells := 1, slots := 3, locals := 18 } : Room).slots) := by
  refine MetFree.of_bodySF (plainFor_of_name pn_java_lang_StringUTF16) hisR ?_
  intro p e s m args below meth c s₁ Bd hml0 hP hK
  obtain ⟨rfl, hZ, hh⟩ := hP
  have hx := Bd.exec
  have hby := Bd.bytes
  have hml : c.maxLocals = 6 := hml0
  have hown : s.vm.findClass "java/lang/StringUTF16" = some m.cls := findClass_of_methodNamed Bd.named
  have hnm := (name_of_methodNamed Bd.named Bd.method).1
  have X0 : Stand p l e ({ frames := 1, cells := 1, slots := 3, locals := 18 } : Room) s m #[(.ref ca), (.int (0 : Int32)), (.int (Int32.ofNat n))] below meth c s₁ [] 0 0 := Stand.of_body Bd
  have e0 : s₁.heap = h0 := by rw [← hh, Bd.state]; rfl
  have N0 := Fr.nil n0
  have pre0 : ∀ t_, Steps p.tables e below (s₁.setTop (mkF m 0 #[.val (.ref ca), .val (.int (0 : Int32)), .val (.int (Int32.ofNat n)), .unset, .unset, .unset] [])) t_ → Steps p.tables e below (s₁.setTop (entryFrame m #[(.ref ca), (.int (0 : Int32)), (.int (Int32.ofNat n))] 6)) t_ := fun t_ k_ => castTop (ef_rmComp m ca (0 : Int32) (Int32.ofNat n)) k_
  have lt_I1 : @LT.lt Nat _ ca h0.size := I1.lt
  obtain ⟨T1, h1, k1, X1, e1, E1, A1, st1⟩ := newP X0 hx hZ (hw _ (List.mem_of_getElem? (i := 35) rfl)) e0 (g := (mkF m 1 #[.val (.ref ca), .val (.int (0 : Int32)), .val (.int (Int32.ofNat n)), .unset, .unset, .unset] [(.int (Int32.ofNat n))])) rfl (Jvm.hb hby d_jdk_52_method_16_1) rfl (own_nn (by omega)) (cap := 3) (by rw [own_tn (by omega)]; omega) (by decide) (by decide) (by decide)
  obtain ⟨b1, g1⟩ : ∃ z, z = h0.size := ⟨_, rfl⟩
  rw [← g1] at A1 st1
  have z2 : h0.size ≤ h1.size := E1.1
  have l1 : b1 < h1.size := A1.lt
  have V1 : Arv Z h1 b1 k1 .byte (Int32.ofNat n) (List.replicate n (.int (0 : Int32))) (.int (0 : Int32)) := (Arv.new A1 (own_nn (by omega))).pad (pad_rep [] _ n)
  have f3 : Arv Z h1 ca kc .char (Int32.ofNat n) (cs.map Value.int) (.int (0 : Int32)) := (I1.ext E1)
  have Zc4 : n0 ≤ h1.size := by omega
  obtain ⟨_, _, ⟨T5, L5, k5, n5⟩, -, X5, ⟨Lc5, hQ5, l5, y5, z5⟩, st5⟩ := Jvm.LawKit.callS X1 hx (y := (⟨"java/lang/StringUTF16", "compress", "([CI[BII)I"⟩ : MethodName)) hown (mvT hZ (hw _ (List.mem_of_getElem? (i := 36) rfl))) (mvT hZ (hw _ (List.mem_of_getElem? (i := 37) rfl))) (mvT hZ (hw _ (List.mem_of_getElem? (i := 33) rfl))) (mvT hZ (hw _ (List.mem_of_getElem? (i := 38) rfl))) (by decide) (backOf (W := 0) (rmCmpL l Z a0 hw [] ca b1 cs kc n k1 (List.replicate n (.int (0 : Int32))) h1 n0 Zc4 f3 V1 (hn : cs.length = n) (hb : n ≤ 3) (by simp) (by first | assumption | omega | rfl | decide : n0 ≤ b1) (by first | assumption | omega | rfl | decide : @Ne Nat ca b1) (hlat : own_lat cs)) hZ (hw _ (List.mem_of_getElem? (i := 38) rfl)) (hw _ (List.mem_of_getElem? (i := 33) rfl)) (by decide) (by decide)) (g := (mkF m 9 #[.val (.ref ca), .val (.int (0 : Int32)), .val (.int (Int32.ofNat n)), .val (.ref b1), .unset, .unset] [(.int (Int32.ofNat n)), (.int (0 : Int32)), (.ref b1), (.int (0 : Int32)), (.ref ca)])) rfl (by rw [hml]; rfl) (argsL := [(.ref ca), (.int (0 : Int32)), (.ref b1), (.int (0 : Int32)), (.int (Int32.ofNat n))]) (rest := []) (lenOf pd___CI_BII_I rfl) rfl (by show 2 * 0 + _ ≤ _; exact Nat.le_of_eq rfl) (Jvm.hb hby d_jdk_52_method_16_9) (fun _ _ => ⟨rfl, e1, (by decide : 1 + 0 ≤ _), (by decide : 3 + 0 ≤ _)⟩)
  dsimp only [Pt.U, Pt.locs, Pt.cells, Pt.slots] at X5 l5 y5 z5 st5 hQ5
  subst l5 y5 z5
  obtain ⟨rfl, N5q, K5, Fq5_0⟩ := hQ5
  have N5 := Fr.app N0 N5q
  obtain ⟨h5, e5⟩ : ∃ z, T5.heap = z := ⟨_, rfl⟩
  rw [e5] at K5 Fq5_0
  have z6 : h1.size ≤ h5.size := K5.1
  have lt5_0 : @LT.lt Nat _ b1 h5.size := Fq5_0.lt
  have s7 : ∀ t_, Steps p.tables e below (T5.setTop (mkF m 58 #[.val (.ref ca), .val (.int (0 : Int32)), .val (.int (Int32.ofNat n)), .val (.ref b1), .val (.int (Int32.ofNat n)), .unset] [(.ref b1)])) t_ → Steps p.tables e below (s₁.setTop (entryFrame m #[(.ref ca), (.int (0 : Int32)), (.int (Int32.ofNat n))] 6)) t_ := fun t_ k_ => pre0 t_ (by
    show Steps p.tables e below (s₁.setTop (mkF m 0 #[.val (.ref ca), .val (.int (0 : Int32)), .val (.int (Int32.ofNat n)), .unset, .unset, .unset] [])) t_
    refine XS.iloadN X0.here hx rfl (Jvm.hb hby d_jdk_52_method_16_0) rfl ?_
    refine st1 _ ?_
    show Steps p.tables e below (T1.setTop (mkF m 3 #[.val (.ref ca), .val (.int (0 : Int32)), .val (.int (Int32.ofNat n)), .unset, .unset, .unset] [(.ref b1)])) _
    refine XS.astoreN X1.here hx rfl (Jvm.hb hby d_jdk_52_method_16_3) rfl rfl (l' := #[.val (.ref ca), .val (.int (0 : Int32)), .val (.int (Int32.ofNat n)), .val (.ref b1), .unset, .unset]) rfl ?_
    refine XS.aloadN X1.here hx rfl (Jvm.hb hby d_jdk_52_method_16_4) rfl rfl ?_
    refine XS.iloadN X1.here hx rfl (Jvm.hb hby d_jdk_52_method_16_5) rfl ?_
    refine XS.aloadN X1.here hx rfl (Jvm.hb hby d_jdk_52_method_16_6) rfl rfl ?_
    refine XS.iconst X1.here hx rfl (Jvm.hb hby d_jdk_52_method_16_7) ?_
    refine XS.iloadN X1.here hx rfl (Jvm.hb hby d_jdk_52_method_16_8) rfl ?_
    show Steps p.tables e below (T1.setTop (mkF m 9 #[.val (.ref ca), .val (.int (0 : Int32)), .val (.int (Int32.ofNat n)), .val (.ref b1), .unset, .unset] [(.int (Int32.ofNat n)), (.int (0 : Int32)), (.ref b1), (.int (0 : Int32)), (.ref ca)])) _
    refine st5 _ ?_
    show Steps p.tables e below (T5.setTop (mkF m 12 #[.val (.ref ca), .val (.int (0 : Int32)), .val (.int (Int32.ofNat n)), .val (.ref b1), .unset, .unset] [(.int (Int32.ofNat n))])) _
    refine XS.istore X5.here hx rfl (Jvm.hb hby d_jdk_52_method_16_12) rfl (l' := #[.val (.ref ca), .val (.int (0 : Int32)), .val (.int (Int32.ofNat n)), .val (.ref b1), .val (.int (Int32.ofNat n)), .unset]) rfl ?_
    refine XS.iload X5.here hx rfl (Jvm.hb hby d_jdk_52_method_16_14) rfl ?_
    refine XS.iloadN X5.here hx rfl (Jvm.hb hby d_jdk_52_method_16_16) rfl ?_
    refine XS.icmpYes X5.here hx rfl (pc0 := 17) (pc' := 57) rfl (Jvm.hb hby d_jdk_52_method_16_17) rfl (teq rfl).1 (by decide) (by decide) ?_
    show Steps p.tables e below (T5.setTop (mkF m 57 #[.val (.ref ca), .val (.int (0 : Int32)), .val (.int (Int32.ofNat n)), .val (.ref b1), .val (.int (Int32.ofNat n)), .unset] [])) _
    refine XS.aloadN X5.here hx rfl (Jvm.hb hby d_jdk_52_method_16_57) rfl rfl ?_
    show Steps p.tables e below (T5.setTop (mkF m 58 #[.val (.ref ca), .val (.int (0 : Int32)), .val (.int (Int32.ofNat n)), .val (.ref b1), .val (.int (Int32.ofNat n)), .unset] [(.ref b1)])) t_
    exact k_)
  obtain ⟨fs, hr, hrun, hended, hW, hsame⟩ := X5.leave (v := some (.ref b1)) (fun h => by rw [Bd.returns] at h; cases h)
  refine ⟨_, _, s7 _ ?_, hrun, hended, _, _, rfl, ?_, ⟨_, rfl⟩, hW, hsame.mono (by decide) (by decide)⟩
  · show Steps p.tables e below (T5.setTop (mkF m 58 #[.val (.ref ca), .val (.int (0 : Int32)), .val (.int (Int32.ofNat n)), .val (.ref b1), .val (.int (Int32.ofNat n)), .unset] [(.ref b1)])) _
    jvm_step X5.here [X5.here.top, hx, (Jvm.hb hby d_jdk_52_method_16_58), X5.method', Bd.returns, Value.isRef, FieldType.isReference]
    first | (intro acts; rw [hr _ acts rfl rfl rfl]) | rw [hr _ _ rfl rfl rfl]
    exact Steps.refl _
  · show Q_rmComp Z _ _ _ _ h0 n0 _ T5.heap _
    rw [e5]
    exact ⟨b1, k1, rfl, N5, (((Keep.refl h0 []).ext E1).trans K5 (allS (Or.inr (show h0.size ≤ b1 by omega)) all0)), (own_fixL hlat Fq5_0 hn (by simp)), by omega⟩
theorem pn_java_lang_String : plainName "java/lang/String" = true := by first | (simp [plainName, overriddenIn]; done) | decide +kernel
theorem d_jdk_42_method_149_0 : decode jdk_42_method_149_code 0 = .ok (.aload_n 0, 1) := by decide +kernel
theorem d_jdk_42_method_149_1 : decode jdk_42_method_149_code 1 = .ok (.invokespecial 1, 3) := by decide +kernel
theorem d_jdk_42_method_149_4 : decode jdk_42_method_149_code 4 = .ok (.iload_n 3, 1) := by decide +kernel
theorem d_jdk_42_method_149_5 : decode jdk_42_method_149_code 5 = .ok (.ifCond .ne 22, 3) := by decide +kernel
theorem d_jdk_42_method_149_8 : decode jdk_42_method_149_code 8 = .ok (.aload_n 0, 1) := by decide +kernel
theorem d_jdk_42_method_149_9 : decode jdk_42_method_149_code 9 = .ok (.ldc 7, 2) := by decide +kernel
theorem d_jdk_42_method_149_11 : decode jdk_42_method_149_code 11 = .ok (.getfield 9, 3) := by decide +kernel
theorem d_jdk_42_method_149_14 : decode jdk_42_method_149_code 14 = .ok (.putfield 9, 3) := by decide +kernel
theorem d_jdk_42_method_149_17 : decode jdk_42_method_149_code 17 = .ok (.aload_n 0, 1) := by decide +kernel
theorem d_jdk_42_method_149_18 : decode jdk_42_method_149_code 18 = .ok (.ldc 7, 2) := by decide +kernel
theorem d_jdk_42_method_149_20 : decode jdk_42_method_149_code 20 = .ok (.getfield 15, 3) := by decide +kernel
theorem d_jdk_42_method_149_23 : decode jdk_42_method_149_code 23 = .ok (.putfield 15, 3) := by decide +kernel
theorem d_jdk_42_method_149_26 : decode jdk_42_method_149_code 26 = .ok (.return_, 1) := by decide +kernel
theorem d_jdk_42_method_149_27 : decode jdk_42_method_149_code 27 = .ok (.getstatic 38, 3) := by decide +kernel
theorem d_jdk_42_method_149_30 : decode jdk_42_method_149_code 30 = .ok (.ifCond .eq 28, 3) := by decide +kernel
theorem d_jdk_42_method_149_33 : decode jdk_42_method_149_code 33 = .ok (.aload_n 1, 1) := by decide +kernel
theorem d_jdk_42_method_149_34 : decode jdk_42_method_149_code 34 = .ok (.iload_n 2, 1) := by decide +kernel
theorem d_jdk_42_method_149_35 : decode jdk_42_method_149_code 35 = .ok (.iload_n 3, 1) := by decide +kernel
theorem pd___CII__B : parseMethodDescriptor "([CII)[B" = some ⟨[(.array .char), .int, .int], some (.array .byte)⟩ := by decide +kernel
theorem d_jdk_42_method_149_36 : decode jdk_42_method_149_code 36 = .ok (.invokestatic 177, 3) := by decide +kernel
theorem d_jdk_42_method_149_39 : decode jdk_42_method_149_code 39 = .ok (.astore 5, 2) := by decide +kernel
theorem d_jdk_42_method_149_41 : decode jdk_42_method_149_code 41 = .ok (.aload_n 0, 1) := by decide +kernel
theorem d_jdk_42_method_149_42 : decode jdk_42_method_149_code 42 = .ok (.aload 5, 2) := by decide +kernel
theorem d_jdk_42_method_149_44 : decode jdk_42_method_149_code 44 = .ok (.iload_n 3, 1) := by decide +kernel
theorem pd___BI_B : parseMethodDescriptor "([BI)B" = some ⟨[(.array .byte), .int], some .byte⟩ := by decide +kernel
theorem d_jdk_42_method_149_45 : decode jdk_42_method_149_code 45 = .ok (.invokestatic 47, 3) := by decide +kernel
theorem d_jdk_42_method_149_48 : decode jdk_42_method_149_code 48 = .ok (.putfield 15, 3) := by decide +kernel
theorem d_jdk_42_method_149_51 : decode jdk_42_method_149_code 51 = .ok (.aload_n 0, 1) := by decide +kernel
theorem d_jdk_42_method_149_52 : decode jdk_42_method_149_code 52 = .ok (.aload 5, 2) := by decide +kernel
theorem d_jdk_42_method_149_54 : decode jdk_42_method_149_code 54 = .ok (.putfield 9, 3) := by decide +kernel
theorem d_jdk_42_method_149_57 : decode jdk_42_method_149_code 57 = .ok (.return_, 1) := by decide +kernel
theorem ef_rmIni4 (m : MethodId) (x0 : Addr) (x1 : Addr) (x2 : Int32) (x3 : Int32) : entryFrame m #[(.ref x0), (.ref x1), (.int x2), (.int x3), .null] 6 = mkF m 0 #[.val (.ref x0), .val (.ref x1), .val (.int x2), .val (.int x3), .val .null, .unset] [] := by first | (simp [entryFrame, mkF, argsToLocals, Value.category]; done) | rfl
def Q_rmIni4 (Z : State) (a : Addr) (ca : Addr) (cst : Int32) (cs : List Int32) (kc : ClassId) (n : Nat) (h0 : Heap) (n0 : Nat) (v : Option Value) (h : Heap) (L : List Loc) : Prop := ∃ (b : Addr), ∃ (kb : ClassId), (v = none) ∧ (Fr n0 L) ∧ (Keep h0 h [a]) ∧ (Exa Z h a "java/lang/String") ∧ (Fld Z h a "java/lang/String" "value" "[B" (.ref b)) ∧ (Fld Z h a "java/lang/String" "coder" "B" (.int (own_cod cs))) ∧ (Arv Z h b kb .byte (Int32.ofNat (own_enl cs)) (own_enc cs) (.int (0 : Int32)))
set_option maxRecDepth 65536 in
set_option maxHeartbeats 40000000 in
theorem rmIni4 (l : Launch) (Z : State) (a0 : Array Value) (hw : ∀ d ∈ tables_1, d.before a0 Z = true) (ws : List Jvm.Cond) (a : Addr) (ca : Addr) (cst : Int32) (cs : List Int32) (kc : ClassId) (n : Nat) (h0 : Heap) (n0 : Nat) (Z0 : n0 ≤ h0.size) (I1 : Sta Z Z.heap "java/lang/String" "COMPACT_STRINGS" "Z" (.int cst)) (OX : Old Z n0 h0) (hcst : ¬ (cst = (0 : Int32))) (I2 : Exa Z h0 a "java/lang/String") (I3 : Fld Z h0 a "java/lang/String" "value" "[B" .null) (I4 : Fld Z h0 a "java/lang/String" "coder" "B" (.int (0 : Int32))) (I5 : Arv Z h0 ca kc .char (Int32.ofNat n) (cs.map Value.int) (.int (0 : Int32))) (hn : cs.length = n) (hb : n ≤ 3) (hlat : own_lat cs) (ga : n0 ≤ a) (hac : @Ne Nat a ca) :
    MetFree l (⟨"java/lang/String", "<init>", "([CIILjava/lang/Void;)V"⟩ : MethodName) (head1 (Jvm.Cond.code (⟨"java/lang/String", "<init>", "([CIILjava/lang/Void;)V"⟩ : MethodName) jdk_42_method_149_code 6 none :: ws) ({ frames := 2, cells := 4, slots := 8, locals := 35 } : Room)) (fun ar_ U => ar_ = #[(.ref a), (.ref ca), (.int (0 : Int32)), (.int (Int32.ofNat n)), .null] ∧ Z.Warmed39 U.vm ∧ U.heap = h0 ∧ CHv Z ELs U.vm h0) (fun _ _ _ _ _ => True) (fun _ U o U' => ∃ v L, o = .returned v ∧ Q_rmIni4 Z a ca cst cs kc n h0 n0 v U'.heap L ∧ CHr Z ELs U.vm U.heap U'.vm U'.heap ∧ ReturnedEndW U o U' L ({ frames := 2, cells := 4, slots := 8, locals := 35 } : Room).cells ({ frames := 2, cells := 4, slots := 8, locals := 35 } : Room).slots) := by
  refine MetFree.of_bodySF (plainFor_of_name pn_java_lang_String) hisR ?_
  intro p e s m args below meth c s₁ Bd hml0 hP hK
  obtain ⟨rfl, hZ, hh, hCH⟩ := hP
  have hx := Bd.exec
  have hby := Bd.bytes
  have hml : c.maxLocals = 6 := hml0
  have hown : s.vm.findClass "java/lang/String" = some m.cls := findClass_of_methodNamed Bd.named
  have hnm := (name_of_methodNamed Bd.named Bd.method).1
  have X0 : Stand p l e ({ frames := 2, cells := 4, slots := 8, locals := 35 } : Room) (s.setVm s.vm) m #[(.ref a), (.ref ca), (.int (0 : Int32)), (.int (Int32.ofNat n)), .null] below meth c s₁ [] 0 0 := Stand.of_body Bd
  have e0 : s₁.heap = h0 := by rw [← hh, Bd.state]; rfl
  have N0 := Fr.nil n0
  have pre0 : ∀ t_, Steps p.tables e below (s₁.setTop (mkF m 0 #[.val (.ref a), .val (.ref ca), .val (.int (0 : Int32)), .val (.int (Int32.ofNat n)), .val .null, .unset] [])) t_ → Steps p.tables e below (s₁.setTop (entryFrame m #[(.ref a), (.ref ca), (.int (0 : Int32)), (.int (Int32.ofNat n)), .null] 6)) t_ := fun t_ k_ => castTop (ef_rmIni4 m a ca (0 : Int32) (Int32.ofNat n)) k_
  have hEL : EW Z a0 ELs := own_EW hw
  have wS : ∀ a ∈ Bundle.stringAtoms, a.before a0 Z = true := own_wS hw
  have hS : s.Since s.vm s.heap.size := (State.WarmedH.refl s).since _
  have hk : s.heap.size ≤ h0.size := by rw [hh]; exact Nat.le_refl _
  have CR : CHr Z ELs s.vm h0 s.vm h0 := CHr.refl hCH
  have lt_I2 : @LT.lt Nat _ a h0.size := I2.lt
  have lt_I3 : @LT.lt Nat _ a h0.size := I3.lt
  have lt_I4 : @LT.lt Nat _ a h0.size := I4.lt
  have lt_I5 : @LT.lt Nat _ ca h0.size := I5.lt
  obtain ⟨T1, X1, e1, st1⟩ := initO X0 hx hZ hown (hw _ (List.mem_of_getElem? (i := 27) rfl)) (hw _ (List.mem_of_getElem? (i := 28) rfl)) (hw _ (List.mem_of_getElem? (i := 29) rfl)) e0 (g := (mkF m 1 #[.val (.ref a), .val (.ref ca), .val (.int (0 : Int32)), .val (.int (Int32.ofNat n)), .val .null, .unset] [(.ref a)])) rfl (by rw [hml]; rfl) rfl (Jvm.hb hby d_jdk_42_method_149_1) (by decide) (W := 0) (by show 2 * 0 + _ ≤ _; exact Nat.le_of_eq rfl) (by decide)
  have s2 : ∀ t_, Steps p.tables e below (T1.setTop (mkF m 5 #[.val (.ref a), .val (.ref ca), .val (.int (0 : Int32)), .val (.int (Int32.ofNat n)), .val .null, .unset] [(.int (Int32.ofNat n))])) t_ → Steps p.tables e below (s₁.setTop (entryFrame m #[(.ref a), (.ref ca), (.int (0 : Int32)), (.int (Int32.ofNat n)), .null] 6)) t_ := fun t_ k_ => pre0 t_ (by
    show Steps p.tables e below (s₁.setTop (mkF m 0 #[.val (.ref a), .val (.ref ca), .val (.int (0 : Int32)), .val (.int (Int32.ofNat n)), .val .null, .unset] [])) t_
    refine XS.aloadN X0.here hx rfl (Jvm.hb hby d_jdk_42_method_149_0) rfl rfl ?_
    refine st1 _ ?_
    show Steps p.tables e below (T1.setTop (mkF m 4 #[.val (.ref a), .val (.ref ca), .val (.int (0 : Int32)), .val (.int (Int32.ofNat n)), .val .null, .unset] [])) _
    refine XS.iloadN X1.here hx rfl (Jvm.hb hby d_jdk_42_method_149_4) rfl ?_
    show Steps p.tables e below (T1.setTop (mkF m 5 #[.val (.ref a), .val (.ref ca), .val (.int (0 : Int32)), .val (.int (Int32.ofNat n)), .val .null, .unset] [(.int (Int32.ofNat n))])) t_
    exact k_)
  by_cases h3 : (Int32.ofNat n) = (0 : Int32)
  · have s5 : ∀ t_, Steps p.tables e below (T1.setTop (mkF m 9 #[.val (.ref a), .val (.ref ca), .val (.int (0 : Int32)), .val (.int (Int32.ofNat n)), .val .null, .unset] [(.ref a)])) t_ → Steps p.tables e below (s₁.setTop (entryFrame m #[(.ref a), (.ref ca), (.int (0 : Int32)), (.int (Int32.ofNat n)), .null] 6)) t_ := fun t_ k_ => s2 t_ (by
      show Steps p.tables e below (T1.setTop (mkF m 5 #[.val (.ref a), .val (.ref ca), .val (.int (0 : Int32)), .val (.int (Int32.ofNat n)), .val .null, .unset] [(.int (Int32.ofNat n))])) t_
      refine XS.ifNo X1.here hx rfl (Jvm.hb hby d_jdk_42_method_149_5) rfl ((if0 _ _).trans (teq h3).2) ?_
      show Steps p.tables e below (T1.setTop (mkF m 8 #[.val (.ref a), .val (.ref ca), .val (.int (0 : Int32)), .val (.int (Int32.ofNat n)), .val .null, .unset] [])) _
      refine XS.aloadN X1.here hx rfl (Jvm.hb hby d_jdk_42_method_149_8) rfl rfl ?_
      show Steps p.tables e below (T1.setTop (mkF m 9 #[.val (.ref a), .val (.ref ca), .val (.int (0 : Int32)), .val (.int (Int32.ofNat n)), .val .null, .unset] [(.ref a)])) t_
      exact k_)
    obtain ⟨a4, T4, h4, k4, b4, kk4, X4, e4, E4, hS, hk, hZ, hown, Ex4, Fc4, Fv4, Av4, la4, lb4, Cp4, Li4, Sa4, st4⟩ := ldcCH X1 hx hZ hown (hw _ (List.mem_of_getElem? (i := 46) rfl)) wS e1 hS hk hEL (List.mem_of_getElem? (i := 3) rfl) CR.1 (vs := []) (z := (0 : Int32)) ⟨by decide, by decide⟩ (by decide) rfl (g := (mkF m 9 #[.val (.ref a), .val (.ref ca), .val (.int (0 : Int32)), .val (.int (Int32.ofNat n)), .val .null, .unset] [(.ref a)])) rfl (Jvm.hb hby d_jdk_42_method_149_9) (n := 0) (by decide) (by decide) (by decide) (by decide)
    have z6 : h0.size ≤ h4.size := E4.1
    have CR := CR.trans Cp4
    have la4 : @LT.lt Nat _ a4 h4.size := la4
    have lb4 : @LT.lt Nat _ b4 h4.size := lb4
    obtain ⟨T7, X7, e7, st7⟩ := getF X4 hx hZ hown (host := "") (Or.inl (hw _ (List.mem_of_getElem? (i := 44) rfl))) Via.refl e4 Fv4 (g := (mkF m 11 #[.val (.ref a), .val (.ref ca), .val (.int (0 : Int32)), .val (.int (Int32.ofNat n)), .val .null, .unset] [(.ref a4), (.ref a)])) rfl rfl (Jvm.hb hby d_jdk_42_method_149_11)
    have f8 : Exa Z h4 a "java/lang/String" := (I2.ext E4)
    have f9 : Fld Z h4 a "java/lang/String" "value" "[B" .null := (I3.ext E4)
    obtain ⟨T10, h10, X10, e10, W10, st10⟩ := putF X7 hx hZ hown (host := "") (Or.inl (hw _ (List.mem_of_getElem? (i := 44) rfl))) Via.refl e7 f9 f8 (Or.inr ⟨(hw _ (List.mem_of_getElem? (i := 45) rfl)), rfl, hnm⟩) (hw _ (List.mem_of_getElem? (i := 18) rfl)) (ty := (.array .byte)) (by decide) rfl rfl (g := (mkF m 14 #[.val (.ref a), .val (.ref ca), .val (.int (0 : Int32)), .val (.int (Int32.ofNat n)), .val .null, .unset] [(.ref b4), (.ref a)])) rfl rfl (Jvm.hb hby d_jdk_42_method_149_14)
    have Sf12 : Safe Z ELs T4.vm h4 a := own_safeN hZ.alike f8 f9
    have z11 : h4.size ≤ h10.size := Nat.le_of_eq W10.size.symm
    have Cp11 : CHr Z ELs T4.vm h4 T4.vm h10 := CHr.wr W10 Sf12 CR.1
    have hk := Nat.le_trans hk z11
    have CR := CR.trans Cp11
    have F10 : Fld Z h10 a "java/lang/String" "value" "[B" (.ref b4) := f9.same W10
    have N10 := Fr.snoc X10 N0 (show n0 ≤ a by omega)
    have s14 : ∀ t_, Steps p.tables e below (T10.setTop (mkF m 18 #[.val (.ref a), .val (.ref ca), .val (.int (0 : Int32)), .val (.int (Int32.ofNat n)), .val .null, .unset] [(.ref a)])) t_ → Steps p.tables e below (s₁.setTop (entryFrame m #[(.ref a), (.ref ca), (.int (0 : Int32)), (.int (Int32.ofNat n)), .null] 6)) t_ := fun t_ k_ => s5 t_ (by
      show Steps p.tables e below (T1.setTop (mkF m 9 #[.val (.ref a), .val (.ref ca), .val (.int (0 : Int32)), .val (.int (Int32.ofNat n)), .val .null, .unset] [(.ref a)])) t_
      refine st4 _ ?_
      show Steps p.tables e below (T4.setTop (mkF m 11 #[.val (.ref a), .val (.ref ca), .val (.int (0 : Int32)), .val (.int (Int32.ofNat n)), .val .null, .unset] [(.ref a4), (.ref a)])) _
      refine st7 _ ?_
      show Steps p.tables e below (T7.setTop (mkF m 14 #[.val (.ref a), .val (.ref ca), .val (.int (0 : Int32)), .val (.int (Int32.ofNat n)), .val .null, .unset] [(.ref b4), (.ref a)])) _
      refine st10 _ ?_
      show Steps p.tables e below (T10.setTop (mkF m 17 #[.val (.ref a), .val (.ref ca), .val (.int (0 : Int32)), .val (.int (Int32.ofNat n)), .val .null, .unset] [])) _
      refine XS.aloadN X10.here hx rfl (Jvm.hb hby d_jdk_42_method_149_17) rfl rfl ?_
      show Steps p.tables e below (T10.setTop (mkF m 18 #[.val (.ref a), .val (.ref ca), .val (.int (0 : Int32)), .val (.int (Int32.ofNat n)), .val .null, .unset] [(.ref a)])) t_
      exact k_)
    obtain ⟨a13, T13, h13, k13, b13, kk13, X13, e13, E13, hS, hk, hZ, hown, Ex13, Fc13, Fv13, Av13, la13, lb13, Cp13, Li13, Sa13, st13⟩ := ldcCH X10 hx hZ hown (hw _ (List.mem_of_getElem? (i := 46) rfl)) wS e10 hS hk hEL (List.mem_of_getElem? (i := 3) rfl) CR.1 (vs := []) (z := (0 : Int32)) ⟨by decide, by decide⟩ (by decide) rfl (g := (mkF m 18 #[.val (.ref a), .val (.ref ca), .val (.int (0 : Int32)), .val (.int (Int32.ofNat n)), .val .null, .unset] [(.ref a)])) rfl (Jvm.hb hby d_jdk_42_method_149_18) (n := 0) (by decide) (by decide) (by decide) (by decide)
    have z15 : h10.size ≤ h13.size := E13.1
    have CR := CR.trans Cp13
    have la13 : @LT.lt Nat _ a13 h13.size := la13
    have lb13 : @LT.lt Nat _ b13 h13.size := lb13
    obtain ⟨T16, X16, e16, st16⟩ := getF X13 hx hZ hown (host := "") (Or.inl (hw _ (List.mem_of_getElem? (i := 42) rfl))) Via.refl e13 Fc13 (g := (mkF m 20 #[.val (.ref a), .val (.ref ca), .val (.int (0 : Int32)), .val (.int (Int32.ofNat n)), .val .null, .unset] [(.ref a13), (.ref a)])) rfl rfl (Jvm.hb hby d_jdk_42_method_149_20)
    have f17 : Exa Z h13 a "java/lang/String" := ((f8.wr W10).ext E13)
    have f18 : Fld Z h13 a "java/lang/String" "coder" "B" (.int (0 : Int32)) := (((I4.ext E4).other W10 (Or.inr (slot_ne (Or.inr (hw _ (List.mem_of_getElem? (i := 43) rfl))) (Or.inr (hw _ (List.mem_of_getElem? (i := 45) rfl))) (by decide) (t := .byte) (t' := (.array .byte)) (by decide) (by decide)))).ext E13)
    obtain ⟨T19, h19, X19, e19, W19, st19⟩ := putFN X16 hx hZ hown (hw _ (List.mem_of_getElem? (i := 42) rfl)) Via.refl e16 f18 f17 (Or.inr ⟨(hw _ (List.mem_of_getElem? (i := 43) rfl)), rfl, hnm⟩) (hw _ (List.mem_of_getElem? (i := 18) rfl)) (ty := .byte) (v' := (.int (0 : Int32))) (by decide) rfl rfl (g := (mkF m 23 #[.val (.ref a), .val (.ref ca), .val (.int (0 : Int32)), .val (.int (Int32.ofNat n)), .val .null, .unset] [(.int (0 : Int32)), (.ref a)])) rfl rfl (Jvm.hb hby d_jdk_42_method_149_23)
    have Sf21 : Safe Z ELs T13.vm h13 a := (Cp13.safe (show @LT.lt Nat _ a h10.size by omega) (Cp11.safe (show @LT.lt Nat _ a h4.size by omega) Sf12))
    have z20 : h13.size ≤ h19.size := Nat.le_of_eq W19.size.symm
    have Cp20 : CHr Z ELs T13.vm h13 T13.vm h19 := CHr.wr W19 Sf21 CR.1
    have hk := Nat.le_trans hk z20
    have CR := CR.trans Cp20
    have F19 : Fld Z h19 a "java/lang/String" "coder" "B" (.int (0 : Int32)) := f18.same W19
    have N19 := Fr.snoc X19 N10 (show n0 ≤ a by omega)
    have s22 : ∀ t_, Steps p.tables e below (T19.setTop (mkF m 26 #[.val (.ref a), .val (.ref ca), .val (.int (0 : Int32)), .val (.int (Int32.ofNat n)), .val .null, .unset] [])) t_ → Steps p.tables e below (s₁.setTop (entryFrame m #[(.ref a), (.ref ca), (.int (0 : Int32)), (.int (Int32.ofNat n)), .null] 6)) t_ := fun t_ k_ => s14 t_ (by
      show Steps p.tables e below (T10.setTop (mkF m 18 #[.val (.ref a), .val (.ref ca), .val (.int (0 : Int32)), .val (.int (Int32.ofNat n)), .val .null, .unset] [(.ref a)])) t_
      refine st13 _ ?_
      show Steps p.tables e below (T13.setTop (mkF m 20 #[.val (.ref a), .val (.ref ca), .val (.int (0 : Int32)), .val (.int (Int32.ofNat n)), .val .null, .unset] [(.ref a13), (.ref a)])) _
      refine st16 _ ?_
      show Steps p.tables e below (T16.setTop (mkF m 23 #[.val (.ref a), .val (.ref ca), .val (.int (0 : Int32)), .val (.int (Int32.ofNat n)), .val .null, .unset] [(.int (0 : Int32)), (.ref a)])) _
      refine st19 _ ?_
      show Steps p.tables e below (T19.setTop (mkF m 26 #[.val (.ref a), .val (.ref ca), .val (.int (0 : Int32)), .val (.int (Int32.ofNat n)), .val .null, .unset] [])) _
      show Steps p.tables e below (T19.setTop (mkF m 26 #[.val (.ref a), .val (.ref ca), .val (.int (0 : Int32)), .val (.int (Int32.ofNat n)), .val .null, .unset] [])) t_
      exact k_)
    obtain ⟨fs, hr, hrun, hended, hREW⟩ := X19.leaveW hS (by first | exact Nat.le_refl _ | (rw [e19]; exact hk)) (v := none) (fun _ => rfl)
    have hnil : cs = [] := List.eq_nil_of_length_eq_zero (hn.trans (own_inj (n := 0) (by omega) (by decide) h3))
    have F23 : Fld Z h19 a "java/lang/String" "coder" "B" (.int (own_cod cs)) := by have q := F19; rw [← own_cod0 (cs := cs) (by rw [hnil]; exact own_lat0)] at q; exact q
    have f24 : Arv Z h19 b4 kk4 .byte (0 : Int32) [] (.int (0 : Int32)) := (((Av4.other W10 (Ne.symm (Exa.neArv f8 Av4 (hw _ (List.mem_of_getElem? (i := 18) rfl))))).ext E13).other W19 (Ne.symm (Exa.neArv f17 ((Av4.other W10 (Ne.symm (Exa.neArv f8 Av4 (hw _ (List.mem_of_getElem? (i := 18) rfl))))).ext E13) (hw _ (List.mem_of_getElem? (i := 18) rfl)))))
    have f25 : Exa Z h19 a "java/lang/String" := (f17.wr W19)
    have f26 : Fld Z h19 a "java/lang/String" "value" "[B" (.ref b4) := ((F10.ext E13).other W19 (Or.inr (slot_ne (Or.inr (hw _ (List.mem_of_getElem? (i := 45) rfl))) (Or.inr (hw _ (List.mem_of_getElem? (i := 43) rfl))) (by decide) (t := (.array .byte)) (t' := .byte) (by decide) (by decide))))
    refine ⟨_, _, s22 _ ?_, hrun, hended, _, _, rfl, ?_, (by show CHr Z ELs s.vm s.heap T19.vm T19.heap; rw [hh, e19]; exact CR.trans (CHv.at X19 hZ hEL CR.1)), hREW.1, hREW.2.1, hREW.2.2.1, hREW.2.2.2.mono (by decide) (by decide)⟩
    · show Steps p.tables e below (T19.setTop (mkF m 26 #[.val (.ref a), .val (.ref ca), .val (.int (0 : Int32)), .val (.int (Int32.ofNat n)), .val .null, .unset] [])) _
      exact X19.returnOut hx Bd.returns (Jvm.hb hby d_jdk_42_method_149_26) hr
    · show Q_rmIni4 Z _ _ _ _ _ _ h0 n0 _ T19.heap _
      rw [e19]
      exact ⟨b4, kk4, rfl, N19, (((((Keep.refl h0 [a]).ext E4).wr W10 (Or.inl (by simp))).ext E13).wr W19 (Or.inl (by simp))), f25, f26, F23, (own_fix0 hnil f24)⟩
  · obtain ⟨T27, X27, e27, st27⟩ := getS2 X1 hx hZ hown (host := "") (Or.inl (hw _ (List.mem_of_getElem? (i := 30) rfl))) Via.refl e1 (I1.ext OX.2) (g := (mkF m 27 #[.val (.ref a), .val (.ref ca), .val (.int (0 : Int32)), .val (.int (Int32.ofNat n)), .val .null, .unset] [])) rfl (Jvm.hb hby d_jdk_42_method_149_27)
    have Zc28 : n0 ≤ h0.size := by omega
    obtain ⟨_, _, ⟨T29, L29, k29, n29⟩, -, X29, ⟨Lc29, hQ29, l29, y29, z29⟩, st29⟩ := Jvm.LawKit.callS X27 hx (y := (⟨"java/lang/StringUTF16", "compress", "([CII)[B"⟩ : MethodName)) hown (mvT hZ (hw _ (List.mem_of_getElem? (i := 31) rfl))) (mvT hZ (hw _ (List.mem_of_getElem? (i := 32) rfl))) (mvT hZ (hw _ (List.mem_of_getElem? (i := 33) rfl))) (mvT hZ (hw _ (List.mem_of_getElem? (i := 34) rfl))) (by decide) (backOf (W := 0) (rmComp l Z a0 hw [] ca cs kc n h0 n0 Zc28 I5 (hn : cs.length = n) (hb : n ≤ 3) (hlat : own_lat cs)) hZ (hw _ (List.mem_of_getElem? (i := 34) rfl)) (hw _ (List.mem_of_getElem? (i := 33) rfl)) (by decide) (by decide)) (g := (mkF m 36 #[.val (.ref a), .val (.ref ca), .val (.int (0 : Int32)), .val (.int (Int32.ofNat n)), .val .null, .unset] [(.int (Int32.ofNat n)), (.int (0 : Int32)), (.ref ca)])) rfl (by rw [hml]; rfl) (argsL := [(.ref ca), (.int (0 : Int32)), (.int (Int32.ofNat n))]) (rest := []) (lenOf pd___CII__B rfl) rfl (by show 2 * 0 + _ ≤ _; exact Nat.le_of_eq rfl) (Jvm.hb hby d_jdk_42_method_149_36) (fun _ _ => ⟨rfl, e27, (by decide : 0 + 1 ≤ _), (by decide : 0 + 3 ≤ _)⟩)
    dsimp only [Pt.U, Pt.locs, Pt.cells, Pt.slots] at X29 l29 y29 z29 st29 hQ29
    subst l29 y29 z29
    obtain ⟨b_29, kb_29, rfl, N29q, K29, Fq29_0, P29_0⟩ := hQ29
    have N29 := Fr.app N0 N29q
    obtain ⟨h29, e29⟩ : ∃ z, T29.heap = z := ⟨_, rfl⟩
    rw [e29] at K29 Fq29_0
    have z30 : h0.size ≤ h29.size := K29.1
    have Cp30 : CHr Z ELs s.vm h0 s.vm h29 := CHr.keep K29 sf0 CR.1
    have hk := Nat.le_trans hk z30
    have CR := CR.trans Cp30
    have lt29_0 : @LT.lt Nat _ b_29 h29.size := Fq29_0.lt
    have Zc31 : n0 ≤ h29.size := by omega
    obtain ⟨_, _, ⟨T32, L32, k32, n32⟩, -, X32, ⟨Lc32, hQ32, l32, y32, z32⟩, st32⟩ := Jvm.LawKit.callS X29 hx (y := (⟨"java/lang/StringUTF16", "coderFromArrayLen", "([BI)B"⟩ : MethodName)) hown (mvT hZ (hw _ (List.mem_of_getElem? (i := 39) rfl))) (mvT hZ (hw _ (List.mem_of_getElem? (i := 40) rfl))) (mvT hZ (hw _ (List.mem_of_getElem? (i := 33) rfl))) (mvT hZ (hw _ (List.mem_of_getElem? (i := 41) rfl))) (by decide) (backOf (W := 1) (rmCod l Z a0 hw [] b_29 (Int32.ofNat n) kb_29 (Int32.ofNat (own_enl cs)) (own_enc cs) h29 n0 Zc31 Fq29_0) hZ (hw _ (List.mem_of_getElem? (i := 41) rfl)) (hw _ (List.mem_of_getElem? (i := 33) rfl)) (by decide) (by decide)) (g := (mkF m 45 #[.val (.ref a), .val (.ref ca), .val (.int (0 : Int32)), .val (.int (Int32.ofNat n)), .val .null, .val (.ref b_29)] [(.int (Int32.ofNat n)), (.ref b_29), (.ref a)])) rfl (by rw [hml]; rfl) (argsL := [(.ref b_29), (.int (Int32.ofNat n))]) (rest := [(.ref a)]) (lenOf pd___BI_B rfl) rfl (by show 2 * 0 + _ ≤ _; exact Nat.le_of_eq rfl) (Jvm.hb hby d_jdk_42_method_149_45) (fun _ _ => ⟨rfl, e29, (by decide : 1 + 0 ≤ _), (by decide : 3 + 0 ≤ _)⟩)
    dsimp only [Pt.U, Pt.locs, Pt.cells, Pt.slots] at X32 l32 y32 z32 st32 hQ32
    subst l32 y32 z32
    obtain ⟨rfl, N32q, e32⟩ := hQ32
    have N32 := Fr.app N29 N32q
    have f33 : Exa Z h29 a "java/lang/String" := (I2.keep K29)
    have f34 : Fld Z h29 a "java/lang/String" "coder" "B" (.int (0 : Int32)) := (I4.keep K29 nin0)
    obtain ⟨T35, h35, X35, e35, W35, st35⟩ := putFN X32 hx hZ hown (hw _ (List.mem_of_getElem? (i := 42) rfl)) Via.refl e32 f34 f33 (Or.inr ⟨(hw _ (List.mem_of_getElem? (i := 43) rfl)), rfl, hnm⟩) (hw _ (List.mem_of_getElem? (i := 18) rfl)) (ty := .byte) (v' := (.int (own_cod cs))) (by decide) (own_cnar cs) (own_cfit cs) (g := (mkF m 48 #[.val (.ref a), .val (.ref ca), .val (.int (0 : Int32)), .val (.int (Int32.ofNat n)), .val .null, .val (.ref b_29)] [(.int (own_cod cs)), (.ref a)])) rfl rfl (Jvm.hb hby d_jdk_42_method_149_48)
    have f38 : Fld Z h29 a "java/lang/String" "value" "[B" .null := (I3.keep K29 nin0)
    have Sf37 : Safe Z ELs s.vm h29 a := own_safeN hZ.alike f33 f38
    have z36 : h29.size ≤ h35.size := Nat.le_of_eq W35.size.symm
    have Cp36 : CHr Z ELs s.vm h29 s.vm h35 := CHr.wr W35 Sf37 CR.1
    have hk := Nat.le_trans hk z36
    have CR := CR.trans Cp36
    have F35 : Fld Z h35 a "java/lang/String" "coder" "B" (.int (own_cod cs)) := f34.same W35
    have N35 := Fr.snoc X35 N32 (show n0 ≤ a by omega)
    have f39 : Exa Z h35 a "java/lang/String" := (f33.wr W35)
    have f40 : Fld Z h35 a "java/lang/String" "value" "[B" .null := (f38.other W35 (Or.inr (slot_ne (Or.inr (hw _ (List.mem_of_getElem? (i := 45) rfl))) (Or.inr (hw _ (List.mem_of_getElem? (i := 43) rfl))) (by decide) (t := (.array .byte)) (t' := .byte) (by decide) (by decide))))
    obtain ⟨T41, h41, X41, e41, W41, st41⟩ := putF X35 hx hZ hown (host := "") (Or.inl (hw _ (List.mem_of_getElem? (i := 44) rfl))) Via.refl e35 f40 f39 (Or.inr ⟨(hw _ (List.mem_of_getElem? (i := 45) rfl)), rfl, hnm⟩) (hw _ (List.mem_of_getElem? (i := 18) rfl)) (ty := (.array .byte)) (by decide) rfl rfl (g := (mkF m 54 #[.val (.ref a), .val (.ref ca), .val (.int (0 : Int32)), .val (.int (Int32.ofNat n)), .val .null, .val (.ref b_29)] [(.ref b_29), (.ref a)])) rfl rfl (Jvm.hb hby d_jdk_42_method_149_54)
    have Sf43 : Safe Z ELs s.vm h35 a := (Cp36.safe (show @LT.lt Nat _ a h29.size by omega) Sf37)
    have z42 : h35.size ≤ h41.size := Nat.le_of_eq W41.size.symm
    have Cp42 : CHr Z ELs s.vm h35 s.vm h41 := CHr.wr W41 Sf43 CR.1
    have hk := Nat.le_trans hk z42
    have CR := CR.trans Cp42
    have F41 : Fld Z h41 a "java/lang/String" "value" "[B" (.ref b_29) := f40.same W41
    have N41 := Fr.snoc X41 N35 (show n0 ≤ a by omega)
    have s44 : ∀ t_, Steps p.tables e below (T41.setTop (mkF m 57 #[.val (.ref a), .val (.ref ca), .val (.int (0 : Int32)), .val (.int (Int32.ofNat n)), .val .null, .val (.ref b_29)] [])) t_ → Steps p.tables e below (s₁.setTop (entryFrame m #[(.ref a), (.ref ca), (.int (0 : Int32)), (.int (Int32.ofNat n)), .null] 6)) t_ := fun t_ k_ => s2 t_ (by
      show Steps p.tables e below (T1.setTop (mkF m 5 #[.val (.ref a), .val (.ref ca), .val (.int (0 : Int32)), .val (.int (Int32.ofNat n)), .val .null, .unset] [(.int (Int32.ofNat n))])) t_
      refine XS.ifYes X1.here hx rfl (pc0 := 5) (pc' := 27) rfl (Jvm.hb hby d_jdk_42_method_149_5) rfl ((if0 _ _).trans (feq h3).2) (by decide) (by decide) ?_
      show Steps p.tables e below (T1.setTop (mkF m 27 #[.val (.ref a), .val (.ref ca), .val (.int (0 : Int32)), .val (.int (Int32.ofNat n)), .val .null, .unset] [])) _
      refine st27 _ ?_
      show Steps p.tables e below (T27.setTop (mkF m 30 #[.val (.ref a), .val (.ref ca), .val (.int (0 : Int32)), .val (.int (Int32.ofNat n)), .val .null, .unset] [(.int cst)])) _
      refine XS.ifNo X27.here hx rfl (Jvm.hb hby d_jdk_42_method_149_30) rfl ((if0 _ _).trans (feq hcst).1) ?_
      show Steps p.tables e below (T27.setTop (mkF m 33 #[.val (.ref a), .val (.ref ca), .val (.int (0 : Int32)), .val (.int (Int32.ofNat n)), .val .null, .unset] [])) _
      refine XS.aloadN X27.here hx rfl (Jvm.hb hby d_jdk_42_method_149_33) rfl rfl ?_
      refine XS.iloadN X27.here hx rfl (Jvm.hb hby d_jdk_42_method_149_34) rfl ?_
      refine XS.iloadN X27.here hx rfl (Jvm.hb hby d_jdk_42_method_149_35) rfl ?_
      refine st29 _ ?_
      show Steps p.tables e below (T29.setTop (mkF m 39 #[.val (.ref a), .val (.ref ca), .val (.int (0 : Int32)), .val (.int (Int32.ofNat n)), .val .null, .unset] [(.ref b_29)])) _
      refine XS.astore X29.here hx rfl (Jvm.hb hby d_jdk_42_method_149_39) rfl rfl (l' := #[.val (.ref a), .val (.ref ca), .val (.int (0 : Int32)), .val (.int (Int32.ofNat n)), .val .null, .val (.ref b_29)]) rfl ?_
      refine XS.aloadN X29.here hx rfl (Jvm.hb hby d_jdk_42_method_149_41) rfl rfl ?_
      refine XS.aload X29.here hx rfl (Jvm.hb hby d_jdk_42_method_149_42) rfl rfl ?_
      refine XS.iloadN X29.here hx rfl (Jvm.hb hby d_jdk_42_method_149_44) rfl ?_
      refine st32 _ ?_
      show Steps p.tables e below (T32.setTop (mkF m 48 #[.val (.ref a), .val (.ref ca), .val (.int (0 : Int32)), .val (.int (Int32.ofNat n)), .val .null, .val (.ref b_29)] [(.int (nar .byte (own_lo (ushr ((Int32.ofNat n) - (Int32.ofNat (own_enl cs))) (31 : Int32))))), (.ref a)])) _
      refine castTop (g' := (mkF m 48 #[.val (.ref a), .val (.ref ca), .val (.int (0 : Int32)), .val (.int (Int32.ofNat n)), .val .null, .val (.ref b_29)] [(.int (own_cod cs)), (.ref a)])) (by rw [own_codl hn (own_pos h3) (by omega)]) ?_
      show Steps p.tables e below (T32.setTop (mkF m 48 #[.val (.ref a), .val (.ref ca), .val (.int (0 : Int32)), .val (.int (Int32.ofNat n)), .val .null, .val (.ref b_29)] [(.int (own_cod cs)), (.ref a)])) _
      refine st35 _ ?_
      show Steps p.tables e below (T35.setTop (mkF m 51 #[.val (.ref a), .val (.ref ca), .val (.int (0 : Int32)), .val (.int (Int32.ofNat n)), .val .null, .val (.ref b_29)] [])) _
      refine XS.aloadN X35.here hx rfl (Jvm.hb hby d_jdk_42_method_149_51) rfl rfl ?_
      refine XS.aload X35.here hx rfl (Jvm.hb hby d_jdk_42_method_149_52) rfl rfl ?_
      refine st41 _ ?_
      show Steps p.tables e below (T41.setTop (mkF m 57 #[.val (.ref a), .val (.ref ca), .val (.int (0 : Int32)), .val (.int (Int32.ofNat n)), .val .null, .val (.ref b_29)] [])) _
      show Steps p.tables e below (T41.setTop (mkF m 57 #[.val (.ref a), .val (.ref ca), .val (.int (0 : Int32)), .val (.int (Int32.ofNat n)), .val .null, .val (.ref b_29)] [])) t_
      exact k_)
    obtain ⟨fs, hr, hrun, hended, hREW⟩ := X41.leaveW hS (by first | exact Nat.le_refl _ | (rw [e41]; exact hk)) (v := none) (fun _ => rfl)
    have f45 : Arv Z h41 b_29 kb_29 .byte (Int32.ofNat (own_enl cs)) (own_enc cs) (.int (0 : Int32)) := ((Fq29_0.other W35 (show @Ne Nat b_29 a by omega)).other W41 (show @Ne Nat b_29 a by omega))
    have f46 : Exa Z h41 a "java/lang/String" := (f39.wr W41)
    have f47 : Fld Z h41 a "java/lang/String" "coder" "B" (.int (own_cod cs)) := (F35.other W41 (Or.inr (slot_ne (Or.inr (hw _ (List.mem_of_getElem? (i := 43) rfl))) (Or.inr (hw _ (List.mem_of_getElem? (i := 45) rfl))) (by decide) (t := .byte) (t' := (.array .byte)) (by decide) (by decide))))
    refine ⟨_, _, s44 _ ?_, hrun, hended, _, _, rfl, ?_, (by show CHr Z ELs s.vm s.heap T41.vm T41.heap; rw [hh, e41]; exact CR.trans (CHv.at X41 hZ hEL CR.1)), hREW.1, hREW.2.1, hREW.2.2.1, hREW.2.2.2.mono (by decide) (by decide)⟩
    · show Steps p.tables e below (T41.setTop (mkF m 57 #[.val (.ref a), .val (.ref ca), .val (.int (0 : Int32)), .val (.int (Int32.ofNat n)), .val .null, .val (.ref b_29)] [])) _
      exact X41.returnOut hx Bd.returns (Jvm.hb hby d_jdk_42_method_149_57) hr
    · show Q_rmIni4 Z _ _ _ _ _ _ h0 n0 _ T41.heap _
      rw [e41]
      exact ⟨b_29, kb_29, rfl, N41, ((((Keep.refl h0 [a]).trans K29 all0).wr W35 (Or.inl (by simp))).wr W41 (Or.inl (by simp))), f46, F41, f47, f45⟩
theorem d_jdk_42_method_3_0 : decode jdk_42_method_3_code 0 = .ok (.aload_n 0, 1) := by decide +kernel
theorem d_jdk_42_method_3_1 : decode jdk_42_method_3_code 1 = .ok (.aload_n 1, 1) := by decide +kernel
theorem d_jdk_42_method_3_2 : decode jdk_42_method_3_code 2 = .ok (.iconst 0, 1) := by decide +kernel
theorem d_jdk_42_method_3_3 : decode jdk_42_method_3_code 3 = .ok (.aload_n 1, 1) := by decide +kernel
theorem d_jdk_42_method_3_4 : decode jdk_42_method_3_code 4 = .ok (.arraylength, 1) := by decide +kernel
theorem d_jdk_42_method_3_5 : decode jdk_42_method_3_code 5 = .ok (.aconst_null, 1) := by decide +kernel
theorem pd___CIILjava_lang_Void__V : parseMethodDescriptor "([CIILjava/lang/Void;)V" = some ⟨[(.array .char), .int, .int, (.object "java/lang/Void")], none⟩ := by decide +kernel
theorem d_jdk_42_method_3_6 : decode jdk_42_method_3_code 6 = .ok (.invokespecial 27, 3) := by decide +kernel
theorem d_jdk_42_method_3_9 : decode jdk_42_method_3_code 9 = .ok (.return_, 1) := by decide +kernel
theorem ef_rmIni1 (m : MethodId) (x0 : Addr) (x1 : Addr) : entryFrame m #[(.ref x0), (.ref x1)] 2 = mkF m 0 #[.val (.ref x0), .val (.ref x1)] [] := by first | (simp [entryFrame, mkF, argsToLocals, Value.category]; done) | rfl
def Q_rmIni1 (Z : State) (a : Addr) (ca : Addr) (cst : Int32) (cs : List Int32) (kc : ClassId) (n : Nat) (h0 : Heap) (n0 : Nat) (v : Option Value) (h : Heap) (L : List Loc) : Prop := ∃ (b : Addr), ∃ (kb : ClassId), (v = none) ∧ (Fr n0 L) ∧ (Keep h0 h [a]) ∧ (Exa Z h a "java/lang/String") ∧ (Fld Z h a "java/lang/String" "value" "[B" (.ref b)) ∧ (Fld Z h a "java/lang/String" "coder" "B" (.int (own_cod cs))) ∧ (Arv Z h b kb .byte (Int32.ofNat (own_enl cs)) (own_enc cs) (.int (0 : Int32)))
set_option maxRecDepth 65536 in
set_option maxHeartbeats 40000000 in
theorem rmIni1 (l : Launch) (Z : State) (a0 : Array Value) (hw : ∀ d ∈ tables_1, d.before a0 Z = true) (ws : List Jvm.Cond) (a : Addr) (ca : Addr) (cst : Int32) (cs : List Int32) (kc : ClassId) (n : Nat) (h0 : Heap) (n0 : Nat) (Z0 : n0 ≤ h0.size) (I1 : Sta Z Z.heap "java/lang/String" "COMPACT_STRINGS" "Z" (.int cst)) (OX : Old Z n0 h0) (hcst : ¬ (cst = (0 : Int32))) (I2 : Exa Z h0 a "java/lang/String") (I3 : Fld Z h0 a "java/lang/String" "value" "[B" .null) (I4 : Fld Z h0 a "java/lang/String" "coder" "B" (.int (0 : Int32))) (I5 : Arv Z h0 ca kc .char (Int32.ofNat n) (cs.map Value.int) (.int (0 : Int32))) (hn : cs.length = n) (hb : n ≤ 3) (hlat : own_lat cs) (ga : n0 ≤ a) (hac : @Ne Nat a ca) :
    MetFree l (⟨"java/lang/String", "<init>", "([C)V"⟩ : MethodName) (head1 (Jvm.Cond.code (⟨"java/lang/String", "<init>", "([C)V"⟩ : MethodName) jdk_42_method_3_code 2 none :: ws) ({ frames := 3, cells := 4, slots := 8, locals := 52 } : Room)) (fun ar_ U => ar_ = #[(.ref a), (.ref ca)] ∧ Z.Warmed39 U.vm ∧ U.heap = h0 ∧ CHv Z ELs U.vm h0) (fun _ _ _ _ _ => True) (fun _ U o U' => ∃ v L, o = .returned v ∧ Q_rmIni1 Z a ca cst cs kc n h0 n0 v U'.heap L ∧ CHr Z ELs U.vm U.heap U'.vm U'.heap ∧ ReturnedEndW U o U' L ({ frames := 3, cells := 4, slots := 8, locals := 52 } : Room).cells ({ frames := 3, cells := 4, slots := 8, locals := 52 } : Room).slots) := by
  refine MetFree.of_bodySF (plainFor_of_name pn_java_lang_String) hisR ?_
  intro p e s m args below meth c s₁ Bd hml0 hP hK
  obtain ⟨rfl, hZ, hh, hCH⟩ := hP
  have hx := Bd.exec
  have hby := Bd.bytes
  have hml : c.maxLocals = 2 := hml0
  have hown : s.vm.findClass "java/lang/String" = some m.cls := findClass_of_methodNamed Bd.named
  have hnm := (name_of_methodNamed Bd.named Bd.method).1
  have X0 : Stand p l e ({ frames := 3, cells := 4, slots := 8, locals := 52 } : Room) (s.setVm s.vm) m #[(.ref a), (.ref ca)] below meth c s₁ [] 0 0 := Stand.of_body Bd
  have e0 : s₁.heap = h0 := by rw [← hh, Bd.state]; rfl
  have N0 := Fr.nil n0
  have pre0 : ∀ t_, Steps p.tables e below (s₁.setTop (mkF m 0 #[.val (.ref a), .val (.ref ca)] [])) t_ → Steps p.tables e below (s₁.setTop (entryFrame m #[(.ref a), (.ref ca)] 2)) t_ := fun t_ k_ => castTop (ef_rmIni1 m a ca) k_
  have hEL : EW Z a0 ELs := own_EW hw
  have wS : ∀ a ∈ Bundle.stringAtoms, a.before a0 Z = true := own_wS hw
  have hS : s.Since s.vm s.heap.size := (State.WarmedH.refl s).since _
  have hk : s.heap.size ≤ h0.size := by rw [hh]; exact Nat.le_refl _
  have CR : CHr Z ELs s.vm h0 s.vm h0 := CHr.refl hCH
  have lt_I2 : @LT.lt Nat _ a h0.size := I2.lt
  have lt_I3 : @LT.lt Nat _ a h0.size := I3.lt
  have lt_I4 : @LT.lt Nat _ a h0.size := I4.lt
  have lt_I5 : @LT.lt Nat _ ca h0.size := I5.lt
  obtain ⟨cl1, Ar1, -, S1, M1, -, -⟩ := id I5
  have Zc2 : n0 ≤ h0.size := by omega
  have s4 : ∀ t_, Steps p.tables e below (s₁.setTop (mkF m 6 #[.val (.ref a), .val (.ref ca)] [.null, (.int (Int32.ofNat n)), (.int (0 : Int32)), (.ref ca), (.ref a)])) t_ → Steps p.tables e below (s₁.setTop (entryFrame m #[(.ref a), (.ref ca)] 2)) t_ := fun t_ k_ => pre0 t_ (by
    show Steps p.tables e below (s₁.setTop (mkF m 0 #[.val (.ref a), .val (.ref ca)] [])) t_
    refine XS.aloadN X0.here hx rfl (Jvm.hb hby d_jdk_42_method_3_0) rfl rfl ?_
    refine XS.aloadN X0.here hx rfl (Jvm.hb hby d_jdk_42_method_3_1) rfl rfl ?_
    refine XS.iconst X0.here hx rfl (Jvm.hb hby d_jdk_42_method_3_2) ?_
    refine XS.aloadN X0.here hx rfl (Jvm.hb hby d_jdk_42_method_3_3) rfl rfl ?_
    refine X0.arraylength hx (by rw [e0]; exact Ar1.1) (State.isArrayOf_alike hZ.alike Ar1.2.1) (g := (mkF m 4 #[.val (.ref a), .val (.ref ca)] [(.ref ca), (.int (0 : Int32)), (.ref ca), (.ref a)])) rfl rfl (Jvm.hb hby d_jdk_42_method_3_4) _ ?_
    rw [len_of S1 M1]
    show Steps p.tables e below (s₁.setTop (mkF m 5 #[.val (.ref a), .val (.ref ca)] [(.int (Int32.ofNat n)), (.int (0 : Int32)), (.ref ca), (.ref a)])) _
    refine XS.aconstNull X0.here hx rfl (Jvm.hb hby d_jdk_42_method_3_5) ?_
    show Steps p.tables e below (s₁.setTop (mkF m 6 #[.val (.ref a), .val (.ref ca)] [.null, (.int (Int32.ofNat n)), (.int (0 : Int32)), (.ref ca), (.ref a)])) t_
    exact k_)
  obtain ⟨_, _, ⟨T3, L3, k3, n3⟩, -, Xr3, hSr3, hg3, ⟨Lc3, hQ3, l3, y3, z3, Cp3⟩, st3⟩ := X0.specialBackS hx (y := (⟨"java/lang/String", "<init>", "([CIILjava/lang/Void;)V"⟩ : MethodName)) rfl hown (mvT hZ (hw _ (List.mem_of_getElem? (i := 23) rfl))) (mvT hZ (hw _ (List.mem_of_getElem? (i := 24) rfl))) (mvT hZ (hw _ (List.mem_of_getElem? (i := 26) rfl))) (by decide) (backOfSH (s := s) (vm0 := s.vm) (W := 0) (rmIni4 l Z a0 hw [] a ca cst cs kc n h0 n0 Zc2 I1 OX (hcst : ¬ (cst = (0 : Int32))) I2 I3 I4 I5 (hn : cs.length = n) (hb : n ≤ 3) (hlat : own_lat cs) (ga : n0 ≤ a) (hac : @Ne Nat a ca)) hZ (hw _ (List.mem_of_getElem? (i := 26) rfl)) (hw _ (List.mem_of_getElem? (i := 19) rfl)) (by decide) (by decide) hEL CR.1) (g := (mkF m 6 #[.val (.ref a), .val (.ref ca)] [.null, (.int (Int32.ofNat n)), (.int (0 : Int32)), (.ref ca), (.ref a)])) rfl (by rw [hml]; rfl) (Steps.refl _) (a := a) (argsL := [(.ref ca), (.int (0 : Int32)), (.int (Int32.ofNat n)), .null]) (rest := []) (lenOf pd___CIILjava_lang_Void__V rfl) rfl (by show 2 * 0 + _ ≤ _; exact Nat.le_of_eq rfl) (Jvm.hb hby d_jdk_42_method_3_6) (fun _ _ => ⟨rfl, e0, (by decide : 0 + 4 ≤ _), (by decide : 0 + 8 ≤ _)⟩)
  dsimp only [Pt.U, Pt.locs, Pt.cells, Pt.slots] at Xr3 hSr3 hg3 l3 y3 z3 st3 hQ3 Cp3
  subst l3 y3 z3
  obtain ⟨X3, hS, hZ, hown⟩ := rebS (own := "java/lang/String") hS (by first | exact Nat.le_refl _ | (rw [e0]; exact hk)) Xr3 hSr3 hg3 hZ hown
  obtain ⟨b_3, kb_3, rfl, N3q, K3, Fq3_0, Fq3_1, Fq3_2, Fq3_3⟩ := hQ3
  have N3 := Fr.app N0 N3q
  obtain ⟨h3, e3⟩ : ∃ z, T3.heap = z := ⟨_, rfl⟩
  rw [e3] at K3 Fq3_0 Fq3_1 Fq3_2 Fq3_3 Cp3
  have hk : T3.heap.size ≤ h3.size := Nat.le_of_eq (congrArg Array.size e3)
  have z5 : h0.size ≤ h3.size := K3.1
  have CR := CR.trans Cp3
  have lt3_0 : @LT.lt Nat _ a h3.size := Fq3_0.lt
  have lt3_3 : @LT.lt Nat _ b_3 h3.size := Fq3_3.lt
  have s6 : ∀ t_, Steps p.tables e below (T3.setTop (mkF m 9 #[.val (.ref a), .val (.ref ca)] [])) t_ → Steps p.tables e below (s₁.setTop (entryFrame m #[(.ref a), (.ref ca)] 2)) t_ := fun t_ k_ => s4 t_ (by
    show Steps p.tables e below (s₁.setTop (mkF m 6 #[.val (.ref a), .val (.ref ca)] [.null, (.int (Int32.ofNat n)), (.int (0 : Int32)), (.ref ca), (.ref a)])) t_
    refine st3.trans ?_
    show Steps p.tables e below (T3.setTop (mkF m 9 #[.val (.ref a), .val (.ref ca)] [])) _
    show Steps p.tables e below (T3.setTop (mkF m 9 #[.val (.ref a), .val (.ref ca)] [])) t_
    exact k_)
  obtain ⟨fs, hr, hrun, hended, hREW⟩ := X3.leaveW hS (by first | exact Nat.le_refl _ | (rw [e3]; exact hk)) (v := none) (fun _ => rfl)
  refine ⟨_, _, s6 _ ?_, hrun, hended, _, _, rfl, ?_, (by show CHr Z ELs s.vm s.heap T3.vm T3.heap; rw [hh, e3]; exact CR.trans (CHv.at X3 hZ hEL CR.1)), hREW.1, hREW.2.1, hREW.2.2.1, hREW.2.2.2.mono (by decide) (by decide)⟩
  · show Steps p.tables e below (T3.setTop (mkF m 9 #[.val (.ref a), .val (.ref ca)] [])) _
    exact X3.returnOut hx Bd.returns (Jvm.hb hby d_jdk_42_method_3_9) hr
  · show Q_rmIni1 Z _ _ _ _ _ _ h0 n0 _ T3.heap _
    rw [e3]
    exact ⟨b_3, kb_3, rfl, N3, ((Keep.refl h0 [a]).trans K3 (allS (Or.inl (by simp)) all0)), Fq3_0, Fq3_1, Fq3_2, Fq3_3⟩
theorem pn_java_lang_StringLatin1 : plainName "java/lang/StringLatin1" = true := by first | (simp [plainName, overriddenIn]; done) | decide +kernel
theorem d_jdk_43_method_13_0 : decode jdk_43_method_13_code 0 = .ok (.aload_n 0, 1) := by decide +kernel
theorem d_jdk_43_method_13_1 : decode jdk_43_method_13_code 1 = .ok (.arraylength, 1) := by decide +kernel
theorem d_jdk_43_method_13_2 : decode jdk_43_method_13_code 2 = .ok (.aload_n 1, 1) := by decide +kernel
theorem d_jdk_43_method_13_3 : decode jdk_43_method_13_code 3 = .ok (.arraylength, 1) := by decide +kernel
theorem d_jdk_43_method_13_4 : decode jdk_43_method_13_code 4 = .ok (.if_icmp .ne 30, 3) := by decide +kernel
theorem d_jdk_43_method_13_7 : decode jdk_43_method_13_code 7 = .ok (.iconst 0, 1) := by decide +kernel
theorem d_jdk_43_method_13_8 : decode jdk_43_method_13_code 8 = .ok (.istore_n 2, 1) := by decide +kernel
theorem d_jdk_43_method_13_9 : decode jdk_43_method_13_code 9 = .ok (.iload_n 2, 1) := by decide +kernel
theorem d_jdk_43_method_13_10 : decode jdk_43_method_13_code 10 = .ok (.aload_n 0, 1) := by decide +kernel
theorem d_jdk_43_method_13_11 : decode jdk_43_method_13_code 11 = .ok (.arraylength, 1) := by decide +kernel
theorem d_jdk_43_method_13_12 : decode jdk_43_method_13_code 12 = .ok (.if_icmp .ge 20, 3) := by decide +kernel
theorem d_jdk_43_method_13_15 : decode jdk_43_method_13_code 15 = .ok (.aload_n 0, 1) := by decide +kernel
theorem d_jdk_43_method_13_16 : decode jdk_43_method_13_code 16 = .ok (.iload_n 2, 1) := by decide +kernel
theorem d_jdk_43_method_13_17 : decode jdk_43_method_13_code 17 = .ok (.baload, 1) := by decide +kernel
theorem d_jdk_43_method_13_18 : decode jdk_43_method_13_code 18 = .ok (.aload_n 1, 1) := by decide +kernel
theorem d_jdk_43_method_13_19 : decode jdk_43_method_13_code 19 = .ok (.iload_n 2, 1) := by decide +kernel
theorem d_jdk_43_method_13_20 : decode jdk_43_method_13_code 20 = .ok (.baload, 1) := by decide +kernel
theorem d_jdk_43_method_13_21 : decode jdk_43_method_13_code 21 = .ok (.if_icmp .eq 5, 3) := by decide +kernel
theorem d_jdk_43_method_13_26 : decode jdk_43_method_13_code 26 = .ok (.iinc 2 1, 3) := by decide +kernel
theorem d_jdk_43_method_13_29 : decode jdk_43_method_13_code 29 = .ok (.goto (-20), 3) := by decide +kernel
theorem d_jdk_43_method_13_32 : decode jdk_43_method_13_code 32 = .ok (.iconst 1, 1) := by decide +kernel
theorem d_jdk_43_method_13_33 : decode jdk_43_method_13_code 33 = .ok (.ireturn, 1) := by decide +kernel
theorem d_jdk_43_method_13_24 : decode jdk_43_method_13_code 24 = .ok (.iconst 0, 1) := by decide +kernel
theorem d_jdk_43_method_13_25 : decode jdk_43_method_13_code 25 = .ok (.ireturn, 1) := by decide +kernel
theorem d_jdk_43_method_13_34 : decode jdk_43_method_13_code 34 = .ok (.iconst 0, 1) := by decide +kernel
theorem d_jdk_43_method_13_35 : decode jdk_43_method_13_code 35 = .ok (.ireturn, 1) := by decide +kernel
theorem ef_rmLEq (m : MethodId) (x0 : Addr) (x1 : Addr) : entryFrame m #[(.ref x0), (.ref x1)] 3 = mkF m 0 #[.val (.ref x0), .val (.ref x1), .unset] [] := by first | (simp [entryFrame, mkF, argsToLocals, Value.category]; done) | rfl
def Q_rmLEq (Z : State) (bx : Addr) (by_ : Addr) (kx : ClassId) (ky : ClassId) (xs : List Int32) (ys : List Int32) (h0 : Heap) (n0 : Nat) (v : Option Value) (h : Heap) (L : List Loc) : Prop := (v = some (.int (if xs = ys then (1 : Int32) else (0 : Int32)))) ∧ (Fr n0 L) ∧ (h = h0)
set_option maxRecDepth 65536 in
set_option maxHeartbeats 40000000 in
theorem rmLEq (l : Launch) (Z : State) (a0 : Array Value) (hw : ∀ d ∈ tables_1, d.before a0 Z = true) (ws : List Jvm.Cond) (bx : Addr) (by_ : Addr) (kx : ClassId) (ky : ClassId) (xs : List Int32) (ys : List Int32) (h0 : Heap) (n0 : Nat) (Z0 : n0 ≤ h0.size) (I1 : Arv Z h0 bx kx .byte (Int32.ofNat xs.length) (xs.map Value.int) (.int (0 : Int32))) (I2 : Arv Z h0 by_ ky .byte (Int32.ofNat ys.length) (ys.map Value.int) (.int (0 : Int32))) (hb1 : xs.length ≤ 8000) (hb2 : ys.length ≤ 8000) :
    MetFree l (⟨"java/lang/StringLatin1", "equals", "([B[B)Z"⟩ : MethodName) (head1 (Jvm.Cond.code (⟨"java/lang/StringLatin1", "equals", "([B[B)Z"⟩ : MethodName) jdk_43_method_13_code 3 (some .boolean) :: ws) ({ frames := 0, cells := 0, slots := 0, locals := 0 } : Room)) (fun ar_ U => ar_ = #[(.ref bx), (.ref by_)] ∧ Z.Warmed39 U.vm ∧ U.heap = h0) (fun _ _ _ _ _ => True) (fun _ U o U' => ∃ v L, o = .returned v ∧ Q_rmLEq Z bx by_ kx ky xs ys h0 n0 v U'.heap L ∧ FrameEnd U o U' L ({ frames := 0, cells := 0, slots := 0, locals := 0 } : Room).cells ({ frames := 0, cells := 0, slots := 0, locals := 0 } : Room).slots) := by
  refine MetFree.of_bodySF (plainFor_of_name pn_java_lang_StringLatin1) hisR ?_
  intro p e s m args below meth c s₁ Bd hml0 hP hK
  obtain ⟨rfl, hZ, hh⟩ := hP
  have hx := Bd.exec
  have hby := Bd.bytes
  have hml : c.maxLocals = 3 := hml0
  have hown : s.vm.findClass "java/lang/StringLatin1" = some m.cls := findClass_of_methodNamed Bd.named
  have hnm := (name_of_methodNamed Bd.named Bd.method).1
  have X0 : Stand p l e ({ frames := 0, cells := 0, slots := 0, locals := 0 } : Room) s m #[(.ref bx), (.ref by_)] below meth c s₁ [] 0 0 := Stand.of_body Bd
  have e0 : s₁.heap = h0 := by rw [← hh, Bd.state]; rfl
  have N0 := Fr.nil n0
  have pre0 : ∀ t_, Steps p.tables e below (s₁.setTop (mkF m 0 #[.val (.ref bx), .val (.ref by_), .unset] [])) t_ → Steps p.tables e below (s₁.setTop (entryFrame m #[(.ref bx), (.ref by_)] 3)) t_ := fun t_ k_ => castTop (ef_rmLEq m bx by_) k_
  have lt_I1 : @LT.lt Nat _ bx h0.size := I1.lt
  have lt_I2 : @LT.lt Nat _ by_ h0.size := I2.lt
  obtain ⟨cl1, Ar1, -, S1, M1, -, -⟩ := id I1
  obtain ⟨cl2, Ar2, -, S2, M2, -, -⟩ := id I2
  have s3 : ∀ t_, Steps p.tables e below (s₁.setTop (mkF m 4 #[.val (.ref bx), .val (.ref by_), .unset] [(.int (Int32.ofNat ys.length)), (.int (Int32.ofNat xs.length))])) t_ → Steps p.tables e below (s₁.setTop (entryFrame m #[(.ref bx), (.ref by_)] 3)) t_ := fun t_ k_ => pre0 t_ (by
    show Steps p.tables e below (s₁.setTop (mkF m 0 #[.val (.ref bx), .val (.ref by_), .unset] [])) t_
    refine XS.aloadN X0.here hx rfl (Jvm.hb hby d_jdk_43_method_13_0) rfl rfl ?_
    refine X0.arraylength hx (by rw [e0]; exact Ar1.1) (State.isArrayOf_alike hZ.alike Ar1.2.1) (g := (mkF m 1 #[.val (.ref bx), .val (.ref by_), .unset] [(.ref bx)])) rfl rfl (Jvm.hb hby d_jdk_43_method_13_1) _ ?_
    rw [len_of S1 M1]
    show Steps p.tables e below (s₁.setTop (mkF m 2 #[.val (.ref bx), .val (.ref by_), .unset] [(.int (Int32.ofNat xs.length))])) _
    refine XS.aloadN X0.here hx rfl (Jvm.hb hby d_jdk_43_method_13_2) rfl rfl ?_
    refine X0.arraylength hx (by rw [e0]; exact Ar2.1) (State.isArrayOf_alike hZ.alike Ar2.2.1) (g := (mkF m 3 #[.val (.ref bx), .val (.ref by_), .unset] [(.ref by_), (.int (Int32.ofNat xs.length))])) rfl rfl (Jvm.hb hby d_jdk_43_method_13_3) _ ?_
    rw [len_of S2 M2]
    show Steps p.tables e below (s₁.setTop (mkF m 4 #[.val (.ref bx), .val (.ref by_), .unset] [(.int (Int32.ofNat ys.length)), (.int (Int32.ofNat xs.length))])) _
    show Steps p.tables e below (s₁.setTop (mkF m 4 #[.val (.ref bx), .val (.ref by_), .unset] [(.int (Int32.ofNat ys.length)), (.int (Int32.ofNat xs.length))])) t_
    exact k_)
  by_cases h4 : (Int32.ofNat xs.length) = (Int32.ofNat ys.length)
  · have s5 : ∀ t_, Steps p.tables e below (s₁.setTop (mkF m 9 #[.val (.ref bx), .val (.ref by_), .val (.int (0 : Int32))] [])) t_ → Steps p.tables e below (s₁.setTop (entryFrame m #[(.ref bx), (.ref by_)] 3)) t_ := fun t_ k_ => s3 t_ (by
      show Steps p.tables e below (s₁.setTop (mkF m 4 #[.val (.ref bx), .val (.ref by_), .unset] [(.int (Int32.ofNat ys.length)), (.int (Int32.ofNat xs.length))])) t_
      refine XS.icmpNo X0.here hx rfl (Jvm.hb hby d_jdk_43_method_13_4) rfl (teq h4).2 ?_
      show Steps p.tables e below (s₁.setTop (mkF m 7 #[.val (.ref bx), .val (.ref by_), .unset] [])) _
      refine XS.iconst X0.here hx rfl (Jvm.hb hby d_jdk_43_method_13_7) ?_
      refine XS.istoreN X0.here hx rfl (Jvm.hb hby d_jdk_43_method_13_8) rfl (l' := #[.val (.ref bx), .val (.ref by_), .val (.int (0 : Int32))]) rfl ?_
      show Steps p.tables e below (s₁.setTop (mkF m 9 #[.val (.ref bx), .val (.ref by_), .val (.int (0 : Int32))] [])) t_
      exact k_)
    have lp6 : ∀ (k_ : Nat) (j : Nat) (T_ : State) (lo_ : List Loc), j + k_ = xs.length → Stand p l e ({ frames := 0, cells := 0, slots := 0, locals := 0 } : Room) s m #[(.ref bx), (.ref by_)] below meth c T_ lo_ 0 0 → T_.heap = h0 → Fr n0 lo_ → (∀ i, i < j → xs.getD i 0 = ys.getD i 0) → (xs.length = ys.length) → ∃ (T' : State) (lo' : List Loc) (fe_ : JFrame), Stand p l e ({ frames := 0, cells := 0, slots := 0, locals := 0 } : Room) s m #[(.ref bx), (.ref by_)] below meth c T' lo' 0 0 ∧ T'.heap = h0 ∧ Fr n0 lo' ∧ ((fe_ = (mkF m 32 #[.val (.ref bx), .val (.ref by_), .val (.int (Int32.ofNat xs.length))] []) ∧ (xs = ys)) ∨ (∃ (jj : Nat), fe_ = (mkF m 24 #[.val (.ref bx), .val (.ref by_), .val (.int (Int32.ofNat jj))] []) ∧ (¬ (xs = ys)))) ∧ ∀ t_, Steps p.tables e below (T'.setTop fe_) t_ → Steps p.tables e below (T_.setTop (mkF m 9 #[.val (.ref bx), .val (.ref by_), .val (.int (Int32.ofNat j))] [])) t_ := by
      intro k_
      induction k_ with
      | zero => 
        intro j T_ lo_ hm_ X_ e_ N_ hp hlen
        obtain ⟨cl7, Ar7, -, S7, M7, -, -⟩ := id I1
        have s8 : ∀ t_, Steps p.tables e below (T_.setTop (mkF m 32 #[.val (.ref bx), .val (.ref by_), .val (.int (Int32.ofNat j))] [])) t_ → Steps p.tables e below (T_.setTop (mkF m 9 #[.val (.ref bx), .val (.ref by_), .val (.int (Int32.ofNat j))] [])) t_ := fun t_ k_ => (fun _ k_ => k_) t_ (by
          show Steps p.tables e below (T_.setTop (mkF m 9 #[.val (.ref bx), .val (.ref by_), .val (.int (Int32.ofNat j))] [])) t_
          refine XS.iloadN X_.here hx rfl (Jvm.hb hby d_jdk_43_method_13_9) rfl ?_
          refine XS.aloadN X_.here hx rfl (Jvm.hb hby d_jdk_43_method_13_10) rfl rfl ?_
          refine X_.arraylength hx (by rw [e_]; exact Ar7.1) (State.isArrayOf_alike hZ.alike Ar7.2.1) (g := (mkF m 11 #[.val (.ref bx), .val (.ref by_), .val (.int (Int32.ofNat j))] [(.ref bx), (.int (Int32.ofNat j))])) rfl rfl (Jvm.hb hby d_jdk_43_method_13_11) _ ?_
          rw [len_of S7 M7]
          show Steps p.tables e below (T_.setTop (mkF m 12 #[.val (.ref bx), .val (.ref by_), .val (.int (Int32.ofNat j))] [(.int (Int32.ofNat xs.length)), (.int (Int32.ofNat j))])) _
          refine XS.icmpYes X_.here hx rfl (pc0 := 12) (pc' := 32) rfl (Jvm.hb hby d_jdk_43_method_13_12) rfl (flt (own_nlt (by omega) (by omega))).2.1 (by decide) (by decide) ?_
          show Steps p.tables e below (T_.setTop (mkF m 32 #[.val (.ref bx), .val (.ref by_), .val (.int (Int32.ofNat j))] [])) _
          show Steps p.tables e below (T_.setTop (mkF m 32 #[.val (.ref bx), .val (.ref by_), .val (.int (Int32.ofNat j))] [])) t_
          exact k_)
        exact ⟨T_, _, _, X_, e_, N_, (Or.inl ⟨(by rw [show j = xs.length by omega]), (own_ext hlen fun i hi => hp i (by omega))⟩), s8⟩
      | succ k_ ih => 
        intro j T_ lo_ hm_ X_ e_ N_ hp hlen
        obtain ⟨cl9, Ar9, -, S9, M9, -, -⟩ := id I1
        obtain ⟨cl10, Ar10, -, S10, M10, H10, -⟩ := id I1
        have hin10 : ¬ ((Int32.ofNat j) < 0 ∨ cl10.slots.size ≤ ((Int32.ofNat j)).toNatClampNeg) := inb_of S10 (own_in (by omega) (by omega))
        have hat10 : cl10.slots[((Int32.ofNat j)).toNatClampNeg]? = some (.int (xs.getD j 0)) := H10.at hin10 (own_getc xs j _ (by omega) (by omega))
        obtain ⟨cl11, Ar11, -, S11, M11, H11, -⟩ := id I2
        have hin11 : ¬ ((Int32.ofNat j) < 0 ∨ cl11.slots.size ≤ ((Int32.ofNat j)).toNatClampNeg) := inb_of S11 (own_in (by omega) (by omega))
        have hat11 : cl11.slots[((Int32.ofNat j)).toNatClampNeg]? = some (.int (ys.getD j 0)) := H11.at hin11 (own_getc ys j _ (by omega) (by omega))
        have s12 : ∀ t_, Steps p.tables e below (T_.setTop (mkF m 21 #[.val (.ref bx), .val (.ref by_), .val (.int (Int32.ofNat j))] [(.int (ys.getD j 0)), (.int (xs.getD j 0))])) t_ → Steps p.tables e below (T_.setTop (mkF m 9 #[.val (.ref bx), .val (.ref by_), .val (.int (Int32.ofNat j))] [])) t_ := fun t_ k_ => (fun _ k_ => k_) t_ (by
          show Steps p.tables e below (T_.setTop (mkF m 9 #[.val (.ref bx), .val (.ref by_), .val (.int (Int32.ofNat j))] [])) t_
          refine XS.iloadN X_.here hx rfl (Jvm.hb hby d_jdk_43_method_13_9) rfl ?_
          refine XS.aloadN X_.here hx rfl (Jvm.hb hby d_jdk_43_method_13_10) rfl rfl ?_
          refine X_.arraylength hx (by rw [e_]; exact Ar9.1) (State.isArrayOf_alike hZ.alike Ar9.2.1) (g := (mkF m 11 #[.val (.ref bx), .val (.ref by_), .val (.int (Int32.ofNat j))] [(.ref bx), (.int (Int32.ofNat j))])) rfl rfl (Jvm.hb hby d_jdk_43_method_13_11) _ ?_
          rw [len_of S9 M9]
          show Steps p.tables e below (T_.setTop (mkF m 12 #[.val (.ref bx), .val (.ref by_), .val (.int (Int32.ofNat j))] [(.int (Int32.ofNat xs.length)), (.int (Int32.ofNat j))])) _
          refine XS.icmpNo X_.here hx rfl (Jvm.hb hby d_jdk_43_method_13_12) rfl (tlt (own_lt (by omega) (by omega))).2.1 ?_
          show Steps p.tables e below (T_.setTop (mkF m 15 #[.val (.ref bx), .val (.ref by_), .val (.int (Int32.ofNat j))] [])) _
          refine XS.aloadN X_.here hx rfl (Jvm.hb hby d_jdk_43_method_13_15) rfl rfl ?_
          refine XS.iloadN X_.here hx rfl (Jvm.hb hby d_jdk_43_method_13_16) rfl ?_
          refine X_.baloadBytes hx (j := (Int32.ofNat j)) (v := (.int (xs.getD j 0))) (by rw [e_]; exact Ar10.1) (State.isArrayOf_alike hZ.alike Ar10.2.1) Ar10.2.2 hin10 hat10 (g := (mkF m 17 #[.val (.ref bx), .val (.ref by_), .val (.int (Int32.ofNat j))] [(.int (Int32.ofNat j)), (.ref bx)])) rfl rfl (Jvm.hb hby d_jdk_43_method_13_17) _ ?_
          show Steps p.tables e below (T_.setTop (mkF m 18 #[.val (.ref bx), .val (.ref by_), .val (.int (Int32.ofNat j))] [(.int (xs.getD j 0))])) _
          refine XS.aloadN X_.here hx rfl (Jvm.hb hby d_jdk_43_method_13_18) rfl rfl ?_
          refine XS.iloadN X_.here hx rfl (Jvm.hb hby d_jdk_43_method_13_19) rfl ?_
          refine X_.baloadBytes hx (j := (Int32.ofNat j)) (v := (.int (ys.getD j 0))) (by rw [e_]; exact Ar11.1) (State.isArrayOf_alike hZ.alike Ar11.2.1) Ar11.2.2 hin11 hat11 (g := (mkF m 20 #[.val (.ref bx), .val (.ref by_), .val (.int (Int32.ofNat j))] [(.int (Int32.ofNat j)), (.ref by_), (.int (xs.getD j 0))])) rfl rfl (Jvm.hb hby d_jdk_43_method_13_20) _ ?_
          show Steps p.tables e below (T_.setTop (mkF m 21 #[.val (.ref bx), .val (.ref by_), .val (.int (Int32.ofNat j))] [(.int (ys.getD j 0)), (.int (xs.getD j 0))])) _
          show Steps p.tables e below (T_.setTop (mkF m 21 #[.val (.ref bx), .val (.ref by_), .val (.int (Int32.ofNat j))] [(.int (ys.getD j 0)), (.int (xs.getD j 0))])) t_
          exact k_)
        by_cases h13 : (xs.getD j 0) = (ys.getD j 0)
        · have s14 : ∀ t_, Steps p.tables e below (T_.setTop (mkF m 9 #[.val (.ref bx), .val (.ref by_), .val (.int ((Int32.ofNat j) + (1 : Int32)))] [])) t_ → Steps p.tables e below (T_.setTop (mkF m 9 #[.val (.ref bx), .val (.ref by_), .val (.int (Int32.ofNat j))] [])) t_ := fun t_ k_ => s12 t_ (by
            show Steps p.tables e below (T_.setTop (mkF m 21 #[.val (.ref bx), .val (.ref by_), .val (.int (Int32.ofNat j))] [(.int (ys.getD j 0)), (.int (xs.getD j 0))])) t_
            refine XS.icmpYes X_.here hx rfl (pc0 := 21) (pc' := 26) rfl (Jvm.hb hby d_jdk_43_method_13_21) rfl (teq h13).1 (by decide) (by decide) ?_
            show Steps p.tables e below (T_.setTop (mkF m 26 #[.val (.ref bx), .val (.ref by_), .val (.int (Int32.ofNat j))] [])) _
            refine XS.iinc X_.here hx rfl (Jvm.hb hby d_jdk_43_method_13_26) rfl (l' := #[.val (.ref bx), .val (.ref by_), .val (.int ((Int32.ofNat j) + (1 : Int32)))]) rfl ?_
            refine XS.goto X_.here hx rfl (pc0 := 29) (pc' := 9) rfl (Jvm.hb hby d_jdk_43_method_13_29) (by decide) (by decide) ?_
            show Steps p.tables e below (T_.setTop (mkF m 9 #[.val (.ref bx), .val (.ref by_), .val (.int ((Int32.ofNat j) + (1 : Int32)))] [])) t_
            exact k_)
          obtain ⟨T15, lo15, fe15, X15, e15, N15, A15, st15⟩ := ih (j + 1) T_ _  (by omega) X_ e_ N_   (fun i hi => by rcases Nat.lt_succ_iff_lt_or_eq.mp hi with q | q; exact hp i q; rw [q]; exact h13) hlen
          exact ⟨T15, lo15, fe15, X15, e15, N15, A15, fun t_ k_ => s14 t_ (castTop (by rw [own_up]) (st15 t_ k_))⟩
        · have s16 : ∀ t_, Steps p.tables e below (T_.setTop (mkF m 24 #[.val (.ref bx), .val (.ref by_), .val (.int (Int32.ofNat j))] [])) t_ → Steps p.tables e below (T_.setTop (mkF m 9 #[.val (.ref bx), .val (.ref by_), .val (.int (Int32.ofNat j))] [])) t_ := fun t_ k_ => s12 t_ (by
            show Steps p.tables e below (T_.setTop (mkF m 21 #[.val (.ref bx), .val (.ref by_), .val (.int (Int32.ofNat j))] [(.int (ys.getD j 0)), (.int (xs.getD j 0))])) t_
            refine XS.icmpNo X_.here hx rfl (Jvm.hb hby d_jdk_43_method_13_21) rfl (feq h13).1 ?_
            show Steps p.tables e below (T_.setTop (mkF m 24 #[.val (.ref bx), .val (.ref by_), .val (.int (Int32.ofNat j))] [])) _
            show Steps p.tables e below (T_.setTop (mkF m 24 #[.val (.ref bx), .val (.ref by_), .val (.int (Int32.ofNat j))] [])) t_
            exact k_)
          exact ⟨T_, _, _, X_, e_, N_, (Or.inr ⟨j, rfl, (fun e => h13 (by rw [e]))⟩), s16⟩
    obtain ⟨T17, lo17, fe17, X17, e17, N17, A17, st17⟩ := lp6 xs.length 0 s₁ _  (by omega) X0 e0 N0   (fun i hi => absurd hi (Nat.not_lt_zero i)) (own_inj (by omega) (by omega) h4)
    rcases A17 with ⟨rfl, J17_0⟩ | ⟨jj_17, rfl, J17_0⟩
    · have s18 : ∀ t_, Steps p.tables e below (T17.setTop (mkF m 32 #[.val (.ref bx), .val (.ref by_), .val (.int (Int32.ofNat xs.length))] [])) t_ → Steps p.tables e below (s₁.setTop (entryFrame m #[(.ref bx), (.ref by_)] 3)) t_ := fun t_ k_ => s5 t_ (st17 t_ k_)
      have s19 : ∀ t_, Steps p.tables e below (T17.setTop (mkF m 33 #[.val (.ref bx), .val (.ref by_), .val (.int (Int32.ofNat xs.length))] [(.int (1 : Int32))])) t_ → Steps p.tables e below (s₁.setTop (entryFrame m #[(.ref bx), (.ref by_)] 3)) t_ := fun t_ k_ => s18 t_ (by
        show Steps p.tables e below (T17.setTop (mkF m 32 #[.val (.ref bx), .val (.ref by_), .val (.int (Int32.ofNat xs.length))] [])) t_
        refine XS.iconst X17.here hx rfl (Jvm.hb hby d_jdk_43_method_13_32) ?_
        show Steps p.tables e below (T17.setTop (mkF m 33 #[.val (.ref bx), .val (.ref by_), .val (.int (Int32.ofNat xs.length))] [(.int (1 : Int32))])) t_
        exact k_)
      obtain ⟨fs, hr, hrun, hended, hW, hsame⟩ := X17.leave (v := some (.int (1 : Int32))) (fun h => by rw [Bd.returns] at h; cases h)
      refine ⟨_, _, s19 _ ?_, hrun, hended, _, _, rfl, ?_, ⟨_, rfl⟩, hW, hsame.mono (by decide) (by decide)⟩
      · show Steps p.tables e below (T17.setTop (mkF m 33 #[.val (.ref bx), .val (.ref by_), .val (.int (Int32.ofNat xs.length))] [(.int (1 : Int32))])) _
        exact retN X17 hx (t := .boolean) Bd.returns (by simp) (Jvm.hb hby d_jdk_43_method_13_33) hr
      · show Q_rmLEq Z _ _ _ _ _ _ h0 n0 _ T17.heap _
        rw [e17]
        exact ⟨(by rw [if_pos J17_0]), N17, rfl⟩
    · have s20 : ∀ t_, Steps p.tables e below (T17.setTop (mkF m 24 #[.val (.ref bx), .val (.ref by_), .val (.int (Int32.ofNat jj_17))] [])) t_ → Steps p.tables e below (s₁.setTop (entryFrame m #[(.ref bx), (.ref by_)] 3)) t_ := fun t_ k_ => s5 t_ (st17 t_ k_)
      have s21 : ∀ t_, Steps p.tables e below (T17.setTop (mkF m 25 #[.val (.ref bx), .val (.ref by_), .val (.int (Int32.ofNat jj_17))] [(.int (0 : Int32))])) t_ → Steps p.tables e below (s₁.setTop (entryFrame m #[(.ref bx), (.ref by_)] 3)) t_ := fun t_ k_ => s20 t_ (by
        show Steps p.tables e below (T17.setTop (mkF m 24 #[.val (.ref bx), .val (.ref by_), .val (.int (Int32.ofNat jj_17))] [])) t_
        refine XS.iconst X17.here hx rfl (Jvm.hb hby d_jdk_43_method_13_24) ?_
        show Steps p.tables e below (T17.setTop (mkF m 25 #[.val (.ref bx), .val (.ref by_), .val (.int (Int32.ofNat jj_17))] [(.int (0 : Int32))])) t_
        exact k_)
      obtain ⟨fs, hr, hrun, hended, hW, hsame⟩ := X17.leave (v := some (.int (0 : Int32))) (fun h => by rw [Bd.returns] at h; cases h)
      refine ⟨_, _, s21 _ ?_, hrun, hended, _, _, rfl, ?_, ⟨_, rfl⟩, hW, hsame.mono (by decide) (by decide)⟩
      · show Steps p.tables e below (T17.setTop (mkF m 25 #[.val (.ref bx), .val (.ref by_), .val (.int (Int32.ofNat jj_17))] [(.int (0 : Int32))])) _
        exact retN X17 hx (t := .boolean) Bd.returns (by simp) (Jvm.hb hby d_jdk_43_method_13_25) hr
      · show Q_rmLEq Z _ _ _ _ _ _ h0 n0 _ T17.heap _
        rw [e17]
        exact ⟨(by rw [if_neg J17_0]), N17, rfl⟩
  · have s22 : ∀ t_, Steps p.tables e below (s₁.setTop (mkF m 35 #[.val (.ref bx), .val (.ref by_), .unset] [(.int (0 : Int32))])) t_ → Steps p.tables e below (s₁.setTop (entryFrame m #[(.ref bx), (.ref by_)] 3)) t_ := fun t_ k_ => s3 t_ (by
      show Steps p.tables e below (s₁.setTop (mkF m 4 #[.val (.ref bx), .val (.ref by_), .unset] [(.int (Int32.ofNat ys.length)), (.int (Int32.ofNat xs.length))])) t_
      refine XS.icmpYes X0.here hx rfl (pc0 := 4) (pc' := 34) rfl (Jvm.hb hby d_jdk_43_method_13_4) rfl (feq h4).2 (by decide) (by decide) ?_
      show Steps p.tables e below (s₁.setTop (mkF m 34 #[.val (.ref bx), .val (.ref by_), .unset] [])) _
      refine XS.iconst X0.here hx rfl (Jvm.hb hby d_jdk_43_method_13_34) ?_
      show Steps p.tables e below (s₁.setTop (mkF m 35 #[.val (.ref bx), .val (.ref by_), .unset] [(.int (0 : Int32))])) t_
      exact k_)
    obtain ⟨fs, hr, hrun, hended, hW, hsame⟩ := X0.leave (v := some (.int (0 : Int32))) (fun h => by rw [Bd.returns] at h; cases h)
    refine ⟨_, _, s22 _ ?_, hrun, hended, _, _, rfl, ?_, ⟨_, rfl⟩, hW, hsame.mono (by decide) (by decide)⟩
    · show Steps p.tables e below (s₁.setTop (mkF m 35 #[.val (.ref bx), .val (.ref by_), .unset] [(.int (0 : Int32))])) _
      exact retN X0 hx (t := .boolean) Bd.returns (by simp) (Jvm.hb hby d_jdk_43_method_13_35) hr
    · show Q_rmLEq Z _ _ _ _ _ _ h0 n0 _ s₁.heap _
      rw [e0]
      exact ⟨(by rw [if_neg (fun e => h4 (by rw [e]))]), N0, rfl⟩
theorem d_jdk_42_method_66_0 : decode jdk_42_method_66_code 0 = .ok (.aload_n 0, 1) := by decide +kernel
theorem d_jdk_42_method_66_1 : decode jdk_42_method_66_code 1 = .ok (.aload_n 1, 1) := by decide +kernel
theorem d_jdk_42_method_66_2 : decode jdk_42_method_66_code 2 = .ok (.if_acmp .ne 5, 3) := by decide +kernel
theorem d_jdk_42_method_66_7 : decode jdk_42_method_66_code 7 = .ok (.aload_n 1, 1) := by decide +kernel
theorem d_jdk_42_method_66_8 : decode jdk_42_method_66_code 8 = .ok (.instanceof 10, 3) := by decide +kernel
theorem d_jdk_42_method_66_11 : decode jdk_42_method_66_code 11 = .ok (.ifCond .eq 43, 3) := by decide +kernel
theorem d_jdk_42_method_66_14 : decode jdk_42_method_66_code 14 = .ok (.aload_n 1, 1) := by decide +kernel
theorem d_jdk_42_method_66_15 : decode jdk_42_method_66_code 15 = .ok (.checkcast 10, 3) := by decide +kernel
theorem d_jdk_42_method_66_18 : decode jdk_42_method_66_code 18 = .ok (.astore_n 2, 1) := by decide +kernel
theorem d_jdk_42_method_66_19 : decode jdk_42_method_66_code 19 = .ok (.getstatic 38, 3) := by decide +kernel
theorem d_jdk_42_method_66_22 : decode jdk_42_method_66_code 22 = .ok (.ifCond .eq 14, 3) := by decide +kernel
theorem d_jdk_42_method_66_25 : decode jdk_42_method_66_code 25 = .ok (.aload_n 0, 1) := by decide +kernel
theorem d_jdk_42_method_66_26 : decode jdk_42_method_66_code 26 = .ok (.getfield 15, 3) := by decide +kernel
theorem d_jdk_42_method_66_29 : decode jdk_42_method_66_code 29 = .ok (.aload_n 2, 1) := by decide +kernel
theorem d_jdk_42_method_66_30 : decode jdk_42_method_66_code 30 = .ok (.getfield 15, 3) := by decide +kernel
theorem d_jdk_42_method_66_33 : decode jdk_42_method_66_code 33 = .ok (.if_icmp .ne 21, 3) := by decide +kernel
theorem d_jdk_42_method_66_36 : decode jdk_42_method_66_code 36 = .ok (.aload_n 0, 1) := by decide +kernel
theorem d_jdk_42_method_66_37 : decode jdk_42_method_66_code 37 = .ok (.getfield 9, 3) := by decide +kernel
theorem d_jdk_42_method_66_40 : decode jdk_42_method_66_code 40 = .ok (.aload_n 2, 1) := by decide +kernel
theorem d_jdk_42_method_66_41 : decode jdk_42_method_66_code 41 = .ok (.getfield 9, 3) := by decide +kernel
theorem pd___B_B_Z : parseMethodDescriptor "([B[B)Z" = some ⟨[(.array .byte), (.array .byte)], some .boolean⟩ := by decide +kernel
theorem d_jdk_42_method_66_44 : decode jdk_42_method_66_code 44 = .ok (.invokestatic 541, 3) := by decide +kernel
theorem d_jdk_42_method_66_47 : decode jdk_42_method_66_code 47 = .ok (.ifCond .eq 7, 3) := by decide +kernel
theorem d_jdk_42_method_66_50 : decode jdk_42_method_66_code 50 = .ok (.iconst 1, 1) := by decide +kernel
theorem d_jdk_42_method_66_51 : decode jdk_42_method_66_code 51 = .ok (.goto 4, 3) := by decide +kernel
theorem d_jdk_42_method_66_55 : decode jdk_42_method_66_code 55 = .ok (.ireturn, 1) := by decide +kernel
theorem d_jdk_42_method_66_54 : decode jdk_42_method_66_code 54 = .ok (.iconst 0, 1) := by decide +kernel
theorem ef_rmSEq (m : MethodId) (x0 : Addr) (x1 : Addr) : entryFrame m #[(.ref x0), (.ref x1)] 3 = mkF m 0 #[.val (.ref x0), .val (.ref x1), .unset] [] := by first | (simp [entryFrame, mkF, argsToLocals, Value.category]; done) | rfl
def Q_rmSEq (Z : State) (ax : Addr) (ay : Addr) (cst : Int32) (bx : Addr) (kx : ClassId) (cs : List Int32) (by_ : Addr) (ky : ClassId) (ds : List Int32) (h0 : Heap) (n0 : Nat) (v : Option Value) (h : Heap) (L : List Loc) : Prop := (v = some (.int (if cs = ds then (1 : Int32) else (0 : Int32)))) ∧ (Fr n0 L) ∧ (h = h0)
set_option maxRecDepth 65536 in
set_option maxHeartbeats 40000000 in
theorem rmSEq (l : Launch) (Z : State) (a0 : Array Value) (hw : ∀ d ∈ tables_1, d.before a0 Z = true) (ws : List Jvm.Cond) (ax : Addr) (ay : Addr) (cst : Int32) (bx : Addr) (kx : ClassId) (cs : List Int32) (by_ : Addr) (ky : ClassId) (ds : List Int32) (h0 : Heap) (n0 : Nat) (Z0 : n0 ≤ h0.size) (I1 : Sta Z Z.heap "java/lang/String" "COMPACT_STRINGS" "Z" (.int cst)) (OX : Old Z n0 h0) (hcst : ¬ (cst = (0 : Int32))) (I2 : Exa Z h0 ax "java/lang/String") (I3 : Fld Z h0 ax "java/lang/String" "value" "[B" (.ref bx)) (I4 : Fld Z h0 ax "java/lang/String" "coder" "B" (.int (own_cod cs))) (I5 : Arv Z h0 bx kx .byte (Int32.ofNat (own_enl cs)) (own_enc cs) (.int (0 : Int32))) (I6 : Exa Z h0 ay "java/lang/String") (I7 : Fld Z h0 ay "java/lang/String" "value" "[B" (.ref by_)) (I8 : Fld Z h0 ay "java/lang/String" "coder" "B" (.int (own_cod ds))) (I9 : Arv Z h0 by_ ky .byte (Int32.ofNat (own_enl ds)) (own_enc ds) (.int (0 : Int32))) (hne : ¬ (ax = ay)) (hchc : own_chs cs) (hchd : own_chs ds) (hbc : cs.length ≤ 3) (hbd : ds.length ≤ 3) :
    MetFree l (⟨"java/lang/String", "equals", "(Ljava/lang/Object;)Z"⟩ : MethodName) (head1 (Jvm.Cond.code (⟨"java/lang/String", "equals", "(Ljava/lang/Object;)Z"⟩ : MethodName) jdk_42_method_66_code 3 (some .boolean) :: ws) ({ frames := 1, cells := 0, slots := 0, locals := 14 } : Room)) (fun ar_ U => ar_ = #[(.ref ax), (.ref ay)] ∧ Z.Warmed39 U.vm ∧ U.heap = h0) (fun _ _ _ _ _ => True) (fun _ U o U' => ∃ v L, o = .returned v ∧ Q_rmSEq Z ax ay cst bx kx cs by_ ky ds h0 n0 v U'.heap L ∧ FrameEnd U o U' L ({ frames := 1, cells := 0, slots := 0, locals := 14 } : Room).cells ({ frames := 1, cells := 0, slots := 0, locals := 14 } : Room).slots) := by
  refine MetFree.of_bodySF (plainFor_of_name pn_java_lang_String) hisR ?_
  intro p e s m args below meth c s₁ Bd hml0 hP hK
  obtain ⟨rfl, hZ, hh⟩ := hP
  have hx := Bd.exec
  have hby := Bd.bytes
  have hml : c.maxLocals = 3 := hml0
  have hown : s.vm.findClass "java/lang/String" = some m.cls := findClass_of_methodNamed Bd.named
  have hnm := (name_of_methodNamed Bd.named Bd.method).1
  have X0 : Stand p l e ({ frames := 1, cells := 0, slots := 0, locals := 14 } : Room) s m #[(.ref ax), (.ref ay)] below meth c s₁ [] 0 0 := Stand.of_body Bd
  have e0 : s₁.heap = h0 := by rw [← hh, Bd.state]; rfl
  have N0 := Fr.nil n0
  have pre0 : ∀ t_, Steps p.tables e below (s₁.setTop (mkF m 0 #[.val (.ref ax), .val (.ref ay), .unset] [])) t_ → Steps p.tables e below (s₁.setTop (entryFrame m #[(.ref ax), (.ref ay)] 3)) t_ := fun t_ k_ => castTop (ef_rmSEq m ax ay) k_
  have lt_I2 : @LT.lt Nat _ ax h0.size := I2.lt
  have lt_I3 : @LT.lt Nat _ ax h0.size := I3.lt
  have lt_I4 : @LT.lt Nat _ ax h0.size := I4.lt
  have lt_I5 : @LT.lt Nat _ bx h0.size := I5.lt
  have lt_I6 : @LT.lt Nat _ ay h0.size := I6.lt
  have lt_I7 : @LT.lt Nat _ ay h0.size := I7.lt
  have lt_I8 : @LT.lt Nat _ ay h0.size := I8.lt
  have lt_I9 : @LT.lt Nat _ by_ h0.size := I9.lt
  obtain ⟨T1, X1, e1, st1⟩ := instY X0 hx hZ hown (hw _ (List.mem_of_getElem? (i := 92) rfl)) e0 (Ins.self I6) (g := (mkF m 8 #[.val (.ref ax), .val (.ref ay), .unset] [(.ref ay)])) rfl rfl (Jvm.hb hby d_jdk_42_method_66_8)
  obtain ⟨T2, X2, e2, st2⟩ := castY X1 hx hZ hown (hw _ (List.mem_of_getElem? (i := 92) rfl)) e1 (Ins.self I6) (g := (mkF m 15 #[.val (.ref ax), .val (.ref ay), .unset] [(.ref ay)])) rfl rfl (Jvm.hb hby d_jdk_42_method_66_15)
  obtain ⟨T3, X3, e3, st3⟩ := getS2 X2 hx hZ hown (host := "") (Or.inl (hw _ (List.mem_of_getElem? (i := 30) rfl))) Via.refl e2 (I1.ext OX.2) (g := (mkF m 19 #[.val (.ref ax), .val (.ref ay), .val (.ref ay)] [])) rfl (Jvm.hb hby d_jdk_42_method_66_19)
  obtain ⟨T4, X4, e4, st4⟩ := getF X3 hx hZ hown (host := "") (Or.inl (hw _ (List.mem_of_getElem? (i := 42) rfl))) Via.refl e3 I4 (g := (mkF m 26 #[.val (.ref ax), .val (.ref ay), .val (.ref ay)] [(.ref ax)])) rfl rfl (Jvm.hb hby d_jdk_42_method_66_26)
  obtain ⟨T5, X5, e5, st5⟩ := getF X4 hx hZ hown (host := "") (Or.inl (hw _ (List.mem_of_getElem? (i := 42) rfl))) Via.refl e4 I8 (g := (mkF m 30 #[.val (.ref ax), .val (.ref ay), .val (.ref ay)] [(.ref ay), (.int (own_cod cs))])) rfl rfl (Jvm.hb hby d_jdk_42_method_66_30)
  have s6 : ∀ t_, Steps p.tables e below (T5.setTop (mkF m 33 #[.val (.ref ax), .val (.ref ay), .val (.ref ay)] [(.int (own_cod ds)), (.int (own_cod cs))])) t_ → Steps p.tables e below (s₁.setTop (entryFrame m #[(.ref ax), (.ref ay)] 3)) t_ := fun t_ k_ => pre0 t_ (by
    show Steps p.tables e below (s₁.setTop (mkF m 0 #[.val (.ref ax), .val (.ref ay), .unset] [])) t_
    refine XS.aloadN X0.here hx rfl (Jvm.hb hby d_jdk_42_method_66_0) rfl rfl ?_
    refine XS.aloadN X0.here hx rfl (Jvm.hb hby d_jdk_42_method_66_1) rfl rfl ?_
    refine Jvm.RoadKit.acmp (g := (mkF m 2 #[.val (.ref ax), .val (.ref ay), .unset] [(.ref ay), (.ref ax)])) X0 hx rfl rfl rfl (pc0 := 2) (pc' := 7) (same := false) rfl (Jvm.hb hby d_jdk_42_method_66_2) rfl (decide_eq_false fun q => hne (Value.ref.inj q)) (by decide) (by decide) ?_
    show Steps p.tables e below (s₁.setTop (mkF m 7 #[.val (.ref ax), .val (.ref ay), .unset] [])) _
    refine XS.aloadN X0.here hx rfl (Jvm.hb hby d_jdk_42_method_66_7) rfl rfl ?_
    refine st1 _ ?_
    show Steps p.tables e below (T1.setTop (mkF m 11 #[.val (.ref ax), .val (.ref ay), .unset] [(.int (1 : Int32))])) _
    refine XS.ifNo X1.here hx rfl (Jvm.hb hby d_jdk_42_method_66_11) rfl ((if0 _ _).trans (feq (by decide : ¬ ((1 : Int32) = (0 : Int32)))).1) ?_
    show Steps p.tables e below (T1.setTop (mkF m 14 #[.val (.ref ax), .val (.ref ay), .unset] [])) _
    refine XS.aloadN X1.here hx rfl (Jvm.hb hby d_jdk_42_method_66_14) rfl rfl ?_
    refine st2 _ ?_
    show Steps p.tables e below (T2.setTop (mkF m 18 #[.val (.ref ax), .val (.ref ay), .unset] [(.ref ay)])) _
    refine XS.astoreN X2.here hx rfl (Jvm.hb hby d_jdk_42_method_66_18) rfl rfl (l' := #[.val (.ref ax), .val (.ref ay), .val (.ref ay)]) rfl ?_
    refine st3 _ ?_
    show Steps p.tables e below (T3.setTop (mkF m 22 #[.val (.ref ax), .val (.ref ay), .val (.ref ay)] [(.int cst)])) _
    refine XS.ifNo X3.here hx rfl (Jvm.hb hby d_jdk_42_method_66_22) rfl ((if0 _ _).trans (feq hcst).1) ?_
    show Steps p.tables e below (T3.setTop (mkF m 25 #[.val (.ref ax), .val (.ref ay), .val (.ref ay)] [])) _
    refine XS.aloadN X3.here hx rfl (Jvm.hb hby d_jdk_42_method_66_25) rfl rfl ?_
    refine st4 _ ?_
    show Steps p.tables e below (T4.setTop (mkF m 29 #[.val (.ref ax), .val (.ref ay), .val (.ref ay)] [(.int (own_cod cs))])) _
    refine XS.aloadN X4.here hx rfl (Jvm.hb hby d_jdk_42_method_66_29) rfl rfl ?_
    refine st5 _ ?_
    show Steps p.tables e below (T5.setTop (mkF m 33 #[.val (.ref ax), .val (.ref ay), .val (.ref ay)] [(.int (own_cod ds)), (.int (own_cod cs))])) _
    show Steps p.tables e below (T5.setTop (mkF m 33 #[.val (.ref ax), .val (.ref ay), .val (.ref ay)] [(.int (own_cod ds)), (.int (own_cod cs))])) t_
    exact k_)
  by_cases h7 : (own_cod cs) = (own_cod ds)
  · obtain ⟨T8, X8, e8, st8⟩ := getF X5 hx hZ hown (host := "") (Or.inl (hw _ (List.mem_of_getElem? (i := 44) rfl))) Via.refl e5 I3 (g := (mkF m 37 #[.val (.ref ax), .val (.ref ay), .val (.ref ay)] [(.ref ax)])) rfl rfl (Jvm.hb hby d_jdk_42_method_66_37)
    obtain ⟨T9, X9, e9, st9⟩ := getF X8 hx hZ hown (host := "") (Or.inl (hw _ (List.mem_of_getElem? (i := 44) rfl))) Via.refl e8 I7 (g := (mkF m 41 #[.val (.ref ax), .val (.ref ay), .val (.ref ay)] [(.ref ay), (.ref bx)])) rfl rfl (Jvm.hb hby d_jdk_42_method_66_41)
    have V10 : Arv Z h0 bx kx .byte (Int32.ofNat (own_eb cs).length) ((own_eb cs).map Value.int) (.int (0 : Int32)) := by rw [own_ebl, ← own_encb]; exact I5
    have V11 : Arv Z h0 by_ ky .byte (Int32.ofNat (own_eb ds).length) ((own_eb ds).map Value.int) (.int (0 : Int32)) := by rw [own_ebl, ← own_encb]; exact I9
    have Zc12 : n0 ≤ h0.size := by omega
    obtain ⟨_, _, ⟨T13, L13, k13, n13⟩, -, X13, ⟨Lc13, hQ13, l13, y13, z13⟩, st13⟩ := Jvm.LawKit.callS X9 hx (y := (⟨"java/lang/StringLatin1", "equals", "([B[B)Z"⟩ : MethodName)) hown (mvT hZ (hw _ (List.mem_of_getElem? (i := 93) rfl))) (mvT hZ (hw _ (List.mem_of_getElem? (i := 94) rfl))) (mvT hZ (hw _ (List.mem_of_getElem? (i := 95) rfl))) (mvT hZ (hw _ (List.mem_of_getElem? (i := 96) rfl))) (by decide) (backOf (W := 0) (rmLEq l Z a0 hw [] bx by_ kx ky (own_eb cs) (own_eb ds) h0 n0 Zc12 V10 V11 (by rw [own_ebl]; have := own_enll cs; omega) (by rw [own_ebl]; have := own_enll ds; omega)) hZ (hw _ (List.mem_of_getElem? (i := 96) rfl)) (hw _ (List.mem_of_getElem? (i := 95) rfl)) (by decide) (by decide)) (g := (mkF m 44 #[.val (.ref ax), .val (.ref ay), .val (.ref ay)] [(.ref by_), (.ref bx)])) rfl (by rw [hml]; rfl) (argsL := [(.ref bx), (.ref by_)]) (rest := []) (lenOf pd___B_B_Z rfl) rfl (by show 2 * 0 + _ ≤ _; exact Nat.le_of_eq rfl) (Jvm.hb hby d_jdk_42_method_66_44) (fun _ _ => ⟨rfl, e9, (by decide : 0 + 0 ≤ _), (by decide : 0 + 0 ≤ _)⟩)
    dsimp only [Pt.U, Pt.locs, Pt.cells, Pt.slots] at X13 l13 y13 z13 st13 hQ13
    subst l13 y13 z13
    obtain ⟨rfl, N13q, e13⟩ := hQ13
    have N13 := Fr.app N0 N13q
    have s14 : ∀ t_, Steps p.tables e below (T13.setTop (mkF m 47 #[.val (.ref ax), .val (.ref ay), .val (.ref ay)] [(.int (if (own_eb cs) = (own_eb ds) then (1 : Int32) else (0 : Int32)))])) t_ → Steps p.tables e below (s₁.setTop (entryFrame m #[(.ref ax), (.ref ay)] 3)) t_ := fun t_ k_ => s6 t_ (by
      show Steps p.tables e below (T5.setTop (mkF m 33 #[.val (.ref ax), .val (.ref ay), .val (.ref ay)] [(.int (own_cod ds)), (.int (own_cod cs))])) t_
      refine XS.icmpNo X5.here hx rfl (Jvm.hb hby d_jdk_42_method_66_33) rfl (teq h7).2 ?_
      show Steps p.tables e below (T5.setTop (mkF m 36 #[.val (.ref ax), .val (.ref ay), .val (.ref ay)] [])) _
      refine XS.aloadN X5.here hx rfl (Jvm.hb hby d_jdk_42_method_66_36) rfl rfl ?_
      refine st8 _ ?_
      show Steps p.tables e below (T8.setTop (mkF m 40 #[.val (.ref ax), .val (.ref ay), .val (.ref ay)] [(.ref bx)])) _
      refine XS.aloadN X8.here hx rfl (Jvm.hb hby d_jdk_42_method_66_40) rfl rfl ?_
      refine st9 _ ?_
      show Steps p.tables e below (T9.setTop (mkF m 44 #[.val (.ref ax), .val (.ref ay), .val (.ref ay)] [(.ref by_), (.ref bx)])) _
      refine st13 _ ?_
      show Steps p.tables e below (T13.setTop (mkF m 47 #[.val (.ref ax), .val (.ref ay), .val (.ref ay)] [(.int (if (own_eb cs) = (own_eb ds) then (1 : Int32) else (0 : Int32)))])) _
      show Steps p.tables e below (T13.setTop (mkF m 47 #[.val (.ref ax), .val (.ref ay), .val (.ref ay)] [(.int (if (own_eb cs) = (own_eb ds) then (1 : Int32) else (0 : Int32)))])) t_
      exact k_)
    by_cases h15 : own_eb cs = own_eb ds
    · have s16 : ∀ t_, Steps p.tables e below (T13.setTop (mkF m 47 #[.val (.ref ax), .val (.ref ay), .val (.ref ay)] [(.int (1 : Int32))])) t_ → Steps p.tables e below (s₁.setTop (entryFrame m #[(.ref ax), (.ref ay)] 3)) t_ := fun t_ k_ => s14 t_ (castTop (by simp only [if_pos h15]) k_)
      have s17 : ∀ t_, Steps p.tables e below (T13.setTop (mkF m 55 #[.val (.ref ax), .val (.ref ay), .val (.ref ay)] [(.int (1 : Int32))])) t_ → Steps p.tables e below (s₁.setTop (entryFrame m #[(.ref ax), (.ref ay)] 3)) t_ := fun t_ k_ => s16 t_ (by
        show Steps p.tables e below (T13.setTop (mkF m 47 #[.val (.ref ax), .val (.ref ay), .val (.ref ay)] [(.int (1 : Int32))])) t_
        refine XS.ifNo X13.here hx rfl (Jvm.hb hby d_jdk_42_method_66_47) rfl ((if0 _ _).trans (feq (by decide : ¬ ((1 : Int32) = (0 : Int32)))).1) ?_
        show Steps p.tables e below (T13.setTop (mkF m 50 #[.val (.ref ax), .val (.ref ay), .val (.ref ay)] [])) _
        refine XS.iconst X13.here hx rfl (Jvm.hb hby d_jdk_42_method_66_50) ?_
        refine XS.goto X13.here hx rfl (pc0 := 51) (pc' := 55) rfl (Jvm.hb hby d_jdk_42_method_66_51) (by decide) (by decide) ?_
        show Steps p.tables e below (T13.setTop (mkF m 55 #[.val (.ref ax), .val (.ref ay), .val (.ref ay)] [(.int (1 : Int32))])) t_
        exact k_)
      obtain ⟨fs, hr, hrun, hended, hW, hsame⟩ := X13.leave (v := some (.int (1 : Int32))) (fun h => by rw [Bd.returns] at h; cases h)
      refine ⟨_, _, s17 _ ?_, hrun, hended, _, _, rfl, ?_, ⟨_, rfl⟩, hW, hsame.mono (by decide) (by decide)⟩
      · show Steps p.tables e below (T13.setTop (mkF m 55 #[.val (.ref ax), .val (.ref ay), .val (.ref ay)] [(.int (1 : Int32))])) _
        exact retN X13 hx (t := .boolean) Bd.returns (by simp) (Jvm.hb hby d_jdk_42_method_66_55) hr
      · show Q_rmSEq Z _ _ _ _ _ _ _ _ _ h0 n0 _ T13.heap _
        rw [e13]
        exact ⟨(by rw [if_pos (own_encinj hchc hchd h7 h15)]), N13, rfl⟩
    · have s18 : ∀ t_, Steps p.tables e below (T13.setTop (mkF m 47 #[.val (.ref ax), .val (.ref ay), .val (.ref ay)] [(.int (0 : Int32))])) t_ → Steps p.tables e below (s₁.setTop (entryFrame m #[(.ref ax), (.ref ay)] 3)) t_ := fun t_ k_ => s14 t_ (castTop (by simp only [if_neg h15]) k_)
      have s19 : ∀ t_, Steps p.tables e below (T13.setTop (mkF m 55 #[.val (.ref ax), .val (.ref ay), .val (.ref ay)] [(.int (0 : Int32))])) t_ → Steps p.tables e below (s₁.setTop (entryFrame m #[(.ref ax), (.ref ay)] 3)) t_ := fun t_ k_ => s18 t_ (by
        show Steps p.tables e below (T13.setTop (mkF m 47 #[.val (.ref ax), .val (.ref ay), .val (.ref ay)] [(.int (0 : Int32))])) t_
        refine XS.ifYes X13.here hx rfl (pc0 := 47) (pc' := 54) rfl (Jvm.hb hby d_jdk_42_method_66_47) rfl ((if0 _ _).trans (teq (rfl : (0 : Int32) = (0 : Int32))).1) (by decide) (by decide) ?_
        show Steps p.tables e below (T13.setTop (mkF m 54 #[.val (.ref ax), .val (.ref ay), .val (.ref ay)] [])) _
        refine XS.iconst X13.here hx rfl (Jvm.hb hby d_jdk_42_method_66_54) ?_
        show Steps p.tables e below (T13.setTop (mkF m 55 #[.val (.ref ax), .val (.ref ay), .val (.ref ay)] [(.int (0 : Int32))])) t_
        exact k_)
      obtain ⟨fs, hr, hrun, hended, hW, hsame⟩ := X13.leave (v := some (.int (0 : Int32))) (fun h => by rw [Bd.returns] at h; cases h)
      refine ⟨_, _, s19 _ ?_, hrun, hended, _, _, rfl, ?_, ⟨_, rfl⟩, hW, hsame.mono (by decide) (by decide)⟩
      · show Steps p.tables e below (T13.setTop (mkF m 55 #[.val (.ref ax), .val (.ref ay), .val (.ref ay)] [(.int (0 : Int32))])) _
        exact retN X13 hx (t := .boolean) Bd.returns (by simp) (Jvm.hb hby d_jdk_42_method_66_55) hr
      · show Q_rmSEq Z _ _ _ _ _ _ _ _ _ h0 n0 _ T13.heap _
        rw [e13]
        exact ⟨(by rw [if_neg (fun e => h15 (by rw [e]))]), N13, rfl⟩
  · have s20 : ∀ t_, Steps p.tables e below (T5.setTop (mkF m 55 #[.val (.ref ax), .val (.ref ay), .val (.ref ay)] [(.int (0 : Int32))])) t_ → Steps p.tables e below (s₁.setTop (entryFrame m #[(.ref ax), (.ref ay)] 3)) t_ := fun t_ k_ => s6 t_ (by
      show Steps p.tables e below (T5.setTop (mkF m 33 #[.val (.ref ax), .val (.ref ay), .val (.ref ay)] [(.int (own_cod ds)), (.int (own_cod cs))])) t_
      refine XS.icmpYes X5.here hx rfl (pc0 := 33) (pc' := 54) rfl (Jvm.hb hby d_jdk_42_method_66_33) rfl (feq h7).2 (by decide) (by decide) ?_
      show Steps p.tables e below (T5.setTop (mkF m 54 #[.val (.ref ax), .val (.ref ay), .val (.ref ay)] [])) _
      refine XS.iconst X5.here hx rfl (Jvm.hb hby d_jdk_42_method_66_54) ?_
      show Steps p.tables e below (T5.setTop (mkF m 55 #[.val (.ref ax), .val (.ref ay), .val (.ref ay)] [(.int (0 : Int32))])) t_
      exact k_)
    obtain ⟨fs, hr, hrun, hended, hW, hsame⟩ := X5.leave (v := some (.int (0 : Int32))) (fun h => by rw [Bd.returns] at h; cases h)
    refine ⟨_, _, s20 _ ?_, hrun, hended, _, _, rfl, ?_, ⟨_, rfl⟩, hW, hsame.mono (by decide) (by decide)⟩
    · show Steps p.tables e below (T5.setTop (mkF m 55 #[.val (.ref ax), .val (.ref ay), .val (.ref ay)] [(.int (0 : Int32))])) _
      exact retN X5 hx (t := .boolean) Bd.returns (by simp) (Jvm.hb hby d_jdk_42_method_66_55) hr
    · show Q_rmSEq Z _ _ _ _ _ _ _ _ _ h0 n0 _ T5.heap _
      rw [e5]
      exact ⟨(by rw [if_neg (fun e => h7 (by rw [e]))]), N0, rfl⟩
theorem d_jdk_42_method_66_5 : decode jdk_42_method_66_code 5 = .ok (.iconst 1, 1) := by decide +kernel
theorem d_jdk_42_method_66_6 : decode jdk_42_method_66_code 6 = .ok (.ireturn, 1) := by decide +kernel
theorem ef_rmSEqS (m : MethodId) (x0 : Addr) (x1 : Addr) : entryFrame m #[(.ref x0), (.ref x1)] 3 = mkF m 0 #[.val (.ref x0), .val (.ref x1), .unset] [] := by first | (simp [entryFrame, mkF, argsToLocals, Value.category]; done) | rfl
def Q_rmSEqS (Z : State) (ax : Addr) (h0 : Heap) (n0 : Nat) (v : Option Value) (h : Heap) (L : List Loc) : Prop := (v = some (.int (1 : Int32))) ∧ (Fr n0 L) ∧ (h = h0)
set_option maxRecDepth 65536 in
set_option maxHeartbeats 40000000 in
theorem rmSEqS (l : Launch) (Z : State) (a0 : Array Value) (hw : ∀ d ∈ tables_1, d.before a0 Z = true) (ws : List Jvm.Cond) (ax : Addr) (h0 : Heap) (n0 : Nat) (Z0 : n0 ≤ h0.size)  :
    MetFree l (⟨"java/lang/String", "equals", "(Ljava/lang/Object;)Z"⟩ : MethodName) (head1 (Jvm.Cond.code (⟨"java/lang/String", "equals", "(Ljava/lang/Object;)Z"⟩ : MethodName) jdk_42_method_66_code 3 (some .boolean) :: ws) ({ frames := 0, cells := 0, slots := 0, locals := 0 } : Room)) (fun ar_ U => ar_ = #[(.ref ax), (.ref ax)] ∧ Z.Warmed39 U.vm ∧ U.heap = h0) (fun _ _ _ _ _ => True) (fun _ U o U' => ∃ v L, o = .returned v ∧ Q_rmSEqS Z ax h0 n0 v U'.heap L ∧ FrameEnd U o U' L ({ frames := 0, cells := 0, slots := 0, locals := 0 } : Room).cells ({ frames := 0, cells := 0, slots := 0, locals := 0 } : Room).slots) := by
  refine MetFree.of_bodySF (plainFor_of_name pn_java_lang_String) hisR ?_
  intro p e s m args below meth c s₁ Bd hml0 hP hK
  obtain ⟨rfl, hZ, hh⟩ := hP
  have hx := Bd.exec
  have hby := Bd.bytes
  have hml : c.maxLocals = 3 := hml0
  have hown : s.vm.findClass "java/lang/String" = some m.cls := findClass_of_methodNamed Bd.named
  have hnm := (name_of_methodNamed Bd.named Bd.method).1
  have X0 : Stand p l e ({ frames := 0, cells := 0, slots := 0, locals := 0 } : Room) s m #[(.ref ax), (.ref ax)] below meth c s₁ [] 0 0 := Stand.of_body Bd
  have e0 : s₁.heap = h0 := by rw [← hh, Bd.state]; rfl
  have N0 := Fr.nil n0
  have pre0 : ∀ t_, Steps p.tables e below (s₁.setTop (mkF m 0 #[.val (.ref ax), .val (.ref ax), .unset] [])) t_ → Steps p.tables e below (s₁.setTop (entryFrame m #[(.ref ax), (.ref ax)] 3)) t_ := fun t_ k_ => castTop (ef_rmSEqS m ax ax) k_
  have s1 : ∀ t_, Steps p.tables e below (s₁.setTop (mkF m 6 #[.val (.ref ax), .val (.ref ax), .unset] [(.int (1 : Int32))])) t_ → Steps p.tables e below (s₁.setTop (entryFrame m #[(.ref ax), (.ref ax)] 3)) t_ := fun t_ k_ => pre0 t_ (by
    show Steps p.tables e below (s₁.setTop (mkF m 0 #[.val (.ref ax), .val (.ref ax), .unset] [])) t_
    refine XS.aloadN X0.here hx rfl (Jvm.hb hby d_jdk_42_method_66_0) rfl rfl ?_
    refine XS.aloadN X0.here hx rfl (Jvm.hb hby d_jdk_42_method_66_1) rfl rfl ?_
    refine Jvm.RoadKit.acmp (g := (mkF m 2 #[.val (.ref ax), .val (.ref ax), .unset] [(.ref ax), (.ref ax)])) X0 hx rfl rfl rfl (pc0 := 2) (pc' := 5) (same := true) rfl (Jvm.hb hby d_jdk_42_method_66_2) rfl (decide_eq_true rfl) (by decide) (by decide) ?_
    show Steps p.tables e below (s₁.setTop (mkF m 5 #[.val (.ref ax), .val (.ref ax), .unset] [])) _
    refine XS.iconst X0.here hx rfl (Jvm.hb hby d_jdk_42_method_66_5) ?_
    show Steps p.tables e below (s₁.setTop (mkF m 6 #[.val (.ref ax), .val (.ref ax), .unset] [(.int (1 : Int32))])) t_
    exact k_)
  obtain ⟨fs, hr, hrun, hended, hW, hsame⟩ := X0.leave (v := some (.int (1 : Int32))) (fun h => by rw [Bd.returns] at h; cases h)
  refine ⟨_, _, s1 _ ?_, hrun, hended, _, _, rfl, ?_, ⟨_, rfl⟩, hW, hsame.mono (by decide) (by decide)⟩
  · show Steps p.tables e below (s₁.setTop (mkF m 6 #[.val (.ref ax), .val (.ref ax), .unset] [(.int (1 : Int32))])) _
    exact retN X0 hx (t := .boolean) Bd.returns (by simp) (Jvm.hb hby d_jdk_42_method_66_6) hr
  · show Q_rmSEqS Z _ h0 n0 _ s₁.heap _
    rw [e0]
    exact ⟨rfl, N0, rfl⟩
theorem pn_java_util_Objects : plainName "java/util/Objects" = true := by first | (simp [plainName, overriddenIn]; done) | decide +kernel
theorem d_jdk_31_method_11_0 : decode jdk_31_method_11_code 0 = .ok (.aload_n 0, 1) := by decide +kernel
theorem d_jdk_31_method_11_1 : decode jdk_31_method_11_code 1 = .ok (.ifnonnull 12, 3) := by decide +kernel
theorem d_jdk_31_method_11_13 : decode jdk_31_method_11_code 13 = .ok (.aload_n 0, 1) := by decide +kernel
theorem d_jdk_31_method_11_14 : decode jdk_31_method_11_code 14 = .ok (.areturn, 1) := by decide +kernel
theorem ef_rmReq (m : MethodId) (x0 : Addr) (x1 : Addr) : entryFrame m #[(.ref x0), (.ref x1)] 2 = mkF m 0 #[.val (.ref x0), .val (.ref x1)] [] := by first | (simp [entryFrame, mkF, argsToLocals, Value.category]; done) | rfl
def Q_rmReq (Z : State) (ob : Addr) (msg : Addr) (h0 : Heap) (n0 : Nat) (v : Option Value) (h : Heap) (L : List Loc) : Prop := (v = some (.ref ob)) ∧ (Fr n0 L) ∧ (h = h0)
set_option maxRecDepth 65536 in
set_option maxHeartbeats 40000000 in
theorem rmReq (l : Launch) (Z : State) (a0 : Array Value) (hw : ∀ d ∈ tables_1, d.before a0 Z = true) (ws : List Jvm.Cond) (ob : Addr) (msg : Addr) (h0 : Heap) (n0 : Nat) (Z0 : n0 ≤ h0.size)  :
    MetFree l (⟨"java/util/Objects", "requireNonNull", "(Ljava/lang/Object;Ljava/lang/String;)Ljava/lang/Object;"⟩ : MethodName) (head1 (Jvm.Cond.code (⟨"java/util/Objects", "requireNonNull", "(Ljava/lang/Object;Ljava/lang/String;)Ljava/lang/Object;"⟩ : MethodName) jdk_31_method_11_code 2 (some (.object "java/lang/Object")) :: ws) ({ frames := 0, cells := 0, slots := 0, locals := 0 } : Room)) (fun ar_ U => ar_ = #[(.ref ob), (.ref msg)] ∧ Z.Warmed39 U.vm ∧ U.heap = h0) (fun _ _ _ _ _ => True) (fun _ U o U' => ∃ v L, o = .returned v ∧ Q_rmReq Z ob msg h0 n0 v U'.heap L ∧ FrameEnd U o U' L ({ frames := 0, cells := 0, slots := 0, locals := 0 } : Room).cells ({ frames := 0, cells := 0, slots := 0, locals := 0 } : Room).slots) := by
  refine MetFree.of_bodySF (plainFor_of_name pn_java_util_Objects) hisR ?_
  intro p e s m args below meth c s₁ Bd hml0 hP hK
  obtain ⟨rfl, hZ, hh⟩ := hP
  have hx := Bd.exec
  have hby := Bd.bytes
  have hml : c.maxLocals = 2 := hml0
  have hown : s.vm.findClass "java/util/Objects" = some m.cls := findClass_of_methodNamed Bd.named
  have hnm := (name_of_methodNamed Bd.named Bd.method).1
  have X0 : Stand p l e ({ frames := 0, cells := 0, slots := 0, locals := 0 } : Room) s m #[(.ref ob), (.ref msg)] below meth c s₁ [] 0 0 := Stand.of_body Bd
  have e0 : s₁.heap = h0 := by rw [← hh, Bd.state]; rfl
  have N0 := Fr.nil n0
  have pre0 : ∀ t_, Steps p.tables e below (s₁.setTop (mkF m 0 #[.val (.ref ob), .val (.ref msg)] [])) t_ → Steps p.tables e below (s₁.setTop (entryFrame m #[(.ref ob), (.ref msg)] 2)) t_ := fun t_ k_ => castTop (ef_rmReq m ob msg) k_
  have s1 : ∀ t_, Steps p.tables e below (s₁.setTop (mkF m 14 #[.val (.ref ob), .val (.ref msg)] [(.ref ob)])) t_ → Steps p.tables e below (s₁.setTop (entryFrame m #[(.ref ob), (.ref msg)] 2)) t_ := fun t_ k_ => pre0 t_ (by
    show Steps p.tables e below (s₁.setTop (mkF m 0 #[.val (.ref ob), .val (.ref msg)] [])) t_
    refine XS.aloadN X0.here hx rfl (Jvm.hb hby d_jdk_31_method_11_0) rfl rfl ?_
    refine XS.ifnonnullYes X0.here hx rfl (pc0 := 1) (pc' := 13) rfl (Jvm.hb hby d_jdk_31_method_11_1) rfl (by decide) (by decide) ?_
    show Steps p.tables e below (s₁.setTop (mkF m 13 #[.val (.ref ob), .val (.ref msg)] [])) _
    refine XS.aloadN X0.here hx rfl (Jvm.hb hby d_jdk_31_method_11_13) rfl rfl ?_
    show Steps p.tables e below (s₁.setTop (mkF m 14 #[.val (.ref ob), .val (.ref msg)] [(.ref ob)])) t_
    exact k_)
  obtain ⟨fs, hr, hrun, hended, hW, hsame⟩ := X0.leave (v := some (.ref ob)) (fun h => by rw [Bd.returns] at h; cases h)
  refine ⟨_, _, s1 _ ?_, hrun, hended, _, _, rfl, ?_, ⟨_, rfl⟩, hW, hsame.mono (by decide) (by decide)⟩
  · show Steps p.tables e below (s₁.setTop (mkF m 14 #[.val (.ref ob), .val (.ref msg)] [(.ref ob)])) _
    jvm_step X0.here [X0.here.top, hx, (Jvm.hb hby d_jdk_31_method_11_14), X0.method', Bd.returns, Value.isRef, FieldType.isReference]
    first | (intro acts; rw [hr _ acts rfl rfl rfl]) | rw [hr _ _ rfl rfl rfl]
    exact Steps.refl _
  · show Q_rmReq Z _ _ h0 n0 _ s₁.heap _
    rw [e0]
    exact ⟨rfl, N0, rfl⟩
theorem pn_com_example_coyote_hill_coyotehill_ItemStatus : plainName "com/example/coyote_hill/coyotehill/ItemStatus" = true := by first | (simp [plainName, overriddenIn]; done) | decide +kernel
theorem d_prog_7_method_1_0 : decode prog_7_method_1_code 0 = .ok (.aload_n 0, 1) := by decide +kernel
theorem d_prog_7_method_1_1 : decode prog_7_method_1_code 1 = .ok (.invokespecial 1, 3) := by decide +kernel
theorem d_prog_7_method_1_4 : decode prog_7_method_1_code 4 = .ok (.aload_n 0, 1) := by decide +kernel
theorem d_prog_7_method_1_5 : decode prog_7_method_1_code 5 = .ok (.lload_n 1, 1) := by decide +kernel
theorem d_prog_7_method_1_6 : decode prog_7_method_1_code 6 = .ok (.putfield 7, 3) := by decide +kernel
theorem d_prog_7_method_1_9 : decode prog_7_method_1_code 9 = .ok (.aload_n 0, 1) := by decide +kernel
theorem d_prog_7_method_1_10 : decode prog_7_method_1_code 10 = .ok (.aload_n 3, 1) := by decide +kernel
theorem d_prog_7_method_1_11 : decode prog_7_method_1_code 11 = .ok (.ldc 13, 2) := by decide +kernel
theorem pd__Ljava_lang_Object_Ljava_lang_String__Ljava_lang_Object_ : parseMethodDescriptor "(Ljava/lang/Object;Ljava/lang/String;)Ljava/lang/Object;" = some ⟨[(.object "java/lang/Object"), (.object "java/lang/String")], some (.object "java/lang/Object")⟩ := by decide +kernel
theorem d_prog_7_method_1_13 : decode prog_7_method_1_code 13 = .ok (.invokestatic 15, 3) := by decide +kernel
theorem d_prog_7_method_1_16 : decode prog_7_method_1_code 16 = .ok (.checkcast 21, 3) := by decide +kernel
theorem d_prog_7_method_1_19 : decode prog_7_method_1_code 19 = .ok (.putfield 23, 3) := by decide +kernel
theorem d_prog_7_method_1_22 : decode prog_7_method_1_code 22 = .ok (.aload_n 0, 1) := by decide +kernel
theorem d_prog_7_method_1_23 : decode prog_7_method_1_code 23 = .ok (.aload 4, 2) := by decide +kernel
theorem d_prog_7_method_1_25 : decode prog_7_method_1_code 25 = .ok (.ldc 27, 2) := by decide +kernel
theorem d_prog_7_method_1_27 : decode prog_7_method_1_code 27 = .ok (.invokestatic 15, 3) := by decide +kernel
theorem d_prog_7_method_1_30 : decode prog_7_method_1_code 30 = .ok (.checkcast 21, 3) := by decide +kernel
theorem d_prog_7_method_1_33 : decode prog_7_method_1_code 33 = .ok (.putfield 29, 3) := by decide +kernel
theorem d_prog_7_method_1_36 : decode prog_7_method_1_code 36 = .ok (.aload_n 0, 1) := by decide +kernel
theorem d_prog_7_method_1_37 : decode prog_7_method_1_code 37 = .ok (.aload 5, 2) := by decide +kernel
theorem d_prog_7_method_1_39 : decode prog_7_method_1_code 39 = .ok (.ldc 32, 2) := by decide +kernel
theorem d_prog_7_method_1_41 : decode prog_7_method_1_code 41 = .ok (.invokestatic 15, 3) := by decide +kernel
theorem d_prog_7_method_1_44 : decode prog_7_method_1_code 44 = .ok (.checkcast 34, 3) := by decide +kernel
theorem d_prog_7_method_1_47 : decode prog_7_method_1_code 47 = .ok (.putfield 36, 3) := by decide +kernel
theorem d_prog_7_method_1_50 : decode prog_7_method_1_code 50 = .ok (.aload_n 0, 1) := by decide +kernel
theorem d_prog_7_method_1_51 : decode prog_7_method_1_code 51 = .ok (.iload 6, 2) := by decide +kernel
theorem d_prog_7_method_1_53 : decode prog_7_method_1_code 53 = .ok (.putfield 40, 3) := by decide +kernel
theorem d_prog_7_method_1_56 : decode prog_7_method_1_code 56 = .ok (.return_, 1) := by decide +kernel
theorem ef_rmITi (m : MethodId) (x0 : Addr) (x1 : Int64) (x2 : Addr) (x3 : Addr) (x4 : Addr) (x5 : Int32) : entryFrame m #[(.ref x0), (.long x1), (.ref x2), (.ref x3), (.ref x4), (.int x5)] 7 = mkF m 0 #[.val (.ref x0), .val (.long x1), .second, .val (.ref x2), .val (.ref x3), .val (.ref x4), .val (.int x5)] [] := by first | (simp [entryFrame, mkF, argsToLocals, Value.category]; done) | rfl
def Q_rmITi (Z : State) (a : Addr) (id_ : Int64) (tq : Addr) (tt : Addr) (sa : Addr) (at_ : Int32) (h0 : Heap) (n0 : Nat) (v : Option Value) (h : Heap) (L : List Loc) : Prop := (v = none) ∧ (Fr n0 L) ∧ (Keep h0 h [a]) ∧ (Exa Z h a "com/example/coyote_hill/coyotehill/ItemStatus") ∧ (Fld Z h a "com/example/coyote_hill/coyotehill/ItemStatus" "_id" "J" (.long id_)) ∧ (Fld Z h a "com/example/coyote_hill/coyotehill/ItemStatus" "_queue" "Ljava/lang/String;" (.ref tq)) ∧ (Fld Z h a "com/example/coyote_hill/coyotehill/ItemStatus" "_tenant" "Ljava/lang/String;" (.ref tt)) ∧ (Fld Z h a "com/example/coyote_hill/coyotehill/ItemStatus" "_state" "Lcom/example/coyote_hill/coyotehill/ItemState;" (.ref sa)) ∧ (Fld Z h a "com/example/coyote_hill/coyotehill/ItemStatus" "_attempt" "I" (.int at_))
set_option maxRecDepth 65536 in
set_option maxHeartbeats 40000000 in
theorem rmITi (l : Launch) (Z : State) (a0 : Array Value) (hw : ∀ d ∈ tables_1, d.before a0 Z = true) (ws : List Jvm.Cond) (a : Addr) (id_ : Int64) (tq : Addr) (tt : Addr) (sa : Addr) (at_ : Int32) (h0 : Heap) (n0 : Nat) (Z0 : n0 ≤ h0.size) (I1 : Exa Z h0 a "com/example/coyote_hill/coyotehill/ItemStatus") (I2 : Fld Z h0 a "com/example/coyote_hill/coyotehill/ItemStatus" "_id" "J" (.long (0 : Int64))) (I3 : Fld Z h0 a "com/example/coyote_hill/coyotehill/ItemStatus" "_queue" "Ljava/lang/String;" .null) (I4 : Fld Z h0 a "com/example/coyote_hill/coyotehill/ItemStatus" "_tenant" "Ljava/lang/String;" .null) (I5 : Fld Z h0 a "com/example/coyote_hill/coyotehill/ItemStatus" "_state" "Lcom/example/coyote_hill/coyotehill/ItemState;" .null) (I6 : Fld Z h0 a "com/example/coyote_hill/coyotehill/ItemStatus" "_attempt" "I" (.int (0 : Int32))) (I7 : Exa Z h0 tq "java/lang/String") (I8 : Exa Z h0 tt "java/lang/String") (I9 : Exa Z h0 sa "com/example/coyote_hill/coyotehill/ItemState") (ga : n0 ≤ a) :
    MetFree l (⟨"com/example/coyote_hill/coyotehill/ItemStatus", "<init>", "(JLjava/lang/String;Ljava/lang/String;Lcom/example/coyote_hill/coyotehill/ItemState;I)V"⟩ : MethodName) (head1 (Jvm.Cond.code (⟨"com/example/coyote_hill/coyotehill/ItemStatus", "<init>", "(JLjava/lang/String;Ljava/lang/String;Lcom/example/coyote_hill/coyotehill/ItemState;I)V"⟩ : MethodName) prog_7_method_1_code 7 none :: ws) ({ frames := 1, cells := 6, slots := 76, locals := 14 } : Room)) (fun ar_ U => ar_ = #[(.ref a), (.long id_), (.ref tq), (.ref tt), (.ref sa), (.int at_)] ∧ Z.Warmed39 U.vm ∧ U.heap = h0 ∧ CHv Z ELs U.vm h0) (fun _ _ _ _ _ => True) (fun _ U o U' => ∃ v L, o = .returned v ∧ Q_rmITi Z a id_ tq tt sa at_ h0 n0 v U'.heap L ∧ CHr Z ELs U.vm U.heap U'.vm U'.heap ∧ ReturnedEndW U o U' L ({ frames := 1, cells := 6, slots := 76, locals := 14 } : Room).cells ({ frames := 1, cells := 6, slots := 76, locals := 14 } : Room).slots) := by
  refine MetFree.of_bodySF (plainFor_of_name pn_com_example_coyote_hill_coyotehill_ItemStatus) hisR ?_
  intro p e s m args below meth c s₁ Bd hml0 hP hK
  obtain ⟨rfl, hZ, hh, hCH⟩ := hP
  have hx := Bd.exec
  have hby := Bd.bytes
  have hml : c.maxLocals = 7 := hml0
  have hown : s.vm.findClass "com/example/coyote_hill/coyotehill/ItemStatus" = some m.cls := findClass_of_methodNamed Bd.named
  have hnm := (name_of_methodNamed Bd.named Bd.method).1
  have X0 : Stand p l e ({ frames := 1, cells := 6, slots := 76, locals := 14 } : Room) (s.setVm s.vm) m #[(.ref a), (.long id_), (.ref tq), (.ref tt), (.ref sa), (.int at_)] below meth c s₁ [] 0 0 := Stand.of_body Bd
  have e0 : s₁.heap = h0 := by rw [← hh, Bd.state]; rfl
  have N0 := Fr.nil n0
  have pre0 : ∀ t_, Steps p.tables e below (s₁.setTop (mkF m 0 #[.val (.ref a), .val (.long id_), .second, .val (.ref tq), .val (.ref tt), .val (.ref sa), .val (.int at_)] [])) t_ → Steps p.tables e below (s₁.setTop (entryFrame m #[(.ref a), (.long id_), (.ref tq), (.ref tt), (.ref sa), (.int at_)] 7)) t_ := fun t_ k_ => castTop (ef_rmITi m a id_ tq tt sa at_) k_
  have hEL : EW Z a0 ELs := own_EW hw
  have wS : ∀ a ∈ Bundle.stringAtoms, a.before a0 Z = true := own_wS hw
  have hS : s.Since s.vm s.heap.size := (State.WarmedH.refl s).since _
  have hk : s.heap.size ≤ h0.size := by rw [hh]; exact Nat.le_refl _
  have CR : CHr Z ELs s.vm h0 s.vm h0 := CHr.refl hCH
  have lt_I1 : @LT.lt Nat _ a h0.size := I1.lt
  have lt_I2 : @LT.lt Nat _ a h0.size := I2.lt
  have lt_I3 : @LT.lt Nat _ a h0.size := I3.lt
  have lt_I4 : @LT.lt Nat _ a h0.size := I4.lt
  have lt_I5 : @LT.lt Nat _ a h0.size := I5.lt
  have lt_I6 : @LT.lt Nat _ a h0.size := I6.lt
  have lt_I7 : @LT.lt Nat _ tq h0.size := I7.lt
  have lt_I8 : @LT.lt Nat _ tt h0.size := I8.lt
  have lt_I9 : @LT.lt Nat _ sa h0.size := I9.lt
  obtain ⟨T1, X1, e1, st1⟩ := initO X0 hx hZ hown (hw _ (List.mem_of_getElem? (i := 55) rfl)) (hw _ (List.mem_of_getElem? (i := 28) rfl)) (hw _ (List.mem_of_getElem? (i := 29) rfl)) e0 (g := (mkF m 1 #[.val (.ref a), .val (.long id_), .second, .val (.ref tq), .val (.ref tt), .val (.ref sa), .val (.int at_)] [(.ref a)])) rfl (by rw [hml]; rfl) rfl (Jvm.hb hby d_prog_7_method_1_1) (by decide) (W := 0) (by show 2 * 0 + _ ≤ _; exact Nat.le_of_eq rfl) (by decide)
  obtain ⟨T2, h2, X2, e2, W2, st2⟩ := putF X1 hx hZ hown (host := "") (Or.inl (hw _ (List.mem_of_getElem? (i := 56) rfl))) Via.refl e1 I2 I1 (Or.inr ⟨(hw _ (List.mem_of_getElem? (i := 57) rfl)), rfl, hnm⟩) (hw _ (List.mem_of_getElem? (i := 50) rfl)) (ty := .long) (by decide) rfl rfl (g := (mkF m 6 #[.val (.ref a), .val (.long id_), .second, .val (.ref tq), .val (.ref tt), .val (.ref sa), .val (.int at_)] [(.long id_), (.ref a)])) rfl rfl (Jvm.hb hby d_prog_7_method_1_6)
  have z3 : h0.size ≤ h2.size := Nat.le_of_eq W2.size.symm
  have Cp3 : CHr Z ELs s.vm h0 s.vm h2 := CHr.wr W2 (Safe.exa hZ.alike I1 (by decide) (by decide)) CR.1
  have hk := Nat.le_trans hk z3
  have CR := CR.trans Cp3
  have F2 : Fld Z h2 a "com/example/coyote_hill/coyotehill/ItemStatus" "_id" "J" (.long id_) := I2.same W2
  have N2 := Fr.snoc X2 N0 (show n0 ≤ a by omega)
  have s5 : ∀ t_, Steps p.tables e below (T2.setTop (mkF m 11 #[.val (.ref a), .val (.long id_), .second, .val (.ref tq), .val (.ref tt), .val (.ref sa), .val (.int at_)] [(.ref tq), (.ref a)])) t_ → Steps p.tables e below (s₁.setTop (entryFrame m #[(.ref a), (.long id_), (.ref tq), (.ref tt), (.ref sa), (.int at_)] 7)) t_ := fun t_ k_ => pre0 t_ (by
    show Steps p.tables e below (s₁.setTop (mkF m 0 #[.val (.ref a), .val (.long id_), .second, .val (.ref tq), .val (.ref tt), .val (.ref sa), .val (.int at_)] [])) t_
    refine XS.aloadN X0.here hx rfl (Jvm.hb hby d_prog_7_method_1_0) rfl rfl ?_
    refine st1 _ ?_
    show Steps p.tables e below (T1.setTop (mkF m 4 #[.val (.ref a), .val (.long id_), .second, .val (.ref tq), .val (.ref tt), .val (.ref sa), .val (.int at_)] [])) _
    refine XS.aloadN X1.here hx rfl (Jvm.hb hby d_prog_7_method_1_4) rfl rfl ?_
    refine XS.lloadN X1.here hx rfl (Jvm.hb hby d_prog_7_method_1_5) rfl ?_
    refine st2 _ ?_
    show Steps p.tables e below (T2.setTop (mkF m 9 #[.val (.ref a), .val (.long id_), .second, .val (.ref tq), .val (.ref tt), .val (.ref sa), .val (.int at_)] [])) _
    refine XS.aloadN X2.here hx rfl (Jvm.hb hby d_prog_7_method_1_9) rfl rfl ?_
    refine XS.aloadN X2.here hx rfl (Jvm.hb hby d_prog_7_method_1_10) rfl rfl ?_
    show Steps p.tables e below (T2.setTop (mkF m 11 #[.val (.ref a), .val (.long id_), .second, .val (.ref tq), .val (.ref tt), .val (.ref sa), .val (.int at_)] [(.ref tq), (.ref a)])) t_
    exact k_)
  obtain ⟨a4, T4, h4, k4, b4, kk4, X4, e4, E4, hS, hk, hZ, hown, Ex4, Fc4, Fv4, Av4, la4, lb4, Cp4, Li4, Sa4, st4⟩ := ldcCH X2 hx hZ hown (hw _ (List.mem_of_getElem? (i := 58) rfl)) wS e2 hS hk hEL (List.mem_of_getElem? (i := 0) rfl) CR.1 (vs := [(.int (113 : Int32)), (.int (117 : Int32)), (.int (101 : Int32)), (.int (117 : Int32)), (.int (101 : Int32))]) (z := (5 : Int32)) ⟨by decide, by decide⟩ (by decide) rfl (g := (mkF m 11 #[.val (.ref a), .val (.long id_), .second, .val (.ref tq), .val (.ref tt), .val (.ref sa), .val (.int at_)] [(.ref tq), (.ref a)])) rfl (Jvm.hb hby d_prog_7_method_1_11) (n := 20) (by decide) (by decide) (by decide) (by decide)
  have z6 : h2.size ≤ h4.size := E4.1
  have CR := CR.trans Cp4
  have la4 : @LT.lt Nat _ a4 h4.size := la4
  have lb4 : @LT.lt Nat _ b4 h4.size := lb4
  have Zc7 : n0 ≤ h4.size := by omega
  obtain ⟨_, _, ⟨T8, L8, k8, n8⟩, -, X8, ⟨Lc8, hQ8, l8, y8, z8⟩, st8⟩ := Jvm.LawKit.callS X4 hx (y := (⟨"java/util/Objects", "requireNonNull", "(Ljava/lang/Object;Ljava/lang/String;)Ljava/lang/Object;"⟩ : MethodName)) hown (mvT hZ (hw _ (List.mem_of_getElem? (i := 59) rfl))) (mvT hZ (hw _ (List.mem_of_getElem? (i := 60) rfl))) (mvT hZ (hw _ (List.mem_of_getElem? (i := 61) rfl))) (mvT hZ (hw _ (List.mem_of_getElem? (i := 62) rfl))) (by decide) (backOf (W := 1) (rmReq l Z a0 hw [] tq a4 h4 n0 Zc7) hZ (hw _ (List.mem_of_getElem? (i := 62) rfl)) (hw _ (List.mem_of_getElem? (i := 61) rfl)) (by decide) (by decide)) (g := (mkF m 13 #[.val (.ref a), .val (.long id_), .second, .val (.ref tq), .val (.ref tt), .val (.ref sa), .val (.int at_)] [(.ref a4), (.ref tq), (.ref a)])) rfl (by rw [hml]; rfl) (argsL := [(.ref tq), (.ref a4)]) (rest := [(.ref a)]) (lenOf pd__Ljava_lang_Object_Ljava_lang_String__Ljava_lang_Object_ rfl) rfl (by show 2 * 0 + _ ≤ _; exact Nat.le_of_eq rfl) (Jvm.hb hby d_prog_7_method_1_13) (fun _ _ => ⟨rfl, e4, (by decide : 2 + 0 ≤ _), (by decide : 24 + 0 ≤ _)⟩)
  dsimp only [Pt.U, Pt.locs, Pt.cells, Pt.slots] at X8 l8 y8 z8 st8 hQ8
  subst l8 y8 z8
  obtain ⟨rfl, N8q, e8⟩ := hQ8
  have N8 := Fr.app N2 N8q
  have f9 : Exa Z h4 tq "java/lang/String" := ((I7.wr W2).ext E4)
  obtain ⟨T10, X10, e10, st10⟩ := castY X8 hx hZ hown (hw _ (List.mem_of_getElem? (i := 63) rfl)) e8 (Ins.self f9) (g := (mkF m 16 #[.val (.ref a), .val (.long id_), .second, .val (.ref tq), .val (.ref tt), .val (.ref sa), .val (.int at_)] [(.ref tq), (.ref a)])) rfl rfl (Jvm.hb hby d_prog_7_method_1_16)
  have f11 : Exa Z h4 a "com/example/coyote_hill/coyotehill/ItemStatus" := ((I1.wr W2).ext E4)
  have f12 : Fld Z h4 a "com/example/coyote_hill/coyotehill/ItemStatus" "_queue" "Ljava/lang/String;" .null := ((I3.other W2 (Or.inr (slot_ne (Or.inr (hw _ (List.mem_of_getElem? (i := 65) rfl))) (Or.inr (hw _ (List.mem_of_getElem? (i := 57) rfl))) (by decide) (t := (.object "java/lang/String")) (t' := .long) (by decide) (by decide)))).ext E4)
  obtain ⟨T13, h13, X13, e13, W13, st13⟩ := putF X10 hx hZ hown (host := "") (Or.inl (hw _ (List.mem_of_getElem? (i := 64) rfl))) Via.refl e10 f12 f11 (Or.inr ⟨(hw _ (List.mem_of_getElem? (i := 65) rfl)), rfl, hnm⟩) (hw _ (List.mem_of_getElem? (i := 50) rfl)) (ty := (.object "java/lang/String")) (by decide) rfl rfl (g := (mkF m 19 #[.val (.ref a), .val (.long id_), .second, .val (.ref tq), .val (.ref tt), .val (.ref sa), .val (.int at_)] [(.ref tq), (.ref a)])) rfl rfl (Jvm.hb hby d_prog_7_method_1_19)
  have z14 : h4.size ≤ h13.size := Nat.le_of_eq W13.size.symm
  have Cp14 : CHr Z ELs T4.vm h4 T4.vm h13 := CHr.wr W13 (Safe.exa hZ.alike f11 (by decide) (by decide)) CR.1
  have hk := Nat.le_trans hk z14
  have CR := CR.trans Cp14
  have F13 : Fld Z h13 a "com/example/coyote_hill/coyotehill/ItemStatus" "_queue" "Ljava/lang/String;" (.ref tq) := f12.same W13
  have N13 := Fr.snoc X13 N8 (show n0 ≤ a by omega)
  have s16 : ∀ t_, Steps p.tables e below (T13.setTop (mkF m 25 #[.val (.ref a), .val (.long id_), .second, .val (.ref tq), .val (.ref tt), .val (.ref sa), .val (.int at_)] [(.ref tt), (.ref a)])) t_ → Steps p.tables e below (s₁.setTop (entryFrame m #[(.ref a), (.long id_), (.ref tq), (.ref tt), (.ref sa), (.int at_)] 7)) t_ := fun t_ k_ => s5 t_ (by
    show Steps p.tables e below (T2.setTop (mkF m 11 #[.val (.ref a), .val (.long id_), .second, .val (.ref tq), .val (.ref tt), .val (.ref sa), .val (.int at_)] [(.ref tq), (.ref a)])) t_
    refine st4 _ ?_
    show Steps p.tables e below (T4.setTop (mkF m 13 #[.val (.ref a), .val (.long id_), .second, .val (.ref tq), .val (.ref tt), .val (.ref sa), .val (.int at_)] [(.ref a4), (.ref tq), (.ref a)])) _
    refine st8 _ ?_
    show Steps p.tables e below (T8.setTop (mkF m 16 #[.val (.ref a), .val (.long id_), .second, .val (.ref tq), .val (.ref tt), .val (.ref sa), .val (.int at_)] [(.ref tq), (.ref a)])) _
    refine st10 _ ?_
    show Steps p.tables e below (T10.setTop (mkF m 19 #[.val (.ref a), .val (.long id_), .second, .val (.ref tq), .val (.ref tt), .val (.ref sa), .val (.int at_)] [(.ref tq), (.ref a)])) _
    refine st13 _ ?_
    show Steps p.tables e below (T13.setTop (mkF m 22 #[.val (.ref a), .val (.long id_), .second, .val (.ref tq), .val (.ref tt), .val (.ref sa), .val (.int at_)] [])) _
    refine XS.aloadN X13.here hx rfl (Jvm.hb hby d_prog_7_method_1_22) rfl rfl ?_
    refine XS.aload X13.here hx rfl (Jvm.hb hby d_prog_7_method_1_23) rfl rfl ?_
    show Steps p.tables e below (T13.setTop (mkF m 25 #[.val (.ref a), .val (.long id_), .second, .val (.ref tq), .val (.ref tt), .val (.ref sa), .val (.int at_)] [(.ref tt), (.ref a)])) t_
    exact k_)
  obtain ⟨a15, T15, h15, k15, b15, kk15, X15, e15, E15, hS, hk, hZ, hown, Ex15, Fc15, Fv15, Av15, la15, lb15, Cp15, Li15, Sa15, st15⟩ := ldcCH X13 hx hZ hown (hw _ (List.mem_of_getElem? (i := 66) rfl)) wS e13 hS hk hEL (List.mem_of_getElem? (i := 1) rfl) CR.1 (vs := [(.int (116 : Int32)), (.int (101 : Int32)), (.int (110 : Int32)), (.int (97 : Int32)), (.int (110 : Int32)), (.int (116 : Int32))]) (z := (6 : Int32)) ⟨by decide, by decide⟩ (by decide) rfl (g := (mkF m 25 #[.val (.ref a), .val (.long id_), .second, .val (.ref tq), .val (.ref tt), .val (.ref sa), .val (.int at_)] [(.ref tt), (.ref a)])) rfl (Jvm.hb hby d_prog_7_method_1_25) (n := 24) (by decide) (by decide) (by decide) (by decide)
  have z17 : h13.size ≤ h15.size := E15.1
  have CR := CR.trans Cp15
  have la15 : @LT.lt Nat _ a15 h15.size := la15
  have lb15 : @LT.lt Nat _ b15 h15.size := lb15
  have Zc18 : n0 ≤ h15.size := by omega
  obtain ⟨_, _, ⟨T19, L19, k19, n19⟩, -, X19, ⟨Lc19, hQ19, l19, y19, z19⟩, st19⟩ := Jvm.LawKit.callS X15 hx (y := (⟨"java/util/Objects", "requireNonNull", "(Ljava/lang/Object;Ljava/lang/String;)Ljava/lang/Object;"⟩ : MethodName)) hown (mvT hZ (hw _ (List.mem_of_getElem? (i := 59) rfl))) (mvT hZ (hw _ (List.mem_of_getElem? (i := 60) rfl))) (mvT hZ (hw _ (List.mem_of_getElem? (i := 61) rfl))) (mvT hZ (hw _ (List.mem_of_getElem? (i := 62) rfl))) (by decide) (backOf (W := 1) (rmReq l Z a0 hw [] tt a15 h15 n0 Zc18) hZ (hw _ (List.mem_of_getElem? (i := 62) rfl)) (hw _ (List.mem_of_getElem? (i := 61) rfl)) (by decide) (by decide)) (g := (mkF m 27 #[.val (.ref a), .val (.long id_), .second, .val (.ref tq), .val (.ref tt), .val (.ref sa), .val (.int at_)] [(.ref a15), (.ref tt), (.ref a)])) rfl (by rw [hml]; rfl) (argsL := [(.ref tt), (.ref a15)]) (rest := [(.ref a)]) (lenOf pd__Ljava_lang_Object_Ljava_lang_String__Ljava_lang_Object_ rfl) rfl (by show 2 * 0 + _ ≤ _; exact Nat.le_of_eq rfl) (Jvm.hb hby d_prog_7_method_1_27) (fun _ _ => ⟨rfl, e15, (by decide : 4 + 0 ≤ _), (by decide : 52 + 0 ≤ _)⟩)
  dsimp only [Pt.U, Pt.locs, Pt.cells, Pt.slots] at X19 l19 y19 z19 st19 hQ19
  subst l19 y19 z19
  obtain ⟨rfl, N19q, e19⟩ := hQ19
  have N19 := Fr.app N13 N19q
  have f20 : Exa Z h15 tt "java/lang/String" := ((((I8.wr W2).ext E4).wr W13).ext E15)
  obtain ⟨T21, X21, e21, st21⟩ := castY X19 hx hZ hown (hw _ (List.mem_of_getElem? (i := 63) rfl)) e19 (Ins.self f20) (g := (mkF m 30 #[.val (.ref a), .val (.long id_), .second, .val (.ref tq), .val (.ref tt), .val (.ref sa), .val (.int at_)] [(.ref tt), (.ref a)])) rfl rfl (Jvm.hb hby d_prog_7_method_1_30)
  have f22 : Exa Z h15 a "com/example/coyote_hill/coyotehill/ItemStatus" := ((f11.wr W13).ext E15)
  have f23 : Fld Z h15 a "com/example/coyote_hill/coyotehill/ItemStatus" "_tenant" "Ljava/lang/String;" .null := ((((I4.other W2 (Or.inr (slot_ne (Or.inr (hw _ (List.mem_of_getElem? (i := 68) rfl))) (Or.inr (hw _ (List.mem_of_getElem? (i := 57) rfl))) (by decide) (t := (.object "java/lang/String")) (t' := .long) (by decide) (by decide)))).ext E4).other W13 (Or.inr (slot_ne (Or.inr (hw _ (List.mem_of_getElem? (i := 68) rfl))) (Or.inr (hw _ (List.mem_of_getElem? (i := 65) rfl))) (by decide) (t := (.object "java/lang/String")) (t' := (.object "java/lang/String")) (by decide) (by decide)))).ext E15)
  obtain ⟨T24, h24, X24, e24, W24, st24⟩ := putF X21 hx hZ hown (host := "") (Or.inl (hw _ (List.mem_of_getElem? (i := 67) rfl))) Via.refl e21 f23 f22 (Or.inr ⟨(hw _ (List.mem_of_getElem? (i := 68) rfl)), rfl, hnm⟩) (hw _ (List.mem_of_getElem? (i := 50) rfl)) (ty := (.object "java/lang/String")) (by decide) rfl rfl (g := (mkF m 33 #[.val (.ref a), .val (.long id_), .second, .val (.ref tq), .val (.ref tt), .val (.ref sa), .val (.int at_)] [(.ref tt), (.ref a)])) rfl rfl (Jvm.hb hby d_prog_7_method_1_33)
  have z25 : h15.size ≤ h24.size := Nat.le_of_eq W24.size.symm
  have Cp25 : CHr Z ELs T15.vm h15 T15.vm h24 := CHr.wr W24 (Safe.exa hZ.alike f22 (by decide) (by decide)) CR.1
  have hk := Nat.le_trans hk z25
  have CR := CR.trans Cp25
  have F24 : Fld Z h24 a "com/example/coyote_hill/coyotehill/ItemStatus" "_tenant" "Ljava/lang/String;" (.ref tt) := f23.same W24
  have N24 := Fr.snoc X24 N19 (show n0 ≤ a by omega)
  have s27 : ∀ t_, Steps p.tables e below (T24.setTop (mkF m 39 #[.val (.ref a), .val (.long id_), .second, .val (.ref tq), .val (.ref tt), .val (.ref sa), .val (.int at_)] [(.ref sa), (.ref a)])) t_ → Steps p.tables e below (s₁.setTop (entryFrame m #[(.ref a), (.long id_), (.ref tq), (.ref tt), (.ref sa), (.int at_)] 7)) t_ := fun t_ k_ => s16 t_ (by
    show Steps p.tables e below (T13.setTop (mkF m 25 #[.val (.ref a), .val (.long id_), .second, .val (.ref tq), .val (.ref tt), .val (.ref sa), .val (.int at_)] [(.ref tt), (.ref a)])) t_
    refine st15 _ ?_
    show Steps p.tables e below (T15.setTop (mkF m 27 #[.val (.ref a), .val (.long id_), .second, .val (.ref tq), .val (.ref tt), .val (.ref sa), .val (.int at_)] [(.ref a15), (.ref tt), (.ref a)])) _
    refine st19 _ ?_
    show Steps p.tables e below (T19.setTop (mkF m 30 #[.val (.ref a), .val (.long id_), .second, .val (.ref tq), .val (.ref tt), .val (.ref sa), .val (.int at_)] [(.ref tt), (.ref a)])) _
    refine st21 _ ?_
    show Steps p.tables e below (T21.setTop (mkF m 33 #[.val (.ref a), .val (.long id_), .second, .val (.ref tq), .val (.ref tt), .val (.ref sa), .val (.int at_)] [(.ref tt), (.ref a)])) _
    refine st24 _ ?_
    show Steps p.tables e below (T24.setTop (mkF m 36 #[.val (.ref a), .val (.long id_), .second, .val (.ref tq), .val (.ref tt), .val (.ref sa), .val (.int at_)] [])) _
    refine XS.aloadN X24.here hx rfl (Jvm.hb hby d_prog_7_method_1_36) rfl rfl ?_
    refine XS.aload X24.here hx rfl (Jvm.hb hby d_prog_7_method_1_37) rfl rfl ?_
    show Steps p.tables e below (T24.setTop (mkF m 39 #[.val (.ref a), .val (.long id_), .second, .val (.ref tq), .val (.ref tt), .val (.ref sa), .val (.int at_)] [(.ref sa), (.ref a)])) t_
    exact k_)
  obtain ⟨a26, T26, h26, k26, b26, kk26, X26, e26, E26, hS, hk, hZ, hown, Ex26, Fc26, Fv26, Av26, la26, lb26, Cp26, Li26, Sa26, st26⟩ := ldcCH X24 hx hZ hown (hw _ (List.mem_of_getElem? (i := 69) rfl)) wS e24 hS hk hEL (List.mem_of_getElem? (i := 2) rfl) CR.1 (vs := [(.int (115 : Int32)), (.int (116 : Int32)), (.int (97 : Int32)), (.int (116 : Int32)), (.int (101 : Int32))]) (z := (5 : Int32)) ⟨by decide, by decide⟩ (by decide) rfl (g := (mkF m 39 #[.val (.ref a), .val (.long id_), .second, .val (.ref tq), .val (.ref tt), .val (.ref sa), .val (.int at_)] [(.ref sa), (.ref a)])) rfl (Jvm.hb hby d_prog_7_method_1_39) (n := 20) (by decide) (by decide) (by decide) (by decide)
  have z28 : h24.size ≤ h26.size := E26.1
  have CR := CR.trans Cp26
  have la26 : @LT.lt Nat _ a26 h26.size := la26
  have lb26 : @LT.lt Nat _ b26 h26.size := lb26
  have Zc29 : n0 ≤ h26.size := by omega
  obtain ⟨_, _, ⟨T30, L30, k30, n30⟩, -, X30, ⟨Lc30, hQ30, l30, y30, z30⟩, st30⟩ := Jvm.LawKit.callS X26 hx (y := (⟨"java/util/Objects", "requireNonNull", "(Ljava/lang/Object;Ljava/lang/String;)Ljava/lang/Object;"⟩ : MethodName)) hown (mvT hZ (hw _ (List.mem_of_getElem? (i := 59) rfl))) (mvT hZ (hw _ (List.mem_of_getElem? (i := 60) rfl))) (mvT hZ (hw _ (List.mem_of_getElem? (i := 61) rfl))) (mvT hZ (hw _ (List.mem_of_getElem? (i := 62) rfl))) (by decide) (backOf (W := 1) (rmReq l Z a0 hw [] sa a26 h26 n0 Zc29) hZ (hw _ (List.mem_of_getElem? (i := 62) rfl)) (hw _ (List.mem_of_getElem? (i := 61) rfl)) (by decide) (by decide)) (g := (mkF m 41 #[.val (.ref a), .val (.long id_), .second, .val (.ref tq), .val (.ref tt), .val (.ref sa), .val (.int at_)] [(.ref a26), (.ref sa), (.ref a)])) rfl (by rw [hml]; rfl) (argsL := [(.ref sa), (.ref a26)]) (rest := [(.ref a)]) (lenOf pd__Ljava_lang_Object_Ljava_lang_String__Ljava_lang_Object_ rfl) rfl (by show 2 * 0 + _ ≤ _; exact Nat.le_of_eq rfl) (Jvm.hb hby d_prog_7_method_1_41) (fun _ _ => ⟨rfl, e26, (by decide : 6 + 0 ≤ _), (by decide : 76 + 0 ≤ _)⟩)
  dsimp only [Pt.U, Pt.locs, Pt.cells, Pt.slots] at X30 l30 y30 z30 st30 hQ30
  subst l30 y30 z30
  obtain ⟨rfl, N30q, e30⟩ := hQ30
  have N30 := Fr.app N24 N30q
  have f31 : Exa Z h26 sa "com/example/coyote_hill/coyotehill/ItemState" := ((((((I9.wr W2).ext E4).wr W13).ext E15).wr W24).ext E26)
  obtain ⟨T32, X32, e32, st32⟩ := castY X30 hx hZ hown (hw _ (List.mem_of_getElem? (i := 70) rfl)) e30 (Ins.self f31) (g := (mkF m 44 #[.val (.ref a), .val (.long id_), .second, .val (.ref tq), .val (.ref tt), .val (.ref sa), .val (.int at_)] [(.ref sa), (.ref a)])) rfl rfl (Jvm.hb hby d_prog_7_method_1_44)
  have f33 : Exa Z h26 a "com/example/coyote_hill/coyotehill/ItemStatus" := ((f22.wr W24).ext E26)
  have f34 : Fld Z h26 a "com/example/coyote_hill/coyotehill/ItemStatus" "_state" "Lcom/example/coyote_hill/coyotehill/ItemState;" .null := ((((((I5.other W2 (Or.inr (slot_ne (Or.inr (hw _ (List.mem_of_getElem? (i := 72) rfl))) (Or.inr (hw _ (List.mem_of_getElem? (i := 57) rfl))) (by decide) (t := (.object "com/example/coyote_hill/coyotehill/ItemState")) (t' := .long) (by decide) (by decide)))).ext E4).other W13 (Or.inr (slot_ne (Or.inr (hw _ (List.mem_of_getElem? (i := 72) rfl))) (Or.inr (hw _ (List.mem_of_getElem? (i := 65) rfl))) (by decide) (t := (.object "com/example/coyote_hill/coyotehill/ItemState")) (t' := (.object "java/lang/String")) (by decide) (by decide)))).ext E15).other W24 (Or.inr (slot_ne (Or.inr (hw _ (List.mem_of_getElem? (i := 72) rfl))) (Or.inr (hw _ (List.mem_of_getElem? (i := 68) rfl))) (by decide) (t := (.object "com/example/coyote_hill/coyotehill/ItemState")) (t' := (.object "java/lang/String")) (by decide) (by decide)))).ext E26)
  obtain ⟨T35, h35, X35, e35, W35, st35⟩ := putF X32 hx hZ hown (host := "") (Or.inl (hw _ (List.mem_of_getElem? (i := 71) rfl))) Via.refl e32 f34 f33 (Or.inr ⟨(hw _ (List.mem_of_getElem? (i := 72) rfl)), rfl, hnm⟩) (hw _ (List.mem_of_getElem? (i := 50) rfl)) (ty := (.object "com/example/coyote_hill/coyotehill/ItemState")) (by decide) rfl rfl (g := (mkF m 47 #[.val (.ref a), .val (.long id_), .second, .val (.ref tq), .val (.ref tt), .val (.ref sa), .val (.int at_)] [(.ref sa), (.ref a)])) rfl rfl (Jvm.hb hby d_prog_7_method_1_47)
  have z36 : h26.size ≤ h35.size := Nat.le_of_eq W35.size.symm
  have Cp36 : CHr Z ELs T26.vm h26 T26.vm h35 := CHr.wr W35 (Safe.exa hZ.alike f33 (by decide) (by decide)) CR.1
  have hk := Nat.le_trans hk z36
  have CR := CR.trans Cp36
  have F35 : Fld Z h35 a "com/example/coyote_hill/coyotehill/ItemStatus" "_state" "Lcom/example/coyote_hill/coyotehill/ItemState;" (.ref sa) := f34.same W35
  have N35 := Fr.snoc X35 N30 (show n0 ≤ a by omega)
  have f37 : Exa Z h35 a "com/example/coyote_hill/coyotehill/ItemStatus" := (f33.wr W35)
  have f38 : Fld Z h35 a "com/example/coyote_hill/coyotehill/ItemStatus" "_attempt" "I" (.int (0 : Int32)) := (((((((I6.other W2 (Or.inr (slot_ne (Or.inr (hw _ (List.mem_of_getElem? (i := 74) rfl))) (Or.inr (hw _ (List.mem_of_getElem? (i := 57) rfl))) (by decide) (t := .int) (t' := .long) (by decide) (by decide)))).ext E4).other W13 (Or.inr (slot_ne (Or.inr (hw _ (List.mem_of_getElem? (i := 74) rfl))) (Or.inr (hw _ (List.mem_of_getElem? (i := 65) rfl))) (by decide) (t := .int) (t' := (.object "java/lang/String")) (by decide) (by decide)))).ext E15).other W24 (Or.inr (slot_ne (Or.inr (hw _ (List.mem_of_getElem? (i := 74) rfl))) (Or.inr (hw _ (List.mem_of_getElem? (i := 68) rfl))) (by decide) (t := .int) (t' := (.object "java/lang/String")) (by decide) (by decide)))).ext E26).other W35 (Or.inr (slot_ne (Or.inr (hw _ (List.mem_of_getElem? (i := 74) rfl))) (Or.inr (hw _ (List.mem_of_getElem? (i := 72) rfl))) (by decide) (t := .int) (t' := (.object "com/example/coyote_hill/coyotehill/ItemState")) (by decide) (by decide))))
  obtain ⟨T39, h39, X39, e39, W39, st39⟩ := putF X35 hx hZ hown (host := "") (Or.inl (hw _ (List.mem_of_getElem? (i := 73) rfl))) Via.refl e35 f38 f37 (Or.inr ⟨(hw _ (List.mem_of_getElem? (i := 74) rfl)), rfl, hnm⟩) (hw _ (List.mem_of_getElem? (i := 50) rfl)) (ty := .int) (by decide) rfl rfl (g := (mkF m 53 #[.val (.ref a), .val (.long id_), .second, .val (.ref tq), .val (.ref tt), .val (.ref sa), .val (.int at_)] [(.int at_), (.ref a)])) rfl rfl (Jvm.hb hby d_prog_7_method_1_53)
  have z40 : h35.size ≤ h39.size := Nat.le_of_eq W39.size.symm
  have Cp40 : CHr Z ELs T26.vm h35 T26.vm h39 := CHr.wr W39 (Safe.exa hZ.alike f37 (by decide) (by decide)) CR.1
  have hk := Nat.le_trans hk z40
  have CR := CR.trans Cp40
  have F39 : Fld Z h39 a "com/example/coyote_hill/coyotehill/ItemStatus" "_attempt" "I" (.int at_) := f38.same W39
  have N39 := Fr.snoc X39 N35 (show n0 ≤ a by omega)
  have s41 : ∀ t_, Steps p.tables e below (T39.setTop (mkF m 56 #[.val (.ref a), .val (.long id_), .second, .val (.ref tq), .val (.ref tt), .val (.ref sa), .val (.int at_)] [])) t_ → Steps p.tables e below (s₁.setTop (entryFrame m #[(.ref a), (.long id_), (.ref tq), (.ref tt), (.ref sa), (.int at_)] 7)) t_ := fun t_ k_ => s27 t_ (by
    show Steps p.tables e below (T24.setTop (mkF m 39 #[.val (.ref a), .val (.long id_), .second, .val (.ref tq), .val (.ref tt), .val (.ref sa), .val (.int at_)] [(.ref sa), (.ref a)])) t_
    refine st26 _ ?_
    show Steps p.tables e below (T26.setTop (mkF m 41 #[.val (.ref a), .val (.long id_), .second, .val (.ref tq), .val (.ref tt), .val (.ref sa), .val (.int at_)] [(.ref a26), (.ref sa), (.ref a)])) _
    refine st30 _ ?_
    show Steps p.tables e below (T30.setTop (mkF m 44 #[.val (.ref a), .val (.long id_), .second, .val (.ref tq), .val (.ref tt), .val (.ref sa), .val (.int at_)] [(.ref sa), (.ref a)])) _
    refine st32 _ ?_
    show Steps p.tables e below (T32.setTop (mkF m 47 #[.val (.ref a), .val (.long id_), .second, .val (.ref tq), .val (.ref tt), .val (.ref sa), .val (.int at_)] [(.ref sa), (.ref a)])) _
    refine st35 _ ?_
    show Steps p.tables e below (T35.setTop (mkF m 50 #[.val (.ref a), .val (.long id_), .second, .val (.ref tq), .val (.ref tt), .val (.ref sa), .val (.int at_)] [])) _
    refine XS.aloadN X35.here hx rfl (Jvm.hb hby d_prog_7_method_1_50) rfl rfl ?_
    refine XS.iload X35.here hx rfl (Jvm.hb hby d_prog_7_method_1_51) rfl ?_
    refine st39 _ ?_
    show Steps p.tables e below (T39.setTop (mkF m 56 #[.val (.ref a), .val (.long id_), .second, .val (.ref tq), .val (.ref tt), .val (.ref sa), .val (.int at_)] [])) _
    show Steps p.tables e below (T39.setTop (mkF m 56 #[.val (.ref a), .val (.long id_), .second, .val (.ref tq), .val (.ref tt), .val (.ref sa), .val (.int at_)] [])) t_
    exact k_)
  obtain ⟨fs, hr, hrun, hended, hREW⟩ := X39.leaveW hS (by first | exact Nat.le_refl _ | (rw [e39]; exact hk)) (v := none) (fun _ => rfl)
  have f42 : Exa Z h39 a "com/example/coyote_hill/coyotehill/ItemStatus" := (f37.wr W39)
  have f43 : Fld Z h39 a "com/example/coyote_hill/coyotehill/ItemStatus" "_id" "J" (.long id_) := (((((((F2.ext E4).other W13 (Or.inr (slot_ne (Or.inr (hw _ (List.mem_of_getElem? (i := 57) rfl))) (Or.inr (hw _ (List.mem_of_getElem? (i := 65) rfl))) (by decide) (t := .long) (t' := (.object "java/lang/String")) (by decide) (by decide)))).ext E15).other W24 (Or.inr (slot_ne (Or.inr (hw _ (List.mem_of_getElem? (i := 57) rfl))) (Or.inr (hw _ (List.mem_of_getElem? (i := 68) rfl))) (by decide) (t := .long) (t' := (.object "java/lang/String")) (by decide) (by decide)))).ext E26).other W35 (Or.inr (slot_ne (Or.inr (hw _ (List.mem_of_getElem? (i := 57) rfl))) (Or.inr (hw _ (List.mem_of_getElem? (i := 72) rfl))) (by decide) (t := .long) (t' := (.object "com/example/coyote_hill/coyotehill/ItemState")) (by decide) (by decide)))).other W39 (Or.inr (slot_ne (Or.inr (hw _ (List.mem_of_getElem? (i := 57) rfl))) (Or.inr (hw _ (List.mem_of_getElem? (i := 74) rfl))) (by decide) (t := .long) (t' := .int) (by decide) (by decide))))
  have f44 : Fld Z h39 a "com/example/coyote_hill/coyotehill/ItemStatus" "_queue" "Ljava/lang/String;" (.ref tq) := (((((F13.ext E15).other W24 (Or.inr (slot_ne (Or.inr (hw _ (List.mem_of_getElem? (i := 65) rfl))) (Or.inr (hw _ (List.mem_of_getElem? (i := 68) rfl))) (by decide) (t := (.object "java/lang/String")) (t' := (.object "java/lang/String")) (by decide) (by decide)))).ext E26).other W35 (Or.inr (slot_ne (Or.inr (hw _ (List.mem_of_getElem? (i := 65) rfl))) (Or.inr (hw _ (List.mem_of_getElem? (i := 72) rfl))) (by decide) (t := (.object "java/lang/String")) (t' := (.object "com/example/coyote_hill/coyotehill/ItemState")) (by decide) (by decide)))).other W39 (Or.inr (slot_ne (Or.inr (hw _ (List.mem_of_getElem? (i := 65) rfl))) (Or.inr (hw _ (List.mem_of_getElem? (i := 74) rfl))) (by decide) (t := (.object "java/lang/String")) (t' := .int) (by decide) (by decide))))
  have f45 : Fld Z h39 a "com/example/coyote_hill/coyotehill/ItemStatus" "_tenant" "Ljava/lang/String;" (.ref tt) := (((F24.ext E26).other W35 (Or.inr (slot_ne (Or.inr (hw _ (List.mem_of_getElem? (i := 68) rfl))) (Or.inr (hw _ (List.mem_of_getElem? (i := 72) rfl))) (by decide) (t := (.object "java/lang/String")) (t' := (.object "com/example/coyote_hill/coyotehill/ItemState")) (by decide) (by decide)))).other W39 (Or.inr (slot_ne (Or.inr (hw _ (List.mem_of_getElem? (i := 68) rfl))) (Or.inr (hw _ (List.mem_of_getElem? (i := 74) rfl))) (by decide) (t := (.object "java/lang/String")) (t' := .int) (by decide) (by decide))))
  have f46 : Fld Z h39 a "com/example/coyote_hill/coyotehill/ItemStatus" "_state" "Lcom/example/coyote_hill/coyotehill/ItemState;" (.ref sa) := (F35.other W39 (Or.inr (slot_ne (Or.inr (hw _ (List.mem_of_getElem? (i := 72) rfl))) (Or.inr (hw _ (List.mem_of_getElem? (i := 74) rfl))) (by decide) (t := (.object "com/example/coyote_hill/coyotehill/ItemState")) (t' := .int) (by decide) (by decide))))
  refine ⟨_, _, s41 _ ?_, hrun, hended, _, _, rfl, ?_, (by show CHr Z ELs s.vm s.heap T39.vm T39.heap; rw [hh, e39]; exact CR.trans (CHv.at X39 hZ hEL CR.1)), hREW.1, hREW.2.1, hREW.2.2.1, hREW.2.2.2.mono (by decide) (by decide)⟩
  · show Steps p.tables e below (T39.setTop (mkF m 56 #[.val (.ref a), .val (.long id_), .second, .val (.ref tq), .val (.ref tt), .val (.ref sa), .val (.int at_)] [])) _
    exact X39.returnOut hx Bd.returns (Jvm.hb hby d_prog_7_method_1_56) hr
  · show Q_rmITi Z _ _ _ _ _ _ h0 n0 _ T39.heap _
    rw [e39]
    exact ⟨rfl, N39, (((((((((Keep.refl h0 [a]).wr W2 (Or.inl (by simp))).ext E4).wr W13 (Or.inl (by simp))).ext E15).wr W24 (Or.inl (by simp))).ext E26).wr W35 (Or.inl (by simp))).wr W39 (Or.inl (by simp))), f42, f43, f44, f45, f46, F39⟩
theorem pn_com_example_coyote_hill_coyotehill_ItemStatusEqualsPinLaw : plainName "com/example/coyote_hill/coyotehill/ItemStatusEqualsPinLaw" = true := by first | (simp [plainName, overriddenIn]; done) | decide +kernel
theorem d_method_2_0 : decode method_2_code 0 = .ok (.iload_n 0, 1) := by decide +kernel
theorem d_method_2_1 : decode method_2_code 1 = .ok (.bipush 24, 2) := by decide +kernel
theorem d_method_2_3 : decode method_2_code 3 = .ok (.iushr, 1) := by decide +kernel
theorem d_method_2_4 : decode method_2_code 4 = .ok (.iconst 3, 1) := by decide +kernel
theorem d_method_2_5 : decode method_2_code 5 = .ok (.iand, 1) := by decide +kernel
theorem d_method_2_6 : decode method_2_code 6 = .ok (.istore_n 1, 1) := by decide +kernel
theorem d_method_2_7 : decode method_2_code 7 = .ok (.iload_n 0, 1) := by decide +kernel
theorem d_method_2_8 : decode method_2_code 8 = .ok (.sipush 255, 3) := by decide +kernel
theorem d_method_2_11 : decode method_2_code 11 = .ok (.iand, 1) := by decide +kernel
theorem d_method_2_12 : decode method_2_code 12 = .ok (.i2c, 1) := by decide +kernel
theorem d_method_2_13 : decode method_2_code 13 = .ok (.istore_n 2, 1) := by decide +kernel
theorem d_method_2_14 : decode method_2_code 14 = .ok (.iload_n 0, 1) := by decide +kernel
theorem d_method_2_15 : decode method_2_code 15 = .ok (.bipush 8, 2) := by decide +kernel
theorem d_method_2_17 : decode method_2_code 17 = .ok (.iushr, 1) := by decide +kernel
theorem d_method_2_18 : decode method_2_code 18 = .ok (.sipush 255, 3) := by decide +kernel
theorem d_method_2_21 : decode method_2_code 21 = .ok (.iand, 1) := by decide +kernel
theorem d_method_2_22 : decode method_2_code 22 = .ok (.i2c, 1) := by decide +kernel
theorem d_method_2_23 : decode method_2_code 23 = .ok (.istore_n 3, 1) := by decide +kernel
theorem d_method_2_24 : decode method_2_code 24 = .ok (.iload_n 0, 1) := by decide +kernel
theorem d_method_2_25 : decode method_2_code 25 = .ok (.bipush 16, 2) := by decide +kernel
theorem d_method_2_27 : decode method_2_code 27 = .ok (.iushr, 1) := by decide +kernel
theorem d_method_2_28 : decode method_2_code 28 = .ok (.sipush 255, 3) := by decide +kernel
theorem d_method_2_31 : decode method_2_code 31 = .ok (.iand, 1) := by decide +kernel
theorem d_method_2_32 : decode method_2_code 32 = .ok (.i2c, 1) := by decide +kernel
theorem d_method_2_33 : decode method_2_code 33 = .ok (.istore 4, 2) := by decide +kernel
theorem d_method_2_35 : decode method_2_code 35 = .ok (.iload_n 1, 1) := by decide +kernel
theorem d_method_2_36 : decode method_2_code 36 = .ok (.ifCond .ne 14, 3) := by decide +kernel
theorem d_method_2_39 : decode method_2_code 39 = .ok (.new 7, 3) := by decide +kernel
theorem d_method_2_42 : decode method_2_code 42 = .ok (.dup, 1) := by decide +kernel
theorem d_method_2_43 : decode method_2_code 43 = .ok (.iconst 0, 1) := by decide +kernel
theorem d_method_2_44 : decode method_2_code 44 = .ok (.newarray .char, 2) := by decide +kernel
theorem pd___C_V : parseMethodDescriptor "([C)V" = some ⟨[(.array .char)], none⟩ := by decide +kernel
theorem d_method_2_46 : decode method_2_code 46 = .ok (.invokespecial 9, 3) := by decide +kernel
theorem d_method_2_49 : decode method_2_code 49 = .ok (.areturn, 1) := by decide +kernel
theorem d_method_2_50 : decode method_2_code 50 = .ok (.iload_n 1, 1) := by decide +kernel
theorem d_method_2_51 : decode method_2_code 51 = .ok (.iconst 1, 1) := by decide +kernel
theorem d_method_2_52 : decode method_2_code 52 = .ok (.if_icmp .ne 23, 3) := by decide +kernel
theorem d_method_2_55 : decode method_2_code 55 = .ok (.iconst 1, 1) := by decide +kernel
theorem d_method_2_56 : decode method_2_code 56 = .ok (.newarray .char, 2) := by decide +kernel
theorem d_method_2_58 : decode method_2_code 58 = .ok (.astore 5, 2) := by decide +kernel
theorem d_method_2_60 : decode method_2_code 60 = .ok (.aload 5, 2) := by decide +kernel
theorem d_method_2_62 : decode method_2_code 62 = .ok (.iconst 0, 1) := by decide +kernel
theorem d_method_2_63 : decode method_2_code 63 = .ok (.iload_n 2, 1) := by decide +kernel
theorem d_method_2_64 : decode method_2_code 64 = .ok (.castore, 1) := by decide +kernel
theorem d_method_2_65 : decode method_2_code 65 = .ok (.new 7, 3) := by decide +kernel
theorem d_method_2_68 : decode method_2_code 68 = .ok (.dup, 1) := by decide +kernel
theorem d_method_2_69 : decode method_2_code 69 = .ok (.aload 5, 2) := by decide +kernel
theorem d_method_2_71 : decode method_2_code 71 = .ok (.invokespecial 9, 3) := by decide +kernel
theorem d_method_2_74 : decode method_2_code 74 = .ok (.areturn, 1) := by decide +kernel
theorem d_method_2_75 : decode method_2_code 75 = .ok (.iload_n 1, 1) := by decide +kernel
theorem d_method_2_76 : decode method_2_code 76 = .ok (.iconst 2, 1) := by decide +kernel
theorem d_method_2_77 : decode method_2_code 77 = .ok (.if_icmp .ne 28, 3) := by decide +kernel
theorem d_method_2_80 : decode method_2_code 80 = .ok (.iconst 2, 1) := by decide +kernel
theorem d_method_2_81 : decode method_2_code 81 = .ok (.newarray .char, 2) := by decide +kernel
theorem d_method_2_83 : decode method_2_code 83 = .ok (.astore 5, 2) := by decide +kernel
theorem d_method_2_85 : decode method_2_code 85 = .ok (.aload 5, 2) := by decide +kernel
theorem d_method_2_87 : decode method_2_code 87 = .ok (.iconst 0, 1) := by decide +kernel
theorem d_method_2_88 : decode method_2_code 88 = .ok (.iload_n 2, 1) := by decide +kernel
theorem d_method_2_89 : decode method_2_code 89 = .ok (.castore, 1) := by decide +kernel
theorem d_method_2_90 : decode method_2_code 90 = .ok (.aload 5, 2) := by decide +kernel
theorem d_method_2_92 : decode method_2_code 92 = .ok (.iconst 1, 1) := by decide +kernel
theorem d_method_2_93 : decode method_2_code 93 = .ok (.iload_n 3, 1) := by decide +kernel
theorem d_method_2_94 : decode method_2_code 94 = .ok (.castore, 1) := by decide +kernel
theorem d_method_2_95 : decode method_2_code 95 = .ok (.new 7, 3) := by decide +kernel
theorem d_method_2_98 : decode method_2_code 98 = .ok (.dup, 1) := by decide +kernel
theorem d_method_2_99 : decode method_2_code 99 = .ok (.aload 5, 2) := by decide +kernel
theorem d_method_2_101 : decode method_2_code 101 = .ok (.invokespecial 9, 3) := by decide +kernel
theorem d_method_2_104 : decode method_2_code 104 = .ok (.areturn, 1) := by decide +kernel
theorem d_method_2_105 : decode method_2_code 105 = .ok (.iconst 3, 1) := by decide +kernel
theorem d_method_2_106 : decode method_2_code 106 = .ok (.newarray .char, 2) := by decide +kernel
theorem d_method_2_108 : decode method_2_code 108 = .ok (.astore 5, 2) := by decide +kernel
theorem d_method_2_110 : decode method_2_code 110 = .ok (.aload 5, 2) := by decide +kernel
theorem d_method_2_112 : decode method_2_code 112 = .ok (.iconst 0, 1) := by decide +kernel
theorem d_method_2_113 : decode method_2_code 113 = .ok (.iload_n 2, 1) := by decide +kernel
theorem d_method_2_114 : decode method_2_code 114 = .ok (.castore, 1) := by decide +kernel
theorem d_method_2_115 : decode method_2_code 115 = .ok (.aload 5, 2) := by decide +kernel
theorem d_method_2_117 : decode method_2_code 117 = .ok (.iconst 1, 1) := by decide +kernel
theorem d_method_2_118 : decode method_2_code 118 = .ok (.iload_n 3, 1) := by decide +kernel
theorem d_method_2_119 : decode method_2_code 119 = .ok (.castore, 1) := by decide +kernel
theorem d_method_2_120 : decode method_2_code 120 = .ok (.aload 5, 2) := by decide +kernel
theorem d_method_2_122 : decode method_2_code 122 = .ok (.iconst 2, 1) := by decide +kernel
theorem d_method_2_123 : decode method_2_code 123 = .ok (.iload 4, 2) := by decide +kernel
theorem d_method_2_125 : decode method_2_code 125 = .ok (.castore, 1) := by decide +kernel
theorem d_method_2_126 : decode method_2_code 126 = .ok (.new 7, 3) := by decide +kernel
theorem d_method_2_129 : decode method_2_code 129 = .ok (.dup, 1) := by decide +kernel
theorem d_method_2_130 : decode method_2_code 130 = .ok (.aload 5, 2) := by decide +kernel
theorem d_method_2_132 : decode method_2_code 132 = .ok (.invokespecial 9, 3) := by decide +kernel
theorem d_method_2_135 : decode method_2_code 135 = .ok (.areturn, 1) := by decide +kernel
theorem ef_rmStr (m : MethodId) (x0 : Int32) : entryFrame m #[(.int x0)] 6 = mkF m 0 #[.val (.int x0), .unset, .unset, .unset, .unset, .unset] [] := by first | (simp [entryFrame, mkF, argsToLocals, Value.category]; done) | rfl
def Q_rmStr (Z : State) (sx : Int32) (cst : Int32) (h0 : Heap) (n0 : Nat) (v : Option Value) (h : Heap) (L : List Loc) : Prop := ∃ (a : Addr), ∃ (b : Addr), ∃ (kb : ClassId), (v = some (.ref a)) ∧ (Fr n0 L) ∧ (Keep h0 h []) ∧ (Exa Z h a "java/lang/String") ∧ (Fld Z h a "java/lang/String" "value" "[B" (.ref b)) ∧ (Fld Z h a "java/lang/String" "coder" "B" (.int (own_cod (own_str sx)))) ∧ (Arv Z h b kb .byte (Int32.ofNat (own_enl (own_str sx))) (own_enc (own_str sx)) (.int (0 : Int32))) ∧ (h0.size ≤ a)
set_option maxRecDepth 65536 in
set_option maxHeartbeats 40000000 in
theorem rmStr (l : Launch) (Z : State) (a0 : Array Value) (hw : ∀ d ∈ tables_1, d.before a0 Z = true) (ws : List Jvm.Cond) (sx : Int32) (cst : Int32) (h0 : Heap) (n0 : Nat) (Z0 : n0 ≤ h0.size) (I1 : Sta Z Z.heap "java/lang/String" "COMPACT_STRINGS" "Z" (.int cst)) (OX : Old Z n0 h0) (hcst : ¬ (cst = (0 : Int32))) :
    MetFree l (⟨"com/example/coyote_hill/coyotehill/ItemStatusEqualsPinLaw", "str", "(I)Ljava/lang/String;"⟩ : MethodName) (head1 (Jvm.Cond.code (⟨"com/example/coyote_hill/coyotehill/ItemStatusEqualsPinLaw", "str", "(I)Ljava/lang/String;"⟩ : MethodName) method_2_code 6 (some (.object "java/lang/String")) :: ws) ({ frames := 4, cells := 6, slots := 15, locals := 66 } : Room)) (fun ar_ U => ar_ = #[(.int sx)] ∧ Z.Warmed39 U.vm ∧ U.heap = h0 ∧ CHv Z ELs U.vm h0) (fun _ _ _ _ _ => True) (fun _ U o U' => ∃ v L, o = .returned v ∧ Q_rmStr Z sx cst h0 n0 v U'.heap L ∧ CHr Z ELs U.vm U.heap U'.vm U'.heap ∧ ReturnedEndW U o U' L ({ frames := 4, cells := 6, slots := 15, locals := 66 } : Room).cells ({ frames := 4, cells := 6, slots := 15, locals := 66 } : Room).slots) := by
  refine MetFree.of_bodySF (plainFor_of_name pn_com_example_coyote_hill_coyotehill_ItemStatusEqualsPinLaw) hisR ?_
  intro p e s m args below meth c s₁ Bd hml0 hP hK
  obtain ⟨rfl, hZ, hh, hCH⟩ := hP
  have hx := Bd.exec
  have hby := Bd.bytes
  have hml : c.maxLocals = 6 := hml0
  have hown : s.vm.findClass "com/example/coyote_hill/coyotehill/ItemStatusEqualsPinLaw" = some m.cls := findClass_of_methodNamed Bd.named
  have hnm := (name_of_methodNamed Bd.named Bd.method).1
  have X0 : Stand p l e ({ frames := 4, cells := 6, slots := 15, locals := 66 } : Room) (s.setVm s.vm) m #[(.int sx)] below meth c s₁ [] 0 0 := Stand.of_body Bd
  have e0 : s₁.heap = h0 := by rw [← hh, Bd.state]; rfl
  have N0 := Fr.nil n0
  have pre0 : ∀ t_, Steps p.tables e below (s₁.setTop (mkF m 0 #[.val (.int sx), .unset, .unset, .unset, .unset, .unset] [])) t_ → Steps p.tables e below (s₁.setTop (entryFrame m #[(.int sx)] 6)) t_ := fun t_ k_ => castTop (ef_rmStr m sx) k_
  have hEL : EW Z a0 ELs := own_EW hw
  have wS : ∀ a ∈ Bundle.stringAtoms, a.before a0 Z = true := own_wS hw
  have hS : s.Since s.vm s.heap.size := (State.WarmedH.refl s).since _
  have hk : s.heap.size ≤ h0.size := by rw [hh]; exact Nat.le_refl _
  have CR : CHr Z ELs s.vm h0 s.vm h0 := CHr.refl hCH
  have s1 : ∀ t_, Steps p.tables e below (s₁.setTop (mkF m 36 #[.val (.int sx), .val (.int ((ushr sx (24 : Int32)) &&& (3 : Int32))), .val (.int (i2c (sx &&& (255 : Int32)))), .val (.int (i2c ((ushr sx (8 : Int32)) &&& (255 : Int32)))), .val (.int (i2c ((ushr sx (16 : Int32)) &&& (255 : Int32)))), .unset] [(.int ((ushr sx (24 : Int32)) &&& (3 : Int32)))])) t_ → Steps p.tables e below (s₁.setTop (entryFrame m #[(.int sx)] 6)) t_ := fun t_ k_ => pre0 t_ (by
    show Steps p.tables e below (s₁.setTop (mkF m 0 #[.val (.int sx), .unset, .unset, .unset, .unset, .unset] [])) t_
    refine XS.iloadN X0.here hx rfl (Jvm.hb hby d_method_2_0) rfl ?_
    refine XS.bipush X0.here hx rfl (Jvm.hb hby d_method_2_1) ?_
    refine XS.iushr X0.here hx rfl (Jvm.hb hby d_method_2_3) rfl ?_
    refine XS.iconst X0.here hx rfl (Jvm.hb hby d_method_2_4) ?_
    refine XS.iand X0.here hx rfl (Jvm.hb hby d_method_2_5) rfl ?_
    refine XS.istoreN X0.here hx rfl (Jvm.hb hby d_method_2_6) rfl (l' := #[.val (.int sx), .val (.int ((ushr sx (24 : Int32)) &&& (3 : Int32))), .unset, .unset, .unset, .unset]) rfl ?_
    show Steps p.tables e below (s₁.setTop (mkF m 7 #[.val (.int sx), .val (.int ((ushr sx (24 : Int32)) &&& (3 : Int32))), .unset, .unset, .unset, .unset] [])) _
    refine XS.iloadN X0.here hx rfl (Jvm.hb hby d_method_2_7) rfl ?_
    refine XS.sipush X0.here hx rfl (Jvm.hb hby d_method_2_8) ?_
    refine XS.iand X0.here hx rfl (Jvm.hb hby d_method_2_11) rfl ?_
    refine XS.i2c X0.here hx rfl (Jvm.hb hby d_method_2_12) rfl ?_
    refine XS.istoreN X0.here hx rfl (Jvm.hb hby d_method_2_13) rfl (l' := #[.val (.int sx), .val (.int ((ushr sx (24 : Int32)) &&& (3 : Int32))), .val (.int (i2c (sx &&& (255 : Int32)))), .unset, .unset, .unset]) rfl ?_
    refine XS.iloadN X0.here hx rfl (Jvm.hb hby d_method_2_14) rfl ?_
    show Steps p.tables e below (s₁.setTop (mkF m 15 #[.val (.int sx), .val (.int ((ushr sx (24 : Int32)) &&& (3 : Int32))), .val (.int (i2c (sx &&& (255 : Int32)))), .unset, .unset, .unset] [(.int sx)])) _
    refine XS.bipush X0.here hx rfl (Jvm.hb hby d_method_2_15) ?_
    refine XS.iushr X0.here hx rfl (Jvm.hb hby d_method_2_17) rfl ?_
    refine XS.sipush X0.here hx rfl (Jvm.hb hby d_method_2_18) ?_
    refine XS.iand X0.here hx rfl (Jvm.hb hby d_method_2_21) rfl ?_
    refine XS.i2c X0.here hx rfl (Jvm.hb hby d_method_2_22) rfl ?_
    refine XS.istoreN X0.here hx rfl (Jvm.hb hby d_method_2_23) rfl (l' := #[.val (.int sx), .val (.int ((ushr sx (24 : Int32)) &&& (3 : Int32))), .val (.int (i2c (sx &&& (255 : Int32)))), .val (.int (i2c ((ushr sx (8 : Int32)) &&& (255 : Int32)))), .unset, .unset]) rfl ?_
    show Steps p.tables e below (s₁.setTop (mkF m 24 #[.val (.int sx), .val (.int ((ushr sx (24 : Int32)) &&& (3 : Int32))), .val (.int (i2c (sx &&& (255 : Int32)))), .val (.int (i2c ((ushr sx (8 : Int32)) &&& (255 : Int32)))), .unset, .unset] [])) _
    refine XS.iloadN X0.here hx rfl (Jvm.hb hby d_method_2_24) rfl ?_
    refine XS.bipush X0.here hx rfl (Jvm.hb hby d_method_2_25) ?_
    refine XS.iushr X0.here hx rfl (Jvm.hb hby d_method_2_27) rfl ?_
    refine XS.sipush X0.here hx rfl (Jvm.hb hby d_method_2_28) ?_
    refine XS.iand X0.here hx rfl (Jvm.hb hby d_method_2_31) rfl ?_
    refine XS.i2c X0.here hx rfl (Jvm.hb hby d_method_2_32) rfl ?_
    show Steps p.tables e below (s₁.setTop (mkF m 33 #[.val (.int sx), .val (.int ((ushr sx (24 : Int32)) &&& (3 : Int32))), .val (.int (i2c (sx &&& (255 : Int32)))), .val (.int (i2c ((ushr sx (8 : Int32)) &&& (255 : Int32)))), .unset, .unset] [(.int (i2c ((ushr sx (16 : Int32)) &&& (255 : Int32))))])) _
    refine XS.istore X0.here hx rfl (Jvm.hb hby d_method_2_33) rfl (l' := #[.val (.int sx), .val (.int ((ushr sx (24 : Int32)) &&& (3 : Int32))), .val (.int (i2c (sx &&& (255 : Int32)))), .val (.int (i2c ((ushr sx (8 : Int32)) &&& (255 : Int32)))), .val (.int (i2c ((ushr sx (16 : Int32)) &&& (255 : Int32)))), .unset]) rfl ?_
    refine XS.iloadN X0.here hx rfl (Jvm.hb hby d_method_2_35) rfl ?_
    show Steps p.tables e below (s₁.setTop (mkF m 36 #[.val (.int sx), .val (.int ((ushr sx (24 : Int32)) &&& (3 : Int32))), .val (.int (i2c (sx &&& (255 : Int32)))), .val (.int (i2c ((ushr sx (8 : Int32)) &&& (255 : Int32)))), .val (.int (i2c ((ushr sx (16 : Int32)) &&& (255 : Int32)))), .unset] [(.int ((ushr sx (24 : Int32)) &&& (3 : Int32)))])) t_
    exact k_)
  by_cases h2 : ((ushr sx (24 : Int32)) &&& (3 : Int32)) = (0 : Int32)
  · obtain ⟨T3, h3, X3, e3, E3, A3, D3, -, st3⟩ := newO X0 hx hZ hown (hw _ (List.mem_of_getElem? (i := 17) rfl)) (hw _ (List.mem_of_getElem? (i := 18) rfl)) (hw _ (List.mem_of_getElem? (i := 19) rfl)) e0 (g := (mkF m 39 #[.val (.int sx), .val (.int ((ushr sx (24 : Int32)) &&& (3 : Int32))), .val (.int (i2c (sx &&& (255 : Int32)))), .val (.int (i2c ((ushr sx (8 : Int32)) &&& (255 : Int32)))), .val (.int (i2c ((ushr sx (16 : Int32)) &&& (255 : Int32)))), .unset] [])) rfl (Jvm.hb hby d_method_2_39) (by decide) (by decide)
    obtain ⟨b3, g3⟩ : ∃ z, z = h0.size := ⟨_, rfl⟩
    rw [← g3] at A3 D3 st3
    have z4 : h0.size ≤ h3.size := E3.1
    have Sf5 : Safe Z ELs s.vm h3 b3 := Safe.ext E3 CR.1 (Safe.new (by omega))
    have Cp4 : CHr Z ELs s.vm h0 s.vm h3 := CHr.ext E3 CR.1
    have hk := Nat.le_trans hk z4
    have CR := CR.trans Cp4
    have l3 : b3 < h3.size := A3.lt
    have F6 : Fld Z h3 b3 "java/lang/String" "coder" "B" (.int (0 : Int32)) := D3 (Or.inr (hw _ (List.mem_of_getElem? (i := 43) rfl))) (ty := .byte) (by decide)
    have F7 : Fld Z h3 b3 "java/lang/String" "value" "[B" .null := D3 (Or.inr (hw _ (List.mem_of_getElem? (i := 45) rfl))) (ty := (.array .byte)) (by decide)
    obtain ⟨T8, h8, k8, X8, e8, E8, A8, st8⟩ := newP X3 hx hZ (hw _ (List.mem_of_getElem? (i := 16) rfl)) e3 (g := (mkF m 44 #[.val (.int sx), .val (.int ((ushr sx (24 : Int32)) &&& (3 : Int32))), .val (.int (i2c (sx &&& (255 : Int32)))), .val (.int (i2c ((ushr sx (8 : Int32)) &&& (255 : Int32)))), .val (.int (i2c ((ushr sx (16 : Int32)) &&& (255 : Int32)))), .unset] [(.int (0 : Int32)), (.ref b3), (.ref b3)])) rfl (Jvm.hb hby d_method_2_44) rfl (by decide) (cap := 0) (by decide) (by decide) (by decide) (by decide)
    obtain ⟨b8, g8⟩ : ∃ z, z = h3.size := ⟨_, rfl⟩
    rw [← g8] at A8 st8
    have z9 : h3.size ≤ h8.size := E8.1
    have Cp9 : CHr Z ELs s.vm h3 s.vm h8 := CHr.ext E8 CR.1
    have hk := Nat.le_trans hk z9
    have CR := CR.trans Cp9
    have l8 : b8 < h8.size := A8.lt
    have V8 : Arv Z h8 b8 k8 .char (0 : Int32) [] (.int (0 : Int32)) := (Arv.new A8 (by decide)).pad (pad_rep [] (.int (0 : Int32)) 0)
    have O10 : Old Z n0 h8 := ((OX.ext E3).ext E8)
    have f11 : Exa Z h8 b3 "java/lang/String" := (A3.ext E8)
    have f12 : Fld Z h8 b3 "java/lang/String" "value" "[B" .null := (F7.ext E8)
    have f13 : Fld Z h8 b3 "java/lang/String" "coder" "B" (.int (0 : Int32)) := (F6.ext E8)
    have Zc14 : n0 ≤ h8.size := by omega
    have s16 : ∀ t_, Steps p.tables e below (T8.setTop (mkF m 46 #[.val (.int sx), .val (.int ((ushr sx (24 : Int32)) &&& (3 : Int32))), .val (.int (i2c (sx &&& (255 : Int32)))), .val (.int (i2c ((ushr sx (8 : Int32)) &&& (255 : Int32)))), .val (.int (i2c ((ushr sx (16 : Int32)) &&& (255 : Int32)))), .unset] [(.ref b8), (.ref b3), (.ref b3)])) t_ → Steps p.tables e below (s₁.setTop (entryFrame m #[(.int sx)] 6)) t_ := fun t_ k_ => s1 t_ (by
      show Steps p.tables e below (s₁.setTop (mkF m 36 #[.val (.int sx), .val (.int ((ushr sx (24 : Int32)) &&& (3 : Int32))), .val (.int (i2c (sx &&& (255 : Int32)))), .val (.int (i2c ((ushr sx (8 : Int32)) &&& (255 : Int32)))), .val (.int (i2c ((ushr sx (16 : Int32)) &&& (255 : Int32)))), .unset] [(.int ((ushr sx (24 : Int32)) &&& (3 : Int32)))])) t_
      refine XS.ifNo X0.here hx rfl (Jvm.hb hby d_method_2_36) rfl ((if0 _ _).trans (teq h2).2) ?_
      show Steps p.tables e below (s₁.setTop (mkF m 39 #[.val (.int sx), .val (.int ((ushr sx (24 : Int32)) &&& (3 : Int32))), .val (.int (i2c (sx &&& (255 : Int32)))), .val (.int (i2c ((ushr sx (8 : Int32)) &&& (255 : Int32)))), .val (.int (i2c ((ushr sx (16 : Int32)) &&& (255 : Int32)))), .unset] [])) _
      refine st3 _ ?_
      show Steps p.tables e below (T3.setTop (mkF m 42 #[.val (.int sx), .val (.int ((ushr sx (24 : Int32)) &&& (3 : Int32))), .val (.int (i2c (sx &&& (255 : Int32)))), .val (.int (i2c ((ushr sx (8 : Int32)) &&& (255 : Int32)))), .val (.int (i2c ((ushr sx (16 : Int32)) &&& (255 : Int32)))), .unset] [(.ref b3)])) _
      refine XS.dup X3.here hx rfl (Jvm.hb hby d_method_2_42) rfl rfl ?_
      refine XS.iconst X3.here hx rfl (Jvm.hb hby d_method_2_43) ?_
      refine st8 _ ?_
      show Steps p.tables e below (T8.setTop (mkF m 46 #[.val (.int sx), .val (.int ((ushr sx (24 : Int32)) &&& (3 : Int32))), .val (.int (i2c (sx &&& (255 : Int32)))), .val (.int (i2c ((ushr sx (8 : Int32)) &&& (255 : Int32)))), .val (.int (i2c ((ushr sx (16 : Int32)) &&& (255 : Int32)))), .unset] [(.ref b8), (.ref b3), (.ref b3)])) _
      show Steps p.tables e below (T8.setTop (mkF m 46 #[.val (.int sx), .val (.int ((ushr sx (24 : Int32)) &&& (3 : Int32))), .val (.int (i2c (sx &&& (255 : Int32)))), .val (.int (i2c ((ushr sx (8 : Int32)) &&& (255 : Int32)))), .val (.int (i2c ((ushr sx (16 : Int32)) &&& (255 : Int32)))), .unset] [(.ref b8), (.ref b3), (.ref b3)])) t_
      exact k_)
    obtain ⟨_, _, ⟨T15, L15, k15, n15⟩, -, Xr15, hSr15, hg15, ⟨Lc15, hQ15, l15, y15, z15, Cp15⟩, st15⟩ := X8.specialBackS hx (y := (⟨"java/lang/String", "<init>", "([C)V"⟩ : MethodName)) rfl hown (mvT hZ (hw _ (List.mem_of_getElem? (i := 20) rfl))) (mvT hZ (hw _ (List.mem_of_getElem? (i := 21) rfl))) (mvT hZ (hw _ (List.mem_of_getElem? (i := 22) rfl))) (by decide) (backOfSH (s := s) (vm0 := s.vm) (W := 1) (rmIni1 l Z a0 hw [] b3 b8 cst ([] : List Int32) k8 0 h8 n0 Zc14 I1 O10 (hcst : ¬ (cst = (0 : Int32))) f11 f12 f13 V8 rfl (by first | assumption | omega | rfl | decide : 0 ≤ 3) own_lat0 (by first | assumption | omega | rfl | decide : n0 ≤ b3) (by first | assumption | omega | rfl | decide : @Ne Nat b3 b8)) hZ (hw _ (List.mem_of_getElem? (i := 22) rfl)) (hw _ (List.mem_of_getElem? (i := 19) rfl)) (by decide) (by decide) hEL CR.1) (g := (mkF m 46 #[.val (.int sx), .val (.int ((ushr sx (24 : Int32)) &&& (3 : Int32))), .val (.int (i2c (sx &&& (255 : Int32)))), .val (.int (i2c ((ushr sx (8 : Int32)) &&& (255 : Int32)))), .val (.int (i2c ((ushr sx (16 : Int32)) &&& (255 : Int32)))), .unset] [(.ref b8), (.ref b3), (.ref b3)])) rfl (by rw [hml]; rfl) (Steps.refl _) (a := b3) (argsL := [(.ref b8)]) (rest := [(.ref b3)]) (lenOf pd___C_V rfl) rfl (by show 2 * 0 + _ ≤ _; exact Nat.le_of_eq rfl) (Jvm.hb hby d_method_2_46) (fun _ _ => ⟨rfl, e8, (by decide : 2 + 4 ≤ _), (by decide : 4 + 8 ≤ _)⟩)
    dsimp only [Pt.U, Pt.locs, Pt.cells, Pt.slots] at Xr15 hSr15 hg15 l15 y15 z15 st15 hQ15 Cp15
    subst l15 y15 z15
    obtain ⟨X15, hS, hZ, hown⟩ := rebS (own := "com/example/coyote_hill/coyotehill/ItemStatusEqualsPinLaw") hS (by first | exact Nat.le_refl _ | (rw [e8]; exact hk)) Xr15 hSr15 hg15 hZ hown
    obtain ⟨b_15, kb_15, rfl, N15q, K15, Fq15_0, Fq15_1, Fq15_2, Fq15_3⟩ := hQ15
    have N15 := Fr.app N0 N15q
    obtain ⟨h15, e15⟩ : ∃ z, T15.heap = z := ⟨_, rfl⟩
    rw [e15] at K15 Fq15_0 Fq15_1 Fq15_2 Fq15_3 Cp15
    have hk : T15.heap.size ≤ h15.size := Nat.le_of_eq (congrArg Array.size e15)
    have z17 : h8.size ≤ h15.size := K15.1
    have CR := CR.trans Cp15
    have lt15_0 : @LT.lt Nat _ b3 h15.size := Fq15_0.lt
    have lt15_3 : @LT.lt Nat _ b_15 h15.size := Fq15_3.lt
    have s18 : ∀ t_, Steps p.tables e below (T15.setTop (mkF m 49 #[.val (.int sx), .val (.int ((ushr sx (24 : Int32)) &&& (3 : Int32))), .val (.int (i2c (sx &&& (255 : Int32)))), .val (.int (i2c ((ushr sx (8 : Int32)) &&& (255 : Int32)))), .val (.int (i2c ((ushr sx (16 : Int32)) &&& (255 : Int32)))), .unset] [(.ref b3)])) t_ → Steps p.tables e below (s₁.setTop (entryFrame m #[(.int sx)] 6)) t_ := fun t_ k_ => s16 t_ (by
      show Steps p.tables e below (T8.setTop (mkF m 46 #[.val (.int sx), .val (.int ((ushr sx (24 : Int32)) &&& (3 : Int32))), .val (.int (i2c (sx &&& (255 : Int32)))), .val (.int (i2c ((ushr sx (8 : Int32)) &&& (255 : Int32)))), .val (.int (i2c ((ushr sx (16 : Int32)) &&& (255 : Int32)))), .unset] [(.ref b8), (.ref b3), (.ref b3)])) t_
      refine st15.trans ?_
      show Steps p.tables e below (T15.setTop (mkF m 49 #[.val (.int sx), .val (.int ((ushr sx (24 : Int32)) &&& (3 : Int32))), .val (.int (i2c (sx &&& (255 : Int32)))), .val (.int (i2c ((ushr sx (8 : Int32)) &&& (255 : Int32)))), .val (.int (i2c ((ushr sx (16 : Int32)) &&& (255 : Int32)))), .unset] [(.ref b3)])) _
      show Steps p.tables e below (T15.setTop (mkF m 49 #[.val (.int sx), .val (.int ((ushr sx (24 : Int32)) &&& (3 : Int32))), .val (.int (i2c (sx &&& (255 : Int32)))), .val (.int (i2c ((ushr sx (8 : Int32)) &&& (255 : Int32)))), .val (.int (i2c ((ushr sx (16 : Int32)) &&& (255 : Int32)))), .unset] [(.ref b3)])) t_
      exact k_)
    obtain ⟨fs, hr, hrun, hended, hREW⟩ := X15.leaveW hS (by first | exact Nat.le_refl _ | (rw [e15]; exact hk)) (v := some (.ref b3)) (fun h => by rw [Bd.returns] at h; cases h)
    refine ⟨_, _, s18 _ ?_, hrun, hended, _, _, rfl, ?_, (by show CHr Z ELs s.vm s.heap T15.vm T15.heap; rw [hh, e15]; exact CR.trans (CHv.at X15 hZ hEL CR.1)), hREW.1, hREW.2.1, hREW.2.2.1, hREW.2.2.2.mono (by decide) (by decide)⟩
    · show Steps p.tables e below (T15.setTop (mkF m 49 #[.val (.int sx), .val (.int ((ushr sx (24 : Int32)) &&& (3 : Int32))), .val (.int (i2c (sx &&& (255 : Int32)))), .val (.int (i2c ((ushr sx (8 : Int32)) &&& (255 : Int32)))), .val (.int (i2c ((ushr sx (16 : Int32)) &&& (255 : Int32)))), .unset] [(.ref b3)])) _
      jvm_step X15.here [X15.here.top, hx, (Jvm.hb hby d_method_2_49), X15.method', Bd.returns, Value.isRef, FieldType.isReference]
      first | (intro acts; rw [hr _ acts rfl rfl rfl]) | rw [hr _ _ rfl rfl rfl]
      exact Steps.refl _
    · show Q_rmStr Z _ _ h0 n0 _ T15.heap _
      rw [e15]
      exact ⟨b3, b_15, kb_15, rfl, N15, ((((Keep.refl h0 []).ext E3).ext E8).trans K15 (allS (Or.inr (show h0.size ≤ b3 by omega)) all0)), Fq15_0, Fq15_1, (by rw [own_str0 sx h2]; exact Fq15_2), (by rw [own_str0 sx h2]; exact Fq15_3), by omega⟩
  · have s19 : ∀ t_, Steps p.tables e below (s₁.setTop (mkF m 52 #[.val (.int sx), .val (.int ((ushr sx (24 : Int32)) &&& (3 : Int32))), .val (.int (i2c (sx &&& (255 : Int32)))), .val (.int (i2c ((ushr sx (8 : Int32)) &&& (255 : Int32)))), .val (.int (i2c ((ushr sx (16 : Int32)) &&& (255 : Int32)))), .unset] [(.int (1 : Int32)), (.int ((ushr sx (24 : Int32)) &&& (3 : Int32)))])) t_ → Steps p.tables e below (s₁.setTop (entryFrame m #[(.int sx)] 6)) t_ := fun t_ k_ => s1 t_ (by
      show Steps p.tables e below (s₁.setTop (mkF m 36 #[.val (.int sx), .val (.int ((ushr sx (24 : Int32)) &&& (3 : Int32))), .val (.int (i2c (sx &&& (255 : Int32)))), .val (.int (i2c ((ushr sx (8 : Int32)) &&& (255 : Int32)))), .val (.int (i2c ((ushr sx (16 : Int32)) &&& (255 : Int32)))), .unset] [(.int ((ushr sx (24 : Int32)) &&& (3 : Int32)))])) t_
      refine XS.ifYes X0.here hx rfl (pc0 := 36) (pc' := 50) rfl (Jvm.hb hby d_method_2_36) rfl ((if0 _ _).trans (feq h2).2) (by decide) (by decide) ?_
      show Steps p.tables e below (s₁.setTop (mkF m 50 #[.val (.int sx), .val (.int ((ushr sx (24 : Int32)) &&& (3 : Int32))), .val (.int (i2c (sx &&& (255 : Int32)))), .val (.int (i2c ((ushr sx (8 : Int32)) &&& (255 : Int32)))), .val (.int (i2c ((ushr sx (16 : Int32)) &&& (255 : Int32)))), .unset] [])) _
      refine XS.iloadN X0.here hx rfl (Jvm.hb hby d_method_2_50) rfl ?_
      refine XS.iconst X0.here hx rfl (Jvm.hb hby d_method_2_51) ?_
      show Steps p.tables e below (s₁.setTop (mkF m 52 #[.val (.int sx), .val (.int ((ushr sx (24 : Int32)) &&& (3 : Int32))), .val (.int (i2c (sx &&& (255 : Int32)))), .val (.int (i2c ((ushr sx (8 : Int32)) &&& (255 : Int32)))), .val (.int (i2c ((ushr sx (16 : Int32)) &&& (255 : Int32)))), .unset] [(.int (1 : Int32)), (.int ((ushr sx (24 : Int32)) &&& (3 : Int32)))])) t_
      exact k_)
    by_cases h20 : ((ushr sx (24 : Int32)) &&& (3 : Int32)) = (1 : Int32)
    · obtain ⟨T21, h21, k21, X21, e21, E21, A21, st21⟩ := newP X0 hx hZ (hw _ (List.mem_of_getElem? (i := 16) rfl)) e0 (g := (mkF m 56 #[.val (.int sx), .val (.int ((ushr sx (24 : Int32)) &&& (3 : Int32))), .val (.int (i2c (sx &&& (255 : Int32)))), .val (.int (i2c ((ushr sx (8 : Int32)) &&& (255 : Int32)))), .val (.int (i2c ((ushr sx (16 : Int32)) &&& (255 : Int32)))), .unset] [(.int (1 : Int32))])) rfl (Jvm.hb hby d_method_2_56) rfl (by decide) (cap := 1) (by decide) (by decide) (by decide) (by decide)
      obtain ⟨b21, g21⟩ : ∃ z, z = h0.size := ⟨_, rfl⟩
      rw [← g21] at A21 st21
      have z22 : h0.size ≤ h21.size := E21.1
      have Cp22 : CHr Z ELs s.vm h0 s.vm h21 := CHr.ext E21 CR.1
      have hk := Nat.le_trans hk z22
      have CR := CR.trans Cp22
      have l21 : b21 < h21.size := A21.lt
      have V21 : Arv Z h21 b21 k21 .char (1 : Int32) [(.int (0 : Int32))] (.int (0 : Int32)) := (Arv.new A21 (by decide)).pad (pad_rep [] (.int (0 : Int32)) 1)
      obtain ⟨cl23, Ar23, q23, S23, M23, H23, G23⟩ := id V21
      have hin23 : ¬ ((0 : Int32) < 0 ∨ cl23.slots.size ≤ ((0 : Int32)).toNatClampNeg) := inb_of S23 ⟨by decide, by decide⟩
      obtain ⟨T24, h24, X24, e24, W24, st24⟩ := stC X21 hx hZ e21 Ar23 (j := (0 : Int32)) hin23 (g := (mkF m 64 #[.val (.int sx), .val (.int ((ushr sx (24 : Int32)) &&& (3 : Int32))), .val (.int (i2c (sx &&& (255 : Int32)))), .val (.int (i2c ((ushr sx (8 : Int32)) &&& (255 : Int32)))), .val (.int (i2c ((ushr sx (16 : Int32)) &&& (255 : Int32)))), .val (.ref b21)] [(.int (i2c (sx &&& (255 : Int32)))), (.int (0 : Int32)), (.ref b21)])) rfl rfl (Jvm.hb hby d_method_2_64)
      have z25 : h21.size ≤ h24.size := Nat.le_of_eq W24.size.symm
      have Cp25 : CHr Z ELs s.vm h21 s.vm h24 := CHr.wr W24 (Safe.arv hZ.alike V21 (by decide)) CR.1
      have hk := Nat.le_trans hk z25
      have CR := CR.trans Cp25
      have V24 : Arv Z h24 b21 k21 .char (1 : Int32) [(.int (i2c (sx &&& (255 : Int32))))] (.int (0 : Int32)) := by have q : Arv Z h24 b21 k21 .char (1 : Int32) [(.int (nar .char (i2c (sx &&& (255 : Int32)))))] (.int (0 : Int32)) := Arv.set Ar23 q23 S23 M23 H23 G23 (fits_nar_char _) W24 0 rfl (Nat.le_of_ble_eq_true rfl); rw [show nar .char (i2c (sx &&& (255 : Int32))) = (i2c (sx &&& (255 : Int32))) from own_nari2c _] at q; exact q
      have N24 := Fr.snoc X24 N0 (show n0 ≤ b21 by omega)
      obtain ⟨T26, h26, X26, e26, E26, A26, D26, -, st26⟩ := newO X24 hx hZ hown (hw _ (List.mem_of_getElem? (i := 17) rfl)) (hw _ (List.mem_of_getElem? (i := 18) rfl)) (hw _ (List.mem_of_getElem? (i := 19) rfl)) e24 (g := (mkF m 65 #[.val (.int sx), .val (.int ((ushr sx (24 : Int32)) &&& (3 : Int32))), .val (.int (i2c (sx &&& (255 : Int32)))), .val (.int (i2c ((ushr sx (8 : Int32)) &&& (255 : Int32)))), .val (.int (i2c ((ushr sx (16 : Int32)) &&& (255 : Int32)))), .val (.ref b21)] [])) rfl (Jvm.hb hby d_method_2_65) (by decide) (by decide)
      obtain ⟨b26, g26⟩ : ∃ z, z = h24.size := ⟨_, rfl⟩
      rw [← g26] at A26 D26 st26
      have z27 : h24.size ≤ h26.size := E26.1
      have Sf28 : Safe Z ELs s.vm h26 b26 := Safe.ext E26 CR.1 (Safe.new (by omega))
      have Cp27 : CHr Z ELs s.vm h24 s.vm h26 := CHr.ext E26 CR.1
      have hk := Nat.le_trans hk z27
      have CR := CR.trans Cp27
      have l26 : b26 < h26.size := A26.lt
      have F29 : Fld Z h26 b26 "java/lang/String" "coder" "B" (.int (0 : Int32)) := D26 (Or.inr (hw _ (List.mem_of_getElem? (i := 43) rfl))) (ty := .byte) (by decide)
      have F30 : Fld Z h26 b26 "java/lang/String" "value" "[B" .null := D26 (Or.inr (hw _ (List.mem_of_getElem? (i := 45) rfl))) (ty := (.array .byte)) (by decide)
      have O31 : Old Z n0 h26 := (((OX.ext E21).wr W24 (show n0 ≤ b21 by omega)).ext E26)
      have f32 : Arv Z h26 b21 k21 .char (1 : Int32) [(.int (i2c (sx &&& (255 : Int32))))] (.int (0 : Int32)) := (V24.ext E26)
      have Zc33 : n0 ≤ h26.size := by omega
      have s35 : ∀ t_, Steps p.tables e below (T26.setTop (mkF m 71 #[.val (.int sx), .val (.int ((ushr sx (24 : Int32)) &&& (3 : Int32))), .val (.int (i2c (sx &&& (255 : Int32)))), .val (.int (i2c ((ushr sx (8 : Int32)) &&& (255 : Int32)))), .val (.int (i2c ((ushr sx (16 : Int32)) &&& (255 : Int32)))), .val (.ref b21)] [(.ref b21), (.ref b26), (.ref b26)])) t_ → Steps p.tables e below (s₁.setTop (entryFrame m #[(.int sx)] 6)) t_ := fun t_ k_ => s19 t_ (by
        show Steps p.tables e below (s₁.setTop (mkF m 52 #[.val (.int sx), .val (.int ((ushr sx (24 : Int32)) &&& (3 : Int32))), .val (.int (i2c (sx &&& (255 : Int32)))), .val (.int (i2c ((ushr sx (8 : Int32)) &&& (255 : Int32)))), .val (.int (i2c ((ushr sx (16 : Int32)) &&& (255 : Int32)))), .unset] [(.int (1 : Int32)), (.int ((ushr sx (24 : Int32)) &&& (3 : Int32)))])) t_
        refine XS.icmpNo X0.here hx rfl (Jvm.hb hby d_method_2_52) rfl (teq h20).2 ?_
        show Steps p.tables e below (s₁.setTop (mkF m 55 #[.val (.int sx), .val (.int ((ushr sx (24 : Int32)) &&& (3 : Int32))), .val (.int (i2c (sx &&& (255 : Int32)))), .val (.int (i2c ((ushr sx (8 : Int32)) &&& (255 : Int32)))), .val (.int (i2c ((ushr sx (16 : Int32)) &&& (255 : Int32)))), .unset] [])) _
        refine XS.iconst X0.here hx rfl (Jvm.hb hby d_method_2_55) ?_
        refine st21 _ ?_
        show Steps p.tables e below (T21.setTop (mkF m 58 #[.val (.int sx), .val (.int ((ushr sx (24 : Int32)) &&& (3 : Int32))), .val (.int (i2c (sx &&& (255 : Int32)))), .val (.int (i2c ((ushr sx (8 : Int32)) &&& (255 : Int32)))), .val (.int (i2c ((ushr sx (16 : Int32)) &&& (255 : Int32)))), .unset] [(.ref b21)])) _
        refine XS.astore X21.here hx rfl (Jvm.hb hby d_method_2_58) rfl rfl (l' := #[.val (.int sx), .val (.int ((ushr sx (24 : Int32)) &&& (3 : Int32))), .val (.int (i2c (sx &&& (255 : Int32)))), .val (.int (i2c ((ushr sx (8 : Int32)) &&& (255 : Int32)))), .val (.int (i2c ((ushr sx (16 : Int32)) &&& (255 : Int32)))), .val (.ref b21)]) rfl ?_
        refine XS.aload X21.here hx rfl (Jvm.hb hby d_method_2_60) rfl rfl ?_
        refine XS.iconst X21.here hx rfl (Jvm.hb hby d_method_2_62) ?_
        refine XS.iloadN X21.here hx rfl (Jvm.hb hby d_method_2_63) rfl ?_
        refine st24 _ ?_
        show Steps p.tables e below (T24.setTop (mkF m 65 #[.val (.int sx), .val (.int ((ushr sx (24 : Int32)) &&& (3 : Int32))), .val (.int (i2c (sx &&& (255 : Int32)))), .val (.int (i2c ((ushr sx (8 : Int32)) &&& (255 : Int32)))), .val (.int (i2c ((ushr sx (16 : Int32)) &&& (255 : Int32)))), .val (.ref b21)] [])) _
        refine st26 _ ?_
        show Steps p.tables e below (T26.setTop (mkF m 68 #[.val (.int sx), .val (.int ((ushr sx (24 : Int32)) &&& (3 : Int32))), .val (.int (i2c (sx &&& (255 : Int32)))), .val (.int (i2c ((ushr sx (8 : Int32)) &&& (255 : Int32)))), .val (.int (i2c ((ushr sx (16 : Int32)) &&& (255 : Int32)))), .val (.ref b21)] [(.ref b26)])) _
        refine XS.dup X26.here hx rfl (Jvm.hb hby d_method_2_68) rfl rfl ?_
        refine XS.aload X26.here hx rfl (Jvm.hb hby d_method_2_69) rfl rfl ?_
        show Steps p.tables e below (T26.setTop (mkF m 71 #[.val (.int sx), .val (.int ((ushr sx (24 : Int32)) &&& (3 : Int32))), .val (.int (i2c (sx &&& (255 : Int32)))), .val (.int (i2c ((ushr sx (8 : Int32)) &&& (255 : Int32)))), .val (.int (i2c ((ushr sx (16 : Int32)) &&& (255 : Int32)))), .val (.ref b21)] [(.ref b21), (.ref b26), (.ref b26)])) t_
        exact k_)
      obtain ⟨_, _, ⟨T34, L34, k34, n34⟩, -, Xr34, hSr34, hg34, ⟨Lc34, hQ34, l34, y34, z34, Cp34⟩, st34⟩ := X26.specialBackS hx (y := (⟨"java/lang/String", "<init>", "([C)V"⟩ : MethodName)) rfl hown (mvT hZ (hw _ (List.mem_of_getElem? (i := 20) rfl))) (mvT hZ (hw _ (List.mem_of_getElem? (i := 21) rfl))) (mvT hZ (hw _ (List.mem_of_getElem? (i := 22) rfl))) (by decide) (backOfSH (s := s) (vm0 := s.vm) (W := 1) (rmIni1 l Z a0 hw [] b26 b21 cst [(i2c (sx &&& (255 : Int32)))] k21 1 h26 n0 Zc33 I1 O31 (hcst : ¬ (cst = (0 : Int32))) A26 F30 F29 f32 rfl (by first | assumption | omega | rfl | decide : 1 ≤ 3) (own_latS (own_b255 _).2 own_lat0) (by first | assumption | omega | rfl | decide : n0 ≤ b26) (by first | assumption | omega | rfl | decide : @Ne Nat b26 b21)) hZ (hw _ (List.mem_of_getElem? (i := 22) rfl)) (hw _ (List.mem_of_getElem? (i := 19) rfl)) (by decide) (by decide) hEL CR.1) (g := (mkF m 71 #[.val (.int sx), .val (.int ((ushr sx (24 : Int32)) &&& (3 : Int32))), .val (.int (i2c (sx &&& (255 : Int32)))), .val (.int (i2c ((ushr sx (8 : Int32)) &&& (255 : Int32)))), .val (.int (i2c ((ushr sx (16 : Int32)) &&& (255 : Int32)))), .val (.ref b21)] [(.ref b21), (.ref b26), (.ref b26)])) rfl (by rw [hml]; rfl) (Steps.refl _) (a := b26) (argsL := [(.ref b21)]) (rest := [(.ref b26)]) (lenOf pd___C_V rfl) rfl (by show 2 * 0 + _ ≤ _; exact Nat.le_of_eq rfl) (Jvm.hb hby d_method_2_71) (fun _ _ => ⟨rfl, e26, (by decide : 2 + 4 ≤ _), (by decide : 5 + 8 ≤ _)⟩)
      dsimp only [Pt.U, Pt.locs, Pt.cells, Pt.slots] at Xr34 hSr34 hg34 l34 y34 z34 st34 hQ34 Cp34
      subst l34 y34 z34
      obtain ⟨X34, hS, hZ, hown⟩ := rebS (own := "com/example/coyote_hill/coyotehill/ItemStatusEqualsPinLaw") hS (by first | exact Nat.le_refl _ | (rw [e26]; exact hk)) Xr34 hSr34 hg34 hZ hown
      obtain ⟨b_34, kb_34, rfl, N34q, K34, Fq34_0, Fq34_1, Fq34_2, Fq34_3⟩ := hQ34
      have N34 := Fr.app N24 N34q
      obtain ⟨h34, e34⟩ : ∃ z, T34.heap = z := ⟨_, rfl⟩
      rw [e34] at K34 Fq34_0 Fq34_1 Fq34_2 Fq34_3 Cp34
      have hk : T34.heap.size ≤ h34.size := Nat.le_of_eq (congrArg Array.size e34)
      have z36 : h26.size ≤ h34.size := K34.1
      have CR := CR.trans Cp34
      have lt34_0 : @LT.lt Nat _ b26 h34.size := Fq34_0.lt
      have lt34_3 : @LT.lt Nat _ b_34 h34.size := Fq34_3.lt
      have s37 : ∀ t_, Steps p.tables e below (T34.setTop (mkF m 74 #[.val (.int sx), .val (.int ((ushr sx (24 : Int32)) &&& (3 : Int32))), .val (.int (i2c (sx &&& (255 : Int32)))), .val (.int (i2c ((ushr sx (8 : Int32)) &&& (255 : Int32)))), .val (.int (i2c ((ushr sx (16 : Int32)) &&& (255 : Int32)))), .val (.ref b21)] [(.ref b26)])) t_ → Steps p.tables e below (s₁.setTop (entryFrame m #[(.int sx)] 6)) t_ := fun t_ k_ => s35 t_ (by
        show Steps p.tables e below (T26.setTop (mkF m 71 #[.val (.int sx), .val (.int ((ushr sx (24 : Int32)) &&& (3 : Int32))), .val (.int (i2c (sx &&& (255 : Int32)))), .val (.int (i2c ((ushr sx (8 : Int32)) &&& (255 : Int32)))), .val (.int (i2c ((ushr sx (16 : Int32)) &&& (255 : Int32)))), .val (.ref b21)] [(.ref b21), (.ref b26), (.ref b26)])) t_
        refine st34.trans ?_
        show Steps p.tables e below (T34.setTop (mkF m 74 #[.val (.int sx), .val (.int ((ushr sx (24 : Int32)) &&& (3 : Int32))), .val (.int (i2c (sx &&& (255 : Int32)))), .val (.int (i2c ((ushr sx (8 : Int32)) &&& (255 : Int32)))), .val (.int (i2c ((ushr sx (16 : Int32)) &&& (255 : Int32)))), .val (.ref b21)] [(.ref b26)])) _
        show Steps p.tables e below (T34.setTop (mkF m 74 #[.val (.int sx), .val (.int ((ushr sx (24 : Int32)) &&& (3 : Int32))), .val (.int (i2c (sx &&& (255 : Int32)))), .val (.int (i2c ((ushr sx (8 : Int32)) &&& (255 : Int32)))), .val (.int (i2c ((ushr sx (16 : Int32)) &&& (255 : Int32)))), .val (.ref b21)] [(.ref b26)])) t_
        exact k_)
      obtain ⟨fs, hr, hrun, hended, hREW⟩ := X34.leaveW hS (by first | exact Nat.le_refl _ | (rw [e34]; exact hk)) (v := some (.ref b26)) (fun h => by rw [Bd.returns] at h; cases h)
      refine ⟨_, _, s37 _ ?_, hrun, hended, _, _, rfl, ?_, (by show CHr Z ELs s.vm s.heap T34.vm T34.heap; rw [hh, e34]; exact CR.trans (CHv.at X34 hZ hEL CR.1)), hREW.1, hREW.2.1, hREW.2.2.1, hREW.2.2.2.mono (by decide) (by decide)⟩
      · show Steps p.tables e below (T34.setTop (mkF m 74 #[.val (.int sx), .val (.int ((ushr sx (24 : Int32)) &&& (3 : Int32))), .val (.int (i2c (sx &&& (255 : Int32)))), .val (.int (i2c ((ushr sx (8 : Int32)) &&& (255 : Int32)))), .val (.int (i2c ((ushr sx (16 : Int32)) &&& (255 : Int32)))), .val (.ref b21)] [(.ref b26)])) _
        jvm_step X34.here [X34.here.top, hx, (Jvm.hb hby d_method_2_74), X34.method', Bd.returns, Value.isRef, FieldType.isReference]
        first | (intro acts; rw [hr _ acts rfl rfl rfl]) | rw [hr _ _ rfl rfl rfl]
        exact Steps.refl _
      · show Q_rmStr Z _ _ h0 n0 _ T34.heap _
        rw [e34]
        exact ⟨b26, b_34, kb_34, rfl, N34, (((((Keep.refl h0 []).ext E21).wr W24 (Or.inr (show h0.size ≤ b21 by omega))).ext E26).trans K34 (allS (Or.inr (show h0.size ≤ b26 by omega)) all0)), Fq34_0, Fq34_1, (by rw [own_str1 sx h20]; exact Fq34_2), (by rw [own_str1 sx h20]; exact Fq34_3), by omega⟩
    · have s38 : ∀ t_, Steps p.tables e below (s₁.setTop (mkF m 77 #[.val (.int sx), .val (.int ((ushr sx (24 : Int32)) &&& (3 : Int32))), .val (.int (i2c (sx &&& (255 : Int32)))), .val (.int (i2c ((ushr sx (8 : Int32)) &&& (255 : Int32)))), .val (.int (i2c ((ushr sx (16 : Int32)) &&& (255 : Int32)))), .unset] [(.int (2 : Int32)), (.int ((ushr sx (24 : Int32)) &&& (3 : Int32)))])) t_ → Steps p.tables e below (s₁.setTop (entryFrame m #[(.int sx)] 6)) t_ := fun t_ k_ => s19 t_ (by
        show Steps p.tables e below (s₁.setTop (mkF m 52 #[.val (.int sx), .val (.int ((ushr sx (24 : Int32)) &&& (3 : Int32))), .val (.int (i2c (sx &&& (255 : Int32)))), .val (.int (i2c ((ushr sx (8 : Int32)) &&& (255 : Int32)))), .val (.int (i2c ((ushr sx (16 : Int32)) &&& (255 : Int32)))), .unset] [(.int (1 : Int32)), (.int ((ushr sx (24 : Int32)) &&& (3 : Int32)))])) t_
        refine XS.icmpYes X0.here hx rfl (pc0 := 52) (pc' := 75) rfl (Jvm.hb hby d_method_2_52) rfl (feq h20).2 (by decide) (by decide) ?_
        show Steps p.tables e below (s₁.setTop (mkF m 75 #[.val (.int sx), .val (.int ((ushr sx (24 : Int32)) &&& (3 : Int32))), .val (.int (i2c (sx &&& (255 : Int32)))), .val (.int (i2c ((ushr sx (8 : Int32)) &&& (255 : Int32)))), .val (.int (i2c ((ushr sx (16 : Int32)) &&& (255 : Int32)))), .unset] [])) _
        refine XS.iloadN X0.here hx rfl (Jvm.hb hby d_method_2_75) rfl ?_
        refine XS.iconst X0.here hx rfl (Jvm.hb hby d_method_2_76) ?_
        show Steps p.tables e below (s₁.setTop (mkF m 77 #[.val (.int sx), .val (.int ((ushr sx (24 : Int32)) &&& (3 : Int32))), .val (.int (i2c (sx &&& (255 : Int32)))), .val (.int (i2c ((ushr sx (8 : Int32)) &&& (255 : Int32)))), .val (.int (i2c ((ushr sx (16 : Int32)) &&& (255 : Int32)))), .unset] [(.int (2 : Int32)), (.int ((ushr sx (24 : Int32)) &&& (3 : Int32)))])) t_
        exact k_)
      by_cases h39 : ((ushr sx (24 : Int32)) &&& (3 : Int32)) = (2 : Int32)
      · obtain ⟨T40, h40, k40, X40, e40, E40, A40, st40⟩ := newP X0 hx hZ (hw _ (List.mem_of_getElem? (i := 16) rfl)) e0 (g := (mkF m 81 #[.val (.int sx), .val (.int ((ushr sx (24 : Int32)) &&& (3 : Int32))), .val (.int (i2c (sx &&& (255 : Int32)))), .val (.int (i2c ((ushr sx (8 : Int32)) &&& (255 : Int32)))), .val (.int (i2c ((ushr sx (16 : Int32)) &&& (255 : Int32)))), .unset] [(.int (2 : Int32))])) rfl (Jvm.hb hby d_method_2_81) rfl (by decide) (cap := 2) (by decide) (by decide) (by decide) (by decide)
        obtain ⟨b40, g40⟩ : ∃ z, z = h0.size := ⟨_, rfl⟩
        rw [← g40] at A40 st40
        have z41 : h0.size ≤ h40.size := E40.1
        have Cp41 : CHr Z ELs s.vm h0 s.vm h40 := CHr.ext E40 CR.1
        have hk := Nat.le_trans hk z41
        have CR := CR.trans Cp41
        have l40 : b40 < h40.size := A40.lt
        have V40 : Arv Z h40 b40 k40 .char (2 : Int32) [(.int (0 : Int32)), (.int (0 : Int32))] (.int (0 : Int32)) := (Arv.new A40 (by decide)).pad (pad_rep [] (.int (0 : Int32)) 2)
        obtain ⟨cl42, Ar42, q42, S42, M42, H42, G42⟩ := id V40
        have hin42 : ¬ ((0 : Int32) < 0 ∨ cl42.slots.size ≤ ((0 : Int32)).toNatClampNeg) := inb_of S42 ⟨by decide, by decide⟩
        obtain ⟨T43, h43, X43, e43, W43, st43⟩ := stC X40 hx hZ e40 Ar42 (j := (0 : Int32)) hin42 (g := (mkF m 89 #[.val (.int sx), .val (.int ((ushr sx (24 : Int32)) &&& (3 : Int32))), .val (.int (i2c (sx &&& (255 : Int32)))), .val (.int (i2c ((ushr sx (8 : Int32)) &&& (255 : Int32)))), .val (.int (i2c ((ushr sx (16 : Int32)) &&& (255 : Int32)))), .val (.ref b40)] [(.int (i2c (sx &&& (255 : Int32)))), (.int (0 : Int32)), (.ref b40)])) rfl rfl (Jvm.hb hby d_method_2_89)
        have z44 : h40.size ≤ h43.size := Nat.le_of_eq W43.size.symm
        have Cp44 : CHr Z ELs s.vm h40 s.vm h43 := CHr.wr W43 (Safe.arv hZ.alike V40 (by decide)) CR.1
        have hk := Nat.le_trans hk z44
        have CR := CR.trans Cp44
        have V43 : Arv Z h43 b40 k40 .char (2 : Int32) [(.int (i2c (sx &&& (255 : Int32)))), (.int (0 : Int32))] (.int (0 : Int32)) := by have q : Arv Z h43 b40 k40 .char (2 : Int32) [(.int (nar .char (i2c (sx &&& (255 : Int32))))), (.int (0 : Int32))] (.int (0 : Int32)) := Arv.set Ar42 q42 S42 M42 H42 G42 (fits_nar_char _) W43 0 rfl (Nat.le_of_ble_eq_true rfl); rw [show nar .char (i2c (sx &&& (255 : Int32))) = (i2c (sx &&& (255 : Int32))) from own_nari2c _] at q; exact q
        have N43 := Fr.snoc X43 N0 (show n0 ≤ b40 by omega)
        obtain ⟨cl45, Ar45, q45, S45, M45, H45, G45⟩ := id V43
        have hin45 : ¬ ((1 : Int32) < 0 ∨ cl45.slots.size ≤ ((1 : Int32)).toNatClampNeg) := inb_of S45 ⟨by decide, by decide⟩
        obtain ⟨T46, h46, X46, e46, W46, st46⟩ := stC X43 hx hZ e43 Ar45 (j := (1 : Int32)) hin45 (g := (mkF m 94 #[.val (.int sx), .val (.int ((ushr sx (24 : Int32)) &&& (3 : Int32))), .val (.int (i2c (sx &&& (255 : Int32)))), .val (.int (i2c ((ushr sx (8 : Int32)) &&& (255 : Int32)))), .val (.int (i2c ((ushr sx (16 : Int32)) &&& (255 : Int32)))), .val (.ref b40)] [(.int (i2c ((ushr sx (8 : Int32)) &&& (255 : Int32)))), (.int (1 : Int32)), (.ref b40)])) rfl rfl (Jvm.hb hby d_method_2_94)
        have z47 : h43.size ≤ h46.size := Nat.le_of_eq W46.size.symm
        have Cp47 : CHr Z ELs s.vm h43 s.vm h46 := CHr.wr W46 (Safe.arv hZ.alike V43 (by decide)) CR.1
        have hk := Nat.le_trans hk z47
        have CR := CR.trans Cp47
        have V46 : Arv Z h46 b40 k40 .char (2 : Int32) [(.int (i2c (sx &&& (255 : Int32)))), (.int (i2c ((ushr sx (8 : Int32)) &&& (255 : Int32))))] (.int (0 : Int32)) := by have q : Arv Z h46 b40 k40 .char (2 : Int32) [(.int (i2c (sx &&& (255 : Int32)))), (.int (nar .char (i2c ((ushr sx (8 : Int32)) &&& (255 : Int32)))))] (.int (0 : Int32)) := Arv.set Ar45 q45 S45 M45 H45 G45 (fits_nar_char _) W46 1 rfl (Nat.le_of_ble_eq_true rfl); rw [show nar .char (i2c ((ushr sx (8 : Int32)) &&& (255 : Int32))) = (i2c ((ushr sx (8 : Int32)) &&& (255 : Int32))) from own_nari2c _] at q; exact q
        have N46 := Fr.snoc X46 N43 (show n0 ≤ b40 by omega)
        obtain ⟨T48, h48, X48, e48, E48, A48, D48, -, st48⟩ := newO X46 hx hZ hown (hw _ (List.mem_of_getElem? (i := 17) rfl)) (hw _ (List.mem_of_getElem? (i := 18) rfl)) (hw _ (List.mem_of_getElem? (i := 19) rfl)) e46 (g := (mkF m 95 #[.val (.int sx), .val (.int ((ushr sx (24 : Int32)) &&& (3 : Int32))), .val (.int (i2c (sx &&& (255 : Int32)))), .val (.int (i2c ((ushr sx (8 : Int32)) &&& (255 : Int32)))), .val (.int (i2c ((ushr sx (16 : Int32)) &&& (255 : Int32)))), .val (.ref b40)] [])) rfl (Jvm.hb hby d_method_2_95) (by decide) (by decide)
        obtain ⟨b48, g48⟩ : ∃ z, z = h46.size := ⟨_, rfl⟩
        rw [← g48] at A48 D48 st48
        have z49 : h46.size ≤ h48.size := E48.1
        have Sf50 : Safe Z ELs s.vm h48 b48 := Safe.ext E48 CR.1 (Safe.new (by omega))
        have Cp49 : CHr Z ELs s.vm h46 s.vm h48 := CHr.ext E48 CR.1
        have hk := Nat.le_trans hk z49
        have CR := CR.trans Cp49
        have l48 : b48 < h48.size := A48.lt
        have F51 : Fld Z h48 b48 "java/lang/String" "coder" "B" (.int (0 : Int32)) := D48 (Or.inr (hw _ (List.mem_of_getElem? (i := 43) rfl))) (ty := .byte) (by decide)
        have F52 : Fld Z h48 b48 "java/lang/String" "value" "[B" .null := D48 (Or.inr (hw _ (List.mem_of_getElem? (i := 45) rfl))) (ty := (.array .byte)) (by decide)
        have O53 : Old Z n0 h48 := ((((OX.ext E40).wr W43 (show n0 ≤ b40 by omega)).wr W46 (show n0 ≤ b40 by omega)).ext E48)
        have f54 : Arv Z h48 b40 k40 .char (2 : Int32) [(.int (i2c (sx &&& (255 : Int32)))), (.int (i2c ((ushr sx (8 : Int32)) &&& (255 : Int32))))] (.int (0 : Int32)) := (V46.ext E48)
        have Zc55 : n0 ≤ h48.size := by omega
        have s57 : ∀ t_, Steps p.tables e below (T48.setTop (mkF m 101 #[.val (.int sx), .val (.int ((ushr sx (24 : Int32)) &&& (3 : Int32))), .val (.int (i2c (sx &&& (255 : Int32)))), .val (.int (i2c ((ushr sx (8 : Int32)) &&& (255 : Int32)))), .val (.int (i2c ((ushr sx (16 : Int32)) &&& (255 : Int32)))), .val (.ref b40)] [(.ref b40), (.ref b48), (.ref b48)])) t_ → Steps p.tables e below (s₁.setTop (entryFrame m #[(.int sx)] 6)) t_ := fun t_ k_ => s38 t_ (by
          show Steps p.tables e below (s₁.setTop (mkF m 77 #[.val (.int sx), .val (.int ((ushr sx (24 : Int32)) &&& (3 : Int32))), .val (.int (i2c (sx &&& (255 : Int32)))), .val (.int (i2c ((ushr sx (8 : Int32)) &&& (255 : Int32)))), .val (.int (i2c ((ushr sx (16 : Int32)) &&& (255 : Int32)))), .unset] [(.int (2 : Int32)), (.int ((ushr sx (24 : Int32)) &&& (3 : Int32)))])) t_
          refine XS.icmpNo X0.here hx rfl (Jvm.hb hby d_method_2_77) rfl (teq h39).2 ?_
          show Steps p.tables e below (s₁.setTop (mkF m 80 #[.val (.int sx), .val (.int ((ushr sx (24 : Int32)) &&& (3 : Int32))), .val (.int (i2c (sx &&& (255 : Int32)))), .val (.int (i2c ((ushr sx (8 : Int32)) &&& (255 : Int32)))), .val (.int (i2c ((ushr sx (16 : Int32)) &&& (255 : Int32)))), .unset] [])) _
          refine XS.iconst X0.here hx rfl (Jvm.hb hby d_method_2_80) ?_
          refine st40 _ ?_
          show Steps p.tables e below (T40.setTop (mkF m 83 #[.val (.int sx), .val (.int ((ushr sx (24 : Int32)) &&& (3 : Int32))), .val (.int (i2c (sx &&& (255 : Int32)))), .val (.int (i2c ((ushr sx (8 : Int32)) &&& (255 : Int32)))), .val (.int (i2c ((ushr sx (16 : Int32)) &&& (255 : Int32)))), .unset] [(.ref b40)])) _
          refine XS.astore X40.here hx rfl (Jvm.hb hby d_method_2_83) rfl rfl (l' := #[.val (.int sx), .val (.int ((ushr sx (24 : Int32)) &&& (3 : Int32))), .val (.int (i2c (sx &&& (255 : Int32)))), .val (.int (i2c ((ushr sx (8 : Int32)) &&& (255 : Int32)))), .val (.int (i2c ((ushr sx (16 : Int32)) &&& (255 : Int32)))), .val (.ref b40)]) rfl ?_
          refine XS.aload X40.here hx rfl (Jvm.hb hby d_method_2_85) rfl rfl ?_
          refine XS.iconst X40.here hx rfl (Jvm.hb hby d_method_2_87) ?_
          refine XS.iloadN X40.here hx rfl (Jvm.hb hby d_method_2_88) rfl ?_
          refine st43 _ ?_
          show Steps p.tables e below (T43.setTop (mkF m 90 #[.val (.int sx), .val (.int ((ushr sx (24 : Int32)) &&& (3 : Int32))), .val (.int (i2c (sx &&& (255 : Int32)))), .val (.int (i2c ((ushr sx (8 : Int32)) &&& (255 : Int32)))), .val (.int (i2c ((ushr sx (16 : Int32)) &&& (255 : Int32)))), .val (.ref b40)] [])) _
          refine XS.aload X43.here hx rfl (Jvm.hb hby d_method_2_90) rfl rfl ?_
          refine XS.iconst X43.here hx rfl (Jvm.hb hby d_method_2_92) ?_
          refine XS.iloadN X43.here hx rfl (Jvm.hb hby d_method_2_93) rfl ?_
          refine st46 _ ?_
          show Steps p.tables e below (T46.setTop (mkF m 95 #[.val (.int sx), .val (.int ((ushr sx (24 : Int32)) &&& (3 : Int32))), .val (.int (i2c (sx &&& (255 : Int32)))), .val (.int (i2c ((ushr sx (8 : Int32)) &&& (255 : Int32)))), .val (.int (i2c ((ushr sx (16 : Int32)) &&& (255 : Int32)))), .val (.ref b40)] [])) _
          refine st48 _ ?_
          show Steps p.tables e below (T48.setTop (mkF m 98 #[.val (.int sx), .val (.int ((ushr sx (24 : Int32)) &&& (3 : Int32))), .val (.int (i2c (sx &&& (255 : Int32)))), .val (.int (i2c ((ushr sx (8 : Int32)) &&& (255 : Int32)))), .val (.int (i2c ((ushr sx (16 : Int32)) &&& (255 : Int32)))), .val (.ref b40)] [(.ref b48)])) _
          refine XS.dup X48.here hx rfl (Jvm.hb hby d_method_2_98) rfl rfl ?_
          refine XS.aload X48.here hx rfl (Jvm.hb hby d_method_2_99) rfl rfl ?_
          show Steps p.tables e below (T48.setTop (mkF m 101 #[.val (.int sx), .val (.int ((ushr sx (24 : Int32)) &&& (3 : Int32))), .val (.int (i2c (sx &&& (255 : Int32)))), .val (.int (i2c ((ushr sx (8 : Int32)) &&& (255 : Int32)))), .val (.int (i2c ((ushr sx (16 : Int32)) &&& (255 : Int32)))), .val (.ref b40)] [(.ref b40), (.ref b48), (.ref b48)])) t_
          exact k_)
        obtain ⟨_, _, ⟨T56, L56, k56, n56⟩, -, Xr56, hSr56, hg56, ⟨Lc56, hQ56, l56, y56, z56, Cp56⟩, st56⟩ := X48.specialBackS hx (y := (⟨"java/lang/String", "<init>", "([C)V"⟩ : MethodName)) rfl hown (mvT hZ (hw _ (List.mem_of_getElem? (i := 20) rfl))) (mvT hZ (hw _ (List.mem_of_getElem? (i := 21) rfl))) (mvT hZ (hw _ (List.mem_of_getElem? (i := 22) rfl))) (by decide) (backOfSH (s := s) (vm0 := s.vm) (W := 1) (rmIni1 l Z a0 hw [] b48 b40 cst [(i2c (sx &&& (255 : Int32))), (i2c ((ushr sx (8 : Int32)) &&& (255 : Int32)))] k40 2 h48 n0 Zc55 I1 O53 (hcst : ¬ (cst = (0 : Int32))) A48 F52 F51 f54 rfl (by first | assumption | omega | rfl | decide : 2 ≤ 3) (own_latS (own_b255 _).2 (own_latS (own_b255 _).2 own_lat0)) (by first | assumption | omega | rfl | decide : n0 ≤ b48) (by first | assumption | omega | rfl | decide : @Ne Nat b48 b40)) hZ (hw _ (List.mem_of_getElem? (i := 22) rfl)) (hw _ (List.mem_of_getElem? (i := 19) rfl)) (by decide) (by decide) hEL CR.1) (g := (mkF m 101 #[.val (.int sx), .val (.int ((ushr sx (24 : Int32)) &&& (3 : Int32))), .val (.int (i2c (sx &&& (255 : Int32)))), .val (.int (i2c ((ushr sx (8 : Int32)) &&& (255 : Int32)))), .val (.int (i2c ((ushr sx (16 : Int32)) &&& (255 : Int32)))), .val (.ref b40)] [(.ref b40), (.ref b48), (.ref b48)])) rfl (by rw [hml]; rfl) (Steps.refl _) (a := b48) (argsL := [(.ref b40)]) (rest := [(.ref b48)]) (lenOf pd___C_V rfl) rfl (by show 2 * 0 + _ ≤ _; exact Nat.le_of_eq rfl) (Jvm.hb hby d_method_2_101) (fun _ _ => ⟨rfl, e48, (by decide : 2 + 4 ≤ _), (by decide : 6 + 8 ≤ _)⟩)
        dsimp only [Pt.U, Pt.locs, Pt.cells, Pt.slots] at Xr56 hSr56 hg56 l56 y56 z56 st56 hQ56 Cp56
        subst l56 y56 z56
        obtain ⟨X56, hS, hZ, hown⟩ := rebS (own := "com/example/coyote_hill/coyotehill/ItemStatusEqualsPinLaw") hS (by first | exact Nat.le_refl _ | (rw [e48]; exact hk)) Xr56 hSr56 hg56 hZ hown
        obtain ⟨b_56, kb_56, rfl, N56q, K56, Fq56_0, Fq56_1, Fq56_2, Fq56_3⟩ := hQ56
        have N56 := Fr.app N46 N56q
        obtain ⟨h56, e56⟩ : ∃ z, T56.heap = z := ⟨_, rfl⟩
        rw [e56] at K56 Fq56_0 Fq56_1 Fq56_2 Fq56_3 Cp56
        have hk : T56.heap.size ≤ h56.size := Nat.le_of_eq (congrArg Array.size e56)
        have z58 : h48.size ≤ h56.size := K56.1
        have CR := CR.trans Cp56
        have lt56_0 : @LT.lt Nat _ b48 h56.size := Fq56_0.lt
        have lt56_3 : @LT.lt Nat _ b_56 h56.size := Fq56_3.lt
        have s59 : ∀ t_, Steps p.tables e below (T56.setTop (mkF m 104 #[.val (.int sx), .val (.int ((ushr sx (24 : Int32)) &&& (3 : Int32))), .val (.int (i2c (sx &&& (255 : Int32)))), .val (.int (i2c ((ushr sx (8 : Int32)) &&& (255 : Int32)))), .val (.int (i2c ((ushr sx (16 : Int32)) &&& (255 : Int32)))), .val (.ref b40)] [(.ref b48)])) t_ → Steps p.tables e below (s₁.setTop (entryFrame m #[(.int sx)] 6)) t_ := fun t_ k_ => s57 t_ (by
          show Steps p.tables e below (T48.setTop (mkF m 101 #[.val (.int sx), .val (.int ((ushr sx (24 : Int32)) &&& (3 : Int32))), .val (.int (i2c (sx &&& (255 : Int32)))), .val (.int (i2c ((ushr sx (8 : Int32)) &&& (255 : Int32)))), .val (.int (i2c ((ushr sx (16 : Int32)) &&& (255 : Int32)))), .val (.ref b40)] [(.ref b40), (.ref b48), (.ref b48)])) t_
          refine st56.trans ?_
          show Steps p.tables e below (T56.setTop (mkF m 104 #[.val (.int sx), .val (.int ((ushr sx (24 : Int32)) &&& (3 : Int32))), .val (.int (i2c (sx &&& (255 : Int32)))), .val (.int (i2c ((ushr sx (8 : Int32)) &&& (255 : Int32)))), .val (.int (i2c ((ushr sx (16 : Int32)) &&& (255 : Int32)))), .val (.ref b40)] [(.ref b48)])) _
          show Steps p.tables e below (T56.setTop (mkF m 104 #[.val (.int sx), .val (.int ((ushr sx (24 : Int32)) &&& (3 : Int32))), .val (.int (i2c (sx &&& (255 : Int32)))), .val (.int (i2c ((ushr sx (8 : Int32)) &&& (255 : Int32)))), .val (.int (i2c ((ushr sx (16 : Int32)) &&& (255 : Int32)))), .val (.ref b40)] [(.ref b48)])) t_
          exact k_)
        obtain ⟨fs, hr, hrun, hended, hREW⟩ := X56.leaveW hS (by first | exact Nat.le_refl _ | (rw [e56]; exact hk)) (v := some (.ref b48)) (fun h => by rw [Bd.returns] at h; cases h)
        refine ⟨_, _, s59 _ ?_, hrun, hended, _, _, rfl, ?_, (by show CHr Z ELs s.vm s.heap T56.vm T56.heap; rw [hh, e56]; exact CR.trans (CHv.at X56 hZ hEL CR.1)), hREW.1, hREW.2.1, hREW.2.2.1, hREW.2.2.2.mono (by decide) (by decide)⟩
        · show Steps p.tables e below (T56.setTop (mkF m 104 #[.val (.int sx), .val (.int ((ushr sx (24 : Int32)) &&& (3 : Int32))), .val (.int (i2c (sx &&& (255 : Int32)))), .val (.int (i2c ((ushr sx (8 : Int32)) &&& (255 : Int32)))), .val (.int (i2c ((ushr sx (16 : Int32)) &&& (255 : Int32)))), .val (.ref b40)] [(.ref b48)])) _
          jvm_step X56.here [X56.here.top, hx, (Jvm.hb hby d_method_2_104), X56.method', Bd.returns, Value.isRef, FieldType.isReference]
          first | (intro acts; rw [hr _ acts rfl rfl rfl]) | rw [hr _ _ rfl rfl rfl]
          exact Steps.refl _
        · show Q_rmStr Z _ _ h0 n0 _ T56.heap _
          rw [e56]
          exact ⟨b48, b_56, kb_56, rfl, N56, ((((((Keep.refl h0 []).ext E40).wr W43 (Or.inr (show h0.size ≤ b40 by omega))).wr W46 (Or.inr (show h0.size ≤ b40 by omega))).ext E48).trans K56 (allS (Or.inr (show h0.size ≤ b48 by omega)) all0)), Fq56_0, Fq56_1, (by rw [own_str2 sx h39]; exact Fq56_2), (by rw [own_str2 sx h39]; exact Fq56_3), by omega⟩
      · obtain ⟨T60, h60, k60, X60, e60, E60, A60, st60⟩ := newP X0 hx hZ (hw _ (List.mem_of_getElem? (i := 16) rfl)) e0 (g := (mkF m 106 #[.val (.int sx), .val (.int ((ushr sx (24 : Int32)) &&& (3 : Int32))), .val (.int (i2c (sx &&& (255 : Int32)))), .val (.int (i2c ((ushr sx (8 : Int32)) &&& (255 : Int32)))), .val (.int (i2c ((ushr sx (16 : Int32)) &&& (255 : Int32)))), .unset] [(.int (3 : Int32))])) rfl (Jvm.hb hby d_method_2_106) rfl (by decide) (cap := 3) (by decide) (by decide) (by decide) (by decide)
        obtain ⟨b60, g60⟩ : ∃ z, z = h0.size := ⟨_, rfl⟩
        rw [← g60] at A60 st60
        have z61 : h0.size ≤ h60.size := E60.1
        have Cp61 : CHr Z ELs s.vm h0 s.vm h60 := CHr.ext E60 CR.1
        have hk := Nat.le_trans hk z61
        have CR := CR.trans Cp61
        have l60 : b60 < h60.size := A60.lt
        have V60 : Arv Z h60 b60 k60 .char (3 : Int32) [(.int (0 : Int32)), (.int (0 : Int32)), (.int (0 : Int32))] (.int (0 : Int32)) := (Arv.new A60 (by decide)).pad (pad_rep [] (.int (0 : Int32)) 3)
        obtain ⟨cl62, Ar62, q62, S62, M62, H62, G62⟩ := id V60
        have hin62 : ¬ ((0 : Int32) < 0 ∨ cl62.slots.size ≤ ((0 : Int32)).toNatClampNeg) := inb_of S62 ⟨by decide, by decide⟩
        obtain ⟨T63, h63, X63, e63, W63, st63⟩ := stC X60 hx hZ e60 Ar62 (j := (0 : Int32)) hin62 (g := (mkF m 114 #[.val (.int sx), .val (.int ((ushr sx (24 : Int32)) &&& (3 : Int32))), .val (.int (i2c (sx &&& (255 : Int32)))), .val (.int (i2c ((ushr sx (8 : Int32)) &&& (255 : Int32)))), .val (.int (i2c ((ushr sx (16 : Int32)) &&& (255 : Int32)))), .val (.ref b60)] [(.int (i2c (sx &&& (255 : Int32)))), (.int (0 : Int32)), (.ref b60)])) rfl rfl (Jvm.hb hby d_method_2_114)
        have z64 : h60.size ≤ h63.size := Nat.le_of_eq W63.size.symm
        have Cp64 : CHr Z ELs s.vm h60 s.vm h63 := CHr.wr W63 (Safe.arv hZ.alike V60 (by decide)) CR.1
        have hk := Nat.le_trans hk z64
        have CR := CR.trans Cp64
        have V63 : Arv Z h63 b60 k60 .char (3 : Int32) [(.int (i2c (sx &&& (255 : Int32)))), (.int (0 : Int32)), (.int (0 : Int32))] (.int (0 : Int32)) := by have q : Arv Z h63 b60 k60 .char (3 : Int32) [(.int (nar .char (i2c (sx &&& (255 : Int32))))), (.int (0 : Int32)), (.int (0 : Int32))] (.int (0 : Int32)) := Arv.set Ar62 q62 S62 M62 H62 G62 (fits_nar_char _) W63 0 rfl (Nat.le_of_ble_eq_true rfl); rw [show nar .char (i2c (sx &&& (255 : Int32))) = (i2c (sx &&& (255 : Int32))) from own_nari2c _] at q; exact q
        have N63 := Fr.snoc X63 N0 (show n0 ≤ b60 by omega)
        obtain ⟨cl65, Ar65, q65, S65, M65, H65, G65⟩ := id V63
        have hin65 : ¬ ((1 : Int32) < 0 ∨ cl65.slots.size ≤ ((1 : Int32)).toNatClampNeg) := inb_of S65 ⟨by decide, by decide⟩
        obtain ⟨T66, h66, X66, e66, W66, st66⟩ := stC X63 hx hZ e63 Ar65 (j := (1 : Int32)) hin65 (g := (mkF m 119 #[.val (.int sx), .val (.int ((ushr sx (24 : Int32)) &&& (3 : Int32))), .val (.int (i2c (sx &&& (255 : Int32)))), .val (.int (i2c ((ushr sx (8 : Int32)) &&& (255 : Int32)))), .val (.int (i2c ((ushr sx (16 : Int32)) &&& (255 : Int32)))), .val (.ref b60)] [(.int (i2c ((ushr sx (8 : Int32)) &&& (255 : Int32)))), (.int (1 : Int32)), (.ref b60)])) rfl rfl (Jvm.hb hby d_method_2_119)
        have z67 : h63.size ≤ h66.size := Nat.le_of_eq W66.size.symm
        have Cp67 : CHr Z ELs s.vm h63 s.vm h66 := CHr.wr W66 (Safe.arv hZ.alike V63 (by decide)) CR.1
        have hk := Nat.le_trans hk z67
        have CR := CR.trans Cp67
        have V66 : Arv Z h66 b60 k60 .char (3 : Int32) [(.int (i2c (sx &&& (255 : Int32)))), (.int (i2c ((ushr sx (8 : Int32)) &&& (255 : Int32)))), (.int (0 : Int32))] (.int (0 : Int32)) := by have q : Arv Z h66 b60 k60 .char (3 : Int32) [(.int (i2c (sx &&& (255 : Int32)))), (.int (nar .char (i2c ((ushr sx (8 : Int32)) &&& (255 : Int32))))), (.int (0 : Int32))] (.int (0 : Int32)) := Arv.set Ar65 q65 S65 M65 H65 G65 (fits_nar_char _) W66 1 rfl (Nat.le_of_ble_eq_true rfl); rw [show nar .char (i2c ((ushr sx (8 : Int32)) &&& (255 : Int32))) = (i2c ((ushr sx (8 : Int32)) &&& (255 : Int32))) from own_nari2c _] at q; exact q
        have N66 := Fr.snoc X66 N63 (show n0 ≤ b60 by omega)
        obtain ⟨cl68, Ar68, q68, S68, M68, H68, G68⟩ := id V66
        have hin68 : ¬ ((2 : Int32) < 0 ∨ cl68.slots.size ≤ ((2 : Int32)).toNatClampNeg) := inb_of S68 ⟨by decide, by decide⟩
        obtain ⟨T69, h69, X69, e69, W69, st69⟩ := stC X66 hx hZ e66 Ar68 (j := (2 : Int32)) hin68 (g := (mkF m 125 #[.val (.int sx), .val (.int ((ushr sx (24 : Int32)) &&& (3 : Int32))), .val (.int (i2c (sx &&& (255 : Int32)))), .val (.int (i2c ((ushr sx (8 : Int32)) &&& (255 : Int32)))), .val (.int (i2c ((ushr sx (16 : Int32)) &&& (255 : Int32)))), .val (.ref b60)] [(.int (i2c ((ushr sx (16 : Int32)) &&& (255 : Int32)))), (.int (2 : Int32)), (.ref b60)])) rfl rfl (Jvm.hb hby d_method_2_125)
        have z70 : h66.size ≤ h69.size := Nat.le_of_eq W69.size.symm
        have Cp70 : CHr Z ELs s.vm h66 s.vm h69 := CHr.wr W69 (Safe.arv hZ.alike V66 (by decide)) CR.1
        have hk := Nat.le_trans hk z70
        have CR := CR.trans Cp70
        have V69 : Arv Z h69 b60 k60 .char (3 : Int32) [(.int (i2c (sx &&& (255 : Int32)))), (.int (i2c ((ushr sx (8 : Int32)) &&& (255 : Int32)))), (.int (i2c ((ushr sx (16 : Int32)) &&& (255 : Int32))))] (.int (0 : Int32)) := by have q : Arv Z h69 b60 k60 .char (3 : Int32) [(.int (i2c (sx &&& (255 : Int32)))), (.int (i2c ((ushr sx (8 : Int32)) &&& (255 : Int32)))), (.int (nar .char (i2c ((ushr sx (16 : Int32)) &&& (255 : Int32)))))] (.int (0 : Int32)) := Arv.set Ar68 q68 S68 M68 H68 G68 (fits_nar_char _) W69 2 rfl (Nat.le_of_ble_eq_true rfl); rw [show nar .char (i2c ((ushr sx (16 : Int32)) &&& (255 : Int32))) = (i2c ((ushr sx (16 : Int32)) &&& (255 : Int32))) from own_nari2c _] at q; exact q
        have N69 := Fr.snoc X69 N66 (show n0 ≤ b60 by omega)
        obtain ⟨T71, h71, X71, e71, E71, A71, D71, -, st71⟩ := newO X69 hx hZ hown (hw _ (List.mem_of_getElem? (i := 17) rfl)) (hw _ (List.mem_of_getElem? (i := 18) rfl)) (hw _ (List.mem_of_getElem? (i := 19) rfl)) e69 (g := (mkF m 126 #[.val (.int sx), .val (.int ((ushr sx (24 : Int32)) &&& (3 : Int32))), .val (.int (i2c (sx &&& (255 : Int32)))), .val (.int (i2c ((ushr sx (8 : Int32)) &&& (255 : Int32)))), .val (.int (i2c ((ushr sx (16 : Int32)) &&& (255 : Int32)))), .val (.ref b60)] [])) rfl (Jvm.hb hby d_method_2_126) (by decide) (by decide)
        obtain ⟨b71, g71⟩ : ∃ z, z = h69.size := ⟨_, rfl⟩
        rw [← g71] at A71 D71 st71
        have z72 : h69.size ≤ h71.size := E71.1
        have Sf73 : Safe Z ELs s.vm h71 b71 := Safe.ext E71 CR.1 (Safe.new (by omega))
        have Cp72 : CHr Z ELs s.vm h69 s.vm h71 := CHr.ext E71 CR.1
        have hk := Nat.le_trans hk z72
        have CR := CR.trans Cp72
        have l71 : b71 < h71.size := A71.lt
        have F74 : Fld Z h71 b71 "java/lang/String" "coder" "B" (.int (0 : Int32)) := D71 (Or.inr (hw _ (List.mem_of_getElem? (i := 43) rfl))) (ty := .byte) (by decide)
        have F75 : Fld Z h71 b71 "java/lang/String" "value" "[B" .null := D71 (Or.inr (hw _ (List.mem_of_getElem? (i := 45) rfl))) (ty := (.array .byte)) (by decide)
        have O76 : Old Z n0 h71 := (((((OX.ext E60).wr W63 (show n0 ≤ b60 by omega)).wr W66 (show n0 ≤ b60 by omega)).wr W69 (show n0 ≤ b60 by omega)).ext E71)
        have f77 : Arv Z h71 b60 k60 .char (3 : Int32) [(.int (i2c (sx &&& (255 : Int32)))), (.int (i2c ((ushr sx (8 : Int32)) &&& (255 : Int32)))), (.int (i2c ((ushr sx (16 : Int32)) &&& (255 : Int32))))] (.int (0 : Int32)) := (V69.ext E71)
        have Zc78 : n0 ≤ h71.size := by omega
        have s80 : ∀ t_, Steps p.tables e below (T71.setTop (mkF m 132 #[.val (.int sx), .val (.int ((ushr sx (24 : Int32)) &&& (3 : Int32))), .val (.int (i2c (sx &&& (255 : Int32)))), .val (.int (i2c ((ushr sx (8 : Int32)) &&& (255 : Int32)))), .val (.int (i2c ((ushr sx (16 : Int32)) &&& (255 : Int32)))), .val (.ref b60)] [(.ref b60), (.ref b71), (.ref b71)])) t_ → Steps p.tables e below (s₁.setTop (entryFrame m #[(.int sx)] 6)) t_ := fun t_ k_ => s38 t_ (by
          show Steps p.tables e below (s₁.setTop (mkF m 77 #[.val (.int sx), .val (.int ((ushr sx (24 : Int32)) &&& (3 : Int32))), .val (.int (i2c (sx &&& (255 : Int32)))), .val (.int (i2c ((ushr sx (8 : Int32)) &&& (255 : Int32)))), .val (.int (i2c ((ushr sx (16 : Int32)) &&& (255 : Int32)))), .unset] [(.int (2 : Int32)), (.int ((ushr sx (24 : Int32)) &&& (3 : Int32)))])) t_
          refine XS.icmpYes X0.here hx rfl (pc0 := 77) (pc' := 105) rfl (Jvm.hb hby d_method_2_77) rfl (feq h39).2 (by decide) (by decide) ?_
          show Steps p.tables e below (s₁.setTop (mkF m 105 #[.val (.int sx), .val (.int ((ushr sx (24 : Int32)) &&& (3 : Int32))), .val (.int (i2c (sx &&& (255 : Int32)))), .val (.int (i2c ((ushr sx (8 : Int32)) &&& (255 : Int32)))), .val (.int (i2c ((ushr sx (16 : Int32)) &&& (255 : Int32)))), .unset] [])) _
          refine XS.iconst X0.here hx rfl (Jvm.hb hby d_method_2_105) ?_
          refine st60 _ ?_
          show Steps p.tables e below (T60.setTop (mkF m 108 #[.val (.int sx), .val (.int ((ushr sx (24 : Int32)) &&& (3 : Int32))), .val (.int (i2c (sx &&& (255 : Int32)))), .val (.int (i2c ((ushr sx (8 : Int32)) &&& (255 : Int32)))), .val (.int (i2c ((ushr sx (16 : Int32)) &&& (255 : Int32)))), .unset] [(.ref b60)])) _
          refine XS.astore X60.here hx rfl (Jvm.hb hby d_method_2_108) rfl rfl (l' := #[.val (.int sx), .val (.int ((ushr sx (24 : Int32)) &&& (3 : Int32))), .val (.int (i2c (sx &&& (255 : Int32)))), .val (.int (i2c ((ushr sx (8 : Int32)) &&& (255 : Int32)))), .val (.int (i2c ((ushr sx (16 : Int32)) &&& (255 : Int32)))), .val (.ref b60)]) rfl ?_
          refine XS.aload X60.here hx rfl (Jvm.hb hby d_method_2_110) rfl rfl ?_
          refine XS.iconst X60.here hx rfl (Jvm.hb hby d_method_2_112) ?_
          refine XS.iloadN X60.here hx rfl (Jvm.hb hby d_method_2_113) rfl ?_
          refine st63 _ ?_
          show Steps p.tables e below (T63.setTop (mkF m 115 #[.val (.int sx), .val (.int ((ushr sx (24 : Int32)) &&& (3 : Int32))), .val (.int (i2c (sx &&& (255 : Int32)))), .val (.int (i2c ((ushr sx (8 : Int32)) &&& (255 : Int32)))), .val (.int (i2c ((ushr sx (16 : Int32)) &&& (255 : Int32)))), .val (.ref b60)] [])) _
          refine XS.aload X63.here hx rfl (Jvm.hb hby d_method_2_115) rfl rfl ?_
          refine XS.iconst X63.here hx rfl (Jvm.hb hby d_method_2_117) ?_
          refine XS.iloadN X63.here hx rfl (Jvm.hb hby d_method_2_118) rfl ?_
          refine st66 _ ?_
          show Steps p.tables e below (T66.setTop (mkF m 120 #[.val (.int sx), .val (.int ((ushr sx (24 : Int32)) &&& (3 : Int32))), .val (.int (i2c (sx &&& (255 : Int32)))), .val (.int (i2c ((ushr sx (8 : Int32)) &&& (255 : Int32)))), .val (.int (i2c ((ushr sx (16 : Int32)) &&& (255 : Int32)))), .val (.ref b60)] [])) _
          refine XS.aload X66.here hx rfl (Jvm.hb hby d_method_2_120) rfl rfl ?_
          refine XS.iconst X66.here hx rfl (Jvm.hb hby d_method_2_122) ?_
          refine XS.iload X66.here hx rfl (Jvm.hb hby d_method_2_123) rfl ?_
          refine st69 _ ?_
          show Steps p.tables e below (T69.setTop (mkF m 126 #[.val (.int sx), .val (.int ((ushr sx (24 : Int32)) &&& (3 : Int32))), .val (.int (i2c (sx &&& (255 : Int32)))), .val (.int (i2c ((ushr sx (8 : Int32)) &&& (255 : Int32)))), .val (.int (i2c ((ushr sx (16 : Int32)) &&& (255 : Int32)))), .val (.ref b60)] [])) _
          refine st71 _ ?_
          show Steps p.tables e below (T71.setTop (mkF m 129 #[.val (.int sx), .val (.int ((ushr sx (24 : Int32)) &&& (3 : Int32))), .val (.int (i2c (sx &&& (255 : Int32)))), .val (.int (i2c ((ushr sx (8 : Int32)) &&& (255 : Int32)))), .val (.int (i2c ((ushr sx (16 : Int32)) &&& (255 : Int32)))), .val (.ref b60)] [(.ref b71)])) _
          refine XS.dup X71.here hx rfl (Jvm.hb hby d_method_2_129) rfl rfl ?_
          refine XS.aload X71.here hx rfl (Jvm.hb hby d_method_2_130) rfl rfl ?_
          show Steps p.tables e below (T71.setTop (mkF m 132 #[.val (.int sx), .val (.int ((ushr sx (24 : Int32)) &&& (3 : Int32))), .val (.int (i2c (sx &&& (255 : Int32)))), .val (.int (i2c ((ushr sx (8 : Int32)) &&& (255 : Int32)))), .val (.int (i2c ((ushr sx (16 : Int32)) &&& (255 : Int32)))), .val (.ref b60)] [(.ref b60), (.ref b71), (.ref b71)])) t_
          exact k_)
        obtain ⟨_, _, ⟨T79, L79, k79, n79⟩, -, Xr79, hSr79, hg79, ⟨Lc79, hQ79, l79, y79, z79, Cp79⟩, st79⟩ := X71.specialBackS hx (y := (⟨"java/lang/String", "<init>", "([C)V"⟩ : MethodName)) rfl hown (mvT hZ (hw _ (List.mem_of_getElem? (i := 20) rfl))) (mvT hZ (hw _ (List.mem_of_getElem? (i := 21) rfl))) (mvT hZ (hw _ (List.mem_of_getElem? (i := 22) rfl))) (by decide) (backOfSH (s := s) (vm0 := s.vm) (W := 1) (rmIni1 l Z a0 hw [] b71 b60 cst [(i2c (sx &&& (255 : Int32))), (i2c ((ushr sx (8 : Int32)) &&& (255 : Int32))), (i2c ((ushr sx (16 : Int32)) &&& (255 : Int32)))] k60 3 h71 n0 Zc78 I1 O76 (hcst : ¬ (cst = (0 : Int32))) A71 F75 F74 f77 rfl (by first | assumption | omega | rfl | decide : 3 ≤ 3) (own_latS (own_b255 _).2 (own_latS (own_b255 _).2 (own_latS (own_b255 _).2 own_lat0))) (by first | assumption | omega | rfl | decide : n0 ≤ b71) (by first | assumption | omega | rfl | decide : @Ne Nat b71 b60)) hZ (hw _ (List.mem_of_getElem? (i := 22) rfl)) (hw _ (List.mem_of_getElem? (i := 19) rfl)) (by decide) (by decide) hEL CR.1) (g := (mkF m 132 #[.val (.int sx), .val (.int ((ushr sx (24 : Int32)) &&& (3 : Int32))), .val (.int (i2c (sx &&& (255 : Int32)))), .val (.int (i2c ((ushr sx (8 : Int32)) &&& (255 : Int32)))), .val (.int (i2c ((ushr sx (16 : Int32)) &&& (255 : Int32)))), .val (.ref b60)] [(.ref b60), (.ref b71), (.ref b71)])) rfl (by rw [hml]; rfl) (Steps.refl _) (a := b71) (argsL := [(.ref b60)]) (rest := [(.ref b71)]) (lenOf pd___C_V rfl) rfl (by show 2 * 0 + _ ≤ _; exact Nat.le_of_eq rfl) (Jvm.hb hby d_method_2_132) (fun _ _ => ⟨rfl, e71, (by decide : 2 + 4 ≤ _), (by decide : 7 + 8 ≤ _)⟩)
        dsimp only [Pt.U, Pt.locs, Pt.cells, Pt.slots] at Xr79 hSr79 hg79 l79 y79 z79 st79 hQ79 Cp79
        subst l79 y79 z79
        obtain ⟨X79, hS, hZ, hown⟩ := rebS (own := "com/example/coyote_hill/coyotehill/ItemStatusEqualsPinLaw") hS (by first | exact Nat.le_refl _ | (rw [e71]; exact hk)) Xr79 hSr79 hg79 hZ hown
        obtain ⟨b_79, kb_79, rfl, N79q, K79, Fq79_0, Fq79_1, Fq79_2, Fq79_3⟩ := hQ79
        have N79 := Fr.app N69 N79q
        obtain ⟨h79, e79⟩ : ∃ z, T79.heap = z := ⟨_, rfl⟩
        rw [e79] at K79 Fq79_0 Fq79_1 Fq79_2 Fq79_3 Cp79
        have hk : T79.heap.size ≤ h79.size := Nat.le_of_eq (congrArg Array.size e79)
        have z81 : h71.size ≤ h79.size := K79.1
        have CR := CR.trans Cp79
        have lt79_0 : @LT.lt Nat _ b71 h79.size := Fq79_0.lt
        have lt79_3 : @LT.lt Nat _ b_79 h79.size := Fq79_3.lt
        have s82 : ∀ t_, Steps p.tables e below (T79.setTop (mkF m 135 #[.val (.int sx), .val (.int ((ushr sx (24 : Int32)) &&& (3 : Int32))), .val (.int (i2c (sx &&& (255 : Int32)))), .val (.int (i2c ((ushr sx (8 : Int32)) &&& (255 : Int32)))), .val (.int (i2c ((ushr sx (16 : Int32)) &&& (255 : Int32)))), .val (.ref b60)] [(.ref b71)])) t_ → Steps p.tables e below (s₁.setTop (entryFrame m #[(.int sx)] 6)) t_ := fun t_ k_ => s80 t_ (by
          show Steps p.tables e below (T71.setTop (mkF m 132 #[.val (.int sx), .val (.int ((ushr sx (24 : Int32)) &&& (3 : Int32))), .val (.int (i2c (sx &&& (255 : Int32)))), .val (.int (i2c ((ushr sx (8 : Int32)) &&& (255 : Int32)))), .val (.int (i2c ((ushr sx (16 : Int32)) &&& (255 : Int32)))), .val (.ref b60)] [(.ref b60), (.ref b71), (.ref b71)])) t_
          refine st79.trans ?_
          show Steps p.tables e below (T79.setTop (mkF m 135 #[.val (.int sx), .val (.int ((ushr sx (24 : Int32)) &&& (3 : Int32))), .val (.int (i2c (sx &&& (255 : Int32)))), .val (.int (i2c ((ushr sx (8 : Int32)) &&& (255 : Int32)))), .val (.int (i2c ((ushr sx (16 : Int32)) &&& (255 : Int32)))), .val (.ref b60)] [(.ref b71)])) _
          show Steps p.tables e below (T79.setTop (mkF m 135 #[.val (.int sx), .val (.int ((ushr sx (24 : Int32)) &&& (3 : Int32))), .val (.int (i2c (sx &&& (255 : Int32)))), .val (.int (i2c ((ushr sx (8 : Int32)) &&& (255 : Int32)))), .val (.int (i2c ((ushr sx (16 : Int32)) &&& (255 : Int32)))), .val (.ref b60)] [(.ref b71)])) t_
          exact k_)
        obtain ⟨fs, hr, hrun, hended, hREW⟩ := X79.leaveW hS (by first | exact Nat.le_refl _ | (rw [e79]; exact hk)) (v := some (.ref b71)) (fun h => by rw [Bd.returns] at h; cases h)
        refine ⟨_, _, s82 _ ?_, hrun, hended, _, _, rfl, ?_, (by show CHr Z ELs s.vm s.heap T79.vm T79.heap; rw [hh, e79]; exact CR.trans (CHv.at X79 hZ hEL CR.1)), hREW.1, hREW.2.1, hREW.2.2.1, hREW.2.2.2.mono (by decide) (by decide)⟩
        · show Steps p.tables e below (T79.setTop (mkF m 135 #[.val (.int sx), .val (.int ((ushr sx (24 : Int32)) &&& (3 : Int32))), .val (.int (i2c (sx &&& (255 : Int32)))), .val (.int (i2c ((ushr sx (8 : Int32)) &&& (255 : Int32)))), .val (.int (i2c ((ushr sx (16 : Int32)) &&& (255 : Int32)))), .val (.ref b60)] [(.ref b71)])) _
          jvm_step X79.here [X79.here.top, hx, (Jvm.hb hby d_method_2_135), X79.method', Bd.returns, Value.isRef, FieldType.isReference]
          first | (intro acts; rw [hr _ acts rfl rfl rfl]) | rw [hr _ _ rfl rfl rfl]
          exact Steps.refl _
        · show Q_rmStr Z _ _ h0 n0 _ T79.heap _
          rw [e79]
          exact ⟨b71, b_79, kb_79, rfl, N79, (((((((Keep.refl h0 []).ext E60).wr W63 (Or.inr (show h0.size ≤ b60 by omega))).wr W66 (Or.inr (show h0.size ≤ b60 by omega))).wr W69 (Or.inr (show h0.size ≤ b60 by omega))).ext E71).trans K79 (allS (Or.inr (show h0.size ≤ b71 by omega)) all0)), Fq79_0, Fq79_1, (by rw [own_str3 sx h2 h20 h39]; exact Fq79_2), (by rw [own_str3 sx h2 h20 h39]; exact Fq79_3), by omega⟩
theorem d_method_3_0 : decode method_3_code 0 = .ok (.iload_n 0, 1) := by decide +kernel
theorem d_method_3_1 : decode method_3_code 1 = .ok (.bipush 24, 2) := by decide +kernel
theorem d_method_3_3 : decode method_3_code 3 = .ok (.iushr, 1) := by decide +kernel
theorem d_method_3_4 : decode method_3_code 4 = .ok (.iconst 3, 1) := by decide +kernel
theorem d_method_3_5 : decode method_3_code 5 = .ok (.iand, 1) := by decide +kernel
theorem d_method_3_6 : decode method_3_code 6 = .ok (.istore_n 2, 1) := by decide +kernel
theorem d_method_3_7 : decode method_3_code 7 = .ok (.iload_n 1, 1) := by decide +kernel
theorem d_method_3_8 : decode method_3_code 8 = .ok (.bipush 24, 2) := by decide +kernel
theorem d_method_3_10 : decode method_3_code 10 = .ok (.iushr, 1) := by decide +kernel
theorem d_method_3_11 : decode method_3_code 11 = .ok (.iconst 3, 1) := by decide +kernel
theorem d_method_3_12 : decode method_3_code 12 = .ok (.iand, 1) := by decide +kernel
theorem d_method_3_13 : decode method_3_code 13 = .ok (.istore_n 3, 1) := by decide +kernel
theorem d_method_3_14 : decode method_3_code 14 = .ok (.iload_n 2, 1) := by decide +kernel
theorem d_method_3_15 : decode method_3_code 15 = .ok (.iload_n 3, 1) := by decide +kernel
theorem d_method_3_16 : decode method_3_code 16 = .ok (.if_icmp .eq 5, 3) := by decide +kernel
theorem d_method_3_21 : decode method_3_code 21 = .ok (.iload_n 2, 1) := by decide +kernel
theorem d_method_3_22 : decode method_3_code 22 = .ok (.iconst 1, 1) := by decide +kernel
theorem d_method_3_23 : decode method_3_code 23 = .ok (.if_icmp .lt 18, 3) := by decide +kernel
theorem d_method_3_41 : decode method_3_code 41 = .ok (.iload_n 2, 1) := by decide +kernel
theorem d_method_3_42 : decode method_3_code 42 = .ok (.iconst 2, 1) := by decide +kernel
theorem d_method_3_43 : decode method_3_code 43 = .ok (.if_icmp .lt 24, 3) := by decide +kernel
theorem d_method_3_67 : decode method_3_code 67 = .ok (.iload_n 2, 1) := by decide +kernel
theorem d_method_3_68 : decode method_3_code 68 = .ok (.iconst 3, 1) := by decide +kernel
theorem d_method_3_69 : decode method_3_code 69 = .ok (.if_icmp .lt 24, 3) := by decide +kernel
theorem d_method_3_93 : decode method_3_code 93 = .ok (.iconst 1, 1) := by decide +kernel
theorem d_method_3_94 : decode method_3_code 94 = .ok (.ireturn, 1) := by decide +kernel
theorem d_method_3_72 : decode method_3_code 72 = .ok (.iload_n 0, 1) := by decide +kernel
theorem d_method_3_73 : decode method_3_code 73 = .ok (.bipush 16, 2) := by decide +kernel
theorem d_method_3_75 : decode method_3_code 75 = .ok (.iushr, 1) := by decide +kernel
theorem d_method_3_76 : decode method_3_code 76 = .ok (.sipush 255, 3) := by decide +kernel
theorem d_method_3_79 : decode method_3_code 79 = .ok (.iand, 1) := by decide +kernel
theorem d_method_3_80 : decode method_3_code 80 = .ok (.iload_n 1, 1) := by decide +kernel
theorem d_method_3_81 : decode method_3_code 81 = .ok (.bipush 16, 2) := by decide +kernel
theorem d_method_3_83 : decode method_3_code 83 = .ok (.iushr, 1) := by decide +kernel
theorem d_method_3_84 : decode method_3_code 84 = .ok (.sipush 255, 3) := by decide +kernel
theorem d_method_3_87 : decode method_3_code 87 = .ok (.iand, 1) := by decide +kernel
theorem d_method_3_88 : decode method_3_code 88 = .ok (.if_icmp .eq 5, 3) := by decide +kernel
theorem d_method_3_91 : decode method_3_code 91 = .ok (.iconst 0, 1) := by decide +kernel
theorem d_method_3_92 : decode method_3_code 92 = .ok (.ireturn, 1) := by decide +kernel
theorem d_method_3_46 : decode method_3_code 46 = .ok (.iload_n 0, 1) := by decide +kernel
theorem d_method_3_47 : decode method_3_code 47 = .ok (.bipush 8, 2) := by decide +kernel
theorem d_method_3_49 : decode method_3_code 49 = .ok (.iushr, 1) := by decide +kernel
theorem d_method_3_50 : decode method_3_code 50 = .ok (.sipush 255, 3) := by decide +kernel
theorem d_method_3_53 : decode method_3_code 53 = .ok (.iand, 1) := by decide +kernel
theorem d_method_3_54 : decode method_3_code 54 = .ok (.iload_n 1, 1) := by decide +kernel
theorem d_method_3_55 : decode method_3_code 55 = .ok (.bipush 8, 2) := by decide +kernel
theorem d_method_3_57 : decode method_3_code 57 = .ok (.iushr, 1) := by decide +kernel
theorem d_method_3_58 : decode method_3_code 58 = .ok (.sipush 255, 3) := by decide +kernel
theorem d_method_3_61 : decode method_3_code 61 = .ok (.iand, 1) := by decide +kernel
theorem d_method_3_62 : decode method_3_code 62 = .ok (.if_icmp .eq 5, 3) := by decide +kernel
theorem d_method_3_65 : decode method_3_code 65 = .ok (.iconst 0, 1) := by decide +kernel
theorem d_method_3_66 : decode method_3_code 66 = .ok (.ireturn, 1) := by decide +kernel
theorem d_method_3_26 : decode method_3_code 26 = .ok (.iload_n 0, 1) := by decide +kernel
theorem d_method_3_27 : decode method_3_code 27 = .ok (.sipush 255, 3) := by decide +kernel
theorem d_method_3_30 : decode method_3_code 30 = .ok (.iand, 1) := by decide +kernel
theorem d_method_3_31 : decode method_3_code 31 = .ok (.iload_n 1, 1) := by decide +kernel
theorem d_method_3_32 : decode method_3_code 32 = .ok (.sipush 255, 3) := by decide +kernel
theorem d_method_3_35 : decode method_3_code 35 = .ok (.iand, 1) := by decide +kernel
theorem d_method_3_36 : decode method_3_code 36 = .ok (.if_icmp .eq 5, 3) := by decide +kernel
theorem d_method_3_39 : decode method_3_code 39 = .ok (.iconst 0, 1) := by decide +kernel
theorem d_method_3_40 : decode method_3_code 40 = .ok (.ireturn, 1) := by decide +kernel
theorem d_method_3_19 : decode method_3_code 19 = .ok (.iconst 0, 1) := by decide +kernel
theorem d_method_3_20 : decode method_3_code 20 = .ok (.ireturn, 1) := by decide +kernel
theorem ef_rmSame (m : MethodId) (x0 : Int32) (x1 : Int32) : entryFrame m #[(.int x0), (.int x1)] 4 = mkF m 0 #[.val (.int x0), .val (.int x1), .unset, .unset] [] := by first | (simp [entryFrame, mkF, argsToLocals, Value.category]; done) | rfl
def Q_rmSame (Z : State) (sx : Int32) (sy : Int32) (h0 : Heap) (n0 : Nat) (v : Option Value) (h : Heap) (L : List Loc) : Prop := (v = some (.int (if (own_str sx) = (own_str sy) then (1 : Int32) else (0 : Int32)))) ∧ (Fr n0 L) ∧ (h = h0)
set_option maxRecDepth 65536 in
set_option maxHeartbeats 40000000 in
theorem rmSame (l : Launch) (Z : State) (a0 : Array Value) (hw : ∀ d ∈ tables_1, d.before a0 Z = true) (ws : List Jvm.Cond) (sx : Int32) (sy : Int32) (h0 : Heap) (n0 : Nat) (Z0 : n0 ≤ h0.size)  :
    MetFree l (⟨"com/example/coyote_hill/coyotehill/ItemStatusEqualsPinLaw", "sameStr", "(II)Z"⟩ : MethodName) (head1 (Jvm.Cond.code (⟨"com/example/coyote_hill/coyotehill/ItemStatusEqualsPinLaw", "sameStr", "(II)Z"⟩ : MethodName) method_3_code 4 (some .boolean) :: ws) ({ frames := 0, cells := 0, slots := 0, locals := 0 } : Room)) (fun ar_ U => ar_ = #[(.int sx), (.int sy)] ∧ Z.Warmed39 U.vm ∧ U.heap = h0) (fun _ _ _ _ _ => True) (fun _ U o U' => ∃ v L, o = .returned v ∧ Q_rmSame Z sx sy h0 n0 v U'.heap L ∧ FrameEnd U o U' L ({ frames := 0, cells := 0, slots := 0, locals := 0 } : Room).cells ({ frames := 0, cells := 0, slots := 0, locals := 0 } : Room).slots) := by
  refine MetFree.of_bodySF (plainFor_of_name pn_com_example_coyote_hill_coyotehill_ItemStatusEqualsPinLaw) hisR ?_
  intro p e s m args below meth c s₁ Bd hml0 hP hK
  obtain ⟨rfl, hZ, hh⟩ := hP
  have hx := Bd.exec
  have hby := Bd.bytes
  have hml : c.maxLocals = 4 := hml0
  have hown : s.vm.findClass "com/example/coyote_hill/coyotehill/ItemStatusEqualsPinLaw" = some m.cls := findClass_of_methodNamed Bd.named
  have hnm := (name_of_methodNamed Bd.named Bd.method).1
  have X0 : Stand p l e ({ frames := 0, cells := 0, slots := 0, locals := 0 } : Room) s m #[(.int sx), (.int sy)] below meth c s₁ [] 0 0 := Stand.of_body Bd
  have e0 : s₁.heap = h0 := by rw [← hh, Bd.state]; rfl
  have N0 := Fr.nil n0
  have pre0 : ∀ t_, Steps p.tables e below (s₁.setTop (mkF m 0 #[.val (.int sx), .val (.int sy), .unset, .unset] [])) t_ → Steps p.tables e below (s₁.setTop (entryFrame m #[(.int sx), (.int sy)] 4)) t_ := fun t_ k_ => castTop (ef_rmSame m sx sy) k_
  have s1 : ∀ t_, Steps p.tables e below (s₁.setTop (mkF m 16 #[.val (.int sx), .val (.int sy), .val (.int ((ushr sx (24 : Int32)) &&& (3 : Int32))), .val (.int ((ushr sy (24 : Int32)) &&& (3 : Int32)))] [(.int ((ushr sy (24 : Int32)) &&& (3 : Int32))), (.int ((ushr sx (24 : Int32)) &&& (3 : Int32)))])) t_ → Steps p.tables e below (s₁.setTop (entryFrame m #[(.int sx), (.int sy)] 4)) t_ := fun t_ k_ => pre0 t_ (by
    show Steps p.tables e below (s₁.setTop (mkF m 0 #[.val (.int sx), .val (.int sy), .unset, .unset] [])) t_
    refine XS.iloadN X0.here hx rfl (Jvm.hb hby d_method_3_0) rfl ?_
    refine XS.bipush X0.here hx rfl (Jvm.hb hby d_method_3_1) ?_
    refine XS.iushr X0.here hx rfl (Jvm.hb hby d_method_3_3) rfl ?_
    refine XS.iconst X0.here hx rfl (Jvm.hb hby d_method_3_4) ?_
    refine XS.iand X0.here hx rfl (Jvm.hb hby d_method_3_5) rfl ?_
    refine XS.istoreN X0.here hx rfl (Jvm.hb hby d_method_3_6) rfl (l' := #[.val (.int sx), .val (.int sy), .val (.int ((ushr sx (24 : Int32)) &&& (3 : Int32))), .unset]) rfl ?_
    show Steps p.tables e below (s₁.setTop (mkF m 7 #[.val (.int sx), .val (.int sy), .val (.int ((ushr sx (24 : Int32)) &&& (3 : Int32))), .unset] [])) _
    refine XS.iloadN X0.here hx rfl (Jvm.hb hby d_method_3_7) rfl ?_
    refine XS.bipush X0.here hx rfl (Jvm.hb hby d_method_3_8) ?_
    refine XS.iushr X0.here hx rfl (Jvm.hb hby d_method_3_10) rfl ?_
    refine XS.iconst X0.here hx rfl (Jvm.hb hby d_method_3_11) ?_
    refine XS.iand X0.here hx rfl (Jvm.hb hby d_method_3_12) rfl ?_
    refine XS.istoreN X0.here hx rfl (Jvm.hb hby d_method_3_13) rfl (l' := #[.val (.int sx), .val (.int sy), .val (.int ((ushr sx (24 : Int32)) &&& (3 : Int32))), .val (.int ((ushr sy (24 : Int32)) &&& (3 : Int32)))]) rfl ?_
    show Steps p.tables e below (s₁.setTop (mkF m 14 #[.val (.int sx), .val (.int sy), .val (.int ((ushr sx (24 : Int32)) &&& (3 : Int32))), .val (.int ((ushr sy (24 : Int32)) &&& (3 : Int32)))] [])) _
    refine XS.iloadN X0.here hx rfl (Jvm.hb hby d_method_3_14) rfl ?_
    refine XS.iloadN X0.here hx rfl (Jvm.hb hby d_method_3_15) rfl ?_
    show Steps p.tables e below (s₁.setTop (mkF m 16 #[.val (.int sx), .val (.int sy), .val (.int ((ushr sx (24 : Int32)) &&& (3 : Int32))), .val (.int ((ushr sy (24 : Int32)) &&& (3 : Int32)))] [(.int ((ushr sy (24 : Int32)) &&& (3 : Int32))), (.int ((ushr sx (24 : Int32)) &&& (3 : Int32)))])) t_
    exact k_)
  by_cases h2 : ((ushr sx (24 : Int32)) &&& (3 : Int32)) = ((ushr sy (24 : Int32)) &&& (3 : Int32))
  · have s3 : ∀ t_, Steps p.tables e below (s₁.setTop (mkF m 23 #[.val (.int sx), .val (.int sy), .val (.int ((ushr sx (24 : Int32)) &&& (3 : Int32))), .val (.int ((ushr sy (24 : Int32)) &&& (3 : Int32)))] [(.int (1 : Int32)), (.int ((ushr sx (24 : Int32)) &&& (3 : Int32)))])) t_ → Steps p.tables e below (s₁.setTop (entryFrame m #[(.int sx), (.int sy)] 4)) t_ := fun t_ k_ => s1 t_ (by
      show Steps p.tables e below (s₁.setTop (mkF m 16 #[.val (.int sx), .val (.int sy), .val (.int ((ushr sx (24 : Int32)) &&& (3 : Int32))), .val (.int ((ushr sy (24 : Int32)) &&& (3 : Int32)))] [(.int ((ushr sy (24 : Int32)) &&& (3 : Int32))), (.int ((ushr sx (24 : Int32)) &&& (3 : Int32)))])) t_
      refine XS.icmpYes X0.here hx rfl (pc0 := 16) (pc' := 21) rfl (Jvm.hb hby d_method_3_16) rfl (teq h2).1 (by decide) (by decide) ?_
      show Steps p.tables e below (s₁.setTop (mkF m 21 #[.val (.int sx), .val (.int sy), .val (.int ((ushr sx (24 : Int32)) &&& (3 : Int32))), .val (.int ((ushr sy (24 : Int32)) &&& (3 : Int32)))] [])) _
      refine XS.iloadN X0.here hx rfl (Jvm.hb hby d_method_3_21) rfl ?_
      refine XS.iconst X0.here hx rfl (Jvm.hb hby d_method_3_22) ?_
      show Steps p.tables e below (s₁.setTop (mkF m 23 #[.val (.int sx), .val (.int sy), .val (.int ((ushr sx (24 : Int32)) &&& (3 : Int32))), .val (.int ((ushr sy (24 : Int32)) &&& (3 : Int32)))] [(.int (1 : Int32)), (.int ((ushr sx (24 : Int32)) &&& (3 : Int32)))])) t_
      exact k_)
    by_cases h4 : ((ushr sx (24 : Int32)) &&& (3 : Int32)) < (1 : Int32)
    · have s5 : ∀ t_, Steps p.tables e below (s₁.setTop (mkF m 43 #[.val (.int sx), .val (.int sy), .val (.int ((ushr sx (24 : Int32)) &&& (3 : Int32))), .val (.int ((ushr sy (24 : Int32)) &&& (3 : Int32)))] [(.int (2 : Int32)), (.int ((ushr sx (24 : Int32)) &&& (3 : Int32)))])) t_ → Steps p.tables e below (s₁.setTop (entryFrame m #[(.int sx), (.int sy)] 4)) t_ := fun t_ k_ => s3 t_ (by
        show Steps p.tables e below (s₁.setTop (mkF m 23 #[.val (.int sx), .val (.int sy), .val (.int ((ushr sx (24 : Int32)) &&& (3 : Int32))), .val (.int ((ushr sy (24 : Int32)) &&& (3 : Int32)))] [(.int (1 : Int32)), (.int ((ushr sx (24 : Int32)) &&& (3 : Int32)))])) t_
        refine XS.icmpYes X0.here hx rfl (pc0 := 23) (pc' := 41) rfl (Jvm.hb hby d_method_3_23) rfl (tlt h4).1 (by decide) (by decide) ?_
        show Steps p.tables e below (s₁.setTop (mkF m 41 #[.val (.int sx), .val (.int sy), .val (.int ((ushr sx (24 : Int32)) &&& (3 : Int32))), .val (.int ((ushr sy (24 : Int32)) &&& (3 : Int32)))] [])) _
        refine XS.iloadN X0.here hx rfl (Jvm.hb hby d_method_3_41) rfl ?_
        refine XS.iconst X0.here hx rfl (Jvm.hb hby d_method_3_42) ?_
        show Steps p.tables e below (s₁.setTop (mkF m 43 #[.val (.int sx), .val (.int sy), .val (.int ((ushr sx (24 : Int32)) &&& (3 : Int32))), .val (.int ((ushr sy (24 : Int32)) &&& (3 : Int32)))] [(.int (2 : Int32)), (.int ((ushr sx (24 : Int32)) &&& (3 : Int32)))])) t_
        exact k_)
      by_cases h6 : ((ushr sx (24 : Int32)) &&& (3 : Int32)) < (2 : Int32)
      · have s7 : ∀ t_, Steps p.tables e below (s₁.setTop (mkF m 69 #[.val (.int sx), .val (.int sy), .val (.int ((ushr sx (24 : Int32)) &&& (3 : Int32))), .val (.int ((ushr sy (24 : Int32)) &&& (3 : Int32)))] [(.int (3 : Int32)), (.int ((ushr sx (24 : Int32)) &&& (3 : Int32)))])) t_ → Steps p.tables e below (s₁.setTop (entryFrame m #[(.int sx), (.int sy)] 4)) t_ := fun t_ k_ => s5 t_ (by
          show Steps p.tables e below (s₁.setTop (mkF m 43 #[.val (.int sx), .val (.int sy), .val (.int ((ushr sx (24 : Int32)) &&& (3 : Int32))), .val (.int ((ushr sy (24 : Int32)) &&& (3 : Int32)))] [(.int (2 : Int32)), (.int ((ushr sx (24 : Int32)) &&& (3 : Int32)))])) t_
          refine XS.icmpYes X0.here hx rfl (pc0 := 43) (pc' := 67) rfl (Jvm.hb hby d_method_3_43) rfl (tlt h6).1 (by decide) (by decide) ?_
          show Steps p.tables e below (s₁.setTop (mkF m 67 #[.val (.int sx), .val (.int sy), .val (.int ((ushr sx (24 : Int32)) &&& (3 : Int32))), .val (.int ((ushr sy (24 : Int32)) &&& (3 : Int32)))] [])) _
          refine XS.iloadN X0.here hx rfl (Jvm.hb hby d_method_3_67) rfl ?_
          refine XS.iconst X0.here hx rfl (Jvm.hb hby d_method_3_68) ?_
          show Steps p.tables e below (s₁.setTop (mkF m 69 #[.val (.int sx), .val (.int sy), .val (.int ((ushr sx (24 : Int32)) &&& (3 : Int32))), .val (.int ((ushr sy (24 : Int32)) &&& (3 : Int32)))] [(.int (3 : Int32)), (.int ((ushr sx (24 : Int32)) &&& (3 : Int32)))])) t_
          exact k_)
        by_cases h8 : ((ushr sx (24 : Int32)) &&& (3 : Int32)) < (3 : Int32)
        · have s9 : ∀ t_, Steps p.tables e below (s₁.setTop (mkF m 94 #[.val (.int sx), .val (.int sy), .val (.int ((ushr sx (24 : Int32)) &&& (3 : Int32))), .val (.int ((ushr sy (24 : Int32)) &&& (3 : Int32)))] [(.int (1 : Int32))])) t_ → Steps p.tables e below (s₁.setTop (entryFrame m #[(.int sx), (.int sy)] 4)) t_ := fun t_ k_ => s7 t_ (by
            show Steps p.tables e below (s₁.setTop (mkF m 69 #[.val (.int sx), .val (.int sy), .val (.int ((ushr sx (24 : Int32)) &&& (3 : Int32))), .val (.int ((ushr sy (24 : Int32)) &&& (3 : Int32)))] [(.int (3 : Int32)), (.int ((ushr sx (24 : Int32)) &&& (3 : Int32)))])) t_
            refine XS.icmpYes X0.here hx rfl (pc0 := 69) (pc' := 93) rfl (Jvm.hb hby d_method_3_69) rfl (tlt h8).1 (by decide) (by decide) ?_
            show Steps p.tables e below (s₁.setTop (mkF m 93 #[.val (.int sx), .val (.int sy), .val (.int ((ushr sx (24 : Int32)) &&& (3 : Int32))), .val (.int ((ushr sy (24 : Int32)) &&& (3 : Int32)))] [])) _
            refine XS.iconst X0.here hx rfl (Jvm.hb hby d_method_3_93) ?_
            show Steps p.tables e below (s₁.setTop (mkF m 94 #[.val (.int sx), .val (.int sy), .val (.int ((ushr sx (24 : Int32)) &&& (3 : Int32))), .val (.int ((ushr sy (24 : Int32)) &&& (3 : Int32)))] [(.int (1 : Int32))])) t_
            exact k_)
          obtain ⟨fs, hr, hrun, hended, hW, hsame⟩ := X0.leave (v := some (.int (1 : Int32))) (fun h => by rw [Bd.returns] at h; cases h)
          refine ⟨_, _, s9 _ ?_, hrun, hended, _, _, rfl, ?_, ⟨_, rfl⟩, hW, hsame.mono (by decide) (by decide)⟩
          · show Steps p.tables e below (s₁.setTop (mkF m 94 #[.val (.int sx), .val (.int sy), .val (.int ((ushr sx (24 : Int32)) &&& (3 : Int32))), .val (.int ((ushr sy (24 : Int32)) &&& (3 : Int32)))] [(.int (1 : Int32))])) _
            exact retN X0 hx (t := .boolean) Bd.returns (by simp) (Jvm.hb hby d_method_3_94) hr
          · show Q_rmSame Z _ _ h0 n0 _ s₁.heap _
            rw [e0]
            exact ⟨(by rw [← own_streq sx sy, if_pos h2, if_pos h4, if_pos h6, if_pos h8]), N0, rfl⟩
        · have s10 : ∀ t_, Steps p.tables e below (s₁.setTop (mkF m 88 #[.val (.int sx), .val (.int sy), .val (.int ((ushr sx (24 : Int32)) &&& (3 : Int32))), .val (.int ((ushr sy (24 : Int32)) &&& (3 : Int32)))] [(.int ((ushr sy (16 : Int32)) &&& (255 : Int32))), (.int ((ushr sx (16 : Int32)) &&& (255 : Int32)))])) t_ → Steps p.tables e below (s₁.setTop (entryFrame m #[(.int sx), (.int sy)] 4)) t_ := fun t_ k_ => s7 t_ (by
            show Steps p.tables e below (s₁.setTop (mkF m 69 #[.val (.int sx), .val (.int sy), .val (.int ((ushr sx (24 : Int32)) &&& (3 : Int32))), .val (.int ((ushr sy (24 : Int32)) &&& (3 : Int32)))] [(.int (3 : Int32)), (.int ((ushr sx (24 : Int32)) &&& (3 : Int32)))])) t_
            refine XS.icmpNo X0.here hx rfl (Jvm.hb hby d_method_3_69) rfl (flt h8).1 ?_
            show Steps p.tables e below (s₁.setTop (mkF m 72 #[.val (.int sx), .val (.int sy), .val (.int ((ushr sx (24 : Int32)) &&& (3 : Int32))), .val (.int ((ushr sy (24 : Int32)) &&& (3 : Int32)))] [])) _
            refine XS.iloadN X0.here hx rfl (Jvm.hb hby d_method_3_72) rfl ?_
            refine XS.bipush X0.here hx rfl (Jvm.hb hby d_method_3_73) ?_
            refine XS.iushr X0.here hx rfl (Jvm.hb hby d_method_3_75) rfl ?_
            refine XS.sipush X0.here hx rfl (Jvm.hb hby d_method_3_76) ?_
            refine XS.iand X0.here hx rfl (Jvm.hb hby d_method_3_79) rfl ?_
            refine XS.iloadN X0.here hx rfl (Jvm.hb hby d_method_3_80) rfl ?_
            show Steps p.tables e below (s₁.setTop (mkF m 81 #[.val (.int sx), .val (.int sy), .val (.int ((ushr sx (24 : Int32)) &&& (3 : Int32))), .val (.int ((ushr sy (24 : Int32)) &&& (3 : Int32)))] [(.int sy), (.int ((ushr sx (16 : Int32)) &&& (255 : Int32)))])) _
            refine XS.bipush X0.here hx rfl (Jvm.hb hby d_method_3_81) ?_
            refine XS.iushr X0.here hx rfl (Jvm.hb hby d_method_3_83) rfl ?_
            refine XS.sipush X0.here hx rfl (Jvm.hb hby d_method_3_84) ?_
            refine XS.iand X0.here hx rfl (Jvm.hb hby d_method_3_87) rfl ?_
            show Steps p.tables e below (s₁.setTop (mkF m 88 #[.val (.int sx), .val (.int sy), .val (.int ((ushr sx (24 : Int32)) &&& (3 : Int32))), .val (.int ((ushr sy (24 : Int32)) &&& (3 : Int32)))] [(.int ((ushr sy (16 : Int32)) &&& (255 : Int32))), (.int ((ushr sx (16 : Int32)) &&& (255 : Int32)))])) t_
            exact k_)
          by_cases h11 : ((ushr sx (16 : Int32)) &&& (255 : Int32)) = ((ushr sy (16 : Int32)) &&& (255 : Int32))
          · have s12 : ∀ t_, Steps p.tables e below (s₁.setTop (mkF m 94 #[.val (.int sx), .val (.int sy), .val (.int ((ushr sx (24 : Int32)) &&& (3 : Int32))), .val (.int ((ushr sy (24 : Int32)) &&& (3 : Int32)))] [(.int (1 : Int32))])) t_ → Steps p.tables e below (s₁.setTop (entryFrame m #[(.int sx), (.int sy)] 4)) t_ := fun t_ k_ => s10 t_ (by
              show Steps p.tables e below (s₁.setTop (mkF m 88 #[.val (.int sx), .val (.int sy), .val (.int ((ushr sx (24 : Int32)) &&& (3 : Int32))), .val (.int ((ushr sy (24 : Int32)) &&& (3 : Int32)))] [(.int ((ushr sy (16 : Int32)) &&& (255 : Int32))), (.int ((ushr sx (16 : Int32)) &&& (255 : Int32)))])) t_
              refine XS.icmpYes X0.here hx rfl (pc0 := 88) (pc' := 93) rfl (Jvm.hb hby d_method_3_88) rfl (teq h11).1 (by decide) (by decide) ?_
              show Steps p.tables e below (s₁.setTop (mkF m 93 #[.val (.int sx), .val (.int sy), .val (.int ((ushr sx (24 : Int32)) &&& (3 : Int32))), .val (.int ((ushr sy (24 : Int32)) &&& (3 : Int32)))] [])) _
              refine XS.iconst X0.here hx rfl (Jvm.hb hby d_method_3_93) ?_
              show Steps p.tables e below (s₁.setTop (mkF m 94 #[.val (.int sx), .val (.int sy), .val (.int ((ushr sx (24 : Int32)) &&& (3 : Int32))), .val (.int ((ushr sy (24 : Int32)) &&& (3 : Int32)))] [(.int (1 : Int32))])) t_
              exact k_)
            obtain ⟨fs, hr, hrun, hended, hW, hsame⟩ := X0.leave (v := some (.int (1 : Int32))) (fun h => by rw [Bd.returns] at h; cases h)
            refine ⟨_, _, s12 _ ?_, hrun, hended, _, _, rfl, ?_, ⟨_, rfl⟩, hW, hsame.mono (by decide) (by decide)⟩
            · show Steps p.tables e below (s₁.setTop (mkF m 94 #[.val (.int sx), .val (.int sy), .val (.int ((ushr sx (24 : Int32)) &&& (3 : Int32))), .val (.int ((ushr sy (24 : Int32)) &&& (3 : Int32)))] [(.int (1 : Int32))])) _
              exact retN X0 hx (t := .boolean) Bd.returns (by simp) (Jvm.hb hby d_method_3_94) hr
            · show Q_rmSame Z _ _ h0 n0 _ s₁.heap _
              rw [e0]
              exact ⟨(by rw [← own_streq sx sy, if_pos h2, if_pos h4, if_pos h6, if_neg h8, if_pos h11]), N0, rfl⟩
          · have s13 : ∀ t_, Steps p.tables e below (s₁.setTop (mkF m 92 #[.val (.int sx), .val (.int sy), .val (.int ((ushr sx (24 : Int32)) &&& (3 : Int32))), .val (.int ((ushr sy (24 : Int32)) &&& (3 : Int32)))] [(.int (0 : Int32))])) t_ → Steps p.tables e below (s₁.setTop (entryFrame m #[(.int sx), (.int sy)] 4)) t_ := fun t_ k_ => s10 t_ (by
              show Steps p.tables e below (s₁.setTop (mkF m 88 #[.val (.int sx), .val (.int sy), .val (.int ((ushr sx (24 : Int32)) &&& (3 : Int32))), .val (.int ((ushr sy (24 : Int32)) &&& (3 : Int32)))] [(.int ((ushr sy (16 : Int32)) &&& (255 : Int32))), (.int ((ushr sx (16 : Int32)) &&& (255 : Int32)))])) t_
              refine XS.icmpNo X0.here hx rfl (Jvm.hb hby d_method_3_88) rfl (feq h11).1 ?_
              show Steps p.tables e below (s₁.setTop (mkF m 91 #[.val (.int sx), .val (.int sy), .val (.int ((ushr sx (24 : Int32)) &&& (3 : Int32))), .val (.int ((ushr sy (24 : Int32)) &&& (3 : Int32)))] [])) _
              refine XS.iconst X0.here hx rfl (Jvm.hb hby d_method_3_91) ?_
              show Steps p.tables e below (s₁.setTop (mkF m 92 #[.val (.int sx), .val (.int sy), .val (.int ((ushr sx (24 : Int32)) &&& (3 : Int32))), .val (.int ((ushr sy (24 : Int32)) &&& (3 : Int32)))] [(.int (0 : Int32))])) t_
              exact k_)
            obtain ⟨fs, hr, hrun, hended, hW, hsame⟩ := X0.leave (v := some (.int (0 : Int32))) (fun h => by rw [Bd.returns] at h; cases h)
            refine ⟨_, _, s13 _ ?_, hrun, hended, _, _, rfl, ?_, ⟨_, rfl⟩, hW, hsame.mono (by decide) (by decide)⟩
            · show Steps p.tables e below (s₁.setTop (mkF m 92 #[.val (.int sx), .val (.int sy), .val (.int ((ushr sx (24 : Int32)) &&& (3 : Int32))), .val (.int ((ushr sy (24 : Int32)) &&& (3 : Int32)))] [(.int (0 : Int32))])) _
              exact retN X0 hx (t := .boolean) Bd.returns (by simp) (Jvm.hb hby d_method_3_92) hr
            · show Q_rmSame Z _ _ h0 n0 _ s₁.heap _
              rw [e0]
              exact ⟨(by rw [← own_streq sx sy, if_pos h2, if_pos h4, if_pos h6, if_neg h8, if_neg h11]), N0, rfl⟩
      · have s14 : ∀ t_, Steps p.tables e below (s₁.setTop (mkF m 62 #[.val (.int sx), .val (.int sy), .val (.int ((ushr sx (24 : Int32)) &&& (3 : Int32))), .val (.int ((ushr sy (24 : Int32)) &&& (3 : Int32)))] [(.int ((ushr sy (8 : Int32)) &&& (255 : Int32))), (.int ((ushr sx (8 : Int32)) &&& (255 : Int32)))])) t_ → Steps p.tables e below (s₁.setTop (entryFrame m #[(.int sx), (.int sy)] 4)) t_ := fun t_ k_ => s5 t_ (by
          show Steps p.tables e below (s₁.setTop (mkF m 43 #[.val (.int sx), .val (.int sy), .val (.int ((ushr sx (24 : Int32)) &&& (3 : Int32))), .val (.int ((ushr sy (24 : Int32)) &&& (3 : Int32)))] [(.int (2 : Int32)), (.int ((ushr sx (24 : Int32)) &&& (3 : Int32)))])) t_
          refine XS.icmpNo X0.here hx rfl (Jvm.hb hby d_method_3_43) rfl (flt h6).1 ?_
          show Steps p.tables e below (s₁.setTop (mkF m 46 #[.val (.int sx), .val (.int sy), .val (.int ((ushr sx (24 : Int32)) &&& (3 : Int32))), .val (.int ((ushr sy (24 : Int32)) &&& (3 : Int32)))] [])) _
          refine XS.iloadN X0.here hx rfl (Jvm.hb hby d_method_3_46) rfl ?_
          refine XS.bipush X0.here hx rfl (Jvm.hb hby d_method_3_47) ?_
          refine XS.iushr X0.here hx rfl (Jvm.hb hby d_method_3_49) rfl ?_
          refine XS.sipush X0.here hx rfl (Jvm.hb hby d_method_3_50) ?_
          refine XS.iand X0.here hx rfl (Jvm.hb hby d_method_3_53) rfl ?_
          refine XS.iloadN X0.here hx rfl (Jvm.hb hby d_method_3_54) rfl ?_
          show Steps p.tables e below (s₁.setTop (mkF m 55 #[.val (.int sx), .val (.int sy), .val (.int ((ushr sx (24 : Int32)) &&& (3 : Int32))), .val (.int ((ushr sy (24 : Int32)) &&& (3 : Int32)))] [(.int sy), (.int ((ushr sx (8 : Int32)) &&& (255 : Int32)))])) _
          refine XS.bipush X0.here hx rfl (Jvm.hb hby d_method_3_55) ?_
          refine XS.iushr X0.here hx rfl (Jvm.hb hby d_method_3_57) rfl ?_
          refine XS.sipush X0.here hx rfl (Jvm.hb hby d_method_3_58) ?_
          refine XS.iand X0.here hx rfl (Jvm.hb hby d_method_3_61) rfl ?_
          show Steps p.tables e below (s₁.setTop (mkF m 62 #[.val (.int sx), .val (.int sy), .val (.int ((ushr sx (24 : Int32)) &&& (3 : Int32))), .val (.int ((ushr sy (24 : Int32)) &&& (3 : Int32)))] [(.int ((ushr sy (8 : Int32)) &&& (255 : Int32))), (.int ((ushr sx (8 : Int32)) &&& (255 : Int32)))])) t_
          exact k_)
        by_cases h15 : ((ushr sx (8 : Int32)) &&& (255 : Int32)) = ((ushr sy (8 : Int32)) &&& (255 : Int32))
        · have s16 : ∀ t_, Steps p.tables e below (s₁.setTop (mkF m 69 #[.val (.int sx), .val (.int sy), .val (.int ((ushr sx (24 : Int32)) &&& (3 : Int32))), .val (.int ((ushr sy (24 : Int32)) &&& (3 : Int32)))] [(.int (3 : Int32)), (.int ((ushr sx (24 : Int32)) &&& (3 : Int32)))])) t_ → Steps p.tables e below (s₁.setTop (entryFrame m #[(.int sx), (.int sy)] 4)) t_ := fun t_ k_ => s14 t_ (by
            show Steps p.tables e below (s₁.setTop (mkF m 62 #[.val (.int sx), .val (.int sy), .val (.int ((ushr sx (24 : Int32)) &&& (3 : Int32))), .val (.int ((ushr sy (24 : Int32)) &&& (3 : Int32)))] [(.int ((ushr sy (8 : Int32)) &&& (255 : Int32))), (.int ((ushr sx (8 : Int32)) &&& (255 : Int32)))])) t_
            refine XS.icmpYes X0.here hx rfl (pc0 := 62) (pc' := 67) rfl (Jvm.hb hby d_method_3_62) rfl (teq h15).1 (by decide) (by decide) ?_
            show Steps p.tables e below (s₁.setTop (mkF m 67 #[.val (.int sx), .val (.int sy), .val (.int ((ushr sx (24 : Int32)) &&& (3 : Int32))), .val (.int ((ushr sy (24 : Int32)) &&& (3 : Int32)))] [])) _
            refine XS.iloadN X0.here hx rfl (Jvm.hb hby d_method_3_67) rfl ?_
            refine XS.iconst X0.here hx rfl (Jvm.hb hby d_method_3_68) ?_
            show Steps p.tables e below (s₁.setTop (mkF m 69 #[.val (.int sx), .val (.int sy), .val (.int ((ushr sx (24 : Int32)) &&& (3 : Int32))), .val (.int ((ushr sy (24 : Int32)) &&& (3 : Int32)))] [(.int (3 : Int32)), (.int ((ushr sx (24 : Int32)) &&& (3 : Int32)))])) t_
            exact k_)
          by_cases h17 : ((ushr sx (24 : Int32)) &&& (3 : Int32)) < (3 : Int32)
          · have s18 : ∀ t_, Steps p.tables e below (s₁.setTop (mkF m 94 #[.val (.int sx), .val (.int sy), .val (.int ((ushr sx (24 : Int32)) &&& (3 : Int32))), .val (.int ((ushr sy (24 : Int32)) &&& (3 : Int32)))] [(.int (1 : Int32))])) t_ → Steps p.tables e below (s₁.setTop (entryFrame m #[(.int sx), (.int sy)] 4)) t_ := fun t_ k_ => s16 t_ (by
              show Steps p.tables e below (s₁.setTop (mkF m 69 #[.val (.int sx), .val (.int sy), .val (.int ((ushr sx (24 : Int32)) &&& (3 : Int32))), .val (.int ((ushr sy (24 : Int32)) &&& (3 : Int32)))] [(.int (3 : Int32)), (.int ((ushr sx (24 : Int32)) &&& (3 : Int32)))])) t_
              refine XS.icmpYes X0.here hx rfl (pc0 := 69) (pc' := 93) rfl (Jvm.hb hby d_method_3_69) rfl (tlt h17).1 (by decide) (by decide) ?_
              show Steps p.tables e below (s₁.setTop (mkF m 93 #[.val (.int sx), .val (.int sy), .val (.int ((ushr sx (24 : Int32)) &&& (3 : Int32))), .val (.int ((ushr sy (24 : Int32)) &&& (3 : Int32)))] [])) _
              refine XS.iconst X0.here hx rfl (Jvm.hb hby d_method_3_93) ?_
              show Steps p.tables e below (s₁.setTop (mkF m 94 #[.val (.int sx), .val (.int sy), .val (.int ((ushr sx (24 : Int32)) &&& (3 : Int32))), .val (.int ((ushr sy (24 : Int32)) &&& (3 : Int32)))] [(.int (1 : Int32))])) t_
              exact k_)
            obtain ⟨fs, hr, hrun, hended, hW, hsame⟩ := X0.leave (v := some (.int (1 : Int32))) (fun h => by rw [Bd.returns] at h; cases h)
            refine ⟨_, _, s18 _ ?_, hrun, hended, _, _, rfl, ?_, ⟨_, rfl⟩, hW, hsame.mono (by decide) (by decide)⟩
            · show Steps p.tables e below (s₁.setTop (mkF m 94 #[.val (.int sx), .val (.int sy), .val (.int ((ushr sx (24 : Int32)) &&& (3 : Int32))), .val (.int ((ushr sy (24 : Int32)) &&& (3 : Int32)))] [(.int (1 : Int32))])) _
              exact retN X0 hx (t := .boolean) Bd.returns (by simp) (Jvm.hb hby d_method_3_94) hr
            · show Q_rmSame Z _ _ h0 n0 _ s₁.heap _
              rw [e0]
              exact ⟨(by rw [← own_streq sx sy, if_pos h2, if_pos h4, if_neg h6, if_pos h15, if_pos h17]), N0, rfl⟩
          · have s19 : ∀ t_, Steps p.tables e below (s₁.setTop (mkF m 88 #[.val (.int sx), .val (.int sy), .val (.int ((ushr sx (24 : Int32)) &&& (3 : Int32))), .val (.int ((ushr sy (24 : Int32)) &&& (3 : Int32)))] [(.int ((ushr sy (16 : Int32)) &&& (255 : Int32))), (.int ((ushr sx (16 : Int32)) &&& (255 : Int32)))])) t_ → Steps p.tables e below (s₁.setTop (entryFrame m #[(.int sx), (.int sy)] 4)) t_ := fun t_ k_ => s16 t_ (by
              show Steps p.tables e below (s₁.setTop (mkF m 69 #[.val (.int sx), .val (.int sy), .val (.int ((ushr sx (24 : Int32)) &&& (3 : Int32))), .val (.int ((ushr sy (24 : Int32)) &&& (3 : Int32)))] [(.int (3 : Int32)), (.int ((ushr sx (24 : Int32)) &&& (3 : Int32)))])) t_
              refine XS.icmpNo X0.here hx rfl (Jvm.hb hby d_method_3_69) rfl (flt h17).1 ?_
              show Steps p.tables e below (s₁.setTop (mkF m 72 #[.val (.int sx), .val (.int sy), .val (.int ((ushr sx (24 : Int32)) &&& (3 : Int32))), .val (.int ((ushr sy (24 : Int32)) &&& (3 : Int32)))] [])) _
              refine XS.iloadN X0.here hx rfl (Jvm.hb hby d_method_3_72) rfl ?_
              refine XS.bipush X0.here hx rfl (Jvm.hb hby d_method_3_73) ?_
              refine XS.iushr X0.here hx rfl (Jvm.hb hby d_method_3_75) rfl ?_
              refine XS.sipush X0.here hx rfl (Jvm.hb hby d_method_3_76) ?_
              refine XS.iand X0.here hx rfl (Jvm.hb hby d_method_3_79) rfl ?_
              refine XS.iloadN X0.here hx rfl (Jvm.hb hby d_method_3_80) rfl ?_
              show Steps p.tables e below (s₁.setTop (mkF m 81 #[.val (.int sx), .val (.int sy), .val (.int ((ushr sx (24 : Int32)) &&& (3 : Int32))), .val (.int ((ushr sy (24 : Int32)) &&& (3 : Int32)))] [(.int sy), (.int ((ushr sx (16 : Int32)) &&& (255 : Int32)))])) _
              refine XS.bipush X0.here hx rfl (Jvm.hb hby d_method_3_81) ?_
              refine XS.iushr X0.here hx rfl (Jvm.hb hby d_method_3_83) rfl ?_
              refine XS.sipush X0.here hx rfl (Jvm.hb hby d_method_3_84) ?_
              refine XS.iand X0.here hx rfl (Jvm.hb hby d_method_3_87) rfl ?_
              show Steps p.tables e below (s₁.setTop (mkF m 88 #[.val (.int sx), .val (.int sy), .val (.int ((ushr sx (24 : Int32)) &&& (3 : Int32))), .val (.int ((ushr sy (24 : Int32)) &&& (3 : Int32)))] [(.int ((ushr sy (16 : Int32)) &&& (255 : Int32))), (.int ((ushr sx (16 : Int32)) &&& (255 : Int32)))])) t_
              exact k_)
            by_cases h20 : ((ushr sx (16 : Int32)) &&& (255 : Int32)) = ((ushr sy (16 : Int32)) &&& (255 : Int32))
            · have s21 : ∀ t_, Steps p.tables e below (s₁.setTop (mkF m 94 #[.val (.int sx), .val (.int sy), .val (.int ((ushr sx (24 : Int32)) &&& (3 : Int32))), .val (.int ((ushr sy (24 : Int32)) &&& (3 : Int32)))] [(.int (1 : Int32))])) t_ → Steps p.tables e below (s₁.setTop (entryFrame m #[(.int sx), (.int sy)] 4)) t_ := fun t_ k_ => s19 t_ (by
                show Steps p.tables e below (s₁.setTop (mkF m 88 #[.val (.int sx), .val (.int sy), .val (.int ((ushr sx (24 : Int32)) &&& (3 : Int32))), .val (.int ((ushr sy (24 : Int32)) &&& (3 : Int32)))] [(.int ((ushr sy (16 : Int32)) &&& (255 : Int32))), (.int ((ushr sx (16 : Int32)) &&& (255 : Int32)))])) t_
                refine XS.icmpYes X0.here hx rfl (pc0 := 88) (pc' := 93) rfl (Jvm.hb hby d_method_3_88) rfl (teq h20).1 (by decide) (by decide) ?_
                show Steps p.tables e below (s₁.setTop (mkF m 93 #[.val (.int sx), .val (.int sy), .val (.int ((ushr sx (24 : Int32)) &&& (3 : Int32))), .val (.int ((ushr sy (24 : Int32)) &&& (3 : Int32)))] [])) _
                refine XS.iconst X0.here hx rfl (Jvm.hb hby d_method_3_93) ?_
                show Steps p.tables e below (s₁.setTop (mkF m 94 #[.val (.int sx), .val (.int sy), .val (.int ((ushr sx (24 : Int32)) &&& (3 : Int32))), .val (.int ((ushr sy (24 : Int32)) &&& (3 : Int32)))] [(.int (1 : Int32))])) t_
                exact k_)
              obtain ⟨fs, hr, hrun, hended, hW, hsame⟩ := X0.leave (v := some (.int (1 : Int32))) (fun h => by rw [Bd.returns] at h; cases h)
              refine ⟨_, _, s21 _ ?_, hrun, hended, _, _, rfl, ?_, ⟨_, rfl⟩, hW, hsame.mono (by decide) (by decide)⟩
              · show Steps p.tables e below (s₁.setTop (mkF m 94 #[.val (.int sx), .val (.int sy), .val (.int ((ushr sx (24 : Int32)) &&& (3 : Int32))), .val (.int ((ushr sy (24 : Int32)) &&& (3 : Int32)))] [(.int (1 : Int32))])) _
                exact retN X0 hx (t := .boolean) Bd.returns (by simp) (Jvm.hb hby d_method_3_94) hr
              · show Q_rmSame Z _ _ h0 n0 _ s₁.heap _
                rw [e0]
                exact ⟨(by rw [← own_streq sx sy, if_pos h2, if_pos h4, if_neg h6, if_pos h15, if_neg h17, if_pos h20]), N0, rfl⟩
            · have s22 : ∀ t_, Steps p.tables e below (s₁.setTop (mkF m 92 #[.val (.int sx), .val (.int sy), .val (.int ((ushr sx (24 : Int32)) &&& (3 : Int32))), .val (.int ((ushr sy (24 : Int32)) &&& (3 : Int32)))] [(.int (0 : Int32))])) t_ → Steps p.tables e below (s₁.setTop (entryFrame m #[(.int sx), (.int sy)] 4)) t_ := fun t_ k_ => s19 t_ (by
                show Steps p.tables e below (s₁.setTop (mkF m 88 #[.val (.int sx), .val (.int sy), .val (.int ((ushr sx (24 : Int32)) &&& (3 : Int32))), .val (.int ((ushr sy (24 : Int32)) &&& (3 : Int32)))] [(.int ((ushr sy (16 : Int32)) &&& (255 : Int32))), (.int ((ushr sx (16 : Int32)) &&& (255 : Int32)))])) t_
                refine XS.icmpNo X0.here hx rfl (Jvm.hb hby d_method_3_88) rfl (feq h20).1 ?_
                show Steps p.tables e below (s₁.setTop (mkF m 91 #[.val (.int sx), .val (.int sy), .val (.int ((ushr sx (24 : Int32)) &&& (3 : Int32))), .val (.int ((ushr sy (24 : Int32)) &&& (3 : Int32)))] [])) _
                refine XS.iconst X0.here hx rfl (Jvm.hb hby d_method_3_91) ?_
                show Steps p.tables e below (s₁.setTop (mkF m 92 #[.val (.int sx), .val (.int sy), .val (.int ((ushr sx (24 : Int32)) &&& (3 : Int32))), .val (.int ((ushr sy (24 : Int32)) &&& (3 : Int32)))] [(.int (0 : Int32))])) t_
                exact k_)
              obtain ⟨fs, hr, hrun, hended, hW, hsame⟩ := X0.leave (v := some (.int (0 : Int32))) (fun h => by rw [Bd.returns] at h; cases h)
              refine ⟨_, _, s22 _ ?_, hrun, hended, _, _, rfl, ?_, ⟨_, rfl⟩, hW, hsame.mono (by decide) (by decide)⟩
              · show Steps p.tables e below (s₁.setTop (mkF m 92 #[.val (.int sx), .val (.int sy), .val (.int ((ushr sx (24 : Int32)) &&& (3 : Int32))), .val (.int ((ushr sy (24 : Int32)) &&& (3 : Int32)))] [(.int (0 : Int32))])) _
                exact retN X0 hx (t := .boolean) Bd.returns (by simp) (Jvm.hb hby d_method_3_92) hr
              · show Q_rmSame Z _ _ h0 n0 _ s₁.heap _
                rw [e0]
                exact ⟨(by rw [← own_streq sx sy, if_pos h2, if_pos h4, if_neg h6, if_pos h15, if_neg h17, if_neg h20]), N0, rfl⟩
        · have s23 : ∀ t_, Steps p.tables e below (s₁.setTop (mkF m 66 #[.val (.int sx), .val (.int sy), .val (.int ((ushr sx (24 : Int32)) &&& (3 : Int32))), .val (.int ((ushr sy (24 : Int32)) &&& (3 : Int32)))] [(.int (0 : Int32))])) t_ → Steps p.tables e below (s₁.setTop (entryFrame m #[(.int sx), (.int sy)] 4)) t_ := fun t_ k_ => s14 t_ (by
            show Steps p.tables e below (s₁.setTop (mkF m 62 #[.val (.int sx), .val (.int sy), .val (.int ((ushr sx (24 : Int32)) &&& (3 : Int32))), .val (.int ((ushr sy (24 : Int32)) &&& (3 : Int32)))] [(.int ((ushr sy (8 : Int32)) &&& (255 : Int32))), (.int ((ushr sx (8 : Int32)) &&& (255 : Int32)))])) t_
            refine XS.icmpNo X0.here hx rfl (Jvm.hb hby d_method_3_62) rfl (feq h15).1 ?_
            show Steps p.tables e below (s₁.setTop (mkF m 65 #[.val (.int sx), .val (.int sy), .val (.int ((ushr sx (24 : Int32)) &&& (3 : Int32))), .val (.int ((ushr sy (24 : Int32)) &&& (3 : Int32)))] [])) _
            refine XS.iconst X0.here hx rfl (Jvm.hb hby d_method_3_65) ?_
            show Steps p.tables e below (s₁.setTop (mkF m 66 #[.val (.int sx), .val (.int sy), .val (.int ((ushr sx (24 : Int32)) &&& (3 : Int32))), .val (.int ((ushr sy (24 : Int32)) &&& (3 : Int32)))] [(.int (0 : Int32))])) t_
            exact k_)
          obtain ⟨fs, hr, hrun, hended, hW, hsame⟩ := X0.leave (v := some (.int (0 : Int32))) (fun h => by rw [Bd.returns] at h; cases h)
          refine ⟨_, _, s23 _ ?_, hrun, hended, _, _, rfl, ?_, ⟨_, rfl⟩, hW, hsame.mono (by decide) (by decide)⟩
          · show Steps p.tables e below (s₁.setTop (mkF m 66 #[.val (.int sx), .val (.int sy), .val (.int ((ushr sx (24 : Int32)) &&& (3 : Int32))), .val (.int ((ushr sy (24 : Int32)) &&& (3 : Int32)))] [(.int (0 : Int32))])) _
            exact retN X0 hx (t := .boolean) Bd.returns (by simp) (Jvm.hb hby d_method_3_66) hr
          · show Q_rmSame Z _ _ h0 n0 _ s₁.heap _
            rw [e0]
            exact ⟨(by rw [← own_streq sx sy, if_pos h2, if_pos h4, if_neg h6, if_neg h15]), N0, rfl⟩
    · have s24 : ∀ t_, Steps p.tables e below (s₁.setTop (mkF m 36 #[.val (.int sx), .val (.int sy), .val (.int ((ushr sx (24 : Int32)) &&& (3 : Int32))), .val (.int ((ushr sy (24 : Int32)) &&& (3 : Int32)))] [(.int (sy &&& (255 : Int32))), (.int (sx &&& (255 : Int32)))])) t_ → Steps p.tables e below (s₁.setTop (entryFrame m #[(.int sx), (.int sy)] 4)) t_ := fun t_ k_ => s3 t_ (by
        show Steps p.tables e below (s₁.setTop (mkF m 23 #[.val (.int sx), .val (.int sy), .val (.int ((ushr sx (24 : Int32)) &&& (3 : Int32))), .val (.int ((ushr sy (24 : Int32)) &&& (3 : Int32)))] [(.int (1 : Int32)), (.int ((ushr sx (24 : Int32)) &&& (3 : Int32)))])) t_
        refine XS.icmpNo X0.here hx rfl (Jvm.hb hby d_method_3_23) rfl (flt h4).1 ?_
        show Steps p.tables e below (s₁.setTop (mkF m 26 #[.val (.int sx), .val (.int sy), .val (.int ((ushr sx (24 : Int32)) &&& (3 : Int32))), .val (.int ((ushr sy (24 : Int32)) &&& (3 : Int32)))] [])) _
        refine XS.iloadN X0.here hx rfl (Jvm.hb hby d_method_3_26) rfl ?_
        refine XS.sipush X0.here hx rfl (Jvm.hb hby d_method_3_27) ?_
        refine XS.iand X0.here hx rfl (Jvm.hb hby d_method_3_30) rfl ?_
        refine XS.iloadN X0.here hx rfl (Jvm.hb hby d_method_3_31) rfl ?_
        refine XS.sipush X0.here hx rfl (Jvm.hb hby d_method_3_32) ?_
        refine XS.iand X0.here hx rfl (Jvm.hb hby d_method_3_35) rfl ?_
        show Steps p.tables e below (s₁.setTop (mkF m 36 #[.val (.int sx), .val (.int sy), .val (.int ((ushr sx (24 : Int32)) &&& (3 : Int32))), .val (.int ((ushr sy (24 : Int32)) &&& (3 : Int32)))] [(.int (sy &&& (255 : Int32))), (.int (sx &&& (255 : Int32)))])) _
        show Steps p.tables e below (s₁.setTop (mkF m 36 #[.val (.int sx), .val (.int sy), .val (.int ((ushr sx (24 : Int32)) &&& (3 : Int32))), .val (.int ((ushr sy (24 : Int32)) &&& (3 : Int32)))] [(.int (sy &&& (255 : Int32))), (.int (sx &&& (255 : Int32)))])) t_
        exact k_)
      by_cases h25 : (sx &&& (255 : Int32)) = (sy &&& (255 : Int32))
      · have s26 : ∀ t_, Steps p.tables e below (s₁.setTop (mkF m 43 #[.val (.int sx), .val (.int sy), .val (.int ((ushr sx (24 : Int32)) &&& (3 : Int32))), .val (.int ((ushr sy (24 : Int32)) &&& (3 : Int32)))] [(.int (2 : Int32)), (.int ((ushr sx (24 : Int32)) &&& (3 : Int32)))])) t_ → Steps p.tables e below (s₁.setTop (entryFrame m #[(.int sx), (.int sy)] 4)) t_ := fun t_ k_ => s24 t_ (by
          show Steps p.tables e below (s₁.setTop (mkF m 36 #[.val (.int sx), .val (.int sy), .val (.int ((ushr sx (24 : Int32)) &&& (3 : Int32))), .val (.int ((ushr sy (24 : Int32)) &&& (3 : Int32)))] [(.int (sy &&& (255 : Int32))), (.int (sx &&& (255 : Int32)))])) t_
          refine XS.icmpYes X0.here hx rfl (pc0 := 36) (pc' := 41) rfl (Jvm.hb hby d_method_3_36) rfl (teq h25).1 (by decide) (by decide) ?_
          show Steps p.tables e below (s₁.setTop (mkF m 41 #[.val (.int sx), .val (.int sy), .val (.int ((ushr sx (24 : Int32)) &&& (3 : Int32))), .val (.int ((ushr sy (24 : Int32)) &&& (3 : Int32)))] [])) _
          refine XS.iloadN X0.here hx rfl (Jvm.hb hby d_method_3_41) rfl ?_
          refine XS.iconst X0.here hx rfl (Jvm.hb hby d_method_3_42) ?_
          show Steps p.tables e below (s₁.setTop (mkF m 43 #[.val (.int sx), .val (.int sy), .val (.int ((ushr sx (24 : Int32)) &&& (3 : Int32))), .val (.int ((ushr sy (24 : Int32)) &&& (3 : Int32)))] [(.int (2 : Int32)), (.int ((ushr sx (24 : Int32)) &&& (3 : Int32)))])) t_
          exact k_)
        by_cases h27 : ((ushr sx (24 : Int32)) &&& (3 : Int32)) < (2 : Int32)
        · have s28 : ∀ t_, Steps p.tables e below (s₁.setTop (mkF m 69 #[.val (.int sx), .val (.int sy), .val (.int ((ushr sx (24 : Int32)) &&& (3 : Int32))), .val (.int ((ushr sy (24 : Int32)) &&& (3 : Int32)))] [(.int (3 : Int32)), (.int ((ushr sx (24 : Int32)) &&& (3 : Int32)))])) t_ → Steps p.tables e below (s₁.setTop (entryFrame m #[(.int sx), (.int sy)] 4)) t_ := fun t_ k_ => s26 t_ (by
            show Steps p.tables e below (s₁.setTop (mkF m 43 #[.val (.int sx), .val (.int sy), .val (.int ((ushr sx (24 : Int32)) &&& (3 : Int32))), .val (.int ((ushr sy (24 : Int32)) &&& (3 : Int32)))] [(.int (2 : Int32)), (.int ((ushr sx (24 : Int32)) &&& (3 : Int32)))])) t_
            refine XS.icmpYes X0.here hx rfl (pc0 := 43) (pc' := 67) rfl (Jvm.hb hby d_method_3_43) rfl (tlt h27).1 (by decide) (by decide) ?_
            show Steps p.tables e below (s₁.setTop (mkF m 67 #[.val (.int sx), .val (.int sy), .val (.int ((ushr sx (24 : Int32)) &&& (3 : Int32))), .val (.int ((ushr sy (24 : Int32)) &&& (3 : Int32)))] [])) _
            refine XS.iloadN X0.here hx rfl (Jvm.hb hby d_method_3_67) rfl ?_
            refine XS.iconst X0.here hx rfl (Jvm.hb hby d_method_3_68) ?_
            show Steps p.tables e below (s₁.setTop (mkF m 69 #[.val (.int sx), .val (.int sy), .val (.int ((ushr sx (24 : Int32)) &&& (3 : Int32))), .val (.int ((ushr sy (24 : Int32)) &&& (3 : Int32)))] [(.int (3 : Int32)), (.int ((ushr sx (24 : Int32)) &&& (3 : Int32)))])) t_
            exact k_)
          by_cases h29 : ((ushr sx (24 : Int32)) &&& (3 : Int32)) < (3 : Int32)
          · have s30 : ∀ t_, Steps p.tables e below (s₁.setTop (mkF m 94 #[.val (.int sx), .val (.int sy), .val (.int ((ushr sx (24 : Int32)) &&& (3 : Int32))), .val (.int ((ushr sy (24 : Int32)) &&& (3 : Int32)))] [(.int (1 : Int32))])) t_ → Steps p.tables e below (s₁.setTop (entryFrame m #[(.int sx), (.int sy)] 4)) t_ := fun t_ k_ => s28 t_ (by
              show Steps p.tables e below (s₁.setTop (mkF m 69 #[.val (.int sx), .val (.int sy), .val (.int ((ushr sx (24 : Int32)) &&& (3 : Int32))), .val (.int ((ushr sy (24 : Int32)) &&& (3 : Int32)))] [(.int (3 : Int32)), (.int ((ushr sx (24 : Int32)) &&& (3 : Int32)))])) t_
              refine XS.icmpYes X0.here hx rfl (pc0 := 69) (pc' := 93) rfl (Jvm.hb hby d_method_3_69) rfl (tlt h29).1 (by decide) (by decide) ?_
              show Steps p.tables e below (s₁.setTop (mkF m 93 #[.val (.int sx), .val (.int sy), .val (.int ((ushr sx (24 : Int32)) &&& (3 : Int32))), .val (.int ((ushr sy (24 : Int32)) &&& (3 : Int32)))] [])) _
              refine XS.iconst X0.here hx rfl (Jvm.hb hby d_method_3_93) ?_
              show Steps p.tables e below (s₁.setTop (mkF m 94 #[.val (.int sx), .val (.int sy), .val (.int ((ushr sx (24 : Int32)) &&& (3 : Int32))), .val (.int ((ushr sy (24 : Int32)) &&& (3 : Int32)))] [(.int (1 : Int32))])) t_
              exact k_)
            obtain ⟨fs, hr, hrun, hended, hW, hsame⟩ := X0.leave (v := some (.int (1 : Int32))) (fun h => by rw [Bd.returns] at h; cases h)
            refine ⟨_, _, s30 _ ?_, hrun, hended, _, _, rfl, ?_, ⟨_, rfl⟩, hW, hsame.mono (by decide) (by decide)⟩
            · show Steps p.tables e below (s₁.setTop (mkF m 94 #[.val (.int sx), .val (.int sy), .val (.int ((ushr sx (24 : Int32)) &&& (3 : Int32))), .val (.int ((ushr sy (24 : Int32)) &&& (3 : Int32)))] [(.int (1 : Int32))])) _
              exact retN X0 hx (t := .boolean) Bd.returns (by simp) (Jvm.hb hby d_method_3_94) hr
            · show Q_rmSame Z _ _ h0 n0 _ s₁.heap _
              rw [e0]
              exact ⟨(by rw [← own_streq sx sy, if_pos h2, if_neg h4, if_pos h25, if_pos h27, if_pos h29]), N0, rfl⟩
          · have s31 : ∀ t_, Steps p.tables e below (s₁.setTop (mkF m 88 #[.val (.int sx), .val (.int sy), .val (.int ((ushr sx (24 : Int32)) &&& (3 : Int32))), .val (.int ((ushr sy (24 : Int32)) &&& (3 : Int32)))] [(.int ((ushr sy (16 : Int32)) &&& (255 : Int32))), (.int ((ushr sx (16 : Int32)) &&& (255 : Int32)))])) t_ → Steps p.tables e below (s₁.setTop (entryFrame m #[(.int sx), (.int sy)] 4)) t_ := fun t_ k_ => s28 t_ (by
              show Steps p.tables e below (s₁.setTop (mkF m 69 #[.val (.int sx), .val (.int sy), .val (.int ((ushr sx (24 : Int32)) &&& (3 : Int32))), .val (.int ((ushr sy (24 : Int32)) &&& (3 : Int32)))] [(.int (3 : Int32)), (.int ((ushr sx (24 : Int32)) &&& (3 : Int32)))])) t_
              refine XS.icmpNo X0.here hx rfl (Jvm.hb hby d_method_3_69) rfl (flt h29).1 ?_
              show Steps p.tables e below (s₁.setTop (mkF m 72 #[.val (.int sx), .val (.int sy), .val (.int ((ushr sx (24 : Int32)) &&& (3 : Int32))), .val (.int ((ushr sy (24 : Int32)) &&& (3 : Int32)))] [])) _
              refine XS.iloadN X0.here hx rfl (Jvm.hb hby d_method_3_72) rfl ?_
              refine XS.bipush X0.here hx rfl (Jvm.hb hby d_method_3_73) ?_
              refine XS.iushr X0.here hx rfl (Jvm.hb hby d_method_3_75) rfl ?_
              refine XS.sipush X0.here hx rfl (Jvm.hb hby d_method_3_76) ?_
              refine XS.iand X0.here hx rfl (Jvm.hb hby d_method_3_79) rfl ?_
              refine XS.iloadN X0.here hx rfl (Jvm.hb hby d_method_3_80) rfl ?_
              show Steps p.tables e below (s₁.setTop (mkF m 81 #[.val (.int sx), .val (.int sy), .val (.int ((ushr sx (24 : Int32)) &&& (3 : Int32))), .val (.int ((ushr sy (24 : Int32)) &&& (3 : Int32)))] [(.int sy), (.int ((ushr sx (16 : Int32)) &&& (255 : Int32)))])) _
              refine XS.bipush X0.here hx rfl (Jvm.hb hby d_method_3_81) ?_
              refine XS.iushr X0.here hx rfl (Jvm.hb hby d_method_3_83) rfl ?_
              refine XS.sipush X0.here hx rfl (Jvm.hb hby d_method_3_84) ?_
              refine XS.iand X0.here hx rfl (Jvm.hb hby d_method_3_87) rfl ?_
              show Steps p.tables e below (s₁.setTop (mkF m 88 #[.val (.int sx), .val (.int sy), .val (.int ((ushr sx (24 : Int32)) &&& (3 : Int32))), .val (.int ((ushr sy (24 : Int32)) &&& (3 : Int32)))] [(.int ((ushr sy (16 : Int32)) &&& (255 : Int32))), (.int ((ushr sx (16 : Int32)) &&& (255 : Int32)))])) t_
              exact k_)
            by_cases h32 : ((ushr sx (16 : Int32)) &&& (255 : Int32)) = ((ushr sy (16 : Int32)) &&& (255 : Int32))
            · have s33 : ∀ t_, Steps p.tables e below (s₁.setTop (mkF m 94 #[.val (.int sx), .val (.int sy), .val (.int ((ushr sx (24 : Int32)) &&& (3 : Int32))), .val (.int ((ushr sy (24 : Int32)) &&& (3 : Int32)))] [(.int (1 : Int32))])) t_ → Steps p.tables e below (s₁.setTop (entryFrame m #[(.int sx), (.int sy)] 4)) t_ := fun t_ k_ => s31 t_ (by
                show Steps p.tables e below (s₁.setTop (mkF m 88 #[.val (.int sx), .val (.int sy), .val (.int ((ushr sx (24 : Int32)) &&& (3 : Int32))), .val (.int ((ushr sy (24 : Int32)) &&& (3 : Int32)))] [(.int ((ushr sy (16 : Int32)) &&& (255 : Int32))), (.int ((ushr sx (16 : Int32)) &&& (255 : Int32)))])) t_
                refine XS.icmpYes X0.here hx rfl (pc0 := 88) (pc' := 93) rfl (Jvm.hb hby d_method_3_88) rfl (teq h32).1 (by decide) (by decide) ?_
                show Steps p.tables e below (s₁.setTop (mkF m 93 #[.val (.int sx), .val (.int sy), .val (.int ((ushr sx (24 : Int32)) &&& (3 : Int32))), .val (.int ((ushr sy (24 : Int32)) &&& (3 : Int32)))] [])) _
                refine XS.iconst X0.here hx rfl (Jvm.hb hby d_method_3_93) ?_
                show Steps p.tables e below (s₁.setTop (mkF m 94 #[.val (.int sx), .val (.int sy), .val (.int ((ushr sx (24 : Int32)) &&& (3 : Int32))), .val (.int ((ushr sy (24 : Int32)) &&& (3 : Int32)))] [(.int (1 : Int32))])) t_
                exact k_)
              obtain ⟨fs, hr, hrun, hended, hW, hsame⟩ := X0.leave (v := some (.int (1 : Int32))) (fun h => by rw [Bd.returns] at h; cases h)
              refine ⟨_, _, s33 _ ?_, hrun, hended, _, _, rfl, ?_, ⟨_, rfl⟩, hW, hsame.mono (by decide) (by decide)⟩
              · show Steps p.tables e below (s₁.setTop (mkF m 94 #[.val (.int sx), .val (.int sy), .val (.int ((ushr sx (24 : Int32)) &&& (3 : Int32))), .val (.int ((ushr sy (24 : Int32)) &&& (3 : Int32)))] [(.int (1 : Int32))])) _
                exact retN X0 hx (t := .boolean) Bd.returns (by simp) (Jvm.hb hby d_method_3_94) hr
              · show Q_rmSame Z _ _ h0 n0 _ s₁.heap _
                rw [e0]
                exact ⟨(by rw [← own_streq sx sy, if_pos h2, if_neg h4, if_pos h25, if_pos h27, if_neg h29, if_pos h32]), N0, rfl⟩
            · have s34 : ∀ t_, Steps p.tables e below (s₁.setTop (mkF m 92 #[.val (.int sx), .val (.int sy), .val (.int ((ushr sx (24 : Int32)) &&& (3 : Int32))), .val (.int ((ushr sy (24 : Int32)) &&& (3 : Int32)))] [(.int (0 : Int32))])) t_ → Steps p.tables e below (s₁.setTop (entryFrame m #[(.int sx), (.int sy)] 4)) t_ := fun t_ k_ => s31 t_ (by
                show Steps p.tables e below (s₁.setTop (mkF m 88 #[.val (.int sx), .val (.int sy), .val (.int ((ushr sx (24 : Int32)) &&& (3 : Int32))), .val (.int ((ushr sy (24 : Int32)) &&& (3 : Int32)))] [(.int ((ushr sy (16 : Int32)) &&& (255 : Int32))), (.int ((ushr sx (16 : Int32)) &&& (255 : Int32)))])) t_
                refine XS.icmpNo X0.here hx rfl (Jvm.hb hby d_method_3_88) rfl (feq h32).1 ?_
                show Steps p.tables e below (s₁.setTop (mkF m 91 #[.val (.int sx), .val (.int sy), .val (.int ((ushr sx (24 : Int32)) &&& (3 : Int32))), .val (.int ((ushr sy (24 : Int32)) &&& (3 : Int32)))] [])) _
                refine XS.iconst X0.here hx rfl (Jvm.hb hby d_method_3_91) ?_
                show Steps p.tables e below (s₁.setTop (mkF m 92 #[.val (.int sx), .val (.int sy), .val (.int ((ushr sx (24 : Int32)) &&& (3 : Int32))), .val (.int ((ushr sy (24 : Int32)) &&& (3 : Int32)))] [(.int (0 : Int32))])) t_
                exact k_)
              obtain ⟨fs, hr, hrun, hended, hW, hsame⟩ := X0.leave (v := some (.int (0 : Int32))) (fun h => by rw [Bd.returns] at h; cases h)
              refine ⟨_, _, s34 _ ?_, hrun, hended, _, _, rfl, ?_, ⟨_, rfl⟩, hW, hsame.mono (by decide) (by decide)⟩
              · show Steps p.tables e below (s₁.setTop (mkF m 92 #[.val (.int sx), .val (.int sy), .val (.int ((ushr sx (24 : Int32)) &&& (3 : Int32))), .val (.int ((ushr sy (24 : Int32)) &&& (3 : Int32)))] [(.int (0 : Int32))])) _
                exact retN X0 hx (t := .boolean) Bd.returns (by simp) (Jvm.hb hby d_method_3_92) hr
              · show Q_rmSame Z _ _ h0 n0 _ s₁.heap _
                rw [e0]
                exact ⟨(by rw [← own_streq sx sy, if_pos h2, if_neg h4, if_pos h25, if_pos h27, if_neg h29, if_neg h32]), N0, rfl⟩
        · have s35 : ∀ t_, Steps p.tables e below (s₁.setTop (mkF m 62 #[.val (.int sx), .val (.int sy), .val (.int ((ushr sx (24 : Int32)) &&& (3 : Int32))), .val (.int ((ushr sy (24 : Int32)) &&& (3 : Int32)))] [(.int ((ushr sy (8 : Int32)) &&& (255 : Int32))), (.int ((ushr sx (8 : Int32)) &&& (255 : Int32)))])) t_ → Steps p.tables e below (s₁.setTop (entryFrame m #[(.int sx), (.int sy)] 4)) t_ := fun t_ k_ => s26 t_ (by
            show Steps p.tables e below (s₁.setTop (mkF m 43 #[.val (.int sx), .val (.int sy), .val (.int ((ushr sx (24 : Int32)) &&& (3 : Int32))), .val (.int ((ushr sy (24 : Int32)) &&& (3 : Int32)))] [(.int (2 : Int32)), (.int ((ushr sx (24 : Int32)) &&& (3 : Int32)))])) t_
            refine XS.icmpNo X0.here hx rfl (Jvm.hb hby d_method_3_43) rfl (flt h27).1 ?_
            show Steps p.tables e below (s₁.setTop (mkF m 46 #[.val (.int sx), .val (.int sy), .val (.int ((ushr sx (24 : Int32)) &&& (3 : Int32))), .val (.int ((ushr sy (24 : Int32)) &&& (3 : Int32)))] [])) _
            refine XS.iloadN X0.here hx rfl (Jvm.hb hby d_method_3_46) rfl ?_
            refine XS.bipush X0.here hx rfl (Jvm.hb hby d_method_3_47) ?_
            refine XS.iushr X0.here hx rfl (Jvm.hb hby d_method_3_49) rfl ?_
            refine XS.sipush X0.here hx rfl (Jvm.hb hby d_method_3_50) ?_
            refine XS.iand X0.here hx rfl (Jvm.hb hby d_method_3_53) rfl ?_
            refine XS.iloadN X0.here hx rfl (Jvm.hb hby d_method_3_54) rfl ?_
            show Steps p.tables e below (s₁.setTop (mkF m 55 #[.val (.int sx), .val (.int sy), .val (.int ((ushr sx (24 : Int32)) &&& (3 : Int32))), .val (.int ((ushr sy (24 : Int32)) &&& (3 : Int32)))] [(.int sy), (.int ((ushr sx (8 : Int32)) &&& (255 : Int32)))])) _
            refine XS.bipush X0.here hx rfl (Jvm.hb hby d_method_3_55) ?_
            refine XS.iushr X0.here hx rfl (Jvm.hb hby d_method_3_57) rfl ?_
            refine XS.sipush X0.here hx rfl (Jvm.hb hby d_method_3_58) ?_
            refine XS.iand X0.here hx rfl (Jvm.hb hby d_method_3_61) rfl ?_
            show Steps p.tables e below (s₁.setTop (mkF m 62 #[.val (.int sx), .val (.int sy), .val (.int ((ushr sx (24 : Int32)) &&& (3 : Int32))), .val (.int ((ushr sy (24 : Int32)) &&& (3 : Int32)))] [(.int ((ushr sy (8 : Int32)) &&& (255 : Int32))), (.int ((ushr sx (8 : Int32)) &&& (255 : Int32)))])) t_
            exact k_)
          by_cases h36 : ((ushr sx (8 : Int32)) &&& (255 : Int32)) = ((ushr sy (8 : Int32)) &&& (255 : Int32))
          · have s37 : ∀ t_, Steps p.tables e below (s₁.setTop (mkF m 69 #[.val (.int sx), .val (.int sy), .val (.int ((ushr sx (24 : Int32)) &&& (3 : Int32))), .val (.int ((ushr sy (24 : Int32)) &&& (3 : Int32)))] [(.int (3 : Int32)), (.int ((ushr sx (24 : Int32)) &&& (3 : Int32)))])) t_ → Steps p.tables e below (s₁.setTop (entryFrame m #[(.int sx), (.int sy)] 4)) t_ := fun t_ k_ => s35 t_ (by
              show Steps p.tables e below (s₁.setTop (mkF m 62 #[.val (.int sx), .val (.int sy), .val (.int ((ushr sx (24 : Int32)) &&& (3 : Int32))), .val (.int ((ushr sy (24 : Int32)) &&& (3 : Int32)))] [(.int ((ushr sy (8 : Int32)) &&& (255 : Int32))), (.int ((ushr sx (8 : Int32)) &&& (255 : Int32)))])) t_
              refine XS.icmpYes X0.here hx rfl (pc0 := 62) (pc' := 67) rfl (Jvm.hb hby d_method_3_62) rfl (teq h36).1 (by decide) (by decide) ?_
              show Steps p.tables e below (s₁.setTop (mkF m 67 #[.val (.int sx), .val (.int sy), .val (.int ((ushr sx (24 : Int32)) &&& (3 : Int32))), .val (.int ((ushr sy (24 : Int32)) &&& (3 : Int32)))] [])) _
              refine XS.iloadN X0.here hx rfl (Jvm.hb hby d_method_3_67) rfl ?_
              refine XS.iconst X0.here hx rfl (Jvm.hb hby d_method_3_68) ?_
              show Steps p.tables e below (s₁.setTop (mkF m 69 #[.val (.int sx), .val (.int sy), .val (.int ((ushr sx (24 : Int32)) &&& (3 : Int32))), .val (.int ((ushr sy (24 : Int32)) &&& (3 : Int32)))] [(.int (3 : Int32)), (.int ((ushr sx (24 : Int32)) &&& (3 : Int32)))])) t_
              exact k_)
            by_cases h38 : ((ushr sx (24 : Int32)) &&& (3 : Int32)) < (3 : Int32)
            · have s39 : ∀ t_, Steps p.tables e below (s₁.setTop (mkF m 94 #[.val (.int sx), .val (.int sy), .val (.int ((ushr sx (24 : Int32)) &&& (3 : Int32))), .val (.int ((ushr sy (24 : Int32)) &&& (3 : Int32)))] [(.int (1 : Int32))])) t_ → Steps p.tables e below (s₁.setTop (entryFrame m #[(.int sx), (.int sy)] 4)) t_ := fun t_ k_ => s37 t_ (by
                show Steps p.tables e below (s₁.setTop (mkF m 69 #[.val (.int sx), .val (.int sy), .val (.int ((ushr sx (24 : Int32)) &&& (3 : Int32))), .val (.int ((ushr sy (24 : Int32)) &&& (3 : Int32)))] [(.int (3 : Int32)), (.int ((ushr sx (24 : Int32)) &&& (3 : Int32)))])) t_
                refine XS.icmpYes X0.here hx rfl (pc0 := 69) (pc' := 93) rfl (Jvm.hb hby d_method_3_69) rfl (tlt h38).1 (by decide) (by decide) ?_
                show Steps p.tables e below (s₁.setTop (mkF m 93 #[.val (.int sx), .val (.int sy), .val (.int ((ushr sx (24 : Int32)) &&& (3 : Int32))), .val (.int ((ushr sy (24 : Int32)) &&& (3 : Int32)))] [])) _
                refine XS.iconst X0.here hx rfl (Jvm.hb hby d_method_3_93) ?_
                show Steps p.tables e below (s₁.setTop (mkF m 94 #[.val (.int sx), .val (.int sy), .val (.int ((ushr sx (24 : Int32)) &&& (3 : Int32))), .val (.int ((ushr sy (24 : Int32)) &&& (3 : Int32)))] [(.int (1 : Int32))])) t_
                exact k_)
              obtain ⟨fs, hr, hrun, hended, hW, hsame⟩ := X0.leave (v := some (.int (1 : Int32))) (fun h => by rw [Bd.returns] at h; cases h)
              refine ⟨_, _, s39 _ ?_, hrun, hended, _, _, rfl, ?_, ⟨_, rfl⟩, hW, hsame.mono (by decide) (by decide)⟩
              · show Steps p.tables e below (s₁.setTop (mkF m 94 #[.val (.int sx), .val (.int sy), .val (.int ((ushr sx (24 : Int32)) &&& (3 : Int32))), .val (.int ((ushr sy (24 : Int32)) &&& (3 : Int32)))] [(.int (1 : Int32))])) _
                exact retN X0 hx (t := .boolean) Bd.returns (by simp) (Jvm.hb hby d_method_3_94) hr
              · show Q_rmSame Z _ _ h0 n0 _ s₁.heap _
                rw [e0]
                exact ⟨(by rw [← own_streq sx sy, if_pos h2, if_neg h4, if_pos h25, if_neg h27, if_pos h36, if_pos h38]), N0, rfl⟩
            · have s40 : ∀ t_, Steps p.tables e below (s₁.setTop (mkF m 88 #[.val (.int sx), .val (.int sy), .val (.int ((ushr sx (24 : Int32)) &&& (3 : Int32))), .val (.int ((ushr sy (24 : Int32)) &&& (3 : Int32)))] [(.int ((ushr sy (16 : Int32)) &&& (255 : Int32))), (.int ((ushr sx (16 : Int32)) &&& (255 : Int32)))])) t_ → Steps p.tables e below (s₁.setTop (entryFrame m #[(.int sx), (.int sy)] 4)) t_ := fun t_ k_ => s37 t_ (by
                show Steps p.tables e below (s₁.setTop (mkF m 69 #[.val (.int sx), .val (.int sy), .val (.int ((ushr sx (24 : Int32)) &&& (3 : Int32))), .val (.int ((ushr sy (24 : Int32)) &&& (3 : Int32)))] [(.int (3 : Int32)), (.int ((ushr sx (24 : Int32)) &&& (3 : Int32)))])) t_
                refine XS.icmpNo X0.here hx rfl (Jvm.hb hby d_method_3_69) rfl (flt h38).1 ?_
                show Steps p.tables e below (s₁.setTop (mkF m 72 #[.val (.int sx), .val (.int sy), .val (.int ((ushr sx (24 : Int32)) &&& (3 : Int32))), .val (.int ((ushr sy (24 : Int32)) &&& (3 : Int32)))] [])) _
                refine XS.iloadN X0.here hx rfl (Jvm.hb hby d_method_3_72) rfl ?_
                refine XS.bipush X0.here hx rfl (Jvm.hb hby d_method_3_73) ?_
                refine XS.iushr X0.here hx rfl (Jvm.hb hby d_method_3_75) rfl ?_
                refine XS.sipush X0.here hx rfl (Jvm.hb hby d_method_3_76) ?_
                refine XS.iand X0.here hx rfl (Jvm.hb hby d_method_3_79) rfl ?_
                refine XS.iloadN X0.here hx rfl (Jvm.hb hby d_method_3_80) rfl ?_
                show Steps p.tables e below (s₁.setTop (mkF m 81 #[.val (.int sx), .val (.int sy), .val (.int ((ushr sx (24 : Int32)) &&& (3 : Int32))), .val (.int ((ushr sy (24 : Int32)) &&& (3 : Int32)))] [(.int sy), (.int ((ushr sx (16 : Int32)) &&& (255 : Int32)))])) _
                refine XS.bipush X0.here hx rfl (Jvm.hb hby d_method_3_81) ?_
                refine XS.iushr X0.here hx rfl (Jvm.hb hby d_method_3_83) rfl ?_
                refine XS.sipush X0.here hx rfl (Jvm.hb hby d_method_3_84) ?_
                refine XS.iand X0.here hx rfl (Jvm.hb hby d_method_3_87) rfl ?_
                show Steps p.tables e below (s₁.setTop (mkF m 88 #[.val (.int sx), .val (.int sy), .val (.int ((ushr sx (24 : Int32)) &&& (3 : Int32))), .val (.int ((ushr sy (24 : Int32)) &&& (3 : Int32)))] [(.int ((ushr sy (16 : Int32)) &&& (255 : Int32))), (.int ((ushr sx (16 : Int32)) &&& (255 : Int32)))])) t_
                exact k_)
              by_cases h41 : ((ushr sx (16 : Int32)) &&& (255 : Int32)) = ((ushr sy (16 : Int32)) &&& (255 : Int32))
              · have s42 : ∀ t_, Steps p.tables e below (s₁.setTop (mkF m 94 #[.val (.int sx), .val (.int sy), .val (.int ((ushr sx (24 : Int32)) &&& (3 : Int32))), .val (.int ((ushr sy (24 : Int32)) &&& (3 : Int32)))] [(.int (1 : Int32))])) t_ → Steps p.tables e below (s₁.setTop (entryFrame m #[(.int sx), (.int sy)] 4)) t_ := fun t_ k_ => s40 t_ (by
                  show Steps p.tables e below (s₁.setTop (mkF m 88 #[.val (.int sx), .val (.int sy), .val (.int ((ushr sx (24 : Int32)) &&& (3 : Int32))), .val (.int ((ushr sy (24 : Int32)) &&& (3 : Int32)))] [(.int ((ushr sy (16 : Int32)) &&& (255 : Int32))), (.int ((ushr sx (16 : Int32)) &&& (255 : Int32)))])) t_
                  refine XS.icmpYes X0.here hx rfl (pc0 := 88) (pc' := 93) rfl (Jvm.hb hby d_method_3_88) rfl (teq h41).1 (by decide) (by decide) ?_
                  show Steps p.tables e below (s₁.setTop (mkF m 93 #[.val (.int sx), .val (.int sy), .val (.int ((ushr sx (24 : Int32)) &&& (3 : Int32))), .val (.int ((ushr sy (24 : Int32)) &&& (3 : Int32)))] [])) _
                  refine XS.iconst X0.here hx rfl (Jvm.hb hby d_method_3_93) ?_
                  show Steps p.tables e below (s₁.setTop (mkF m 94 #[.val (.int sx), .val (.int sy), .val (.int ((ushr sx (24 : Int32)) &&& (3 : Int32))), .val (.int ((ushr sy (24 : Int32)) &&& (3 : Int32)))] [(.int (1 : Int32))])) t_
                  exact k_)
                obtain ⟨fs, hr, hrun, hended, hW, hsame⟩ := X0.leave (v := some (.int (1 : Int32))) (fun h => by rw [Bd.returns] at h; cases h)
                refine ⟨_, _, s42 _ ?_, hrun, hended, _, _, rfl, ?_, ⟨_, rfl⟩, hW, hsame.mono (by decide) (by decide)⟩
                · show Steps p.tables e below (s₁.setTop (mkF m 94 #[.val (.int sx), .val (.int sy), .val (.int ((ushr sx (24 : Int32)) &&& (3 : Int32))), .val (.int ((ushr sy (24 : Int32)) &&& (3 : Int32)))] [(.int (1 : Int32))])) _
                  exact retN X0 hx (t := .boolean) Bd.returns (by simp) (Jvm.hb hby d_method_3_94) hr
                · show Q_rmSame Z _ _ h0 n0 _ s₁.heap _
                  rw [e0]
                  exact ⟨(by rw [← own_streq sx sy, if_pos h2, if_neg h4, if_pos h25, if_neg h27, if_pos h36, if_neg h38, if_pos h41]), N0, rfl⟩
              · have s43 : ∀ t_, Steps p.tables e below (s₁.setTop (mkF m 92 #[.val (.int sx), .val (.int sy), .val (.int ((ushr sx (24 : Int32)) &&& (3 : Int32))), .val (.int ((ushr sy (24 : Int32)) &&& (3 : Int32)))] [(.int (0 : Int32))])) t_ → Steps p.tables e below (s₁.setTop (entryFrame m #[(.int sx), (.int sy)] 4)) t_ := fun t_ k_ => s40 t_ (by
                  show Steps p.tables e below (s₁.setTop (mkF m 88 #[.val (.int sx), .val (.int sy), .val (.int ((ushr sx (24 : Int32)) &&& (3 : Int32))), .val (.int ((ushr sy (24 : Int32)) &&& (3 : Int32)))] [(.int ((ushr sy (16 : Int32)) &&& (255 : Int32))), (.int ((ushr sx (16 : Int32)) &&& (255 : Int32)))])) t_
                  refine XS.icmpNo X0.here hx rfl (Jvm.hb hby d_method_3_88) rfl (feq h41).1 ?_
                  show Steps p.tables e below (s₁.setTop (mkF m 91 #[.val (.int sx), .val (.int sy), .val (.int ((ushr sx (24 : Int32)) &&& (3 : Int32))), .val (.int ((ushr sy (24 : Int32)) &&& (3 : Int32)))] [])) _
                  refine XS.iconst X0.here hx rfl (Jvm.hb hby d_method_3_91) ?_
                  show Steps p.tables e below (s₁.setTop (mkF m 92 #[.val (.int sx), .val (.int sy), .val (.int ((ushr sx (24 : Int32)) &&& (3 : Int32))), .val (.int ((ushr sy (24 : Int32)) &&& (3 : Int32)))] [(.int (0 : Int32))])) t_
                  exact k_)
                obtain ⟨fs, hr, hrun, hended, hW, hsame⟩ := X0.leave (v := some (.int (0 : Int32))) (fun h => by rw [Bd.returns] at h; cases h)
                refine ⟨_, _, s43 _ ?_, hrun, hended, _, _, rfl, ?_, ⟨_, rfl⟩, hW, hsame.mono (by decide) (by decide)⟩
                · show Steps p.tables e below (s₁.setTop (mkF m 92 #[.val (.int sx), .val (.int sy), .val (.int ((ushr sx (24 : Int32)) &&& (3 : Int32))), .val (.int ((ushr sy (24 : Int32)) &&& (3 : Int32)))] [(.int (0 : Int32))])) _
                  exact retN X0 hx (t := .boolean) Bd.returns (by simp) (Jvm.hb hby d_method_3_92) hr
                · show Q_rmSame Z _ _ h0 n0 _ s₁.heap _
                  rw [e0]
                  exact ⟨(by rw [← own_streq sx sy, if_pos h2, if_neg h4, if_pos h25, if_neg h27, if_pos h36, if_neg h38, if_neg h41]), N0, rfl⟩
          · have s44 : ∀ t_, Steps p.tables e below (s₁.setTop (mkF m 66 #[.val (.int sx), .val (.int sy), .val (.int ((ushr sx (24 : Int32)) &&& (3 : Int32))), .val (.int ((ushr sy (24 : Int32)) &&& (3 : Int32)))] [(.int (0 : Int32))])) t_ → Steps p.tables e below (s₁.setTop (entryFrame m #[(.int sx), (.int sy)] 4)) t_ := fun t_ k_ => s35 t_ (by
              show Steps p.tables e below (s₁.setTop (mkF m 62 #[.val (.int sx), .val (.int sy), .val (.int ((ushr sx (24 : Int32)) &&& (3 : Int32))), .val (.int ((ushr sy (24 : Int32)) &&& (3 : Int32)))] [(.int ((ushr sy (8 : Int32)) &&& (255 : Int32))), (.int ((ushr sx (8 : Int32)) &&& (255 : Int32)))])) t_
              refine XS.icmpNo X0.here hx rfl (Jvm.hb hby d_method_3_62) rfl (feq h36).1 ?_
              show Steps p.tables e below (s₁.setTop (mkF m 65 #[.val (.int sx), .val (.int sy), .val (.int ((ushr sx (24 : Int32)) &&& (3 : Int32))), .val (.int ((ushr sy (24 : Int32)) &&& (3 : Int32)))] [])) _
              refine XS.iconst X0.here hx rfl (Jvm.hb hby d_method_3_65) ?_
              show Steps p.tables e below (s₁.setTop (mkF m 66 #[.val (.int sx), .val (.int sy), .val (.int ((ushr sx (24 : Int32)) &&& (3 : Int32))), .val (.int ((ushr sy (24 : Int32)) &&& (3 : Int32)))] [(.int (0 : Int32))])) t_
              exact k_)
            obtain ⟨fs, hr, hrun, hended, hW, hsame⟩ := X0.leave (v := some (.int (0 : Int32))) (fun h => by rw [Bd.returns] at h; cases h)
            refine ⟨_, _, s44 _ ?_, hrun, hended, _, _, rfl, ?_, ⟨_, rfl⟩, hW, hsame.mono (by decide) (by decide)⟩
            · show Steps p.tables e below (s₁.setTop (mkF m 66 #[.val (.int sx), .val (.int sy), .val (.int ((ushr sx (24 : Int32)) &&& (3 : Int32))), .val (.int ((ushr sy (24 : Int32)) &&& (3 : Int32)))] [(.int (0 : Int32))])) _
              exact retN X0 hx (t := .boolean) Bd.returns (by simp) (Jvm.hb hby d_method_3_66) hr
            · show Q_rmSame Z _ _ h0 n0 _ s₁.heap _
              rw [e0]
              exact ⟨(by rw [← own_streq sx sy, if_pos h2, if_neg h4, if_pos h25, if_neg h27, if_neg h36]), N0, rfl⟩
      · have s45 : ∀ t_, Steps p.tables e below (s₁.setTop (mkF m 40 #[.val (.int sx), .val (.int sy), .val (.int ((ushr sx (24 : Int32)) &&& (3 : Int32))), .val (.int ((ushr sy (24 : Int32)) &&& (3 : Int32)))] [(.int (0 : Int32))])) t_ → Steps p.tables e below (s₁.setTop (entryFrame m #[(.int sx), (.int sy)] 4)) t_ := fun t_ k_ => s24 t_ (by
          show Steps p.tables e below (s₁.setTop (mkF m 36 #[.val (.int sx), .val (.int sy), .val (.int ((ushr sx (24 : Int32)) &&& (3 : Int32))), .val (.int ((ushr sy (24 : Int32)) &&& (3 : Int32)))] [(.int (sy &&& (255 : Int32))), (.int (sx &&& (255 : Int32)))])) t_
          refine XS.icmpNo X0.here hx rfl (Jvm.hb hby d_method_3_36) rfl (feq h25).1 ?_
          show Steps p.tables e below (s₁.setTop (mkF m 39 #[.val (.int sx), .val (.int sy), .val (.int ((ushr sx (24 : Int32)) &&& (3 : Int32))), .val (.int ((ushr sy (24 : Int32)) &&& (3 : Int32)))] [])) _
          refine XS.iconst X0.here hx rfl (Jvm.hb hby d_method_3_39) ?_
          show Steps p.tables e below (s₁.setTop (mkF m 40 #[.val (.int sx), .val (.int sy), .val (.int ((ushr sx (24 : Int32)) &&& (3 : Int32))), .val (.int ((ushr sy (24 : Int32)) &&& (3 : Int32)))] [(.int (0 : Int32))])) t_
          exact k_)
        obtain ⟨fs, hr, hrun, hended, hW, hsame⟩ := X0.leave (v := some (.int (0 : Int32))) (fun h => by rw [Bd.returns] at h; cases h)
        refine ⟨_, _, s45 _ ?_, hrun, hended, _, _, rfl, ?_, ⟨_, rfl⟩, hW, hsame.mono (by decide) (by decide)⟩
        · show Steps p.tables e below (s₁.setTop (mkF m 40 #[.val (.int sx), .val (.int sy), .val (.int ((ushr sx (24 : Int32)) &&& (3 : Int32))), .val (.int ((ushr sy (24 : Int32)) &&& (3 : Int32)))] [(.int (0 : Int32))])) _
          exact retN X0 hx (t := .boolean) Bd.returns (by simp) (Jvm.hb hby d_method_3_40) hr
        · show Q_rmSame Z _ _ h0 n0 _ s₁.heap _
          rw [e0]
          exact ⟨(by rw [← own_streq sx sy, if_pos h2, if_neg h4, if_neg h25]), N0, rfl⟩
  · have s46 : ∀ t_, Steps p.tables e below (s₁.setTop (mkF m 20 #[.val (.int sx), .val (.int sy), .val (.int ((ushr sx (24 : Int32)) &&& (3 : Int32))), .val (.int ((ushr sy (24 : Int32)) &&& (3 : Int32)))] [(.int (0 : Int32))])) t_ → Steps p.tables e below (s₁.setTop (entryFrame m #[(.int sx), (.int sy)] 4)) t_ := fun t_ k_ => s1 t_ (by
      show Steps p.tables e below (s₁.setTop (mkF m 16 #[.val (.int sx), .val (.int sy), .val (.int ((ushr sx (24 : Int32)) &&& (3 : Int32))), .val (.int ((ushr sy (24 : Int32)) &&& (3 : Int32)))] [(.int ((ushr sy (24 : Int32)) &&& (3 : Int32))), (.int ((ushr sx (24 : Int32)) &&& (3 : Int32)))])) t_
      refine XS.icmpNo X0.here hx rfl (Jvm.hb hby d_method_3_16) rfl (feq h2).1 ?_
      show Steps p.tables e below (s₁.setTop (mkF m 19 #[.val (.int sx), .val (.int sy), .val (.int ((ushr sx (24 : Int32)) &&& (3 : Int32))), .val (.int ((ushr sy (24 : Int32)) &&& (3 : Int32)))] [])) _
      refine XS.iconst X0.here hx rfl (Jvm.hb hby d_method_3_19) ?_
      show Steps p.tables e below (s₁.setTop (mkF m 20 #[.val (.int sx), .val (.int sy), .val (.int ((ushr sx (24 : Int32)) &&& (3 : Int32))), .val (.int ((ushr sy (24 : Int32)) &&& (3 : Int32)))] [(.int (0 : Int32))])) t_
      exact k_)
    obtain ⟨fs, hr, hrun, hended, hW, hsame⟩ := X0.leave (v := some (.int (0 : Int32))) (fun h => by rw [Bd.returns] at h; cases h)
    refine ⟨_, _, s46 _ ?_, hrun, hended, _, _, rfl, ?_, ⟨_, rfl⟩, hW, hsame.mono (by decide) (by decide)⟩
    · show Steps p.tables e below (s₁.setTop (mkF m 20 #[.val (.int sx), .val (.int sy), .val (.int ((ushr sx (24 : Int32)) &&& (3 : Int32))), .val (.int ((ushr sy (24 : Int32)) &&& (3 : Int32)))] [(.int (0 : Int32))])) _
      exact retN X0 hx (t := .boolean) Bd.returns (by simp) (Jvm.hb hby d_method_3_20) hr
    · show Q_rmSame Z _ _ h0 n0 _ s₁.heap _
      rw [e0]
      exact ⟨(by rw [← own_streq sx sy, if_neg h2]), N0, rfl⟩
theorem d_prog_7_method_7_0 : decode prog_7_method_7_code 0 = .ok (.aload_n 1, 1) := by decide +kernel
theorem d_prog_7_method_7_1 : decode prog_7_method_7_code 1 = .ok (.instanceof 8, 3) := by decide +kernel
theorem d_prog_7_method_7_4 : decode prog_7_method_7_code 4 = .ok (.ifCond .ne 5, 3) := by decide +kernel
theorem d_prog_7_method_7_9 : decode prog_7_method_7_code 9 = .ok (.aload_n 1, 1) := by decide +kernel
theorem d_prog_7_method_7_10 : decode prog_7_method_7_code 10 = .ok (.checkcast 8, 3) := by decide +kernel
theorem d_prog_7_method_7_13 : decode prog_7_method_7_code 13 = .ok (.astore_n 2, 1) := by decide +kernel
theorem d_prog_7_method_7_14 : decode prog_7_method_7_code 14 = .ok (.aload_n 0, 1) := by decide +kernel
theorem d_prog_7_method_7_15 : decode prog_7_method_7_code 15 = .ok (.getfield 7, 3) := by decide +kernel
theorem d_prog_7_method_7_18 : decode prog_7_method_7_code 18 = .ok (.aload_n 2, 1) := by decide +kernel
theorem d_prog_7_method_7_19 : decode prog_7_method_7_code 19 = .ok (.getfield 7, 3) := by decide +kernel
theorem d_prog_7_method_7_22 : decode prog_7_method_7_code 22 = .ok (.lcmp, 1) := by decide +kernel
theorem d_prog_7_method_7_23 : decode prog_7_method_7_code 23 = .ok (.ifCond .ne 57, 3) := by decide +kernel
theorem d_prog_7_method_7_26 : decode prog_7_method_7_code 26 = .ok (.aload_n 0, 1) := by decide +kernel
theorem d_prog_7_method_7_27 : decode prog_7_method_7_code 27 = .ok (.getfield 23, 3) := by decide +kernel
theorem d_prog_7_method_7_30 : decode prog_7_method_7_code 30 = .ok (.aload_n 2, 1) := by decide +kernel
theorem d_prog_7_method_7_31 : decode prog_7_method_7_code 31 = .ok (.getfield 23, 3) := by decide +kernel
theorem pd__Ljava_lang_Object__Z : parseMethodDescriptor "(Ljava/lang/Object;)Z" = some ⟨[(.object "java/lang/Object")], some .boolean⟩ := by decide +kernel
theorem d_prog_7_method_7_34 : decode prog_7_method_7_code 34 = .ok (.invokevirtual 44, 3) := by decide +kernel
theorem d_prog_7_method_7_37 : decode prog_7_method_7_code 37 = .ok (.ifCond .eq 43, 3) := by decide +kernel
theorem d_prog_7_method_7_40 : decode prog_7_method_7_code 40 = .ok (.aload_n 0, 1) := by decide +kernel
theorem d_prog_7_method_7_41 : decode prog_7_method_7_code 41 = .ok (.getfield 29, 3) := by decide +kernel
theorem d_prog_7_method_7_44 : decode prog_7_method_7_code 44 = .ok (.aload_n 2, 1) := by decide +kernel
theorem d_prog_7_method_7_45 : decode prog_7_method_7_code 45 = .ok (.getfield 29, 3) := by decide +kernel
theorem d_prog_7_method_7_48 : decode prog_7_method_7_code 48 = .ok (.invokevirtual 44, 3) := by decide +kernel
theorem d_prog_7_method_7_51 : decode prog_7_method_7_code 51 = .ok (.ifCond .eq 29, 3) := by decide +kernel
theorem d_prog_7_method_7_54 : decode prog_7_method_7_code 54 = .ok (.aload_n 0, 1) := by decide +kernel
theorem d_prog_7_method_7_55 : decode prog_7_method_7_code 55 = .ok (.getfield 36, 3) := by decide +kernel
theorem d_prog_7_method_7_58 : decode prog_7_method_7_code 58 = .ok (.aload_n 2, 1) := by decide +kernel
theorem d_prog_7_method_7_59 : decode prog_7_method_7_code 59 = .ok (.getfield 36, 3) := by decide +kernel
theorem d_prog_7_method_7_62 : decode prog_7_method_7_code 62 = .ok (.if_acmp .ne 18, 3) := by decide +kernel
theorem d_prog_7_method_7_65 : decode prog_7_method_7_code 65 = .ok (.aload_n 0, 1) := by decide +kernel
theorem d_prog_7_method_7_66 : decode prog_7_method_7_code 66 = .ok (.getfield 40, 3) := by decide +kernel
theorem d_prog_7_method_7_69 : decode prog_7_method_7_code 69 = .ok (.aload_n 2, 1) := by decide +kernel
theorem d_prog_7_method_7_70 : decode prog_7_method_7_code 70 = .ok (.getfield 40, 3) := by decide +kernel
theorem d_prog_7_method_7_73 : decode prog_7_method_7_code 73 = .ok (.if_icmp .ne 7, 3) := by decide +kernel
theorem d_prog_7_method_7_76 : decode prog_7_method_7_code 76 = .ok (.iconst 1, 1) := by decide +kernel
theorem d_prog_7_method_7_77 : decode prog_7_method_7_code 77 = .ok (.goto 4, 3) := by decide +kernel
theorem d_prog_7_method_7_81 : decode prog_7_method_7_code 81 = .ok (.ireturn, 1) := by decide +kernel
theorem d_prog_7_method_7_80 : decode prog_7_method_7_code 80 = .ok (.iconst 0, 1) := by decide +kernel
theorem ef_rmEqO (m : MethodId) (x0 : Addr) (x1 : Addr) : entryFrame m #[(.ref x0), (.ref x1)] 3 = mkF m 0 #[.val (.ref x0), .val (.ref x1), .unset] [] := by first | (simp [entryFrame, mkF, argsToLocals, Value.category]; done) | rfl
def Q_rmEqO (Z : State) (p_ : Addr) (q_ : Addr) (cst : Int32) (ix : Int64) (iy : Int64) (tx : Addr) (ty : Addr) (nx : Int32) (ny : Int32) (ax : Addr) (bx : Addr) (kx : ClassId) (cs : List Int32) (ay : Addr) (by_ : Addr) (ky : ClassId) (ds : List Int32) (au : Addr) (bu : Addr) (ku : ClassId) (us : List Int32) (av : Addr) (bv : Addr) (kv : ClassId) (vs : List Int32) (h0 : Heap) (n0 : Nat) (v : Option Value) (h : Heap) (L : List Loc) : Prop := (v = some (.int (if (lcmpW ix iy) = (0 : Int32) then (if cs = ds then (if us = vs then (if tx = ty then (if nx = ny then (1 : Int32) else (0 : Int32)) else (0 : Int32)) else (0 : Int32)) else (0 : Int32)) else (0 : Int32)))) ∧ (Fr n0 L) ∧ (h = h0)
set_option maxRecDepth 65536 in
set_option maxHeartbeats 40000000 in
theorem rmEqO (l : Launch) (Z : State) (a0 : Array Value) (hw : ∀ d ∈ tables_1, d.before a0 Z = true) (ws : List Jvm.Cond) (p_ : Addr) (q_ : Addr) (cst : Int32) (ix : Int64) (iy : Int64) (tx : Addr) (ty : Addr) (nx : Int32) (ny : Int32) (ax : Addr) (bx : Addr) (kx : ClassId) (cs : List Int32) (ay : Addr) (by_ : Addr) (ky : ClassId) (ds : List Int32) (au : Addr) (bu : Addr) (ku : ClassId) (us : List Int32) (av : Addr) (bv : Addr) (kv : ClassId) (vs : List Int32) (h0 : Heap) (n0 : Nat) (Z0 : n0 ≤ h0.size) (I1 : Sta Z Z.heap "java/lang/String" "COMPACT_STRINGS" "Z" (.int cst)) (OX : Old Z n0 h0) (hcst : ¬ (cst = (0 : Int32))) (I2 : Exa Z h0 p_ "com/example/coyote_hill/coyotehill/ItemStatus") (I3 : Fld Z h0 p_ "com/example/coyote_hill/coyotehill/ItemStatus" "_id" "J" (.long ix)) (I4 : Fld Z h0 p_ "com/example/coyote_hill/coyotehill/ItemStatus" "_queue" "Ljava/lang/String;" (.ref ax)) (I5 : Fld Z h0 p_ "com/example/coyote_hill/coyotehill/ItemStatus" "_tenant" "Ljava/lang/String;" (.ref au)) (I6 : Fld Z h0 p_ "com/example/coyote_hill/coyotehill/ItemStatus" "_state" "Lcom/example/coyote_hill/coyotehill/ItemState;" (.ref tx)) (I7 : Fld Z h0 p_ "com/example/coyote_hill/coyotehill/ItemStatus" "_attempt" "I" (.int nx)) (I8 : Exa Z h0 q_ "com/example/coyote_hill/coyotehill/ItemStatus") (I9 : Fld Z h0 q_ "com/example/coyote_hill/coyotehill/ItemStatus" "_id" "J" (.long iy)) (I10 : Fld Z h0 q_ "com/example/coyote_hill/coyotehill/ItemStatus" "_queue" "Ljava/lang/String;" (.ref ay)) (I11 : Fld Z h0 q_ "com/example/coyote_hill/coyotehill/ItemStatus" "_tenant" "Ljava/lang/String;" (.ref av)) (I12 : Fld Z h0 q_ "com/example/coyote_hill/coyotehill/ItemStatus" "_state" "Lcom/example/coyote_hill/coyotehill/ItemState;" (.ref ty)) (I13 : Fld Z h0 q_ "com/example/coyote_hill/coyotehill/ItemStatus" "_attempt" "I" (.int ny)) (I14 : Exa Z h0 ax "java/lang/String") (I15 : Fld Z h0 ax "java/lang/String" "value" "[B" (.ref bx)) (I16 : Fld Z h0 ax "java/lang/String" "coder" "B" (.int (own_cod cs))) (I17 : Arv Z h0 bx kx .byte (Int32.ofNat (own_enl cs)) (own_enc cs) (.int (0 : Int32))) (I18 : Exa Z h0 ay "java/lang/String") (I19 : Fld Z h0 ay "java/lang/String" "value" "[B" (.ref by_)) (I20 : Fld Z h0 ay "java/lang/String" "coder" "B" (.int (own_cod ds))) (I21 : Arv Z h0 by_ ky .byte (Int32.ofNat (own_enl ds)) (own_enc ds) (.int (0 : Int32))) (I22 : Exa Z h0 au "java/lang/String") (I23 : Fld Z h0 au "java/lang/String" "value" "[B" (.ref bu)) (I24 : Fld Z h0 au "java/lang/String" "coder" "B" (.int (own_cod us))) (I25 : Arv Z h0 bu ku .byte (Int32.ofNat (own_enl us)) (own_enc us) (.int (0 : Int32))) (I26 : Exa Z h0 av "java/lang/String") (I27 : Fld Z h0 av "java/lang/String" "value" "[B" (.ref bv)) (I28 : Fld Z h0 av "java/lang/String" "coder" "B" (.int (own_cod vs))) (I29 : Arv Z h0 bv kv .byte (Int32.ofNat (own_enl vs)) (own_enc vs) (.int (0 : Int32))) (hne : ¬ (ax = ay)) (hnu : ¬ (au = av)) (hchcs : own_chs cs) (hchds : own_chs ds) (hchus : own_chs us) (hchvs : own_chs vs) (hbcs : cs.length ≤ 3) (hbds : ds.length ≤ 3) (hbus : us.length ≤ 3) (hbvs : vs.length ≤ 3) :
    MetFree l (⟨"com/example/coyote_hill/coyotehill/ItemStatus", "equals", "(Ljava/lang/Object;)Z"⟩ : MethodName) (head1 (Jvm.Cond.code (⟨"com/example/coyote_hill/coyotehill/ItemStatus", "equals", "(Ljava/lang/Object;)Z"⟩ : MethodName) prog_7_method_7_code 3 (some .boolean) :: ws) ({ frames := 2, cells := 0, slots := 0, locals := 28 } : Room)) (fun ar_ U => ar_ = #[(.ref p_), (.ref q_)] ∧ Z.Warmed39 U.vm ∧ U.heap = h0) (fun _ _ _ _ _ => True) (fun _ U o U' => ∃ v L, o = .returned v ∧ Q_rmEqO Z p_ q_ cst ix iy tx ty nx ny ax bx kx cs ay by_ ky ds au bu ku us av bv kv vs h0 n0 v U'.heap L ∧ FrameEnd U o U' L ({ frames := 2, cells := 0, slots := 0, locals := 28 } : Room).cells ({ frames := 2, cells := 0, slots := 0, locals := 28 } : Room).slots) := by
  refine MetFree.of_bodySF (plainFor_of_name pn_com_example_coyote_hill_coyotehill_ItemStatus) hisR ?_
  intro p e s m args below meth c s₁ Bd hml0 hP hK
  obtain ⟨rfl, hZ, hh⟩ := hP
  have hx := Bd.exec
  have hby := Bd.bytes
  have hml : c.maxLocals = 3 := hml0
  have hown : s.vm.findClass "com/example/coyote_hill/coyotehill/ItemStatus" = some m.cls := findClass_of_methodNamed Bd.named
  have hnm := (name_of_methodNamed Bd.named Bd.method).1
  have X0 : Stand p l e ({ frames := 2, cells := 0, slots := 0, locals := 28 } : Room) s m #[(.ref p_), (.ref q_)] below meth c s₁ [] 0 0 := Stand.of_body Bd
  have e0 : s₁.heap = h0 := by rw [← hh, Bd.state]; rfl
  have N0 := Fr.nil n0
  have pre0 : ∀ t_, Steps p.tables e below (s₁.setTop (mkF m 0 #[.val (.ref p_), .val (.ref q_), .unset] [])) t_ → Steps p.tables e below (s₁.setTop (entryFrame m #[(.ref p_), (.ref q_)] 3)) t_ := fun t_ k_ => castTop (ef_rmEqO m p_ q_) k_
  have lt_I2 : @LT.lt Nat _ p_ h0.size := I2.lt
  have lt_I3 : @LT.lt Nat _ p_ h0.size := I3.lt
  have lt_I4 : @LT.lt Nat _ p_ h0.size := I4.lt
  have lt_I5 : @LT.lt Nat _ p_ h0.size := I5.lt
  have lt_I6 : @LT.lt Nat _ p_ h0.size := I6.lt
  have lt_I7 : @LT.lt Nat _ p_ h0.size := I7.lt
  have lt_I8 : @LT.lt Nat _ q_ h0.size := I8.lt
  have lt_I9 : @LT.lt Nat _ q_ h0.size := I9.lt
  have lt_I10 : @LT.lt Nat _ q_ h0.size := I10.lt
  have lt_I11 : @LT.lt Nat _ q_ h0.size := I11.lt
  have lt_I12 : @LT.lt Nat _ q_ h0.size := I12.lt
  have lt_I13 : @LT.lt Nat _ q_ h0.size := I13.lt
  have lt_I14 : @LT.lt Nat _ ax h0.size := I14.lt
  have lt_I15 : @LT.lt Nat _ ax h0.size := I15.lt
  have lt_I16 : @LT.lt Nat _ ax h0.size := I16.lt
  have lt_I17 : @LT.lt Nat _ bx h0.size := I17.lt
  have lt_I18 : @LT.lt Nat _ ay h0.size := I18.lt
  have lt_I19 : @LT.lt Nat _ ay h0.size := I19.lt
  have lt_I20 : @LT.lt Nat _ ay h0.size := I20.lt
  have lt_I21 : @LT.lt Nat _ by_ h0.size := I21.lt
  have lt_I22 : @LT.lt Nat _ au h0.size := I22.lt
  have lt_I23 : @LT.lt Nat _ au h0.size := I23.lt
  have lt_I24 : @LT.lt Nat _ au h0.size := I24.lt
  have lt_I25 : @LT.lt Nat _ bu h0.size := I25.lt
  have lt_I26 : @LT.lt Nat _ av h0.size := I26.lt
  have lt_I27 : @LT.lt Nat _ av h0.size := I27.lt
  have lt_I28 : @LT.lt Nat _ av h0.size := I28.lt
  have lt_I29 : @LT.lt Nat _ bv h0.size := I29.lt
  obtain ⟨T1, X1, e1, st1⟩ := instY X0 hx hZ hown (hw _ (List.mem_of_getElem? (i := 80) rfl)) e0 (Ins.self I8) (g := (mkF m 1 #[.val (.ref p_), .val (.ref q_), .unset] [(.ref q_)])) rfl rfl (Jvm.hb hby d_prog_7_method_7_1)
  obtain ⟨T2, X2, e2, st2⟩ := castY X1 hx hZ hown (hw _ (List.mem_of_getElem? (i := 80) rfl)) e1 (Ins.self I8) (g := (mkF m 10 #[.val (.ref p_), .val (.ref q_), .unset] [(.ref q_)])) rfl rfl (Jvm.hb hby d_prog_7_method_7_10)
  obtain ⟨T3, X3, e3, st3⟩ := getF X2 hx hZ hown (host := "") (Or.inl (hw _ (List.mem_of_getElem? (i := 56) rfl))) Via.refl e2 I3 (g := (mkF m 15 #[.val (.ref p_), .val (.ref q_), .val (.ref q_)] [(.ref p_)])) rfl rfl (Jvm.hb hby d_prog_7_method_7_15)
  obtain ⟨T4, X4, e4, st4⟩ := getF X3 hx hZ hown (host := "") (Or.inl (hw _ (List.mem_of_getElem? (i := 56) rfl))) Via.refl e3 I9 (g := (mkF m 19 #[.val (.ref p_), .val (.ref q_), .val (.ref q_)] [(.ref q_), (.long ix)])) rfl rfl (Jvm.hb hby d_prog_7_method_7_19)
  have s5 : ∀ t_, Steps p.tables e below (T4.setTop (mkF m 23 #[.val (.ref p_), .val (.ref q_), .val (.ref q_)] [(.int (lcmpW ix iy))])) t_ → Steps p.tables e below (s₁.setTop (entryFrame m #[(.ref p_), (.ref q_)] 3)) t_ := fun t_ k_ => pre0 t_ (by
    show Steps p.tables e below (s₁.setTop (mkF m 0 #[.val (.ref p_), .val (.ref q_), .unset] [])) t_
    refine XS.aloadN X0.here hx rfl (Jvm.hb hby d_prog_7_method_7_0) rfl rfl ?_
    refine st1 _ ?_
    show Steps p.tables e below (T1.setTop (mkF m 4 #[.val (.ref p_), .val (.ref q_), .unset] [(.int (1 : Int32))])) _
    refine XS.ifYes X1.here hx rfl (pc0 := 4) (pc' := 9) rfl (Jvm.hb hby d_prog_7_method_7_4) rfl ((if0 _ _).trans (feq (by decide : ¬ ((1 : Int32) = (0 : Int32)))).2) (by decide) (by decide) ?_
    show Steps p.tables e below (T1.setTop (mkF m 9 #[.val (.ref p_), .val (.ref q_), .unset] [])) _
    refine XS.aloadN X1.here hx rfl (Jvm.hb hby d_prog_7_method_7_9) rfl rfl ?_
    refine st2 _ ?_
    show Steps p.tables e below (T2.setTop (mkF m 13 #[.val (.ref p_), .val (.ref q_), .unset] [(.ref q_)])) _
    refine XS.astoreN X2.here hx rfl (Jvm.hb hby d_prog_7_method_7_13) rfl rfl (l' := #[.val (.ref p_), .val (.ref q_), .val (.ref q_)]) rfl ?_
    refine XS.aloadN X2.here hx rfl (Jvm.hb hby d_prog_7_method_7_14) rfl rfl ?_
    refine st3 _ ?_
    show Steps p.tables e below (T3.setTop (mkF m 18 #[.val (.ref p_), .val (.ref q_), .val (.ref q_)] [(.long ix)])) _
    refine XS.aloadN X3.here hx rfl (Jvm.hb hby d_prog_7_method_7_18) rfl rfl ?_
    refine st4 _ ?_
    show Steps p.tables e below (T4.setTop (mkF m 22 #[.val (.ref p_), .val (.ref q_), .val (.ref q_)] [(.long iy), (.long ix)])) _
    refine XS.lcmp X4.here hx rfl (Jvm.hb hby d_prog_7_method_7_22) rfl ?_
    show Steps p.tables e below (T4.setTop (mkF m 23 #[.val (.ref p_), .val (.ref q_), .val (.ref q_)] [(.int (lcmpW ix iy))])) t_
    exact k_)
  by_cases h6 : (lcmpW ix iy) = (0 : Int32)
  · obtain ⟨T7, X7, e7, st7⟩ := getF X4 hx hZ hown (host := "") (Or.inl (hw _ (List.mem_of_getElem? (i := 64) rfl))) Via.refl e4 I4 (g := (mkF m 27 #[.val (.ref p_), .val (.ref q_), .val (.ref q_)] [(.ref p_)])) rfl rfl (Jvm.hb hby d_prog_7_method_7_27)
    obtain ⟨T8, X8, e8, st8⟩ := getF X7 hx hZ hown (host := "") (Or.inl (hw _ (List.mem_of_getElem? (i := 64) rfl))) Via.refl e7 I10 (g := (mkF m 31 #[.val (.ref p_), .val (.ref q_), .val (.ref q_)] [(.ref q_), (.ref ax)])) rfl rfl (Jvm.hb hby d_prog_7_method_7_31)
    have Zc9 : n0 ≤ h0.size := by omega
    obtain ⟨cq10, kq10, q10a, q10b, q10c⟩ := isOf hZ e8 I14
    obtain ⟨_, _, ⟨T10, L10, k10, n10⟩, -, X10, ⟨Lc10, hQ10, l10, y10, z10⟩, st10⟩ := X8.virtualBack hx (y := (⟨"java/lang/String", "equals", "(Ljava/lang/Object;)Z"⟩ : MethodName)) (z := (⟨"java/lang/String", "equals", "(Ljava/lang/Object;)Z"⟩ : MethodName)) hown (mvT hZ (hw _ (List.mem_of_getElem? (i := 82) rfl))) (mvT hZ (hw _ (List.mem_of_getElem? (i := 83) rfl))) (notFace_of_selects (args := #[]) (mvT hZ (hw _ (List.mem_of_getElem? (i := 85) rfl)))) (mvT hZ (hw _ (List.mem_of_getElem? (i := 85) rfl))) (mvT hZ (hw _ (List.mem_of_getElem? (i := 84) rfl))) (by decide) (backOf (W := 0) (rmSEq l Z a0 hw [] ax ay cst bx kx cs by_ ky ds h0 n0 Zc9 I1 OX (hcst : ¬ (cst = (0 : Int32))) I14 I15 I16 I17 I18 I19 I20 I21 (hne : ¬ (ax = ay)) hchcs hchds hbcs hbds) hZ (hw _ (List.mem_of_getElem? (i := 86) rfl)) (hw _ (List.mem_of_getElem? (i := 19) rfl)) (by decide) (by decide)) q10a q10c (g := (mkF m 34 #[.val (.ref p_), .val (.ref q_), .val (.ref q_)] [(.ref ay), (.ref ax)])) rfl (by rw [hml]; rfl) (Steps.refl _) (argsL := [(.ref ay)]) (rest := []) (lenOf pd__Ljava_lang_Object__Z rfl) rfl (by show 2 * 0 + _ ≤ _; exact Nat.le_of_eq rfl) (Jvm.hb hby d_prog_7_method_7_34) (fun _ _ => ⟨rfl, e8, (by decide : 0 + 0 ≤ _), (by decide : 0 + 0 ≤ _)⟩)
    dsimp only [Pt.U, Pt.locs, Pt.cells, Pt.slots] at X10 l10 y10 z10 st10 hQ10
    subst l10 y10 z10
    obtain ⟨rfl, N10q, e10⟩ := hQ10
    have N10 := Fr.app N0 N10q
    have s11 : ∀ t_, Steps p.tables e below (T10.setTop (mkF m 37 #[.val (.ref p_), .val (.ref q_), .val (.ref q_)] [(.int (if cs = ds then (1 : Int32) else (0 : Int32)))])) t_ → Steps p.tables e below (s₁.setTop (entryFrame m #[(.ref p_), (.ref q_)] 3)) t_ := fun t_ k_ => s5 t_ (by
      show Steps p.tables e below (T4.setTop (mkF m 23 #[.val (.ref p_), .val (.ref q_), .val (.ref q_)] [(.int (lcmpW ix iy))])) t_
      refine XS.ifNo X4.here hx rfl (Jvm.hb hby d_prog_7_method_7_23) rfl ((if0 _ _).trans (teq h6).2) ?_
      show Steps p.tables e below (T4.setTop (mkF m 26 #[.val (.ref p_), .val (.ref q_), .val (.ref q_)] [])) _
      refine XS.aloadN X4.here hx rfl (Jvm.hb hby d_prog_7_method_7_26) rfl rfl ?_
      refine st7 _ ?_
      show Steps p.tables e below (T7.setTop (mkF m 30 #[.val (.ref p_), .val (.ref q_), .val (.ref q_)] [(.ref ax)])) _
      refine XS.aloadN X7.here hx rfl (Jvm.hb hby d_prog_7_method_7_30) rfl rfl ?_
      refine st8 _ ?_
      show Steps p.tables e below (T8.setTop (mkF m 34 #[.val (.ref p_), .val (.ref q_), .val (.ref q_)] [(.ref ay), (.ref ax)])) _
      refine st10.trans ?_
      show Steps p.tables e below (T10.setTop (mkF m 37 #[.val (.ref p_), .val (.ref q_), .val (.ref q_)] [(.int (if cs = ds then (1 : Int32) else (0 : Int32)))])) _
      show Steps p.tables e below (T10.setTop (mkF m 37 #[.val (.ref p_), .val (.ref q_), .val (.ref q_)] [(.int (if cs = ds then (1 : Int32) else (0 : Int32)))])) t_
      exact k_)
    by_cases h12 : cs = ds
    · have s13 : ∀ t_, Steps p.tables e below (T10.setTop (mkF m 37 #[.val (.ref p_), .val (.ref q_), .val (.ref q_)] [(.int (1 : Int32))])) t_ → Steps p.tables e below (s₁.setTop (entryFrame m #[(.ref p_), (.ref q_)] 3)) t_ := fun t_ k_ => s11 t_ (castTop (by simp only [if_pos h12]) k_)
      obtain ⟨T14, X14, e14, st14⟩ := getF X10 hx hZ hown (host := "") (Or.inl (hw _ (List.mem_of_getElem? (i := 67) rfl))) Via.refl e10 I5 (g := (mkF m 41 #[.val (.ref p_), .val (.ref q_), .val (.ref q_)] [(.ref p_)])) rfl rfl (Jvm.hb hby d_prog_7_method_7_41)
      obtain ⟨T15, X15, e15, st15⟩ := getF X14 hx hZ hown (host := "") (Or.inl (hw _ (List.mem_of_getElem? (i := 67) rfl))) Via.refl e14 I11 (g := (mkF m 45 #[.val (.ref p_), .val (.ref q_), .val (.ref q_)] [(.ref q_), (.ref au)])) rfl rfl (Jvm.hb hby d_prog_7_method_7_45)
      have Zc16 : n0 ≤ h0.size := by omega
      obtain ⟨cq17, kq17, q17a, q17b, q17c⟩ := isOf hZ e15 I22
      obtain ⟨_, _, ⟨T17, L17, k17, n17⟩, -, X17, ⟨Lc17, hQ17, l17, y17, z17⟩, st17⟩ := X15.virtualBack hx (y := (⟨"java/lang/String", "equals", "(Ljava/lang/Object;)Z"⟩ : MethodName)) (z := (⟨"java/lang/String", "equals", "(Ljava/lang/Object;)Z"⟩ : MethodName)) hown (mvT hZ (hw _ (List.mem_of_getElem? (i := 82) rfl))) (mvT hZ (hw _ (List.mem_of_getElem? (i := 83) rfl))) (notFace_of_selects (args := #[]) (mvT hZ (hw _ (List.mem_of_getElem? (i := 85) rfl)))) (mvT hZ (hw _ (List.mem_of_getElem? (i := 85) rfl))) (mvT hZ (hw _ (List.mem_of_getElem? (i := 84) rfl))) (by decide) (backOf (W := 0) (rmSEq l Z a0 hw [] au av cst bu ku us bv kv vs h0 n0 Zc16 I1 OX (hcst : ¬ (cst = (0 : Int32))) I22 I23 I24 I25 I26 I27 I28 I29 hnu hchus hchvs hbus hbvs) hZ (hw _ (List.mem_of_getElem? (i := 86) rfl)) (hw _ (List.mem_of_getElem? (i := 19) rfl)) (by decide) (by decide)) q17a q17c (g := (mkF m 48 #[.val (.ref p_), .val (.ref q_), .val (.ref q_)] [(.ref av), (.ref au)])) rfl (by rw [hml]; rfl) (Steps.refl _) (argsL := [(.ref av)]) (rest := []) (lenOf pd__Ljava_lang_Object__Z rfl) rfl (by show 2 * 0 + _ ≤ _; exact Nat.le_of_eq rfl) (Jvm.hb hby d_prog_7_method_7_48) (fun _ _ => ⟨rfl, e15, (by decide : 0 + 0 ≤ _), (by decide : 0 + 0 ≤ _)⟩)
      dsimp only [Pt.U, Pt.locs, Pt.cells, Pt.slots] at X17 l17 y17 z17 st17 hQ17
      subst l17 y17 z17
      obtain ⟨rfl, N17q, e17⟩ := hQ17
      have N17 := Fr.app N10 N17q
      have s18 : ∀ t_, Steps p.tables e below (T17.setTop (mkF m 51 #[.val (.ref p_), .val (.ref q_), .val (.ref q_)] [(.int (if us = vs then (1 : Int32) else (0 : Int32)))])) t_ → Steps p.tables e below (s₁.setTop (entryFrame m #[(.ref p_), (.ref q_)] 3)) t_ := fun t_ k_ => s13 t_ (by
        show Steps p.tables e below (T10.setTop (mkF m 37 #[.val (.ref p_), .val (.ref q_), .val (.ref q_)] [(.int (1 : Int32))])) t_
        refine XS.ifNo X10.here hx rfl (Jvm.hb hby d_prog_7_method_7_37) rfl ((if0 _ _).trans (feq (by decide : ¬ ((1 : Int32) = (0 : Int32)))).1) ?_
        show Steps p.tables e below (T10.setTop (mkF m 40 #[.val (.ref p_), .val (.ref q_), .val (.ref q_)] [])) _
        refine XS.aloadN X10.here hx rfl (Jvm.hb hby d_prog_7_method_7_40) rfl rfl ?_
        refine st14 _ ?_
        show Steps p.tables e below (T14.setTop (mkF m 44 #[.val (.ref p_), .val (.ref q_), .val (.ref q_)] [(.ref au)])) _
        refine XS.aloadN X14.here hx rfl (Jvm.hb hby d_prog_7_method_7_44) rfl rfl ?_
        refine st15 _ ?_
        show Steps p.tables e below (T15.setTop (mkF m 48 #[.val (.ref p_), .val (.ref q_), .val (.ref q_)] [(.ref av), (.ref au)])) _
        refine st17.trans ?_
        show Steps p.tables e below (T17.setTop (mkF m 51 #[.val (.ref p_), .val (.ref q_), .val (.ref q_)] [(.int (if us = vs then (1 : Int32) else (0 : Int32)))])) _
        show Steps p.tables e below (T17.setTop (mkF m 51 #[.val (.ref p_), .val (.ref q_), .val (.ref q_)] [(.int (if us = vs then (1 : Int32) else (0 : Int32)))])) t_
        exact k_)
      by_cases h19 : us = vs
      · have s20 : ∀ t_, Steps p.tables e below (T17.setTop (mkF m 51 #[.val (.ref p_), .val (.ref q_), .val (.ref q_)] [(.int (1 : Int32))])) t_ → Steps p.tables e below (s₁.setTop (entryFrame m #[(.ref p_), (.ref q_)] 3)) t_ := fun t_ k_ => s18 t_ (castTop (by simp only [if_pos h19]) k_)
        obtain ⟨T21, X21, e21, st21⟩ := getF X17 hx hZ hown (host := "") (Or.inl (hw _ (List.mem_of_getElem? (i := 71) rfl))) Via.refl e17 I6 (g := (mkF m 55 #[.val (.ref p_), .val (.ref q_), .val (.ref q_)] [(.ref p_)])) rfl rfl (Jvm.hb hby d_prog_7_method_7_55)
        obtain ⟨T22, X22, e22, st22⟩ := getF X21 hx hZ hown (host := "") (Or.inl (hw _ (List.mem_of_getElem? (i := 71) rfl))) Via.refl e21 I12 (g := (mkF m 59 #[.val (.ref p_), .val (.ref q_), .val (.ref q_)] [(.ref q_), (.ref tx)])) rfl rfl (Jvm.hb hby d_prog_7_method_7_59)
        have s23 : ∀ t_, Steps p.tables e below (T22.setTop (mkF m 62 #[.val (.ref p_), .val (.ref q_), .val (.ref q_)] [(.ref ty), (.ref tx)])) t_ → Steps p.tables e below (s₁.setTop (entryFrame m #[(.ref p_), (.ref q_)] 3)) t_ := fun t_ k_ => s20 t_ (by
          show Steps p.tables e below (T17.setTop (mkF m 51 #[.val (.ref p_), .val (.ref q_), .val (.ref q_)] [(.int (1 : Int32))])) t_
          refine XS.ifNo X17.here hx rfl (Jvm.hb hby d_prog_7_method_7_51) rfl ((if0 _ _).trans (feq (by decide : ¬ ((1 : Int32) = (0 : Int32)))).1) ?_
          show Steps p.tables e below (T17.setTop (mkF m 54 #[.val (.ref p_), .val (.ref q_), .val (.ref q_)] [])) _
          refine XS.aloadN X17.here hx rfl (Jvm.hb hby d_prog_7_method_7_54) rfl rfl ?_
          refine st21 _ ?_
          show Steps p.tables e below (T21.setTop (mkF m 58 #[.val (.ref p_), .val (.ref q_), .val (.ref q_)] [(.ref tx)])) _
          refine XS.aloadN X21.here hx rfl (Jvm.hb hby d_prog_7_method_7_58) rfl rfl ?_
          refine st22 _ ?_
          show Steps p.tables e below (T22.setTop (mkF m 62 #[.val (.ref p_), .val (.ref q_), .val (.ref q_)] [(.ref ty), (.ref tx)])) _
          show Steps p.tables e below (T22.setTop (mkF m 62 #[.val (.ref p_), .val (.ref q_), .val (.ref q_)] [(.ref ty), (.ref tx)])) t_
          exact k_)
        by_cases h24 : tx = ty
        · obtain ⟨T25, X25, e25, st25⟩ := getF X22 hx hZ hown (host := "") (Or.inl (hw _ (List.mem_of_getElem? (i := 73) rfl))) Via.refl e22 I7 (g := (mkF m 66 #[.val (.ref p_), .val (.ref q_), .val (.ref q_)] [(.ref p_)])) rfl rfl (Jvm.hb hby d_prog_7_method_7_66)
          obtain ⟨T26, X26, e26, st26⟩ := getF X25 hx hZ hown (host := "") (Or.inl (hw _ (List.mem_of_getElem? (i := 73) rfl))) Via.refl e25 I13 (g := (mkF m 70 #[.val (.ref p_), .val (.ref q_), .val (.ref q_)] [(.ref q_), (.int nx)])) rfl rfl (Jvm.hb hby d_prog_7_method_7_70)
          have s27 : ∀ t_, Steps p.tables e below (T26.setTop (mkF m 73 #[.val (.ref p_), .val (.ref q_), .val (.ref q_)] [(.int ny), (.int nx)])) t_ → Steps p.tables e below (s₁.setTop (entryFrame m #[(.ref p_), (.ref q_)] 3)) t_ := fun t_ k_ => s23 t_ (by
            show Steps p.tables e below (T22.setTop (mkF m 62 #[.val (.ref p_), .val (.ref q_), .val (.ref q_)] [(.ref ty), (.ref tx)])) t_
            refine Jvm.RoadKit.acmp (g := (mkF m 62 #[.val (.ref p_), .val (.ref q_), .val (.ref q_)] [(.ref ty), (.ref tx)])) X22 hx rfl rfl rfl (pc0 := 62) (pc' := 65) (same := true) rfl (Jvm.hb hby d_prog_7_method_7_62) rfl (decide_eq_true (congrArg Value.ref h24)) (by decide) (by decide) ?_
            show Steps p.tables e below (T22.setTop (mkF m 65 #[.val (.ref p_), .val (.ref q_), .val (.ref q_)] [])) _
            refine XS.aloadN X22.here hx rfl (Jvm.hb hby d_prog_7_method_7_65) rfl rfl ?_
            refine st25 _ ?_
            show Steps p.tables e below (T25.setTop (mkF m 69 #[.val (.ref p_), .val (.ref q_), .val (.ref q_)] [(.int nx)])) _
            refine XS.aloadN X25.here hx rfl (Jvm.hb hby d_prog_7_method_7_69) rfl rfl ?_
            refine st26 _ ?_
            show Steps p.tables e below (T26.setTop (mkF m 73 #[.val (.ref p_), .val (.ref q_), .val (.ref q_)] [(.int ny), (.int nx)])) _
            show Steps p.tables e below (T26.setTop (mkF m 73 #[.val (.ref p_), .val (.ref q_), .val (.ref q_)] [(.int ny), (.int nx)])) t_
            exact k_)
          by_cases h28 : nx = ny
          · have s29 : ∀ t_, Steps p.tables e below (T26.setTop (mkF m 81 #[.val (.ref p_), .val (.ref q_), .val (.ref q_)] [(.int (1 : Int32))])) t_ → Steps p.tables e below (s₁.setTop (entryFrame m #[(.ref p_), (.ref q_)] 3)) t_ := fun t_ k_ => s27 t_ (by
              show Steps p.tables e below (T26.setTop (mkF m 73 #[.val (.ref p_), .val (.ref q_), .val (.ref q_)] [(.int ny), (.int nx)])) t_
              refine XS.icmpNo X26.here hx rfl (Jvm.hb hby d_prog_7_method_7_73) rfl (teq h28).2 ?_
              show Steps p.tables e below (T26.setTop (mkF m 76 #[.val (.ref p_), .val (.ref q_), .val (.ref q_)] [])) _
              refine XS.iconst X26.here hx rfl (Jvm.hb hby d_prog_7_method_7_76) ?_
              refine XS.goto X26.here hx rfl (pc0 := 77) (pc' := 81) rfl (Jvm.hb hby d_prog_7_method_7_77) (by decide) (by decide) ?_
              show Steps p.tables e below (T26.setTop (mkF m 81 #[.val (.ref p_), .val (.ref q_), .val (.ref q_)] [(.int (1 : Int32))])) t_
              exact k_)
            obtain ⟨fs, hr, hrun, hended, hW, hsame⟩ := X26.leave (v := some (.int (1 : Int32))) (fun h => by rw [Bd.returns] at h; cases h)
            refine ⟨_, _, s29 _ ?_, hrun, hended, _, _, rfl, ?_, ⟨_, rfl⟩, hW, hsame.mono (by decide) (by decide)⟩
            · show Steps p.tables e below (T26.setTop (mkF m 81 #[.val (.ref p_), .val (.ref q_), .val (.ref q_)] [(.int (1 : Int32))])) _
              exact retN X26 hx (t := .boolean) Bd.returns (by simp) (Jvm.hb hby d_prog_7_method_7_81) hr
            · show Q_rmEqO Z _ _ _ _ _ _ _ _ _ _ _ _ _ _ _ _ _ _ _ _ _ _ _ _ _ h0 n0 _ T26.heap _
              rw [e26]
              exact ⟨(by first | rfl | (simp only [if_pos h6, if_pos h12, if_pos h19, if_pos h24, if_pos h28]; done) | (simp only [if_pos h6, if_pos h12, if_pos h19, if_pos h24, if_pos h28]; rfl) | (simp only [if_pos h6, if_pos h12, if_pos h19, if_pos h24, if_pos h28, own_narb]; done)), N17, rfl⟩
          · have s30 : ∀ t_, Steps p.tables e below (T26.setTop (mkF m 81 #[.val (.ref p_), .val (.ref q_), .val (.ref q_)] [(.int (0 : Int32))])) t_ → Steps p.tables e below (s₁.setTop (entryFrame m #[(.ref p_), (.ref q_)] 3)) t_ := fun t_ k_ => s27 t_ (by
              show Steps p.tables e below (T26.setTop (mkF m 73 #[.val (.ref p_), .val (.ref q_), .val (.ref q_)] [(.int ny), (.int nx)])) t_
              refine XS.icmpYes X26.here hx rfl (pc0 := 73) (pc' := 80) rfl (Jvm.hb hby d_prog_7_method_7_73) rfl (feq h28).2 (by decide) (by decide) ?_
              show Steps p.tables e below (T26.setTop (mkF m 80 #[.val (.ref p_), .val (.ref q_), .val (.ref q_)] [])) _
              refine XS.iconst X26.here hx rfl (Jvm.hb hby d_prog_7_method_7_80) ?_
              show Steps p.tables e below (T26.setTop (mkF m 81 #[.val (.ref p_), .val (.ref q_), .val (.ref q_)] [(.int (0 : Int32))])) t_
              exact k_)
            obtain ⟨fs, hr, hrun, hended, hW, hsame⟩ := X26.leave (v := some (.int (0 : Int32))) (fun h => by rw [Bd.returns] at h; cases h)
            refine ⟨_, _, s30 _ ?_, hrun, hended, _, _, rfl, ?_, ⟨_, rfl⟩, hW, hsame.mono (by decide) (by decide)⟩
            · show Steps p.tables e below (T26.setTop (mkF m 81 #[.val (.ref p_), .val (.ref q_), .val (.ref q_)] [(.int (0 : Int32))])) _
              exact retN X26 hx (t := .boolean) Bd.returns (by simp) (Jvm.hb hby d_prog_7_method_7_81) hr
            · show Q_rmEqO Z _ _ _ _ _ _ _ _ _ _ _ _ _ _ _ _ _ _ _ _ _ _ _ _ _ h0 n0 _ T26.heap _
              rw [e26]
              exact ⟨(by first | rfl | (simp only [if_pos h6, if_pos h12, if_pos h19, if_pos h24, if_neg h28]; done) | (simp only [if_pos h6, if_pos h12, if_pos h19, if_pos h24, if_neg h28]; rfl) | (simp only [if_pos h6, if_pos h12, if_pos h19, if_pos h24, if_neg h28, own_narb]; done)), N17, rfl⟩
        · have s31 : ∀ t_, Steps p.tables e below (T22.setTop (mkF m 81 #[.val (.ref p_), .val (.ref q_), .val (.ref q_)] [(.int (0 : Int32))])) t_ → Steps p.tables e below (s₁.setTop (entryFrame m #[(.ref p_), (.ref q_)] 3)) t_ := fun t_ k_ => s23 t_ (by
            show Steps p.tables e below (T22.setTop (mkF m 62 #[.val (.ref p_), .val (.ref q_), .val (.ref q_)] [(.ref ty), (.ref tx)])) t_
            refine Jvm.RoadKit.acmp (g := (mkF m 62 #[.val (.ref p_), .val (.ref q_), .val (.ref q_)] [(.ref ty), (.ref tx)])) X22 hx rfl rfl rfl (pc0 := 62) (pc' := 80) (same := false) rfl (Jvm.hb hby d_prog_7_method_7_62) rfl (decide_eq_false fun q => h24 (Value.ref.inj q)) (by decide) (by decide) ?_
            show Steps p.tables e below (T22.setTop (mkF m 80 #[.val (.ref p_), .val (.ref q_), .val (.ref q_)] [])) _
            refine XS.iconst X22.here hx rfl (Jvm.hb hby d_prog_7_method_7_80) ?_
            show Steps p.tables e below (T22.setTop (mkF m 81 #[.val (.ref p_), .val (.ref q_), .val (.ref q_)] [(.int (0 : Int32))])) t_
            exact k_)
          obtain ⟨fs, hr, hrun, hended, hW, hsame⟩ := X22.leave (v := some (.int (0 : Int32))) (fun h => by rw [Bd.returns] at h; cases h)
          refine ⟨_, _, s31 _ ?_, hrun, hended, _, _, rfl, ?_, ⟨_, rfl⟩, hW, hsame.mono (by decide) (by decide)⟩
          · show Steps p.tables e below (T22.setTop (mkF m 81 #[.val (.ref p_), .val (.ref q_), .val (.ref q_)] [(.int (0 : Int32))])) _
            exact retN X22 hx (t := .boolean) Bd.returns (by simp) (Jvm.hb hby d_prog_7_method_7_81) hr
          · show Q_rmEqO Z _ _ _ _ _ _ _ _ _ _ _ _ _ _ _ _ _ _ _ _ _ _ _ _ _ h0 n0 _ T22.heap _
            rw [e22]
            exact ⟨(by first | rfl | (simp only [if_pos h6, if_pos h12, if_pos h19, if_neg h24]; done) | (simp only [if_pos h6, if_pos h12, if_pos h19, if_neg h24]; rfl) | (simp only [if_pos h6, if_pos h12, if_pos h19, if_neg h24, own_narb]; done)), N17, rfl⟩
      · have s32 : ∀ t_, Steps p.tables e below (T17.setTop (mkF m 51 #[.val (.ref p_), .val (.ref q_), .val (.ref q_)] [(.int (0 : Int32))])) t_ → Steps p.tables e below (s₁.setTop (entryFrame m #[(.ref p_), (.ref q_)] 3)) t_ := fun t_ k_ => s18 t_ (castTop (by simp only [if_neg h19]) k_)
        have s33 : ∀ t_, Steps p.tables e below (T17.setTop (mkF m 81 #[.val (.ref p_), .val (.ref q_), .val (.ref q_)] [(.int (0 : Int32))])) t_ → Steps p.tables e below (s₁.setTop (entryFrame m #[(.ref p_), (.ref q_)] 3)) t_ := fun t_ k_ => s32 t_ (by
          show Steps p.tables e below (T17.setTop (mkF m 51 #[.val (.ref p_), .val (.ref q_), .val (.ref q_)] [(.int (0 : Int32))])) t_
          refine XS.ifYes X17.here hx rfl (pc0 := 51) (pc' := 80) rfl (Jvm.hb hby d_prog_7_method_7_51) rfl ((if0 _ _).trans (teq (rfl : (0 : Int32) = (0 : Int32))).1) (by decide) (by decide) ?_
          show Steps p.tables e below (T17.setTop (mkF m 80 #[.val (.ref p_), .val (.ref q_), .val (.ref q_)] [])) _
          refine XS.iconst X17.here hx rfl (Jvm.hb hby d_prog_7_method_7_80) ?_
          show Steps p.tables e below (T17.setTop (mkF m 81 #[.val (.ref p_), .val (.ref q_), .val (.ref q_)] [(.int (0 : Int32))])) t_
          exact k_)
        obtain ⟨fs, hr, hrun, hended, hW, hsame⟩ := X17.leave (v := some (.int (0 : Int32))) (fun h => by rw [Bd.returns] at h; cases h)
        refine ⟨_, _, s33 _ ?_, hrun, hended, _, _, rfl, ?_, ⟨_, rfl⟩, hW, hsame.mono (by decide) (by decide)⟩
        · show Steps p.tables e below (T17.setTop (mkF m 81 #[.val (.ref p_), .val (.ref q_), .val (.ref q_)] [(.int (0 : Int32))])) _
          exact retN X17 hx (t := .boolean) Bd.returns (by simp) (Jvm.hb hby d_prog_7_method_7_81) hr
        · show Q_rmEqO Z _ _ _ _ _ _ _ _ _ _ _ _ _ _ _ _ _ _ _ _ _ _ _ _ _ h0 n0 _ T17.heap _
          rw [e17]
          exact ⟨(by first | rfl | (simp only [if_pos h6, if_pos h12, if_neg h19]; done) | (simp only [if_pos h6, if_pos h12, if_neg h19]; rfl) | (simp only [if_pos h6, if_pos h12, if_neg h19, own_narb]; done)), N17, rfl⟩
    · have s34 : ∀ t_, Steps p.tables e below (T10.setTop (mkF m 37 #[.val (.ref p_), .val (.ref q_), .val (.ref q_)] [(.int (0 : Int32))])) t_ → Steps p.tables e below (s₁.setTop (entryFrame m #[(.ref p_), (.ref q_)] 3)) t_ := fun t_ k_ => s11 t_ (castTop (by simp only [if_neg h12]) k_)
      have s35 : ∀ t_, Steps p.tables e below (T10.setTop (mkF m 81 #[.val (.ref p_), .val (.ref q_), .val (.ref q_)] [(.int (0 : Int32))])) t_ → Steps p.tables e below (s₁.setTop (entryFrame m #[(.ref p_), (.ref q_)] 3)) t_ := fun t_ k_ => s34 t_ (by
        show Steps p.tables e below (T10.setTop (mkF m 37 #[.val (.ref p_), .val (.ref q_), .val (.ref q_)] [(.int (0 : Int32))])) t_
        refine XS.ifYes X10.here hx rfl (pc0 := 37) (pc' := 80) rfl (Jvm.hb hby d_prog_7_method_7_37) rfl ((if0 _ _).trans (teq (rfl : (0 : Int32) = (0 : Int32))).1) (by decide) (by decide) ?_
        show Steps p.tables e below (T10.setTop (mkF m 80 #[.val (.ref p_), .val (.ref q_), .val (.ref q_)] [])) _
        refine XS.iconst X10.here hx rfl (Jvm.hb hby d_prog_7_method_7_80) ?_
        show Steps p.tables e below (T10.setTop (mkF m 81 #[.val (.ref p_), .val (.ref q_), .val (.ref q_)] [(.int (0 : Int32))])) t_
        exact k_)
      obtain ⟨fs, hr, hrun, hended, hW, hsame⟩ := X10.leave (v := some (.int (0 : Int32))) (fun h => by rw [Bd.returns] at h; cases h)
      refine ⟨_, _, s35 _ ?_, hrun, hended, _, _, rfl, ?_, ⟨_, rfl⟩, hW, hsame.mono (by decide) (by decide)⟩
      · show Steps p.tables e below (T10.setTop (mkF m 81 #[.val (.ref p_), .val (.ref q_), .val (.ref q_)] [(.int (0 : Int32))])) _
        exact retN X10 hx (t := .boolean) Bd.returns (by simp) (Jvm.hb hby d_prog_7_method_7_81) hr
      · show Q_rmEqO Z _ _ _ _ _ _ _ _ _ _ _ _ _ _ _ _ _ _ _ _ _ _ _ _ _ h0 n0 _ T10.heap _
        rw [e10]
        exact ⟨(by first | rfl | (simp only [if_pos h6, if_neg h12]; done) | (simp only [if_pos h6, if_neg h12]; rfl) | (simp only [if_pos h6, if_neg h12, own_narb]; done)), N10, rfl⟩
  · have s36 : ∀ t_, Steps p.tables e below (T4.setTop (mkF m 81 #[.val (.ref p_), .val (.ref q_), .val (.ref q_)] [(.int (0 : Int32))])) t_ → Steps p.tables e below (s₁.setTop (entryFrame m #[(.ref p_), (.ref q_)] 3)) t_ := fun t_ k_ => s5 t_ (by
      show Steps p.tables e below (T4.setTop (mkF m 23 #[.val (.ref p_), .val (.ref q_), .val (.ref q_)] [(.int (lcmpW ix iy))])) t_
      refine XS.ifYes X4.here hx rfl (pc0 := 23) (pc' := 80) rfl (Jvm.hb hby d_prog_7_method_7_23) rfl ((if0 _ _).trans (feq h6).2) (by decide) (by decide) ?_
      show Steps p.tables e below (T4.setTop (mkF m 80 #[.val (.ref p_), .val (.ref q_), .val (.ref q_)] [])) _
      refine XS.iconst X4.here hx rfl (Jvm.hb hby d_prog_7_method_7_80) ?_
      show Steps p.tables e below (T4.setTop (mkF m 81 #[.val (.ref p_), .val (.ref q_), .val (.ref q_)] [(.int (0 : Int32))])) t_
      exact k_)
    obtain ⟨fs, hr, hrun, hended, hW, hsame⟩ := X4.leave (v := some (.int (0 : Int32))) (fun h => by rw [Bd.returns] at h; cases h)
    refine ⟨_, _, s36 _ ?_, hrun, hended, _, _, rfl, ?_, ⟨_, rfl⟩, hW, hsame.mono (by decide) (by decide)⟩
    · show Steps p.tables e below (T4.setTop (mkF m 81 #[.val (.ref p_), .val (.ref q_), .val (.ref q_)] [(.int (0 : Int32))])) _
      exact retN X4 hx (t := .boolean) Bd.returns (by simp) (Jvm.hb hby d_prog_7_method_7_81) hr
    · show Q_rmEqO Z _ _ _ _ _ _ _ _ _ _ _ _ _ _ _ _ _ _ _ _ _ _ _ _ _ h0 n0 _ T4.heap _
      rw [e4]
      exact ⟨(by first | rfl | (simp only [if_neg h6]; done) | (simp only [if_neg h6]; rfl) | (simp only [if_neg h6, own_narb]; done)), N0, rfl⟩
theorem ef_rmEqS (m : MethodId) (x0 : Addr) (x1 : Addr) : entryFrame m #[(.ref x0), (.ref x1)] 3 = mkF m 0 #[.val (.ref x0), .val (.ref x1), .unset] [] := by first | (simp [entryFrame, mkF, argsToLocals, Value.category]; done) | rfl
def Q_rmEqS (Z : State) (p_ : Addr) (ix : Int64) (ax : Addr) (au : Addr) (tx : Addr) (nx : Int32) (h0 : Heap) (n0 : Nat) (v : Option Value) (h : Heap) (L : List Loc) : Prop := (v = some (.int (1 : Int32))) ∧ (Fr n0 L) ∧ (h = h0)
set_option maxRecDepth 65536 in
set_option maxHeartbeats 40000000 in
theorem rmEqS (l : Launch) (Z : State) (a0 : Array Value) (hw : ∀ d ∈ tables_1, d.before a0 Z = true) (ws : List Jvm.Cond) (p_ : Addr) (ix : Int64) (ax : Addr) (au : Addr) (tx : Addr) (nx : Int32) (h0 : Heap) (n0 : Nat) (Z0 : n0 ≤ h0.size) (I1 : Exa Z h0 p_ "com/example/coyote_hill/coyotehill/ItemStatus") (I2 : Fld Z h0 p_ "com/example/coyote_hill/coyotehill/ItemStatus" "_id" "J" (.long ix)) (I3 : Fld Z h0 p_ "com/example/coyote_hill/coyotehill/ItemStatus" "_queue" "Ljava/lang/String;" (.ref ax)) (I4 : Fld Z h0 p_ "com/example/coyote_hill/coyotehill/ItemStatus" "_tenant" "Ljava/lang/String;" (.ref au)) (I5 : Fld Z h0 p_ "com/example/coyote_hill/coyotehill/ItemStatus" "_state" "Lcom/example/coyote_hill/coyotehill/ItemState;" (.ref tx)) (I6 : Fld Z h0 p_ "com/example/coyote_hill/coyotehill/ItemStatus" "_attempt" "I" (.int nx)) (I7 : Exa Z h0 ax "java/lang/String") (I8 : Exa Z h0 au "java/lang/String") :
    MetFree l (⟨"com/example/coyote_hill/coyotehill/ItemStatus", "equals", "(Ljava/lang/Object;)Z"⟩ : MethodName) (head1 (Jvm.Cond.code (⟨"com/example/coyote_hill/coyotehill/ItemStatus", "equals", "(Ljava/lang/Object;)Z"⟩ : MethodName) prog_7_method_7_code 3 (some .boolean) :: ws) ({ frames := 1, cells := 0, slots := 0, locals := 14 } : Room)) (fun ar_ U => ar_ = #[(.ref p_), (.ref p_)] ∧ Z.Warmed39 U.vm ∧ U.heap = h0) (fun _ _ _ _ _ => True) (fun _ U o U' => ∃ v L, o = .returned v ∧ Q_rmEqS Z p_ ix ax au tx nx h0 n0 v U'.heap L ∧ FrameEnd U o U' L ({ frames := 1, cells := 0, slots := 0, locals := 14 } : Room).cells ({ frames := 1, cells := 0, slots := 0, locals := 14 } : Room).slots) := by
  refine MetFree.of_bodySF (plainFor_of_name pn_com_example_coyote_hill_coyotehill_ItemStatus) hisR ?_
  intro p e s m args below meth c s₁ Bd hml0 hP hK
  obtain ⟨rfl, hZ, hh⟩ := hP
  have hx := Bd.exec
  have hby := Bd.bytes
  have hml : c.maxLocals = 3 := hml0
  have hown : s.vm.findClass "com/example/coyote_hill/coyotehill/ItemStatus" = some m.cls := findClass_of_methodNamed Bd.named
  have hnm := (name_of_methodNamed Bd.named Bd.method).1
  have X0 : Stand p l e ({ frames := 1, cells := 0, slots := 0, locals := 14 } : Room) s m #[(.ref p_), (.ref p_)] below meth c s₁ [] 0 0 := Stand.of_body Bd
  have e0 : s₁.heap = h0 := by rw [← hh, Bd.state]; rfl
  have N0 := Fr.nil n0
  have pre0 : ∀ t_, Steps p.tables e below (s₁.setTop (mkF m 0 #[.val (.ref p_), .val (.ref p_), .unset] [])) t_ → Steps p.tables e below (s₁.setTop (entryFrame m #[(.ref p_), (.ref p_)] 3)) t_ := fun t_ k_ => castTop (ef_rmEqS m p_ p_) k_
  have lt_I1 : @LT.lt Nat _ p_ h0.size := I1.lt
  have lt_I2 : @LT.lt Nat _ p_ h0.size := I2.lt
  have lt_I3 : @LT.lt Nat _ p_ h0.size := I3.lt
  have lt_I4 : @LT.lt Nat _ p_ h0.size := I4.lt
  have lt_I5 : @LT.lt Nat _ p_ h0.size := I5.lt
  have lt_I6 : @LT.lt Nat _ p_ h0.size := I6.lt
  have lt_I7 : @LT.lt Nat _ ax h0.size := I7.lt
  have lt_I8 : @LT.lt Nat _ au h0.size := I8.lt
  obtain ⟨T1, X1, e1, st1⟩ := instY X0 hx hZ hown (hw _ (List.mem_of_getElem? (i := 80) rfl)) e0 (Ins.self I1) (g := (mkF m 1 #[.val (.ref p_), .val (.ref p_), .unset] [(.ref p_)])) rfl rfl (Jvm.hb hby d_prog_7_method_7_1)
  obtain ⟨T2, X2, e2, st2⟩ := castY X1 hx hZ hown (hw _ (List.mem_of_getElem? (i := 80) rfl)) e1 (Ins.self I1) (g := (mkF m 10 #[.val (.ref p_), .val (.ref p_), .unset] [(.ref p_)])) rfl rfl (Jvm.hb hby d_prog_7_method_7_10)
  obtain ⟨T3, X3, e3, st3⟩ := getF X2 hx hZ hown (host := "") (Or.inl (hw _ (List.mem_of_getElem? (i := 56) rfl))) Via.refl e2 I2 (g := (mkF m 15 #[.val (.ref p_), .val (.ref p_), .val (.ref p_)] [(.ref p_)])) rfl rfl (Jvm.hb hby d_prog_7_method_7_15)
  obtain ⟨T4, X4, e4, st4⟩ := getF X3 hx hZ hown (host := "") (Or.inl (hw _ (List.mem_of_getElem? (i := 56) rfl))) Via.refl e3 I2 (g := (mkF m 19 #[.val (.ref p_), .val (.ref p_), .val (.ref p_)] [(.ref p_), (.long ix)])) rfl rfl (Jvm.hb hby d_prog_7_method_7_19)
  obtain ⟨T5, X5, e5, st5⟩ := getF X4 hx hZ hown (host := "") (Or.inl (hw _ (List.mem_of_getElem? (i := 64) rfl))) Via.refl e4 I3 (g := (mkF m 27 #[.val (.ref p_), .val (.ref p_), .val (.ref p_)] [(.ref p_)])) rfl rfl (Jvm.hb hby d_prog_7_method_7_27)
  obtain ⟨T6, X6, e6, st6⟩ := getF X5 hx hZ hown (host := "") (Or.inl (hw _ (List.mem_of_getElem? (i := 64) rfl))) Via.refl e5 I3 (g := (mkF m 31 #[.val (.ref p_), .val (.ref p_), .val (.ref p_)] [(.ref p_), (.ref ax)])) rfl rfl (Jvm.hb hby d_prog_7_method_7_31)
  have Zc7 : n0 ≤ h0.size := by omega
  obtain ⟨cq8, kq8, q8a, q8b, q8c⟩ := isOf hZ e6 I7
  obtain ⟨_, _, ⟨T8, L8, k8, n8⟩, -, X8, ⟨Lc8, hQ8, l8, y8, z8⟩, st8⟩ := X6.virtualBack hx (y := (⟨"java/lang/String", "equals", "(Ljava/lang/Object;)Z"⟩ : MethodName)) (z := (⟨"java/lang/String", "equals", "(Ljava/lang/Object;)Z"⟩ : MethodName)) hown (mvT hZ (hw _ (List.mem_of_getElem? (i := 82) rfl))) (mvT hZ (hw _ (List.mem_of_getElem? (i := 83) rfl))) (notFace_of_selects (args := #[]) (mvT hZ (hw _ (List.mem_of_getElem? (i := 85) rfl)))) (mvT hZ (hw _ (List.mem_of_getElem? (i := 85) rfl))) (mvT hZ (hw _ (List.mem_of_getElem? (i := 84) rfl))) (by decide) (backOf (W := 0) (rmSEqS l Z a0 hw [] ax h0 n0 Zc7) hZ (hw _ (List.mem_of_getElem? (i := 86) rfl)) (hw _ (List.mem_of_getElem? (i := 19) rfl)) (by decide) (by decide)) q8a q8c (g := (mkF m 34 #[.val (.ref p_), .val (.ref p_), .val (.ref p_)] [(.ref ax), (.ref ax)])) rfl (by rw [hml]; rfl) (Steps.refl _) (argsL := [(.ref ax)]) (rest := []) (lenOf pd__Ljava_lang_Object__Z rfl) rfl (by show 2 * 0 + _ ≤ _; exact Nat.le_of_eq rfl) (Jvm.hb hby d_prog_7_method_7_34) (fun _ _ => ⟨rfl, e6, (by decide : 0 + 0 ≤ _), (by decide : 0 + 0 ≤ _)⟩)
  dsimp only [Pt.U, Pt.locs, Pt.cells, Pt.slots] at X8 l8 y8 z8 st8 hQ8
  subst l8 y8 z8
  obtain ⟨rfl, N8q, e8⟩ := hQ8
  have N8 := Fr.app N0 N8q
  obtain ⟨T9, X9, e9, st9⟩ := getF X8 hx hZ hown (host := "") (Or.inl (hw _ (List.mem_of_getElem? (i := 67) rfl))) Via.refl e8 I4 (g := (mkF m 41 #[.val (.ref p_), .val (.ref p_), .val (.ref p_)] [(.ref p_)])) rfl rfl (Jvm.hb hby d_prog_7_method_7_41)
  obtain ⟨T10, X10, e10, st10⟩ := getF X9 hx hZ hown (host := "") (Or.inl (hw _ (List.mem_of_getElem? (i := 67) rfl))) Via.refl e9 I4 (g := (mkF m 45 #[.val (.ref p_), .val (.ref p_), .val (.ref p_)] [(.ref p_), (.ref au)])) rfl rfl (Jvm.hb hby d_prog_7_method_7_45)
  have Zc11 : n0 ≤ h0.size := by omega
  obtain ⟨cq12, kq12, q12a, q12b, q12c⟩ := isOf hZ e10 I8
  obtain ⟨_, _, ⟨T12, L12, k12, n12⟩, -, X12, ⟨Lc12, hQ12, l12, y12, z12⟩, st12⟩ := X10.virtualBack hx (y := (⟨"java/lang/String", "equals", "(Ljava/lang/Object;)Z"⟩ : MethodName)) (z := (⟨"java/lang/String", "equals", "(Ljava/lang/Object;)Z"⟩ : MethodName)) hown (mvT hZ (hw _ (List.mem_of_getElem? (i := 82) rfl))) (mvT hZ (hw _ (List.mem_of_getElem? (i := 83) rfl))) (notFace_of_selects (args := #[]) (mvT hZ (hw _ (List.mem_of_getElem? (i := 85) rfl)))) (mvT hZ (hw _ (List.mem_of_getElem? (i := 85) rfl))) (mvT hZ (hw _ (List.mem_of_getElem? (i := 84) rfl))) (by decide) (backOf (W := 0) (rmSEqS l Z a0 hw [] au h0 n0 Zc11) hZ (hw _ (List.mem_of_getElem? (i := 86) rfl)) (hw _ (List.mem_of_getElem? (i := 19) rfl)) (by decide) (by decide)) q12a q12c (g := (mkF m 48 #[.val (.ref p_), .val (.ref p_), .val (.ref p_)] [(.ref au), (.ref au)])) rfl (by rw [hml]; rfl) (Steps.refl _) (argsL := [(.ref au)]) (rest := []) (lenOf pd__Ljava_lang_Object__Z rfl) rfl (by show 2 * 0 + _ ≤ _; exact Nat.le_of_eq rfl) (Jvm.hb hby d_prog_7_method_7_48) (fun _ _ => ⟨rfl, e10, (by decide : 0 + 0 ≤ _), (by decide : 0 + 0 ≤ _)⟩)
  dsimp only [Pt.U, Pt.locs, Pt.cells, Pt.slots] at X12 l12 y12 z12 st12 hQ12
  subst l12 y12 z12
  obtain ⟨rfl, N12q, e12⟩ := hQ12
  have N12 := Fr.app N8 N12q
  obtain ⟨T13, X13, e13, st13⟩ := getF X12 hx hZ hown (host := "") (Or.inl (hw _ (List.mem_of_getElem? (i := 71) rfl))) Via.refl e12 I5 (g := (mkF m 55 #[.val (.ref p_), .val (.ref p_), .val (.ref p_)] [(.ref p_)])) rfl rfl (Jvm.hb hby d_prog_7_method_7_55)
  obtain ⟨T14, X14, e14, st14⟩ := getF X13 hx hZ hown (host := "") (Or.inl (hw _ (List.mem_of_getElem? (i := 71) rfl))) Via.refl e13 I5 (g := (mkF m 59 #[.val (.ref p_), .val (.ref p_), .val (.ref p_)] [(.ref p_), (.ref tx)])) rfl rfl (Jvm.hb hby d_prog_7_method_7_59)
  obtain ⟨T15, X15, e15, st15⟩ := getF X14 hx hZ hown (host := "") (Or.inl (hw _ (List.mem_of_getElem? (i := 73) rfl))) Via.refl e14 I6 (g := (mkF m 66 #[.val (.ref p_), .val (.ref p_), .val (.ref p_)] [(.ref p_)])) rfl rfl (Jvm.hb hby d_prog_7_method_7_66)
  obtain ⟨T16, X16, e16, st16⟩ := getF X15 hx hZ hown (host := "") (Or.inl (hw _ (List.mem_of_getElem? (i := 73) rfl))) Via.refl e15 I6 (g := (mkF m 70 #[.val (.ref p_), .val (.ref p_), .val (.ref p_)] [(.ref p_), (.int nx)])) rfl rfl (Jvm.hb hby d_prog_7_method_7_70)
  have s17 : ∀ t_, Steps p.tables e below (T16.setTop (mkF m 81 #[.val (.ref p_), .val (.ref p_), .val (.ref p_)] [(.int (1 : Int32))])) t_ → Steps p.tables e below (s₁.setTop (entryFrame m #[(.ref p_), (.ref p_)] 3)) t_ := fun t_ k_ => pre0 t_ (by
    show Steps p.tables e below (s₁.setTop (mkF m 0 #[.val (.ref p_), .val (.ref p_), .unset] [])) t_
    refine XS.aloadN X0.here hx rfl (Jvm.hb hby d_prog_7_method_7_0) rfl rfl ?_
    refine st1 _ ?_
    show Steps p.tables e below (T1.setTop (mkF m 4 #[.val (.ref p_), .val (.ref p_), .unset] [(.int (1 : Int32))])) _
    refine XS.ifYes X1.here hx rfl (pc0 := 4) (pc' := 9) rfl (Jvm.hb hby d_prog_7_method_7_4) rfl ((if0 _ _).trans (feq (by decide : ¬ ((1 : Int32) = (0 : Int32)))).2) (by decide) (by decide) ?_
    show Steps p.tables e below (T1.setTop (mkF m 9 #[.val (.ref p_), .val (.ref p_), .unset] [])) _
    refine XS.aloadN X1.here hx rfl (Jvm.hb hby d_prog_7_method_7_9) rfl rfl ?_
    refine st2 _ ?_
    show Steps p.tables e below (T2.setTop (mkF m 13 #[.val (.ref p_), .val (.ref p_), .unset] [(.ref p_)])) _
    refine XS.astoreN X2.here hx rfl (Jvm.hb hby d_prog_7_method_7_13) rfl rfl (l' := #[.val (.ref p_), .val (.ref p_), .val (.ref p_)]) rfl ?_
    refine XS.aloadN X2.here hx rfl (Jvm.hb hby d_prog_7_method_7_14) rfl rfl ?_
    refine st3 _ ?_
    show Steps p.tables e below (T3.setTop (mkF m 18 #[.val (.ref p_), .val (.ref p_), .val (.ref p_)] [(.long ix)])) _
    refine XS.aloadN X3.here hx rfl (Jvm.hb hby d_prog_7_method_7_18) rfl rfl ?_
    refine st4 _ ?_
    show Steps p.tables e below (T4.setTop (mkF m 22 #[.val (.ref p_), .val (.ref p_), .val (.ref p_)] [(.long ix), (.long ix)])) _
    refine XS.lcmp X4.here hx rfl (Jvm.hb hby d_prog_7_method_7_22) rfl ?_
    refine XS.ifNo X4.here hx rfl (Jvm.hb hby d_prog_7_method_7_23) rfl ((if0 _ _).trans (teq (own_lc0 ix)).2) ?_
    show Steps p.tables e below (T4.setTop (mkF m 26 #[.val (.ref p_), .val (.ref p_), .val (.ref p_)] [])) _
    refine XS.aloadN X4.here hx rfl (Jvm.hb hby d_prog_7_method_7_26) rfl rfl ?_
    refine st5 _ ?_
    show Steps p.tables e below (T5.setTop (mkF m 30 #[.val (.ref p_), .val (.ref p_), .val (.ref p_)] [(.ref ax)])) _
    refine XS.aloadN X5.here hx rfl (Jvm.hb hby d_prog_7_method_7_30) rfl rfl ?_
    refine st6 _ ?_
    show Steps p.tables e below (T6.setTop (mkF m 34 #[.val (.ref p_), .val (.ref p_), .val (.ref p_)] [(.ref ax), (.ref ax)])) _
    refine st8.trans ?_
    show Steps p.tables e below (T8.setTop (mkF m 37 #[.val (.ref p_), .val (.ref p_), .val (.ref p_)] [(.int (1 : Int32))])) _
    refine XS.ifNo X8.here hx rfl (Jvm.hb hby d_prog_7_method_7_37) rfl ((if0 _ _).trans (feq (by decide : ¬ ((1 : Int32) = (0 : Int32)))).1) ?_
    show Steps p.tables e below (T8.setTop (mkF m 40 #[.val (.ref p_), .val (.ref p_), .val (.ref p_)] [])) _
    refine XS.aloadN X8.here hx rfl (Jvm.hb hby d_prog_7_method_7_40) rfl rfl ?_
    refine st9 _ ?_
    show Steps p.tables e below (T9.setTop (mkF m 44 #[.val (.ref p_), .val (.ref p_), .val (.ref p_)] [(.ref au)])) _
    refine XS.aloadN X9.here hx rfl (Jvm.hb hby d_prog_7_method_7_44) rfl rfl ?_
    refine st10 _ ?_
    show Steps p.tables e below (T10.setTop (mkF m 48 #[.val (.ref p_), .val (.ref p_), .val (.ref p_)] [(.ref au), (.ref au)])) _
    refine st12.trans ?_
    show Steps p.tables e below (T12.setTop (mkF m 51 #[.val (.ref p_), .val (.ref p_), .val (.ref p_)] [(.int (1 : Int32))])) _
    refine XS.ifNo X12.here hx rfl (Jvm.hb hby d_prog_7_method_7_51) rfl ((if0 _ _).trans (feq (by decide : ¬ ((1 : Int32) = (0 : Int32)))).1) ?_
    show Steps p.tables e below (T12.setTop (mkF m 54 #[.val (.ref p_), .val (.ref p_), .val (.ref p_)] [])) _
    refine XS.aloadN X12.here hx rfl (Jvm.hb hby d_prog_7_method_7_54) rfl rfl ?_
    refine st13 _ ?_
    show Steps p.tables e below (T13.setTop (mkF m 58 #[.val (.ref p_), .val (.ref p_), .val (.ref p_)] [(.ref tx)])) _
    refine XS.aloadN X13.here hx rfl (Jvm.hb hby d_prog_7_method_7_58) rfl rfl ?_
    refine st14 _ ?_
    show Steps p.tables e below (T14.setTop (mkF m 62 #[.val (.ref p_), .val (.ref p_), .val (.ref p_)] [(.ref tx), (.ref tx)])) _
    refine Jvm.RoadKit.acmp (g := (mkF m 62 #[.val (.ref p_), .val (.ref p_), .val (.ref p_)] [(.ref tx), (.ref tx)])) X14 hx rfl rfl rfl (pc0 := 62) (pc' := 65) (same := true) rfl (Jvm.hb hby d_prog_7_method_7_62) rfl (decide_eq_true rfl) (by decide) (by decide) ?_
    show Steps p.tables e below (T14.setTop (mkF m 65 #[.val (.ref p_), .val (.ref p_), .val (.ref p_)] [])) _
    refine XS.aloadN X14.here hx rfl (Jvm.hb hby d_prog_7_method_7_65) rfl rfl ?_
    refine st15 _ ?_
    show Steps p.tables e below (T15.setTop (mkF m 69 #[.val (.ref p_), .val (.ref p_), .val (.ref p_)] [(.int nx)])) _
    refine XS.aloadN X15.here hx rfl (Jvm.hb hby d_prog_7_method_7_69) rfl rfl ?_
    refine st16 _ ?_
    show Steps p.tables e below (T16.setTop (mkF m 73 #[.val (.ref p_), .val (.ref p_), .val (.ref p_)] [(.int nx), (.int nx)])) _
    refine XS.icmpNo X16.here hx rfl (Jvm.hb hby d_prog_7_method_7_73) rfl (teq (rfl : nx = nx)).2 ?_
    show Steps p.tables e below (T16.setTop (mkF m 76 #[.val (.ref p_), .val (.ref p_), .val (.ref p_)] [])) _
    refine XS.iconst X16.here hx rfl (Jvm.hb hby d_prog_7_method_7_76) ?_
    refine XS.goto X16.here hx rfl (pc0 := 77) (pc' := 81) rfl (Jvm.hb hby d_prog_7_method_7_77) (by decide) (by decide) ?_
    show Steps p.tables e below (T16.setTop (mkF m 81 #[.val (.ref p_), .val (.ref p_), .val (.ref p_)] [(.int (1 : Int32))])) t_
    exact k_)
  obtain ⟨fs, hr, hrun, hended, hW, hsame⟩ := X16.leave (v := some (.int (1 : Int32))) (fun h => by rw [Bd.returns] at h; cases h)
  refine ⟨_, _, s17 _ ?_, hrun, hended, _, _, rfl, ?_, ⟨_, rfl⟩, hW, hsame.mono (by decide) (by decide)⟩
  · show Steps p.tables e below (T16.setTop (mkF m 81 #[.val (.ref p_), .val (.ref p_), .val (.ref p_)] [(.int (1 : Int32))])) _
    exact retN X16 hx (t := .boolean) Bd.returns (by simp) (Jvm.hb hby d_prog_7_method_7_81) hr
  · show Q_rmEqS Z _ _ _ _ _ _ h0 n0 _ T16.heap _
    rw [e16]
    exact ⟨rfl, N12, rfl⟩
theorem d_prog_7_method_7_7 : decode prog_7_method_7_code 7 = .ok (.iconst 0, 1) := by decide +kernel
theorem d_prog_7_method_7_8 : decode prog_7_method_7_code 8 = .ok (.ireturn, 1) := by decide +kernel
theorem ef_rmEqN (m : MethodId) (x0 : Addr) : entryFrame m #[(.ref x0), .null] 3 = mkF m 0 #[.val (.ref x0), .val .null, .unset] [] := by first | (simp [entryFrame, mkF, argsToLocals, Value.category]; done) | rfl
def Q_rmEqN (Z : State) (p_ : Addr) (h0 : Heap) (n0 : Nat) (v : Option Value) (h : Heap) (L : List Loc) : Prop := (v = some (.int (0 : Int32))) ∧ (Fr n0 L) ∧ (h = h0)
set_option maxRecDepth 65536 in
set_option maxHeartbeats 40000000 in
theorem rmEqN (l : Launch) (Z : State) (a0 : Array Value) (hw : ∀ d ∈ tables_1, d.before a0 Z = true) (ws : List Jvm.Cond) (p_ : Addr) (h0 : Heap) (n0 : Nat) (Z0 : n0 ≤ h0.size)  :
    MetFree l (⟨"com/example/coyote_hill/coyotehill/ItemStatus", "equals", "(Ljava/lang/Object;)Z"⟩ : MethodName) (head1 (Jvm.Cond.code (⟨"com/example/coyote_hill/coyotehill/ItemStatus", "equals", "(Ljava/lang/Object;)Z"⟩ : MethodName) prog_7_method_7_code 3 (some .boolean) :: ws) ({ frames := 0, cells := 0, slots := 0, locals := 0 } : Room)) (fun ar_ U => ar_ = #[(.ref p_), .null] ∧ Z.Warmed39 U.vm ∧ U.heap = h0) (fun _ _ _ _ _ => True) (fun _ U o U' => ∃ v L, o = .returned v ∧ Q_rmEqN Z p_ h0 n0 v U'.heap L ∧ FrameEnd U o U' L ({ frames := 0, cells := 0, slots := 0, locals := 0 } : Room).cells ({ frames := 0, cells := 0, slots := 0, locals := 0 } : Room).slots) := by
  refine MetFree.of_bodySF (plainFor_of_name pn_com_example_coyote_hill_coyotehill_ItemStatus) hisR ?_
  intro p e s m args below meth c s₁ Bd hml0 hP hK
  obtain ⟨rfl, hZ, hh⟩ := hP
  have hx := Bd.exec
  have hby := Bd.bytes
  have hml : c.maxLocals = 3 := hml0
  have hown : s.vm.findClass "com/example/coyote_hill/coyotehill/ItemStatus" = some m.cls := findClass_of_methodNamed Bd.named
  have hnm := (name_of_methodNamed Bd.named Bd.method).1
  have X0 : Stand p l e ({ frames := 0, cells := 0, slots := 0, locals := 0 } : Room) s m #[(.ref p_), .null] below meth c s₁ [] 0 0 := Stand.of_body Bd
  have e0 : s₁.heap = h0 := by rw [← hh, Bd.state]; rfl
  have N0 := Fr.nil n0
  have pre0 : ∀ t_, Steps p.tables e below (s₁.setTop (mkF m 0 #[.val (.ref p_), .val .null, .unset] [])) t_ → Steps p.tables e below (s₁.setTop (entryFrame m #[(.ref p_), .null] 3)) t_ := fun t_ k_ => castTop (ef_rmEqN m p_) k_
  have s1 : ∀ t_, Steps p.tables e below (s₁.setTop (mkF m 8 #[.val (.ref p_), .val .null, .unset] [(.int (0 : Int32))])) t_ → Steps p.tables e below (s₁.setTop (entryFrame m #[(.ref p_), .null] 3)) t_ := fun t_ k_ => pre0 t_ (by
    show Steps p.tables e below (s₁.setTop (mkF m 0 #[.val (.ref p_), .val .null, .unset] [])) t_
    refine XS.aloadN X0.here hx rfl (Jvm.hb hby d_prog_7_method_7_0) rfl rfl ?_
    refine X0.instanceofNull hx (g := (mkF m 1 #[.val (.ref p_), .val .null, .unset] [.null])) rfl rfl (Jvm.hb hby d_prog_7_method_7_1) _ ?_
    show Steps p.tables e below (s₁.setTop (mkF m 4 #[.val (.ref p_), .val .null, .unset] [(.int (0 : Int32))])) _
    refine XS.ifNo X0.here hx rfl (Jvm.hb hby d_prog_7_method_7_4) rfl ((if0 _ _).trans (teq (rfl : (0 : Int32) = (0 : Int32))).2) ?_
    show Steps p.tables e below (s₁.setTop (mkF m 7 #[.val (.ref p_), .val .null, .unset] [])) _
    refine XS.iconst X0.here hx rfl (Jvm.hb hby d_prog_7_method_7_7) ?_
    show Steps p.tables e below (s₁.setTop (mkF m 8 #[.val (.ref p_), .val .null, .unset] [(.int (0 : Int32))])) t_
    exact k_)
  obtain ⟨fs, hr, hrun, hended, hW, hsame⟩ := X0.leave (v := some (.int (0 : Int32))) (fun h => by rw [Bd.returns] at h; cases h)
  refine ⟨_, _, s1 _ ?_, hrun, hended, _, _, rfl, ?_, ⟨_, rfl⟩, hW, hsame.mono (by decide) (by decide)⟩
  · show Steps p.tables e below (s₁.setTop (mkF m 8 #[.val (.ref p_), .val .null, .unset] [(.int (0 : Int32))])) _
    exact retN X0 hx (t := .boolean) Bd.returns (by simp) (Jvm.hb hby d_prog_7_method_7_8) hr
  · show Q_rmEqN Z _ h0 n0 _ s₁.heap _
    rw [e0]
    exact ⟨rfl, N0, rfl⟩
theorem ef_rmEqX (m : MethodId) (x0 : Addr) (x1 : Addr) : entryFrame m #[(.ref x0), (.ref x1)] 3 = mkF m 0 #[.val (.ref x0), .val (.ref x1), .unset] [] := by first | (simp [entryFrame, mkF, argsToLocals, Value.category]; done) | rfl
def Q_rmEqX (Z : State) (p_ : Addr) (q_ : Addr) (h0 : Heap) (n0 : Nat) (v : Option Value) (h : Heap) (L : List Loc) : Prop := (v = some (.int (0 : Int32))) ∧ (Fr n0 L) ∧ (h = h0)
set_option maxRecDepth 65536 in
set_option maxHeartbeats 40000000 in
theorem rmEqX (l : Launch) (Z : State) (a0 : Array Value) (hw : ∀ d ∈ tables_1, d.before a0 Z = true) (ws : List Jvm.Cond) (p_ : Addr) (q_ : Addr) (h0 : Heap) (n0 : Nat) (Z0 : n0 ≤ h0.size) (I1 : Exa Z h0 q_ "java/lang/String") :
    MetFree l (⟨"com/example/coyote_hill/coyotehill/ItemStatus", "equals", "(Ljava/lang/Object;)Z"⟩ : MethodName) (head1 (Jvm.Cond.code (⟨"com/example/coyote_hill/coyotehill/ItemStatus", "equals", "(Ljava/lang/Object;)Z"⟩ : MethodName) prog_7_method_7_code 3 (some .boolean) :: ws) ({ frames := 0, cells := 0, slots := 0, locals := 0 } : Room)) (fun ar_ U => ar_ = #[(.ref p_), (.ref q_)] ∧ Z.Warmed39 U.vm ∧ U.heap = h0) (fun _ _ _ _ _ => True) (fun _ U o U' => ∃ v L, o = .returned v ∧ Q_rmEqX Z p_ q_ h0 n0 v U'.heap L ∧ FrameEnd U o U' L ({ frames := 0, cells := 0, slots := 0, locals := 0 } : Room).cells ({ frames := 0, cells := 0, slots := 0, locals := 0 } : Room).slots) := by
  refine MetFree.of_bodySF (plainFor_of_name pn_com_example_coyote_hill_coyotehill_ItemStatus) hisR ?_
  intro p e s m args below meth c s₁ Bd hml0 hP hK
  obtain ⟨rfl, hZ, hh⟩ := hP
  have hx := Bd.exec
  have hby := Bd.bytes
  have hml : c.maxLocals = 3 := hml0
  have hown : s.vm.findClass "com/example/coyote_hill/coyotehill/ItemStatus" = some m.cls := findClass_of_methodNamed Bd.named
  have hnm := (name_of_methodNamed Bd.named Bd.method).1
  have X0 : Stand p l e ({ frames := 0, cells := 0, slots := 0, locals := 0 } : Room) s m #[(.ref p_), (.ref q_)] below meth c s₁ [] 0 0 := Stand.of_body Bd
  have e0 : s₁.heap = h0 := by rw [← hh, Bd.state]; rfl
  have N0 := Fr.nil n0
  have pre0 : ∀ t_, Steps p.tables e below (s₁.setTop (mkF m 0 #[.val (.ref p_), .val (.ref q_), .unset] [])) t_ → Steps p.tables e below (s₁.setTop (entryFrame m #[(.ref p_), (.ref q_)] 3)) t_ := fun t_ k_ => castTop (ef_rmEqX m p_ q_) k_
  have lt_I1 : @LT.lt Nat _ q_ h0.size := I1.lt
  obtain ⟨T1, X1, e1, st1⟩ := instNo X0 hx hZ hown (hw _ (List.mem_of_getElem? (i := 80) rfl)) e0 I1 (own_NSno (hw _ (List.mem_of_getElem? (i := 87) rfl)) (hw _ (List.mem_of_getElem? (i := 50) rfl)) (NS.step (hw _ (List.mem_of_getElem? (i := 87) rfl)) (own_NSroot (hw _ (List.mem_of_getElem? (i := 88) rfl)) (hw _ (List.mem_of_getElem? (i := 50) rfl)) (by decide)) (by decide)) (by decide)) (g := (mkF m 1 #[.val (.ref p_), .val (.ref q_), .unset] [(.ref q_)])) rfl rfl (Jvm.hb hby d_prog_7_method_7_1)
  have s2 : ∀ t_, Steps p.tables e below (T1.setTop (mkF m 8 #[.val (.ref p_), .val (.ref q_), .unset] [(.int (0 : Int32))])) t_ → Steps p.tables e below (s₁.setTop (entryFrame m #[(.ref p_), (.ref q_)] 3)) t_ := fun t_ k_ => pre0 t_ (by
    show Steps p.tables e below (s₁.setTop (mkF m 0 #[.val (.ref p_), .val (.ref q_), .unset] [])) t_
    refine XS.aloadN X0.here hx rfl (Jvm.hb hby d_prog_7_method_7_0) rfl rfl ?_
    refine st1 _ ?_
    show Steps p.tables e below (T1.setTop (mkF m 4 #[.val (.ref p_), .val (.ref q_), .unset] [(.int (0 : Int32))])) _
    refine XS.ifNo X1.here hx rfl (Jvm.hb hby d_prog_7_method_7_4) rfl ((if0 _ _).trans (teq (rfl : (0 : Int32) = (0 : Int32))).2) ?_
    show Steps p.tables e below (T1.setTop (mkF m 7 #[.val (.ref p_), .val (.ref q_), .unset] [])) _
    refine XS.iconst X1.here hx rfl (Jvm.hb hby d_prog_7_method_7_7) ?_
    show Steps p.tables e below (T1.setTop (mkF m 8 #[.val (.ref p_), .val (.ref q_), .unset] [(.int (0 : Int32))])) t_
    exact k_)
  obtain ⟨fs, hr, hrun, hended, hW, hsame⟩ := X1.leave (v := some (.int (0 : Int32))) (fun h => by rw [Bd.returns] at h; cases h)
  refine ⟨_, _, s2 _ ?_, hrun, hended, _, _, rfl, ?_, ⟨_, rfl⟩, hW, hsame.mono (by decide) (by decide)⟩
  · show Steps p.tables e below (T1.setTop (mkF m 8 #[.val (.ref p_), .val (.ref q_), .unset] [(.int (0 : Int32))])) _
    exact retN X1 hx (t := .boolean) Bd.returns (by simp) (Jvm.hb hby d_prog_7_method_7_8) hr
  · show Q_rmEqX Z _ _ h0 n0 _ T1.heap _
    rw [e1]
    exact ⟨rfl, N0, rfl⟩
theorem pd__I_Ljava_lang_String_ : parseMethodDescriptor "(I)Ljava/lang/String;" = some ⟨[.int], some (.object "java/lang/String")⟩ := by decide +kernel
theorem pd__JLjava_lang_String_Ljava_lang_String_Lcom_example_coyote_hill_coyotehill_ItemState_I_V : parseMethodDescriptor "(JLjava/lang/String;Ljava/lang/String;Lcom/example/coyote_hill/coyotehill/ItemState;I)V" = some ⟨[.long, (.object "java/lang/String"), (.object "java/lang/String"), (.object "com/example/coyote_hill/coyotehill/ItemState"), .int], none⟩ := by decide +kernel
theorem pd__II_Z : parseMethodDescriptor "(II)Z" = some ⟨[.int, .int], some .boolean⟩ := by decide +kernel
theorem ef_rmLaw (m : MethodId) (x0 : Int64) (x1 : Int64) (x2 : Int64) (x3 : Int64) (x4 : Int64) (x5 : Int32) : entryFrame m #[(.long x0), (.long x1), (.long x2), (.long x3), (.long x4), (.int x5)] maxLocals = mkF m 0 #[.val (.long x0), .second, .val (.long x1), .second, .val (.long x2), .second, .val (.long x3), .second, .val (.long x4), .second, .val (.int x5), .unset, .unset, .unset, .unset, .unset, .unset, .unset, .unset, .unset, .unset, .unset, .unset, .unset, .unset, .unset, .unset, .unset, .unset, .unset] [] := by first | (simp [entryFrame, mkF, argsToLocals, Value.category, maxLocals]; done) | rfl
def Q_rmLaw (Z : State) (id1 : Int64) (idr : Int64) (qt1 : Int64) (qtr : Int64) (att : Int64) (fl : Int32) (cst : Int32) (ra : Addr) (rb : Addr) (rc : Addr) (rd : Addr) (h0 : Heap) (n0 : Nat) (v : Option Value) (h : Heap) (L : List Loc) : Prop := v = some (.int 1) ∧ Fr n0 L
set_option maxRecDepth 65536 in
set_option maxHeartbeats 40000000 in
theorem rmLaw (l : Launch) (Z : State) (a0 : Array Value) (hw : ∀ d ∈ tables_1, d.before a0 Z = true) (ws : List Jvm.Cond) (id1 : Int64) (idr : Int64) (qt1 : Int64) (qtr : Int64) (att : Int64) (fl : Int32) (cst : Int32) (ra : Addr) (rb : Addr) (rc : Addr) (rd : Addr) (h0 : Heap) (n0 : Nat) (Z0 : n0 ≤ h0.size) (I1 : Sta Z Z.heap "java/lang/String" "COMPACT_STRINGS" "Z" (.int cst)) (OX : Old Z n0 h0) (hcst : ¬ (cst = (0 : Int32))) (I2 : Sta Z Z.heap "com/example/coyote_hill/coyotehill/ItemState" "READY" "Lcom/example/coyote_hill/coyotehill/ItemState;" (.ref ra)) (I3 : Sta Z Z.heap "com/example/coyote_hill/coyotehill/ItemState" "LEASED" "Lcom/example/coyote_hill/coyotehill/ItemState;" (.ref rb)) (I4 : Sta Z Z.heap "com/example/coyote_hill/coyotehill/ItemState" "DONE" "Lcom/example/coyote_hill/coyotehill/ItemState;" (.ref rc)) (I5 : Sta Z Z.heap "com/example/coyote_hill/coyotehill/ItemState" "FAILED" "Lcom/example/coyote_hill/coyotehill/ItemState;" (.ref rd)) (I6 : Exa Z Z.heap ra "com/example/coyote_hill/coyotehill/ItemState") (I7 : Exa Z Z.heap rb "com/example/coyote_hill/coyotehill/ItemState") (I8 : Exa Z Z.heap rc "com/example/coyote_hill/coyotehill/ItemState") (I9 : Exa Z Z.heap rd "com/example/coyote_hill/coyotehill/ItemState") (hab : @Ne Nat ra rb) (hac : @Ne Nat ra rc) (had : @Ne Nat ra rd) (hbc : @Ne Nat rb rc) (hbd : @Ne Nat rb rd) (hcd : @Ne Nat rc rd) :
    MetFree l x (head1 (Jvm.Cond.code x code maxLocals ret :: ws) room_1) (fun ar_ U => ar_ = #[(.long id1), (.long idr), (.long qt1), (.long qtr), (.long att), (.int fl)] ∧ Z.Warmed39 U.vm ∧ U.heap = h0 ∧ CHv Z ELs U.vm h0) (fun _ _ _ _ _ => True) (fun _ U o U' => ∃ v L, o = .returned v ∧ Q_rmLaw Z id1 idr qt1 qtr att fl cst ra rb rc rd h0 n0 v U'.heap L ∧ CHr Z ELs U.vm U.heap U'.vm U'.heap ∧ ReturnedEndW U o U' L room_1.cells room_1.slots) := by
  refine MetFree.of_bodySF (plainFor_of_name pn_com_example_coyote_hill_coyotehill_ItemStatusEqualsPinLaw) hisR ?_
  intro p e s m args below meth c s₁ Bd hml0 hP hK
  obtain ⟨rfl, hZ, hh, hCH⟩ := hP
  have hx := Bd.exec
  have hby := Bd.bytes
  have hml : c.maxLocals = 30 := hml0
  have hown : s.vm.findClass "com/example/coyote_hill/coyotehill/ItemStatusEqualsPinLaw" = some m.cls := findClass_of_methodNamed Bd.named
  have hnm := (name_of_methodNamed Bd.named Bd.method).1
  have X0 : Stand p l e room_1 (s.setVm s.vm) m #[(.long id1), (.long idr), (.long qt1), (.long qtr), (.long att), (.int fl)] below meth c s₁ [] 0 0 := Stand.of_body Bd
  have e0 : s₁.heap = h0 := by rw [← hh, Bd.state]; rfl
  have N0 := Fr.nil n0
  have pre0 : ∀ t_, Steps p.tables e below (s₁.setTop (mkF m 0 #[.val (.long id1), .second, .val (.long idr), .second, .val (.long qt1), .second, .val (.long qtr), .second, .val (.long att), .second, .val (.int fl), .unset, .unset, .unset, .unset, .unset, .unset, .unset, .unset, .unset, .unset, .unset, .unset, .unset, .unset, .unset, .unset, .unset, .unset, .unset] [])) t_ → Steps p.tables e below (s₁.setTop (entryFrame m #[(.long id1), (.long idr), (.long qt1), (.long qtr), (.long att), (.int fl)] maxLocals)) t_ := fun t_ k_ => castTop (ef_rmLaw m id1 idr qt1 qtr att fl) k_
  have hEL : EW Z a0 ELs := own_EW hw
  have wS : ∀ a ∈ Bundle.stringAtoms, a.before a0 Z = true := own_wS hw
  have hS : s.Since s.vm s.heap.size := (State.WarmedH.refl s).since _
  have hk : s.heap.size ≤ h0.size := by rw [hh]; exact Nat.le_refl _
  have CR : CHr Z ELs s.vm h0 s.vm h0 := CHr.refl hCH
  obtain ⟨q1, hq1⟩ : ∃ z : Int32, z = (fl &&& (1 : Int32)) := ⟨_, rfl⟩
  have s2 : ∀ t_, Steps p.tables e below (s₁.setTop (mkF m 4 #[.val (.long id1), .second, .val (.long idr), .second, .val (.long qt1), .second, .val (.long qtr), .second, .val (.long att), .second, .val (.int fl), .unset, .unset, .unset, .unset, .unset, .unset, .unset, .unset, .unset, .unset, .unset, .unset, .unset, .unset, .unset, .unset, .unset, .unset, .unset] [(.int q1)])) t_ → Steps p.tables e below (s₁.setTop (entryFrame m #[(.long id1), (.long idr), (.long qt1), (.long qtr), (.long att), (.int fl)] maxLocals)) t_ := fun t_ k_ => pre0 t_ (by
    show Steps p.tables e below (s₁.setTop (mkF m 0 #[.val (.long id1), .second, .val (.long idr), .second, .val (.long qt1), .second, .val (.long qtr), .second, .val (.long att), .second, .val (.int fl), .unset, .unset, .unset, .unset, .unset, .unset, .unset, .unset, .unset, .unset, .unset, .unset, .unset, .unset, .unset, .unset, .unset, .unset, .unset] [])) t_
    refine XS.iload X0.here hx rfl (Jvm.hb hby at_0) rfl ?_
    refine XS.iconst X0.here hx rfl (Jvm.hb hby at_2) ?_
    refine XS.iand X0.here hx rfl (Jvm.hb hby at_3) rfl ?_
    show Steps p.tables e below (s₁.setTop (mkF m 4 #[.val (.long id1), .second, .val (.long idr), .second, .val (.long qt1), .second, .val (.long qtr), .second, .val (.long att), .second, .val (.int fl), .unset, .unset, .unset, .unset, .unset, .unset, .unset, .unset, .unset, .unset, .unset, .unset, .unset, .unset, .unset, .unset, .unset, .unset, .unset] [(.int (fl &&& (1 : Int32)))])) t_
    exact castTop (by simp only [hq1]) k_)
  obtain ⟨q3, hq3⟩ : ∃ z : Int64, z = (if q1 = (0 : Int32) then idr else id1) := ⟨_, rfl⟩
  obtain ⟨T4, X4, e4, s4⟩ := seg X0 (fun T' => T'.heap = h0 ∧ ∀ t_, Steps p.tables e below (T'.setTop (mkF m 12 #[.val (.long id1), .second, .val (.long idr), .second, .val (.long qt1), .second, .val (.long qtr), .second, .val (.long att), .second, .val (.int fl), .unset, .unset, .unset, .unset, .unset, .unset, .unset, .unset, .unset, .unset, .unset, .unset, .unset, .unset, .unset, .unset, .unset, .unset, .unset] [(.long q3)])) t_ → Steps p.tables e below (s₁.setTop (entryFrame m #[(.long id1), (.long idr), (.long qt1), (.long qtr), (.long att), (.int fl)] maxLocals)) t_) (by
    by_cases h5 : q1 = (0 : Int32)
    · have s6 : ∀ t_, Steps p.tables e below (s₁.setTop (mkF m 12 #[.val (.long id1), .second, .val (.long idr), .second, .val (.long qt1), .second, .val (.long qtr), .second, .val (.long att), .second, .val (.int fl), .unset, .unset, .unset, .unset, .unset, .unset, .unset, .unset, .unset, .unset, .unset, .unset, .unset, .unset, .unset, .unset, .unset, .unset, .unset] [(.long idr)])) t_ → Steps p.tables e below (s₁.setTop (entryFrame m #[(.long id1), (.long idr), (.long qt1), (.long qtr), (.long att), (.int fl)] maxLocals)) t_ := fun t_ k_ => s2 t_ (by
        show Steps p.tables e below (s₁.setTop (mkF m 4 #[.val (.long id1), .second, .val (.long idr), .second, .val (.long qt1), .second, .val (.long qtr), .second, .val (.long att), .second, .val (.int fl), .unset, .unset, .unset, .unset, .unset, .unset, .unset, .unset, .unset, .unset, .unset, .unset, .unset, .unset, .unset, .unset, .unset, .unset, .unset] [(.int q1)])) t_
        refine XS.ifYes X0.here hx rfl (pc0 := 4) (pc' := 11) rfl (Jvm.hb hby at_4) rfl ((if0 _ _).trans (teq h5).1) (by decide) (by decide) ?_
        show Steps p.tables e below (s₁.setTop (mkF m 11 #[.val (.long id1), .second, .val (.long idr), .second, .val (.long qt1), .second, .val (.long qtr), .second, .val (.long att), .second, .val (.int fl), .unset, .unset, .unset, .unset, .unset, .unset, .unset, .unset, .unset, .unset, .unset, .unset, .unset, .unset, .unset, .unset, .unset, .unset, .unset] [])) _
        refine XS.lloadN X0.here hx rfl (Jvm.hb hby at_11) rfl ?_
        show Steps p.tables e below (s₁.setTop (mkF m 12 #[.val (.long id1), .second, .val (.long idr), .second, .val (.long qt1), .second, .val (.long qtr), .second, .val (.long att), .second, .val (.int fl), .unset, .unset, .unset, .unset, .unset, .unset, .unset, .unset, .unset, .unset, .unset, .unset, .unset, .unset, .unset, .unset, .unset, .unset, .unset] [(.long idr)])) t_
        exact k_)
      exact ⟨s₁, X0, e0, fun t_ k_ => s6 t_ (castTop (by simp only [hq3, if_pos h5]) k_)⟩
    · have s7 : ∀ t_, Steps p.tables e below (s₁.setTop (mkF m 12 #[.val (.long id1), .second, .val (.long idr), .second, .val (.long qt1), .second, .val (.long qtr), .second, .val (.long att), .second, .val (.int fl), .unset, .unset, .unset, .unset, .unset, .unset, .unset, .unset, .unset, .unset, .unset, .unset, .unset, .unset, .unset, .unset, .unset, .unset, .unset] [(.long id1)])) t_ → Steps p.tables e below (s₁.setTop (entryFrame m #[(.long id1), (.long idr), (.long qt1), (.long qtr), (.long att), (.int fl)] maxLocals)) t_ := fun t_ k_ => s2 t_ (by
        show Steps p.tables e below (s₁.setTop (mkF m 4 #[.val (.long id1), .second, .val (.long idr), .second, .val (.long qt1), .second, .val (.long qtr), .second, .val (.long att), .second, .val (.int fl), .unset, .unset, .unset, .unset, .unset, .unset, .unset, .unset, .unset, .unset, .unset, .unset, .unset, .unset, .unset, .unset, .unset, .unset, .unset] [(.int q1)])) t_
        refine XS.ifNo X0.here hx rfl (Jvm.hb hby at_4) rfl ((if0 _ _).trans (feq h5).1) ?_
        show Steps p.tables e below (s₁.setTop (mkF m 7 #[.val (.long id1), .second, .val (.long idr), .second, .val (.long qt1), .second, .val (.long qtr), .second, .val (.long att), .second, .val (.int fl), .unset, .unset, .unset, .unset, .unset, .unset, .unset, .unset, .unset, .unset, .unset, .unset, .unset, .unset, .unset, .unset, .unset, .unset, .unset] [])) _
        refine XS.lloadN X0.here hx rfl (Jvm.hb hby at_7) rfl ?_
        refine XS.goto X0.here hx rfl (pc0 := 8) (pc' := 12) rfl (Jvm.hb hby at_8) (by decide) (by decide) ?_
        show Steps p.tables e below (s₁.setTop (mkF m 12 #[.val (.long id1), .second, .val (.long idr), .second, .val (.long qt1), .second, .val (.long qtr), .second, .val (.long att), .second, .val (.int fl), .unset, .unset, .unset, .unset, .unset, .unset, .unset, .unset, .unset, .unset, .unset, .unset, .unset, .unset, .unset, .unset, .unset, .unset, .unset] [(.long id1)])) t_
        exact k_)
      exact ⟨s₁, X0, e0, fun t_ k_ => s7 t_ (castTop (by simp only [hq3, if_neg h5]) k_)⟩)
  obtain ⟨q8, hq8⟩ : ∃ z : Int32, z = ((ushrJ qt1 (32 : Int32)).toInt32) := ⟨_, rfl⟩
  obtain ⟨q9, hq9⟩ : ∃ z : Int32, z = (fl &&& (2 : Int32)) := ⟨_, rfl⟩
  have s10 : ∀ t_, Steps p.tables e below (T4.setTop (mkF m 31 #[.val (.long id1), .second, .val (.long idr), .second, .val (.long qt1), .second, .val (.long qtr), .second, .val (.long att), .second, .val (.int fl), .val (.long q3), .second, .val (.int (qt1.toInt32)), .val (.int q8), .unset, .unset, .unset, .unset, .unset, .unset, .unset, .unset, .unset, .unset, .unset, .unset, .unset, .unset, .unset] [(.int q9)])) t_ → Steps p.tables e below (s₁.setTop (entryFrame m #[(.long id1), (.long idr), (.long qt1), (.long qtr), (.long att), (.int fl)] maxLocals)) t_ := fun t_ k_ => s4 t_ (by
    show Steps p.tables e below (T4.setTop (mkF m 12 #[.val (.long id1), .second, .val (.long idr), .second, .val (.long qt1), .second, .val (.long qtr), .second, .val (.long att), .second, .val (.int fl), .unset, .unset, .unset, .unset, .unset, .unset, .unset, .unset, .unset, .unset, .unset, .unset, .unset, .unset, .unset, .unset, .unset, .unset, .unset] [(.long q3)])) t_
    refine XS.lstore X4.here hx rfl (Jvm.hb hby at_12) rfl (l' := #[.val (.long id1), .second, .val (.long idr), .second, .val (.long qt1), .second, .val (.long qtr), .second, .val (.long att), .second, .val (.int fl), .val (.long q3), .second, .unset, .unset, .unset, .unset, .unset, .unset, .unset, .unset, .unset, .unset, .unset, .unset, .unset, .unset, .unset, .unset, .unset]) rfl ?_
    refine XS.lload X4.here hx rfl (Jvm.hb hby at_14) rfl ?_
    refine XS.l2i X4.here hx rfl (Jvm.hb hby at_16) rfl ?_
    show Steps p.tables e below (T4.setTop (mkF m 17 #[.val (.long id1), .second, .val (.long idr), .second, .val (.long qt1), .second, .val (.long qtr), .second, .val (.long att), .second, .val (.int fl), .val (.long q3), .second, .unset, .unset, .unset, .unset, .unset, .unset, .unset, .unset, .unset, .unset, .unset, .unset, .unset, .unset, .unset, .unset, .unset] [(.int (qt1.toInt32))])) _
    refine XS.istore X4.here hx rfl (Jvm.hb hby at_17) rfl (l' := #[.val (.long id1), .second, .val (.long idr), .second, .val (.long qt1), .second, .val (.long qtr), .second, .val (.long att), .second, .val (.int fl), .val (.long q3), .second, .val (.int (qt1.toInt32)), .unset, .unset, .unset, .unset, .unset, .unset, .unset, .unset, .unset, .unset, .unset, .unset, .unset, .unset, .unset, .unset]) rfl ?_
    refine XS.lload X4.here hx rfl (Jvm.hb hby at_19) rfl ?_
    refine XS.bipush X4.here hx rfl (Jvm.hb hby at_21) ?_
    refine XS.lushr X4.here hx rfl (Jvm.hb hby at_23) rfl ?_
    refine XS.l2i X4.here hx rfl (Jvm.hb hby at_24) rfl ?_
    refine XS.istore X4.here hx rfl (Jvm.hb hby at_25) rfl (l' := #[.val (.long id1), .second, .val (.long idr), .second, .val (.long qt1), .second, .val (.long qtr), .second, .val (.long att), .second, .val (.int fl), .val (.long q3), .second, .val (.int (qt1.toInt32)), .val (.int ((ushrJ qt1 (32 : Int32)).toInt32)), .unset, .unset, .unset, .unset, .unset, .unset, .unset, .unset, .unset, .unset, .unset, .unset, .unset, .unset, .unset]) rfl ?_
    show Steps p.tables e below (T4.setTop (mkF m 27 #[.val (.long id1), .second, .val (.long idr), .second, .val (.long qt1), .second, .val (.long qtr), .second, .val (.long att), .second, .val (.int fl), .val (.long q3), .second, .val (.int (qt1.toInt32)), .val (.int ((ushrJ qt1 (32 : Int32)).toInt32)), .unset, .unset, .unset, .unset, .unset, .unset, .unset, .unset, .unset, .unset, .unset, .unset, .unset, .unset, .unset] [])) _
    refine XS.iload X4.here hx rfl (Jvm.hb hby at_27) rfl ?_
    refine XS.iconst X4.here hx rfl (Jvm.hb hby at_29) ?_
    refine XS.iand X4.here hx rfl (Jvm.hb hby at_30) rfl ?_
    show Steps p.tables e below (T4.setTop (mkF m 31 #[.val (.long id1), .second, .val (.long idr), .second, .val (.long qt1), .second, .val (.long qtr), .second, .val (.long att), .second, .val (.int fl), .val (.long q3), .second, .val (.int (qt1.toInt32)), .val (.int ((ushrJ qt1 (32 : Int32)).toInt32)), .unset, .unset, .unset, .unset, .unset, .unset, .unset, .unset, .unset, .unset, .unset, .unset, .unset, .unset, .unset] [(.int (fl &&& (2 : Int32)))])) t_
    exact castTop (by simp only [hq8, hq9]) k_)
  obtain ⟨q11, hq11⟩ : ∃ z : Int32, z = (if q9 = (0 : Int32) then (qtr.toInt32) else (qt1.toInt32)) := ⟨_, rfl⟩
  obtain ⟨T12, X12, e12, s12⟩ := seg X4 (fun T' => T'.heap = h0 ∧ ∀ t_, Steps p.tables e below (T'.setTop (mkF m 42 #[.val (.long id1), .second, .val (.long idr), .second, .val (.long qt1), .second, .val (.long qtr), .second, .val (.long att), .second, .val (.int fl), .val (.long q3), .second, .val (.int (qt1.toInt32)), .val (.int q8), .unset, .unset, .unset, .unset, .unset, .unset, .unset, .unset, .unset, .unset, .unset, .unset, .unset, .unset, .unset] [(.int q11)])) t_ → Steps p.tables e below (s₁.setTop (entryFrame m #[(.long id1), (.long idr), (.long qt1), (.long qtr), (.long att), (.int fl)] maxLocals)) t_) (by
    by_cases h13 : q9 = (0 : Int32)
    · have s14 : ∀ t_, Steps p.tables e below (T4.setTop (mkF m 42 #[.val (.long id1), .second, .val (.long idr), .second, .val (.long qt1), .second, .val (.long qtr), .second, .val (.long att), .second, .val (.int fl), .val (.long q3), .second, .val (.int (qt1.toInt32)), .val (.int q8), .unset, .unset, .unset, .unset, .unset, .unset, .unset, .unset, .unset, .unset, .unset, .unset, .unset, .unset, .unset] [(.int (qtr.toInt32))])) t_ → Steps p.tables e below (s₁.setTop (entryFrame m #[(.long id1), (.long idr), (.long qt1), (.long qtr), (.long att), (.int fl)] maxLocals)) t_ := fun t_ k_ => s10 t_ (by
        show Steps p.tables e below (T4.setTop (mkF m 31 #[.val (.long id1), .second, .val (.long idr), .second, .val (.long qt1), .second, .val (.long qtr), .second, .val (.long att), .second, .val (.int fl), .val (.long q3), .second, .val (.int (qt1.toInt32)), .val (.int q8), .unset, .unset, .unset, .unset, .unset, .unset, .unset, .unset, .unset, .unset, .unset, .unset, .unset, .unset, .unset] [(.int q9)])) t_
        refine XS.ifYes X4.here hx rfl (pc0 := 31) (pc' := 39) rfl (Jvm.hb hby at_31) rfl ((if0 _ _).trans (teq h13).1) (by decide) (by decide) ?_
        show Steps p.tables e below (T4.setTop (mkF m 39 #[.val (.long id1), .second, .val (.long idr), .second, .val (.long qt1), .second, .val (.long qtr), .second, .val (.long att), .second, .val (.int fl), .val (.long q3), .second, .val (.int (qt1.toInt32)), .val (.int q8), .unset, .unset, .unset, .unset, .unset, .unset, .unset, .unset, .unset, .unset, .unset, .unset, .unset, .unset, .unset] [])) _
        refine XS.lload X4.here hx rfl (Jvm.hb hby at_39) rfl ?_
        refine XS.l2i X4.here hx rfl (Jvm.hb hby at_41) rfl ?_
        show Steps p.tables e below (T4.setTop (mkF m 42 #[.val (.long id1), .second, .val (.long idr), .second, .val (.long qt1), .second, .val (.long qtr), .second, .val (.long att), .second, .val (.int fl), .val (.long q3), .second, .val (.int (qt1.toInt32)), .val (.int q8), .unset, .unset, .unset, .unset, .unset, .unset, .unset, .unset, .unset, .unset, .unset, .unset, .unset, .unset, .unset] [(.int (qtr.toInt32))])) t_
        exact k_)
      exact ⟨T4, X4, e4, fun t_ k_ => s14 t_ (castTop (by simp only [hq11, if_pos h13]) k_)⟩
    · have s15 : ∀ t_, Steps p.tables e below (T4.setTop (mkF m 42 #[.val (.long id1), .second, .val (.long idr), .second, .val (.long qt1), .second, .val (.long qtr), .second, .val (.long att), .second, .val (.int fl), .val (.long q3), .second, .val (.int (qt1.toInt32)), .val (.int q8), .unset, .unset, .unset, .unset, .unset, .unset, .unset, .unset, .unset, .unset, .unset, .unset, .unset, .unset, .unset] [(.int (qt1.toInt32))])) t_ → Steps p.tables e below (s₁.setTop (entryFrame m #[(.long id1), (.long idr), (.long qt1), (.long qtr), (.long att), (.int fl)] maxLocals)) t_ := fun t_ k_ => s10 t_ (by
        show Steps p.tables e below (T4.setTop (mkF m 31 #[.val (.long id1), .second, .val (.long idr), .second, .val (.long qt1), .second, .val (.long qtr), .second, .val (.long att), .second, .val (.int fl), .val (.long q3), .second, .val (.int (qt1.toInt32)), .val (.int q8), .unset, .unset, .unset, .unset, .unset, .unset, .unset, .unset, .unset, .unset, .unset, .unset, .unset, .unset, .unset] [(.int q9)])) t_
        refine XS.ifNo X4.here hx rfl (Jvm.hb hby at_31) rfl ((if0 _ _).trans (feq h13).1) ?_
        show Steps p.tables e below (T4.setTop (mkF m 34 #[.val (.long id1), .second, .val (.long idr), .second, .val (.long qt1), .second, .val (.long qtr), .second, .val (.long att), .second, .val (.int fl), .val (.long q3), .second, .val (.int (qt1.toInt32)), .val (.int q8), .unset, .unset, .unset, .unset, .unset, .unset, .unset, .unset, .unset, .unset, .unset, .unset, .unset, .unset, .unset] [])) _
        refine XS.iload X4.here hx rfl (Jvm.hb hby at_34) rfl ?_
        refine XS.goto X4.here hx rfl (pc0 := 36) (pc' := 42) rfl (Jvm.hb hby at_36) (by decide) (by decide) ?_
        show Steps p.tables e below (T4.setTop (mkF m 42 #[.val (.long id1), .second, .val (.long idr), .second, .val (.long qt1), .second, .val (.long qtr), .second, .val (.long att), .second, .val (.int fl), .val (.long q3), .second, .val (.int (qt1.toInt32)), .val (.int q8), .unset, .unset, .unset, .unset, .unset, .unset, .unset, .unset, .unset, .unset, .unset, .unset, .unset, .unset, .unset] [(.int (qt1.toInt32))])) t_
        exact k_)
      exact ⟨T4, X4, e4, fun t_ k_ => s15 t_ (castTop (by simp only [hq11, if_neg h13]) k_)⟩)
  obtain ⟨q16, hq16⟩ : ∃ z : Int32, z = (fl &&& (4 : Int32)) := ⟨_, rfl⟩
  have s17 : ∀ t_, Steps p.tables e below (T12.setTop (mkF m 48 #[.val (.long id1), .second, .val (.long idr), .second, .val (.long qt1), .second, .val (.long qtr), .second, .val (.long att), .second, .val (.int fl), .val (.long q3), .second, .val (.int (qt1.toInt32)), .val (.int q8), .val (.int q11), .unset, .unset, .unset, .unset, .unset, .unset, .unset, .unset, .unset, .unset, .unset, .unset, .unset, .unset] [(.int q16)])) t_ → Steps p.tables e below (s₁.setTop (entryFrame m #[(.long id1), (.long idr), (.long qt1), (.long qtr), (.long att), (.int fl)] maxLocals)) t_ := fun t_ k_ => s12 t_ (by
    show Steps p.tables e below (T12.setTop (mkF m 42 #[.val (.long id1), .second, .val (.long idr), .second, .val (.long qt1), .second, .val (.long qtr), .second, .val (.long att), .second, .val (.int fl), .val (.long q3), .second, .val (.int (qt1.toInt32)), .val (.int q8), .unset, .unset, .unset, .unset, .unset, .unset, .unset, .unset, .unset, .unset, .unset, .unset, .unset, .unset, .unset] [(.int q11)])) t_
    refine XS.istore X12.here hx rfl (Jvm.hb hby at_42) rfl (l' := #[.val (.long id1), .second, .val (.long idr), .second, .val (.long qt1), .second, .val (.long qtr), .second, .val (.long att), .second, .val (.int fl), .val (.long q3), .second, .val (.int (qt1.toInt32)), .val (.int q8), .val (.int q11), .unset, .unset, .unset, .unset, .unset, .unset, .unset, .unset, .unset, .unset, .unset, .unset, .unset, .unset]) rfl ?_
    refine XS.iload X12.here hx rfl (Jvm.hb hby at_44) rfl ?_
    refine XS.iconst X12.here hx rfl (Jvm.hb hby at_46) ?_
    show Steps p.tables e below (T12.setTop (mkF m 47 #[.val (.long id1), .second, .val (.long idr), .second, .val (.long qt1), .second, .val (.long qtr), .second, .val (.long att), .second, .val (.int fl), .val (.long q3), .second, .val (.int (qt1.toInt32)), .val (.int q8), .val (.int q11), .unset, .unset, .unset, .unset, .unset, .unset, .unset, .unset, .unset, .unset, .unset, .unset, .unset, .unset] [(.int (4 : Int32)), (.int fl)])) _
    refine XS.iand X12.here hx rfl (Jvm.hb hby at_47) rfl ?_
    show Steps p.tables e below (T12.setTop (mkF m 48 #[.val (.long id1), .second, .val (.long idr), .second, .val (.long qt1), .second, .val (.long qtr), .second, .val (.long att), .second, .val (.int fl), .val (.long q3), .second, .val (.int (qt1.toInt32)), .val (.int q8), .val (.int q11), .unset, .unset, .unset, .unset, .unset, .unset, .unset, .unset, .unset, .unset, .unset, .unset, .unset, .unset] [(.int (fl &&& (4 : Int32)))])) t_
    exact castTop (by simp only [hq16]) k_)
  obtain ⟨q18, hq18⟩ : ∃ z : Int32, z = (if q16 = (0 : Int32) then ((ushrJ qtr (32 : Int32)).toInt32) else q8) := ⟨_, rfl⟩
  obtain ⟨T19, X19, e19, s19⟩ := seg X12 (fun T' => T'.heap = h0 ∧ ∀ t_, Steps p.tables e below (T'.setTop (mkF m 62 #[.val (.long id1), .second, .val (.long idr), .second, .val (.long qt1), .second, .val (.long qtr), .second, .val (.long att), .second, .val (.int fl), .val (.long q3), .second, .val (.int (qt1.toInt32)), .val (.int q8), .val (.int q11), .unset, .unset, .unset, .unset, .unset, .unset, .unset, .unset, .unset, .unset, .unset, .unset, .unset, .unset] [(.int q18)])) t_ → Steps p.tables e below (s₁.setTop (entryFrame m #[(.long id1), (.long idr), (.long qt1), (.long qtr), (.long att), (.int fl)] maxLocals)) t_) (by
    by_cases h20 : q16 = (0 : Int32)
    · have s21 : ∀ t_, Steps p.tables e below (T12.setTop (mkF m 62 #[.val (.long id1), .second, .val (.long idr), .second, .val (.long qt1), .second, .val (.long qtr), .second, .val (.long att), .second, .val (.int fl), .val (.long q3), .second, .val (.int (qt1.toInt32)), .val (.int q8), .val (.int q11), .unset, .unset, .unset, .unset, .unset, .unset, .unset, .unset, .unset, .unset, .unset, .unset, .unset, .unset] [(.int ((ushrJ qtr (32 : Int32)).toInt32))])) t_ → Steps p.tables e below (s₁.setTop (entryFrame m #[(.long id1), (.long idr), (.long qt1), (.long qtr), (.long att), (.int fl)] maxLocals)) t_ := fun t_ k_ => s17 t_ (by
        show Steps p.tables e below (T12.setTop (mkF m 48 #[.val (.long id1), .second, .val (.long idr), .second, .val (.long qt1), .second, .val (.long qtr), .second, .val (.long att), .second, .val (.int fl), .val (.long q3), .second, .val (.int (qt1.toInt32)), .val (.int q8), .val (.int q11), .unset, .unset, .unset, .unset, .unset, .unset, .unset, .unset, .unset, .unset, .unset, .unset, .unset, .unset] [(.int q16)])) t_
        refine XS.ifYes X12.here hx rfl (pc0 := 48) (pc' := 56) rfl (Jvm.hb hby at_48) rfl ((if0 _ _).trans (teq h20).1) (by decide) (by decide) ?_
        show Steps p.tables e below (T12.setTop (mkF m 56 #[.val (.long id1), .second, .val (.long idr), .second, .val (.long qt1), .second, .val (.long qtr), .second, .val (.long att), .second, .val (.int fl), .val (.long q3), .second, .val (.int (qt1.toInt32)), .val (.int q8), .val (.int q11), .unset, .unset, .unset, .unset, .unset, .unset, .unset, .unset, .unset, .unset, .unset, .unset, .unset, .unset] [])) _
        refine XS.lload X12.here hx rfl (Jvm.hb hby at_56) rfl ?_
        refine XS.bipush X12.here hx rfl (Jvm.hb hby at_58) ?_
        refine XS.lushr X12.here hx rfl (Jvm.hb hby at_60) rfl ?_
        refine XS.l2i X12.here hx rfl (Jvm.hb hby at_61) rfl ?_
        show Steps p.tables e below (T12.setTop (mkF m 62 #[.val (.long id1), .second, .val (.long idr), .second, .val (.long qt1), .second, .val (.long qtr), .second, .val (.long att), .second, .val (.int fl), .val (.long q3), .second, .val (.int (qt1.toInt32)), .val (.int q8), .val (.int q11), .unset, .unset, .unset, .unset, .unset, .unset, .unset, .unset, .unset, .unset, .unset, .unset, .unset, .unset] [(.int ((ushrJ qtr (32 : Int32)).toInt32))])) t_
        exact k_)
      exact ⟨T12, X12, e12, fun t_ k_ => s21 t_ (castTop (by simp only [hq18, if_pos h20]) k_)⟩
    · have s22 : ∀ t_, Steps p.tables e below (T12.setTop (mkF m 62 #[.val (.long id1), .second, .val (.long idr), .second, .val (.long qt1), .second, .val (.long qtr), .second, .val (.long att), .second, .val (.int fl), .val (.long q3), .second, .val (.int (qt1.toInt32)), .val (.int q8), .val (.int q11), .unset, .unset, .unset, .unset, .unset, .unset, .unset, .unset, .unset, .unset, .unset, .unset, .unset, .unset] [(.int q8)])) t_ → Steps p.tables e below (s₁.setTop (entryFrame m #[(.long id1), (.long idr), (.long qt1), (.long qtr), (.long att), (.int fl)] maxLocals)) t_ := fun t_ k_ => s17 t_ (by
        show Steps p.tables e below (T12.setTop (mkF m 48 #[.val (.long id1), .second, .val (.long idr), .second, .val (.long qt1), .second, .val (.long qtr), .second, .val (.long att), .second, .val (.int fl), .val (.long q3), .second, .val (.int (qt1.toInt32)), .val (.int q8), .val (.int q11), .unset, .unset, .unset, .unset, .unset, .unset, .unset, .unset, .unset, .unset, .unset, .unset, .unset, .unset] [(.int q16)])) t_
        refine XS.ifNo X12.here hx rfl (Jvm.hb hby at_48) rfl ((if0 _ _).trans (feq h20).1) ?_
        show Steps p.tables e below (T12.setTop (mkF m 51 #[.val (.long id1), .second, .val (.long idr), .second, .val (.long qt1), .second, .val (.long qtr), .second, .val (.long att), .second, .val (.int fl), .val (.long q3), .second, .val (.int (qt1.toInt32)), .val (.int q8), .val (.int q11), .unset, .unset, .unset, .unset, .unset, .unset, .unset, .unset, .unset, .unset, .unset, .unset, .unset, .unset] [])) _
        refine XS.iload X12.here hx rfl (Jvm.hb hby at_51) rfl ?_
        refine XS.goto X12.here hx rfl (pc0 := 53) (pc' := 62) rfl (Jvm.hb hby at_53) (by decide) (by decide) ?_
        show Steps p.tables e below (T12.setTop (mkF m 62 #[.val (.long id1), .second, .val (.long idr), .second, .val (.long qt1), .second, .val (.long qtr), .second, .val (.long att), .second, .val (.int fl), .val (.long q3), .second, .val (.int (qt1.toInt32)), .val (.int q8), .val (.int q11), .unset, .unset, .unset, .unset, .unset, .unset, .unset, .unset, .unset, .unset, .unset, .unset, .unset, .unset] [(.int q8)])) t_
        exact k_)
      exact ⟨T12, X12, e12, fun t_ k_ => s22 t_ (castTop (by simp only [hq18, if_neg h20]) k_)⟩)
  obtain ⟨ma, hma, hmal⟩ := own_and3 (ushr fl (4 : Int32))
  obtain ⟨q23, hq23⟩ : ∃ z : Int32, z = (fl &&& (8 : Int32)) := ⟨_, rfl⟩
  have s24 : ∀ t_, Steps p.tables e below (T19.setTop (mkF m 77 #[.val (.long id1), .second, .val (.long idr), .second, .val (.long qt1), .second, .val (.long qtr), .second, .val (.long att), .second, .val (.int fl), .val (.long q3), .second, .val (.int (qt1.toInt32)), .val (.int q8), .val (.int q11), .val (.int q18), .val (.int (Int32.ofNat ma)), .unset, .unset, .unset, .unset, .unset, .unset, .unset, .unset, .unset, .unset, .unset, .unset] [(.int q23)])) t_ → Steps p.tables e below (s₁.setTop (entryFrame m #[(.long id1), (.long idr), (.long qt1), (.long qtr), (.long att), (.int fl)] maxLocals)) t_ := fun t_ k_ => s19 t_ (by
    show Steps p.tables e below (T19.setTop (mkF m 62 #[.val (.long id1), .second, .val (.long idr), .second, .val (.long qt1), .second, .val (.long qtr), .second, .val (.long att), .second, .val (.int fl), .val (.long q3), .second, .val (.int (qt1.toInt32)), .val (.int q8), .val (.int q11), .unset, .unset, .unset, .unset, .unset, .unset, .unset, .unset, .unset, .unset, .unset, .unset, .unset, .unset] [(.int q18)])) t_
    refine XS.istore X19.here hx rfl (Jvm.hb hby at_62) rfl (l' := #[.val (.long id1), .second, .val (.long idr), .second, .val (.long qt1), .second, .val (.long qtr), .second, .val (.long att), .second, .val (.int fl), .val (.long q3), .second, .val (.int (qt1.toInt32)), .val (.int q8), .val (.int q11), .val (.int q18), .unset, .unset, .unset, .unset, .unset, .unset, .unset, .unset, .unset, .unset, .unset, .unset, .unset]) rfl ?_
    refine XS.iload X19.here hx rfl (Jvm.hb hby at_64) rfl ?_
    refine XS.iconst X19.here hx rfl (Jvm.hb hby at_66) ?_
    refine XS.iushr X19.here hx rfl (Jvm.hb hby at_67) rfl ?_
    refine XS.iconst X19.here hx rfl (Jvm.hb hby at_68) ?_
    show Steps p.tables e below (T19.setTop (mkF m 69 #[.val (.long id1), .second, .val (.long idr), .second, .val (.long qt1), .second, .val (.long qtr), .second, .val (.long att), .second, .val (.int fl), .val (.long q3), .second, .val (.int (qt1.toInt32)), .val (.int q8), .val (.int q11), .val (.int q18), .unset, .unset, .unset, .unset, .unset, .unset, .unset, .unset, .unset, .unset, .unset, .unset, .unset] [(.int (3 : Int32)), (.int (ushr fl (4 : Int32)))])) _
    refine XS.iand X19.here hx rfl (Jvm.hb hby at_69) rfl ?_
    refine XS.istore X19.here hx rfl (Jvm.hb hby at_70) rfl (l' := #[.val (.long id1), .second, .val (.long idr), .second, .val (.long qt1), .second, .val (.long qtr), .second, .val (.long att), .second, .val (.int fl), .val (.long q3), .second, .val (.int (qt1.toInt32)), .val (.int q8), .val (.int q11), .val (.int q18), .val (.int ((ushr fl (4 : Int32)) &&& (3 : Int32))), .unset, .unset, .unset, .unset, .unset, .unset, .unset, .unset, .unset, .unset, .unset, .unset]) rfl ?_
    refine XS.iload X19.here hx rfl (Jvm.hb hby at_72) rfl ?_
    refine XS.bipush X19.here hx rfl (Jvm.hb hby at_74) ?_
    refine XS.iand X19.here hx rfl (Jvm.hb hby at_76) rfl ?_
    show Steps p.tables e below (T19.setTop (mkF m 77 #[.val (.long id1), .second, .val (.long idr), .second, .val (.long qt1), .second, .val (.long qtr), .second, .val (.long att), .second, .val (.int fl), .val (.long q3), .second, .val (.int (qt1.toInt32)), .val (.int q8), .val (.int q11), .val (.int q18), .val (.int ((ushr fl (4 : Int32)) &&& (3 : Int32))), .unset, .unset, .unset, .unset, .unset, .unset, .unset, .unset, .unset, .unset, .unset, .unset] [(.int (fl &&& (8 : Int32)))])) t_
    exact castTop (by simp only [hma, hq23]) k_)
  obtain ⟨q25, hq25⟩ : ∃ z : Int32, z = (if q23 = (0 : Int32) then ((ushr fl (6 : Int32)) &&& (3 : Int32)) else (Int32.ofNat ma)) := ⟨_, rfl⟩
  obtain ⟨T26, X26, e26, s26⟩ := seg X19 (fun T' => T'.heap = h0 ∧ ∀ t_, Steps p.tables e below (T'.setTop (mkF m 92 #[.val (.long id1), .second, .val (.long idr), .second, .val (.long qt1), .second, .val (.long qtr), .second, .val (.long att), .second, .val (.int fl), .val (.long q3), .second, .val (.int (qt1.toInt32)), .val (.int q8), .val (.int q11), .val (.int q18), .val (.int (Int32.ofNat ma)), .unset, .unset, .unset, .unset, .unset, .unset, .unset, .unset, .unset, .unset, .unset, .unset] [(.int q25)])) t_ → Steps p.tables e below (s₁.setTop (entryFrame m #[(.long id1), (.long idr), (.long qt1), (.long qtr), (.long att), (.int fl)] maxLocals)) t_) (by
    by_cases h27 : q23 = (0 : Int32)
    · have s28 : ∀ t_, Steps p.tables e below (T19.setTop (mkF m 92 #[.val (.long id1), .second, .val (.long idr), .second, .val (.long qt1), .second, .val (.long qtr), .second, .val (.long att), .second, .val (.int fl), .val (.long q3), .second, .val (.int (qt1.toInt32)), .val (.int q8), .val (.int q11), .val (.int q18), .val (.int (Int32.ofNat ma)), .unset, .unset, .unset, .unset, .unset, .unset, .unset, .unset, .unset, .unset, .unset, .unset] [(.int ((ushr fl (6 : Int32)) &&& (3 : Int32)))])) t_ → Steps p.tables e below (s₁.setTop (entryFrame m #[(.long id1), (.long idr), (.long qt1), (.long qtr), (.long att), (.int fl)] maxLocals)) t_ := fun t_ k_ => s24 t_ (by
        show Steps p.tables e below (T19.setTop (mkF m 77 #[.val (.long id1), .second, .val (.long idr), .second, .val (.long qt1), .second, .val (.long qtr), .second, .val (.long att), .second, .val (.int fl), .val (.long q3), .second, .val (.int (qt1.toInt32)), .val (.int q8), .val (.int q11), .val (.int q18), .val (.int (Int32.ofNat ma)), .unset, .unset, .unset, .unset, .unset, .unset, .unset, .unset, .unset, .unset, .unset, .unset] [(.int q23)])) t_
        refine XS.ifYes X19.here hx rfl (pc0 := 77) (pc' := 85) rfl (Jvm.hb hby at_77) rfl ((if0 _ _).trans (teq h27).1) (by decide) (by decide) ?_
        show Steps p.tables e below (T19.setTop (mkF m 85 #[.val (.long id1), .second, .val (.long idr), .second, .val (.long qt1), .second, .val (.long qtr), .second, .val (.long att), .second, .val (.int fl), .val (.long q3), .second, .val (.int (qt1.toInt32)), .val (.int q8), .val (.int q11), .val (.int q18), .val (.int (Int32.ofNat ma)), .unset, .unset, .unset, .unset, .unset, .unset, .unset, .unset, .unset, .unset, .unset, .unset] [])) _
        refine XS.iload X19.here hx rfl (Jvm.hb hby at_85) rfl ?_
        refine XS.bipush X19.here hx rfl (Jvm.hb hby at_87) ?_
        refine XS.iushr X19.here hx rfl (Jvm.hb hby at_89) rfl ?_
        refine XS.iconst X19.here hx rfl (Jvm.hb hby at_90) ?_
        refine XS.iand X19.here hx rfl (Jvm.hb hby at_91) rfl ?_
        show Steps p.tables e below (T19.setTop (mkF m 92 #[.val (.long id1), .second, .val (.long idr), .second, .val (.long qt1), .second, .val (.long qtr), .second, .val (.long att), .second, .val (.int fl), .val (.long q3), .second, .val (.int (qt1.toInt32)), .val (.int q8), .val (.int q11), .val (.int q18), .val (.int (Int32.ofNat ma)), .unset, .unset, .unset, .unset, .unset, .unset, .unset, .unset, .unset, .unset, .unset, .unset] [(.int ((ushr fl (6 : Int32)) &&& (3 : Int32)))])) t_
        exact k_)
      exact ⟨T19, X19, e19, fun t_ k_ => s28 t_ (castTop (by simp only [hq25, if_pos h27]) k_)⟩
    · have s29 : ∀ t_, Steps p.tables e below (T19.setTop (mkF m 92 #[.val (.long id1), .second, .val (.long idr), .second, .val (.long qt1), .second, .val (.long qtr), .second, .val (.long att), .second, .val (.int fl), .val (.long q3), .second, .val (.int (qt1.toInt32)), .val (.int q8), .val (.int q11), .val (.int q18), .val (.int (Int32.ofNat ma)), .unset, .unset, .unset, .unset, .unset, .unset, .unset, .unset, .unset, .unset, .unset, .unset] [(.int (Int32.ofNat ma))])) t_ → Steps p.tables e below (s₁.setTop (entryFrame m #[(.long id1), (.long idr), (.long qt1), (.long qtr), (.long att), (.int fl)] maxLocals)) t_ := fun t_ k_ => s24 t_ (by
        show Steps p.tables e below (T19.setTop (mkF m 77 #[.val (.long id1), .second, .val (.long idr), .second, .val (.long qt1), .second, .val (.long qtr), .second, .val (.long att), .second, .val (.int fl), .val (.long q3), .second, .val (.int (qt1.toInt32)), .val (.int q8), .val (.int q11), .val (.int q18), .val (.int (Int32.ofNat ma)), .unset, .unset, .unset, .unset, .unset, .unset, .unset, .unset, .unset, .unset, .unset, .unset] [(.int q23)])) t_
        refine XS.ifNo X19.here hx rfl (Jvm.hb hby at_77) rfl ((if0 _ _).trans (feq h27).1) ?_
        show Steps p.tables e below (T19.setTop (mkF m 80 #[.val (.long id1), .second, .val (.long idr), .second, .val (.long qt1), .second, .val (.long qtr), .second, .val (.long att), .second, .val (.int fl), .val (.long q3), .second, .val (.int (qt1.toInt32)), .val (.int q8), .val (.int q11), .val (.int q18), .val (.int (Int32.ofNat ma)), .unset, .unset, .unset, .unset, .unset, .unset, .unset, .unset, .unset, .unset, .unset, .unset] [])) _
        refine XS.iload X19.here hx rfl (Jvm.hb hby at_80) rfl ?_
        refine XS.goto X19.here hx rfl (pc0 := 82) (pc' := 92) rfl (Jvm.hb hby at_82) (by decide) (by decide) ?_
        show Steps p.tables e below (T19.setTop (mkF m 92 #[.val (.long id1), .second, .val (.long idr), .second, .val (.long qt1), .second, .val (.long qtr), .second, .val (.long att), .second, .val (.int fl), .val (.long q3), .second, .val (.int (qt1.toInt32)), .val (.int q8), .val (.int q11), .val (.int q18), .val (.int (Int32.ofNat ma)), .unset, .unset, .unset, .unset, .unset, .unset, .unset, .unset, .unset, .unset, .unset, .unset] [(.int (Int32.ofNat ma))])) t_
        exact k_)
      exact ⟨T19, X19, e19, fun t_ k_ => s29 t_ (castTop (by simp only [hq25, if_neg h27]) k_)⟩)
  obtain ⟨q30, hq30⟩ : ∃ z : Int32, z = (fl &&& (256 : Int32)) := ⟨_, rfl⟩
  have s31 : ∀ t_, Steps p.tables e below (T26.setTop (mkF m 105 #[.val (.long id1), .second, .val (.long idr), .second, .val (.long qt1), .second, .val (.long qtr), .second, .val (.long att), .second, .val (.int fl), .val (.long q3), .second, .val (.int (qt1.toInt32)), .val (.int q8), .val (.int q11), .val (.int q18), .val (.int (Int32.ofNat ma)), .val (.int q25), .val (.int (att.toInt32)), .unset, .unset, .unset, .unset, .unset, .unset, .unset, .unset, .unset, .unset] [(.int q30)])) t_ → Steps p.tables e below (s₁.setTop (entryFrame m #[(.long id1), (.long idr), (.long qt1), (.long qtr), (.long att), (.int fl)] maxLocals)) t_ := fun t_ k_ => s26 t_ (by
    show Steps p.tables e below (T26.setTop (mkF m 92 #[.val (.long id1), .second, .val (.long idr), .second, .val (.long qt1), .second, .val (.long qtr), .second, .val (.long att), .second, .val (.int fl), .val (.long q3), .second, .val (.int (qt1.toInt32)), .val (.int q8), .val (.int q11), .val (.int q18), .val (.int (Int32.ofNat ma)), .unset, .unset, .unset, .unset, .unset, .unset, .unset, .unset, .unset, .unset, .unset, .unset] [(.int q25)])) t_
    refine XS.istore X26.here hx rfl (Jvm.hb hby at_92) rfl (l' := #[.val (.long id1), .second, .val (.long idr), .second, .val (.long qt1), .second, .val (.long qtr), .second, .val (.long att), .second, .val (.int fl), .val (.long q3), .second, .val (.int (qt1.toInt32)), .val (.int q8), .val (.int q11), .val (.int q18), .val (.int (Int32.ofNat ma)), .val (.int q25), .unset, .unset, .unset, .unset, .unset, .unset, .unset, .unset, .unset, .unset, .unset]) rfl ?_
    show Steps p.tables e below (T26.setTop (mkF m 94 #[.val (.long id1), .second, .val (.long idr), .second, .val (.long qt1), .second, .val (.long qtr), .second, .val (.long att), .second, .val (.int fl), .val (.long q3), .second, .val (.int (qt1.toInt32)), .val (.int q8), .val (.int q11), .val (.int q18), .val (.int (Int32.ofNat ma)), .val (.int q25), .unset, .unset, .unset, .unset, .unset, .unset, .unset, .unset, .unset, .unset, .unset] [])) _
    refine XS.lload X26.here hx rfl (Jvm.hb hby at_94) rfl ?_
    refine XS.l2i X26.here hx rfl (Jvm.hb hby at_96) rfl ?_
    refine XS.istore X26.here hx rfl (Jvm.hb hby at_97) rfl (l' := #[.val (.long id1), .second, .val (.long idr), .second, .val (.long qt1), .second, .val (.long qtr), .second, .val (.long att), .second, .val (.int fl), .val (.long q3), .second, .val (.int (qt1.toInt32)), .val (.int q8), .val (.int q11), .val (.int q18), .val (.int (Int32.ofNat ma)), .val (.int q25), .val (.int (att.toInt32)), .unset, .unset, .unset, .unset, .unset, .unset, .unset, .unset, .unset, .unset]) rfl ?_
    refine XS.iload X26.here hx rfl (Jvm.hb hby at_99) rfl ?_
    refine XS.sipush X26.here hx rfl (Jvm.hb hby at_101) ?_
    refine XS.iand X26.here hx rfl (Jvm.hb hby at_104) rfl ?_
    show Steps p.tables e below (T26.setTop (mkF m 105 #[.val (.long id1), .second, .val (.long idr), .second, .val (.long qt1), .second, .val (.long qtr), .second, .val (.long att), .second, .val (.int fl), .val (.long q3), .second, .val (.int (qt1.toInt32)), .val (.int q8), .val (.int q11), .val (.int q18), .val (.int (Int32.ofNat ma)), .val (.int q25), .val (.int (att.toInt32)), .unset, .unset, .unset, .unset, .unset, .unset, .unset, .unset, .unset, .unset] [(.int (fl &&& (256 : Int32)))])) _
    exact castTop (by simp only [hq30]) k_)
  obtain ⟨q32, hq32⟩ : ∃ z : Int32, z = (if q30 = (0 : Int32) then ((ushrJ att (32 : Int32)).toInt32) else (att.toInt32)) := ⟨_, rfl⟩
  obtain ⟨T33, X33, e33, s33⟩ := seg X26 (fun T' => T'.heap = h0 ∧ ∀ t_, Steps p.tables e below (T'.setTop (mkF m 119 #[.val (.long id1), .second, .val (.long idr), .second, .val (.long qt1), .second, .val (.long qtr), .second, .val (.long att), .second, .val (.int fl), .val (.long q3), .second, .val (.int (qt1.toInt32)), .val (.int q8), .val (.int q11), .val (.int q18), .val (.int (Int32.ofNat ma)), .val (.int q25), .val (.int (att.toInt32)), .unset, .unset, .unset, .unset, .unset, .unset, .unset, .unset, .unset, .unset] [(.int q32)])) t_ → Steps p.tables e below (s₁.setTop (entryFrame m #[(.long id1), (.long idr), (.long qt1), (.long qtr), (.long att), (.int fl)] maxLocals)) t_) (by
    by_cases h34 : q30 = (0 : Int32)
    · have s35 : ∀ t_, Steps p.tables e below (T26.setTop (mkF m 119 #[.val (.long id1), .second, .val (.long idr), .second, .val (.long qt1), .second, .val (.long qtr), .second, .val (.long att), .second, .val (.int fl), .val (.long q3), .second, .val (.int (qt1.toInt32)), .val (.int q8), .val (.int q11), .val (.int q18), .val (.int (Int32.ofNat ma)), .val (.int q25), .val (.int (att.toInt32)), .unset, .unset, .unset, .unset, .unset, .unset, .unset, .unset, .unset, .unset] [(.int ((ushrJ att (32 : Int32)).toInt32))])) t_ → Steps p.tables e below (s₁.setTop (entryFrame m #[(.long id1), (.long idr), (.long qt1), (.long qtr), (.long att), (.int fl)] maxLocals)) t_ := fun t_ k_ => s31 t_ (by
        show Steps p.tables e below (T26.setTop (mkF m 105 #[.val (.long id1), .second, .val (.long idr), .second, .val (.long qt1), .second, .val (.long qtr), .second, .val (.long att), .second, .val (.int fl), .val (.long q3), .second, .val (.int (qt1.toInt32)), .val (.int q8), .val (.int q11), .val (.int q18), .val (.int (Int32.ofNat ma)), .val (.int q25), .val (.int (att.toInt32)), .unset, .unset, .unset, .unset, .unset, .unset, .unset, .unset, .unset, .unset] [(.int q30)])) t_
        refine XS.ifYes X26.here hx rfl (pc0 := 105) (pc' := 113) rfl (Jvm.hb hby at_105) rfl ((if0 _ _).trans (teq h34).1) (by decide) (by decide) ?_
        show Steps p.tables e below (T26.setTop (mkF m 113 #[.val (.long id1), .second, .val (.long idr), .second, .val (.long qt1), .second, .val (.long qtr), .second, .val (.long att), .second, .val (.int fl), .val (.long q3), .second, .val (.int (qt1.toInt32)), .val (.int q8), .val (.int q11), .val (.int q18), .val (.int (Int32.ofNat ma)), .val (.int q25), .val (.int (att.toInt32)), .unset, .unset, .unset, .unset, .unset, .unset, .unset, .unset, .unset, .unset] [])) _
        refine XS.lload X26.here hx rfl (Jvm.hb hby at_113) rfl ?_
        refine XS.bipush X26.here hx rfl (Jvm.hb hby at_115) ?_
        refine XS.lushr X26.here hx rfl (Jvm.hb hby at_117) rfl ?_
        refine XS.l2i X26.here hx rfl (Jvm.hb hby at_118) rfl ?_
        show Steps p.tables e below (T26.setTop (mkF m 119 #[.val (.long id1), .second, .val (.long idr), .second, .val (.long qt1), .second, .val (.long qtr), .second, .val (.long att), .second, .val (.int fl), .val (.long q3), .second, .val (.int (qt1.toInt32)), .val (.int q8), .val (.int q11), .val (.int q18), .val (.int (Int32.ofNat ma)), .val (.int q25), .val (.int (att.toInt32)), .unset, .unset, .unset, .unset, .unset, .unset, .unset, .unset, .unset, .unset] [(.int ((ushrJ att (32 : Int32)).toInt32))])) t_
        exact k_)
      exact ⟨T26, X26, e26, fun t_ k_ => s35 t_ (castTop (by simp only [hq32, if_pos h34]) k_)⟩
    · have s36 : ∀ t_, Steps p.tables e below (T26.setTop (mkF m 119 #[.val (.long id1), .second, .val (.long idr), .second, .val (.long qt1), .second, .val (.long qtr), .second, .val (.long att), .second, .val (.int fl), .val (.long q3), .second, .val (.int (qt1.toInt32)), .val (.int q8), .val (.int q11), .val (.int q18), .val (.int (Int32.ofNat ma)), .val (.int q25), .val (.int (att.toInt32)), .unset, .unset, .unset, .unset, .unset, .unset, .unset, .unset, .unset, .unset] [(.int (att.toInt32))])) t_ → Steps p.tables e below (s₁.setTop (entryFrame m #[(.long id1), (.long idr), (.long qt1), (.long qtr), (.long att), (.int fl)] maxLocals)) t_ := fun t_ k_ => s31 t_ (by
        show Steps p.tables e below (T26.setTop (mkF m 105 #[.val (.long id1), .second, .val (.long idr), .second, .val (.long qt1), .second, .val (.long qtr), .second, .val (.long att), .second, .val (.int fl), .val (.long q3), .second, .val (.int (qt1.toInt32)), .val (.int q8), .val (.int q11), .val (.int q18), .val (.int (Int32.ofNat ma)), .val (.int q25), .val (.int (att.toInt32)), .unset, .unset, .unset, .unset, .unset, .unset, .unset, .unset, .unset, .unset] [(.int q30)])) t_
        refine XS.ifNo X26.here hx rfl (Jvm.hb hby at_105) rfl ((if0 _ _).trans (feq h34).1) ?_
        show Steps p.tables e below (T26.setTop (mkF m 108 #[.val (.long id1), .second, .val (.long idr), .second, .val (.long qt1), .second, .val (.long qtr), .second, .val (.long att), .second, .val (.int fl), .val (.long q3), .second, .val (.int (qt1.toInt32)), .val (.int q8), .val (.int q11), .val (.int q18), .val (.int (Int32.ofNat ma)), .val (.int q25), .val (.int (att.toInt32)), .unset, .unset, .unset, .unset, .unset, .unset, .unset, .unset, .unset, .unset] [])) _
        refine XS.iload X26.here hx rfl (Jvm.hb hby at_108) rfl ?_
        refine XS.goto X26.here hx rfl (pc0 := 110) (pc' := 119) rfl (Jvm.hb hby at_110) (by decide) (by decide) ?_
        show Steps p.tables e below (T26.setTop (mkF m 119 #[.val (.long id1), .second, .val (.long idr), .second, .val (.long qt1), .second, .val (.long qtr), .second, .val (.long att), .second, .val (.int fl), .val (.long q3), .second, .val (.int (qt1.toInt32)), .val (.int q8), .val (.int q11), .val (.int q18), .val (.int (Int32.ofNat ma)), .val (.int q25), .val (.int (att.toInt32)), .unset, .unset, .unset, .unset, .unset, .unset, .unset, .unset, .unset, .unset] [(.int (att.toInt32))])) t_
        exact k_)
      exact ⟨T26, X26, e26, fun t_ k_ => s36 t_ (castTop (by simp only [hq32, if_neg h34]) k_)⟩)
  have s37 : ∀ t_, Steps p.tables e below (T33.setTop (mkF m 121 #[.val (.long id1), .second, .val (.long idr), .second, .val (.long qt1), .second, .val (.long qtr), .second, .val (.long att), .second, .val (.int fl), .val (.long q3), .second, .val (.int (qt1.toInt32)), .val (.int q8), .val (.int q11), .val (.int q18), .val (.int (Int32.ofNat ma)), .val (.int q25), .val (.int (att.toInt32)), .val (.int q32), .unset, .unset, .unset, .unset, .unset, .unset, .unset, .unset, .unset] [])) t_ → Steps p.tables e below (s₁.setTop (entryFrame m #[(.long id1), (.long idr), (.long qt1), (.long qtr), (.long att), (.int fl)] maxLocals)) t_ := fun t_ k_ => s33 t_ (by
    show Steps p.tables e below (T33.setTop (mkF m 119 #[.val (.long id1), .second, .val (.long idr), .second, .val (.long qt1), .second, .val (.long qtr), .second, .val (.long att), .second, .val (.int fl), .val (.long q3), .second, .val (.int (qt1.toInt32)), .val (.int q8), .val (.int q11), .val (.int q18), .val (.int (Int32.ofNat ma)), .val (.int q25), .val (.int (att.toInt32)), .unset, .unset, .unset, .unset, .unset, .unset, .unset, .unset, .unset, .unset] [(.int q32)])) t_
    refine XS.istore X33.here hx rfl (Jvm.hb hby at_119) rfl (l' := #[.val (.long id1), .second, .val (.long idr), .second, .val (.long qt1), .second, .val (.long qtr), .second, .val (.long att), .second, .val (.int fl), .val (.long q3), .second, .val (.int (qt1.toInt32)), .val (.int q8), .val (.int q11), .val (.int q18), .val (.int (Int32.ofNat ma)), .val (.int q25), .val (.int (att.toInt32)), .val (.int q32), .unset, .unset, .unset, .unset, .unset, .unset, .unset, .unset, .unset]) rfl ?_
    show Steps p.tables e below (T33.setTop (mkF m 121 #[.val (.long id1), .second, .val (.long idr), .second, .val (.long qt1), .second, .val (.long qtr), .second, .val (.long att), .second, .val (.int fl), .val (.long q3), .second, .val (.int (qt1.toInt32)), .val (.int q8), .val (.int q11), .val (.int q18), .val (.int (Int32.ofNat ma)), .val (.int q25), .val (.int (att.toInt32)), .val (.int q32), .unset, .unset, .unset, .unset, .unset, .unset, .unset, .unset, .unset] [])) _
    show Steps p.tables e below (T33.setTop (mkF m 121 #[.val (.long id1), .second, .val (.long idr), .second, .val (.long qt1), .second, .val (.long qtr), .second, .val (.long att), .second, .val (.int fl), .val (.long q3), .second, .val (.int (qt1.toInt32)), .val (.int q8), .val (.int q11), .val (.int q18), .val (.int (Int32.ofNat ma)), .val (.int q25), .val (.int (att.toInt32)), .val (.int q32), .unset, .unset, .unset, .unset, .unset, .unset, .unset, .unset, .unset] [])) t_
    exact k_)
  obtain ⟨mb, hmb, hmbl⟩ : ∃ n : Nat, q25 = Int32.ofNat n ∧ n < 4 := by
    rw [hq25]
    split
    · exact own_and3 _
    · exact ⟨_, rfl, hmal⟩
  obtain ⟨T38, h38, k38, X38, e38, E38, A38, Ov38, st38⟩ := newR X33 hx hZ hown (hw _ (List.mem_of_getElem? (i := 0) rfl)) (hw _ (List.mem_of_getElem? (i := 1) rfl)) e33 (g := (mkF m 122 #[.val (.long id1), .second, .val (.long idr), .second, .val (.long qt1), .second, .val (.long qtr), .second, .val (.long att), .second, .val (.int fl), .val (.long q3), .second, .val (.int (qt1.toInt32)), .val (.int q8), .val (.int q11), .val (.int q18), .val (.int (Int32.ofNat ma)), .val (.int (Int32.ofNat mb)), .val (.int (att.toInt32)), .val (.int q32), .unset, .unset, .unset, .unset, .unset, .unset, .unset, .unset, .unset] [(.int (4 : Int32))])) rfl (Jvm.hb hby at_122) rfl (by decide) (cap := 4) (by decide) (by decide) (by decide) (by decide)
  obtain ⟨b38, g38⟩ : ∃ z, z = h0.size := ⟨_, rfl⟩
  rw [← g38] at A38 st38
  have z39 : h0.size ≤ h38.size := E38.1
  have Cp39 : CHr Z ELs s.vm h0 s.vm h38 := CHr.ext E38 CR.1
  have hk := Nat.le_trans hk z39
  have CR := CR.trans Cp39
  have l38 : b38 < h38.size := A38.lt
  have V38 : Arv Z h38 b38 k38 (.object "com/example/coyote_hill/coyotehill/ItemState") (4 : Int32) [.null, .null, .null, .null] .null := (Arv.new A38 (by decide)).pad (pad_rep [] .null 4)
  have O40 : Old Z n0 h38 := (OX.ext E38)
  obtain ⟨T41, X41, e41, st41⟩ := getS2 X38 hx hZ hown (host := "") (Or.inl (hw _ (List.mem_of_getElem? (i := 2) rfl))) Via.refl e38 (I2.ext O40.2) (g := (mkF m 127 #[.val (.long id1), .second, .val (.long idr), .second, .val (.long qt1), .second, .val (.long qtr), .second, .val (.long att), .second, .val (.int fl), .val (.long q3), .second, .val (.int (qt1.toInt32)), .val (.int q8), .val (.int q11), .val (.int q18), .val (.int (Int32.ofNat ma)), .val (.int (Int32.ofNat mb)), .val (.int (att.toInt32)), .val (.int q32), .unset, .unset, .unset, .unset, .unset, .unset, .unset, .unset, .unset] [(.int (0 : Int32)), (.ref b38), (.ref b38)])) rfl (Jvm.hb hby at_127)
  obtain ⟨cl42, Ar42, q42, S42, M42, H42, G42⟩ := id V38
  have hin42 : ¬ ((0 : Int32) < 0 ∨ cl42.slots.size ≤ ((0 : Int32)).toNatClampNeg) := inb_of S42 ⟨by decide, by decide⟩
  obtain ⟨T43, h43, X43, e43, W43, st43⟩ := stR X41 hx hZ e41 Ar42 (j := (0 : Int32)) hin42 rfl (Sto.of Ar42 (by rw [q42]; exact Ov38) (Ins.self (I6.ext O40.2))) (g := (mkF m 130 #[.val (.long id1), .second, .val (.long idr), .second, .val (.long qt1), .second, .val (.long qtr), .second, .val (.long att), .second, .val (.int fl), .val (.long q3), .second, .val (.int (qt1.toInt32)), .val (.int q8), .val (.int q11), .val (.int q18), .val (.int (Int32.ofNat ma)), .val (.int (Int32.ofNat mb)), .val (.int (att.toInt32)), .val (.int q32), .unset, .unset, .unset, .unset, .unset, .unset, .unset, .unset, .unset] [(.ref ra), (.int (0 : Int32)), (.ref b38), (.ref b38)])) rfl rfl (Jvm.hb hby at_130)
  have z44 : h38.size ≤ h43.size := Nat.le_of_eq W43.size.symm
  have Cp44 : CHr Z ELs s.vm h38 s.vm h43 := CHr.wr W43 (Safe.arv hZ.alike V38 (by decide)) CR.1
  have hk := Nat.le_trans hk z44
  have CR := CR.trans Cp44
  have V43 : Arv Z h43 b38 k38 (.object "com/example/coyote_hill/coyotehill/ItemState") (4 : Int32) [(.ref ra), .null, .null, .null] .null := Arv.set Ar42 q42 S42 M42 H42 G42 rfl W43 0 rfl (Nat.le_of_ble_eq_true rfl)
  have N43 := Fr.snoc X43 N0 (show n0 ≤ b38 by omega)
  have O45 : Old Z n0 h43 := (O40.wr W43 (show n0 ≤ b38 by omega))
  obtain ⟨T46, X46, e46, st46⟩ := getS2 X43 hx hZ hown (host := "") (Or.inl (hw _ (List.mem_of_getElem? (i := 6) rfl))) Via.refl e43 (I3.ext O45.2) (g := (mkF m 133 #[.val (.long id1), .second, .val (.long idr), .second, .val (.long qt1), .second, .val (.long qtr), .second, .val (.long att), .second, .val (.int fl), .val (.long q3), .second, .val (.int (qt1.toInt32)), .val (.int q8), .val (.int q11), .val (.int q18), .val (.int (Int32.ofNat ma)), .val (.int (Int32.ofNat mb)), .val (.int (att.toInt32)), .val (.int q32), .unset, .unset, .unset, .unset, .unset, .unset, .unset, .unset, .unset] [(.int (1 : Int32)), (.ref b38), (.ref b38)])) rfl (Jvm.hb hby at_133)
  obtain ⟨cl47, Ar47, q47, S47, M47, H47, G47⟩ := id V43
  have hin47 : ¬ ((1 : Int32) < 0 ∨ cl47.slots.size ≤ ((1 : Int32)).toNatClampNeg) := inb_of S47 ⟨by decide, by decide⟩
  obtain ⟨T48, h48, X48, e48, W48, st48⟩ := stR X46 hx hZ e46 Ar47 (j := (1 : Int32)) hin47 rfl (Sto.of Ar47 (by rw [q47]; exact Ov38) (Ins.self (I7.ext O45.2))) (g := (mkF m 136 #[.val (.long id1), .second, .val (.long idr), .second, .val (.long qt1), .second, .val (.long qtr), .second, .val (.long att), .second, .val (.int fl), .val (.long q3), .second, .val (.int (qt1.toInt32)), .val (.int q8), .val (.int q11), .val (.int q18), .val (.int (Int32.ofNat ma)), .val (.int (Int32.ofNat mb)), .val (.int (att.toInt32)), .val (.int q32), .unset, .unset, .unset, .unset, .unset, .unset, .unset, .unset, .unset] [(.ref rb), (.int (1 : Int32)), (.ref b38), (.ref b38)])) rfl rfl (Jvm.hb hby at_136)
  have z49 : h43.size ≤ h48.size := Nat.le_of_eq W48.size.symm
  have Cp49 : CHr Z ELs s.vm h43 s.vm h48 := CHr.wr W48 (Safe.arv hZ.alike V43 (by decide)) CR.1
  have hk := Nat.le_trans hk z49
  have CR := CR.trans Cp49
  have V48 : Arv Z h48 b38 k38 (.object "com/example/coyote_hill/coyotehill/ItemState") (4 : Int32) [(.ref ra), (.ref rb), .null, .null] .null := Arv.set Ar47 q47 S47 M47 H47 G47 rfl W48 1 rfl (Nat.le_of_ble_eq_true rfl)
  have N48 := Fr.snoc X48 N43 (show n0 ≤ b38 by omega)
  have O50 : Old Z n0 h48 := (O45.wr W48 (show n0 ≤ b38 by omega))
  obtain ⟨T51, X51, e51, st51⟩ := getS2 X48 hx hZ hown (host := "") (Or.inl (hw _ (List.mem_of_getElem? (i := 8) rfl))) Via.refl e48 (I4.ext O50.2) (g := (mkF m 139 #[.val (.long id1), .second, .val (.long idr), .second, .val (.long qt1), .second, .val (.long qtr), .second, .val (.long att), .second, .val (.int fl), .val (.long q3), .second, .val (.int (qt1.toInt32)), .val (.int q8), .val (.int q11), .val (.int q18), .val (.int (Int32.ofNat ma)), .val (.int (Int32.ofNat mb)), .val (.int (att.toInt32)), .val (.int q32), .unset, .unset, .unset, .unset, .unset, .unset, .unset, .unset, .unset] [(.int (2 : Int32)), (.ref b38), (.ref b38)])) rfl (Jvm.hb hby at_139)
  obtain ⟨cl52, Ar52, q52, S52, M52, H52, G52⟩ := id V48
  have hin52 : ¬ ((2 : Int32) < 0 ∨ cl52.slots.size ≤ ((2 : Int32)).toNatClampNeg) := inb_of S52 ⟨by decide, by decide⟩
  obtain ⟨T53, h53, X53, e53, W53, st53⟩ := stR X51 hx hZ e51 Ar52 (j := (2 : Int32)) hin52 rfl (Sto.of Ar52 (by rw [q52]; exact Ov38) (Ins.self (I8.ext O50.2))) (g := (mkF m 142 #[.val (.long id1), .second, .val (.long idr), .second, .val (.long qt1), .second, .val (.long qtr), .second, .val (.long att), .second, .val (.int fl), .val (.long q3), .second, .val (.int (qt1.toInt32)), .val (.int q8), .val (.int q11), .val (.int q18), .val (.int (Int32.ofNat ma)), .val (.int (Int32.ofNat mb)), .val (.int (att.toInt32)), .val (.int q32), .unset, .unset, .unset, .unset, .unset, .unset, .unset, .unset, .unset] [(.ref rc), (.int (2 : Int32)), (.ref b38), (.ref b38)])) rfl rfl (Jvm.hb hby at_142)
  have z54 : h48.size ≤ h53.size := Nat.le_of_eq W53.size.symm
  have Cp54 : CHr Z ELs s.vm h48 s.vm h53 := CHr.wr W53 (Safe.arv hZ.alike V48 (by decide)) CR.1
  have hk := Nat.le_trans hk z54
  have CR := CR.trans Cp54
  have V53 : Arv Z h53 b38 k38 (.object "com/example/coyote_hill/coyotehill/ItemState") (4 : Int32) [(.ref ra), (.ref rb), (.ref rc), .null] .null := Arv.set Ar52 q52 S52 M52 H52 G52 rfl W53 2 rfl (Nat.le_of_ble_eq_true rfl)
  have N53 := Fr.snoc X53 N48 (show n0 ≤ b38 by omega)
  have O55 : Old Z n0 h53 := (O50.wr W53 (show n0 ≤ b38 by omega))
  obtain ⟨T56, X56, e56, st56⟩ := getS2 X53 hx hZ hown (host := "") (Or.inl (hw _ (List.mem_of_getElem? (i := 10) rfl))) Via.refl e53 (I5.ext O55.2) (g := (mkF m 145 #[.val (.long id1), .second, .val (.long idr), .second, .val (.long qt1), .second, .val (.long qtr), .second, .val (.long att), .second, .val (.int fl), .val (.long q3), .second, .val (.int (qt1.toInt32)), .val (.int q8), .val (.int q11), .val (.int q18), .val (.int (Int32.ofNat ma)), .val (.int (Int32.ofNat mb)), .val (.int (att.toInt32)), .val (.int q32), .unset, .unset, .unset, .unset, .unset, .unset, .unset, .unset, .unset] [(.int (3 : Int32)), (.ref b38), (.ref b38)])) rfl (Jvm.hb hby at_145)
  obtain ⟨cl57, Ar57, q57, S57, M57, H57, G57⟩ := id V53
  have hin57 : ¬ ((3 : Int32) < 0 ∨ cl57.slots.size ≤ ((3 : Int32)).toNatClampNeg) := inb_of S57 ⟨by decide, by decide⟩
  obtain ⟨T58, h58, X58, e58, W58, st58⟩ := stR X56 hx hZ e56 Ar57 (j := (3 : Int32)) hin57 rfl (Sto.of Ar57 (by rw [q57]; exact Ov38) (Ins.self (I9.ext O55.2))) (g := (mkF m 148 #[.val (.long id1), .second, .val (.long idr), .second, .val (.long qt1), .second, .val (.long qtr), .second, .val (.long att), .second, .val (.int fl), .val (.long q3), .second, .val (.int (qt1.toInt32)), .val (.int q8), .val (.int q11), .val (.int q18), .val (.int (Int32.ofNat ma)), .val (.int (Int32.ofNat mb)), .val (.int (att.toInt32)), .val (.int q32), .unset, .unset, .unset, .unset, .unset, .unset, .unset, .unset, .unset] [(.ref rd), (.int (3 : Int32)), (.ref b38), (.ref b38)])) rfl rfl (Jvm.hb hby at_148)
  have z59 : h53.size ≤ h58.size := Nat.le_of_eq W58.size.symm
  have Cp59 : CHr Z ELs s.vm h53 s.vm h58 := CHr.wr W58 (Safe.arv hZ.alike V53 (by decide)) CR.1
  have hk := Nat.le_trans hk z59
  have CR := CR.trans Cp59
  have V58 : Arv Z h58 b38 k38 (.object "com/example/coyote_hill/coyotehill/ItemState") (4 : Int32) [(.ref ra), (.ref rb), (.ref rc), (.ref rd)] .null := Arv.set Ar57 q57 S57 M57 H57 G57 rfl W58 3 rfl (Nat.le_of_ble_eq_true rfl)
  have N58 := Fr.snoc X58 N53 (show n0 ≤ b38 by omega)
  have s60 : ∀ t_, Steps p.tables e below (T58.setTop (mkF m 153 #[.val (.long id1), .second, .val (.long idr), .second, .val (.long qt1), .second, .val (.long qtr), .second, .val (.long att), .second, .val (.int fl), .val (.long q3), .second, .val (.int (qt1.toInt32)), .val (.int q8), .val (.int q11), .val (.int q18), .val (.int (Int32.ofNat ma)), .val (.int (Int32.ofNat mb)), .val (.int (att.toInt32)), .val (.int q32), .val (.ref b38), .unset, .unset, .unset, .unset, .unset, .unset, .unset, .unset] [(.int (qt1.toInt32))])) t_ → Steps p.tables e below (s₁.setTop (entryFrame m #[(.long id1), (.long idr), (.long qt1), (.long qtr), (.long att), (.int fl)] maxLocals)) t_ := fun t_ k_ => s37 t_ (by
    show Steps p.tables e below (T33.setTop (mkF m 121 #[.val (.long id1), .second, .val (.long idr), .second, .val (.long qt1), .second, .val (.long qtr), .second, .val (.long att), .second, .val (.int fl), .val (.long q3), .second, .val (.int (qt1.toInt32)), .val (.int q8), .val (.int q11), .val (.int q18), .val (.int (Int32.ofNat ma)), .val (.int q25), .val (.int (att.toInt32)), .val (.int q32), .unset, .unset, .unset, .unset, .unset, .unset, .unset, .unset, .unset] [])) t_
    refine XS.iconst X33.here hx rfl (Jvm.hb hby at_121) ?_
    show Steps p.tables e below (T33.setTop (mkF m 122 #[.val (.long id1), .second, .val (.long idr), .second, .val (.long qt1), .second, .val (.long qtr), .second, .val (.long att), .second, .val (.int fl), .val (.long q3), .second, .val (.int (qt1.toInt32)), .val (.int q8), .val (.int q11), .val (.int q18), .val (.int (Int32.ofNat ma)), .val (.int q25), .val (.int (att.toInt32)), .val (.int q32), .unset, .unset, .unset, .unset, .unset, .unset, .unset, .unset, .unset] [(.int (4 : Int32))])) _
    refine castTop (g' := (mkF m 122 #[.val (.long id1), .second, .val (.long idr), .second, .val (.long qt1), .second, .val (.long qtr), .second, .val (.long att), .second, .val (.int fl), .val (.long q3), .second, .val (.int (qt1.toInt32)), .val (.int q8), .val (.int q11), .val (.int q18), .val (.int (Int32.ofNat ma)), .val (.int (Int32.ofNat mb)), .val (.int (att.toInt32)), .val (.int q32), .unset, .unset, .unset, .unset, .unset, .unset, .unset, .unset, .unset] [(.int (4 : Int32))])) (by rw [hmb]) ?_
    show Steps p.tables e below (T33.setTop (mkF m 122 #[.val (.long id1), .second, .val (.long idr), .second, .val (.long qt1), .second, .val (.long qtr), .second, .val (.long att), .second, .val (.int fl), .val (.long q3), .second, .val (.int (qt1.toInt32)), .val (.int q8), .val (.int q11), .val (.int q18), .val (.int (Int32.ofNat ma)), .val (.int (Int32.ofNat mb)), .val (.int (att.toInt32)), .val (.int q32), .unset, .unset, .unset, .unset, .unset, .unset, .unset, .unset, .unset] [(.int (4 : Int32))])) _
    refine st38 _ ?_
    show Steps p.tables e below (T38.setTop (mkF m 125 #[.val (.long id1), .second, .val (.long idr), .second, .val (.long qt1), .second, .val (.long qtr), .second, .val (.long att), .second, .val (.int fl), .val (.long q3), .second, .val (.int (qt1.toInt32)), .val (.int q8), .val (.int q11), .val (.int q18), .val (.int (Int32.ofNat ma)), .val (.int (Int32.ofNat mb)), .val (.int (att.toInt32)), .val (.int q32), .unset, .unset, .unset, .unset, .unset, .unset, .unset, .unset, .unset] [(.ref b38)])) _
    refine XS.dup X38.here hx rfl (Jvm.hb hby at_125) rfl rfl ?_
    refine XS.iconst X38.here hx rfl (Jvm.hb hby at_126) ?_
    refine st41 _ ?_
    show Steps p.tables e below (T41.setTop (mkF m 130 #[.val (.long id1), .second, .val (.long idr), .second, .val (.long qt1), .second, .val (.long qtr), .second, .val (.long att), .second, .val (.int fl), .val (.long q3), .second, .val (.int (qt1.toInt32)), .val (.int q8), .val (.int q11), .val (.int q18), .val (.int (Int32.ofNat ma)), .val (.int (Int32.ofNat mb)), .val (.int (att.toInt32)), .val (.int q32), .unset, .unset, .unset, .unset, .unset, .unset, .unset, .unset, .unset] [(.ref ra), (.int (0 : Int32)), (.ref b38), (.ref b38)])) _
    refine st43 _ ?_
    show Steps p.tables e below (T43.setTop (mkF m 131 #[.val (.long id1), .second, .val (.long idr), .second, .val (.long qt1), .second, .val (.long qtr), .second, .val (.long att), .second, .val (.int fl), .val (.long q3), .second, .val (.int (qt1.toInt32)), .val (.int q8), .val (.int q11), .val (.int q18), .val (.int (Int32.ofNat ma)), .val (.int (Int32.ofNat mb)), .val (.int (att.toInt32)), .val (.int q32), .unset, .unset, .unset, .unset, .unset, .unset, .unset, .unset, .unset] [(.ref b38)])) _
    refine XS.dup X43.here hx rfl (Jvm.hb hby at_131) rfl rfl ?_
    refine XS.iconst X43.here hx rfl (Jvm.hb hby at_132) ?_
    refine st46 _ ?_
    show Steps p.tables e below (T46.setTop (mkF m 136 #[.val (.long id1), .second, .val (.long idr), .second, .val (.long qt1), .second, .val (.long qtr), .second, .val (.long att), .second, .val (.int fl), .val (.long q3), .second, .val (.int (qt1.toInt32)), .val (.int q8), .val (.int q11), .val (.int q18), .val (.int (Int32.ofNat ma)), .val (.int (Int32.ofNat mb)), .val (.int (att.toInt32)), .val (.int q32), .unset, .unset, .unset, .unset, .unset, .unset, .unset, .unset, .unset] [(.ref rb), (.int (1 : Int32)), (.ref b38), (.ref b38)])) _
    refine st48 _ ?_
    show Steps p.tables e below (T48.setTop (mkF m 137 #[.val (.long id1), .second, .val (.long idr), .second, .val (.long qt1), .second, .val (.long qtr), .second, .val (.long att), .second, .val (.int fl), .val (.long q3), .second, .val (.int (qt1.toInt32)), .val (.int q8), .val (.int q11), .val (.int q18), .val (.int (Int32.ofNat ma)), .val (.int (Int32.ofNat mb)), .val (.int (att.toInt32)), .val (.int q32), .unset, .unset, .unset, .unset, .unset, .unset, .unset, .unset, .unset] [(.ref b38)])) _
    refine XS.dup X48.here hx rfl (Jvm.hb hby at_137) rfl rfl ?_
    refine XS.iconst X48.here hx rfl (Jvm.hb hby at_138) ?_
    refine st51 _ ?_
    show Steps p.tables e below (T51.setTop (mkF m 142 #[.val (.long id1), .second, .val (.long idr), .second, .val (.long qt1), .second, .val (.long qtr), .second, .val (.long att), .second, .val (.int fl), .val (.long q3), .second, .val (.int (qt1.toInt32)), .val (.int q8), .val (.int q11), .val (.int q18), .val (.int (Int32.ofNat ma)), .val (.int (Int32.ofNat mb)), .val (.int (att.toInt32)), .val (.int q32), .unset, .unset, .unset, .unset, .unset, .unset, .unset, .unset, .unset] [(.ref rc), (.int (2 : Int32)), (.ref b38), (.ref b38)])) _
    refine st53 _ ?_
    show Steps p.tables e below (T53.setTop (mkF m 143 #[.val (.long id1), .second, .val (.long idr), .second, .val (.long qt1), .second, .val (.long qtr), .second, .val (.long att), .second, .val (.int fl), .val (.long q3), .second, .val (.int (qt1.toInt32)), .val (.int q8), .val (.int q11), .val (.int q18), .val (.int (Int32.ofNat ma)), .val (.int (Int32.ofNat mb)), .val (.int (att.toInt32)), .val (.int q32), .unset, .unset, .unset, .unset, .unset, .unset, .unset, .unset, .unset] [(.ref b38)])) _
    refine XS.dup X53.here hx rfl (Jvm.hb hby at_143) rfl rfl ?_
    refine XS.iconst X53.here hx rfl (Jvm.hb hby at_144) ?_
    refine st56 _ ?_
    show Steps p.tables e below (T56.setTop (mkF m 148 #[.val (.long id1), .second, .val (.long idr), .second, .val (.long qt1), .second, .val (.long qtr), .second, .val (.long att), .second, .val (.int fl), .val (.long q3), .second, .val (.int (qt1.toInt32)), .val (.int q8), .val (.int q11), .val (.int q18), .val (.int (Int32.ofNat ma)), .val (.int (Int32.ofNat mb)), .val (.int (att.toInt32)), .val (.int q32), .unset, .unset, .unset, .unset, .unset, .unset, .unset, .unset, .unset] [(.ref rd), (.int (3 : Int32)), (.ref b38), (.ref b38)])) _
    refine st58 _ ?_
    show Steps p.tables e below (T58.setTop (mkF m 149 #[.val (.long id1), .second, .val (.long idr), .second, .val (.long qt1), .second, .val (.long qtr), .second, .val (.long att), .second, .val (.int fl), .val (.long q3), .second, .val (.int (qt1.toInt32)), .val (.int q8), .val (.int q11), .val (.int q18), .val (.int (Int32.ofNat ma)), .val (.int (Int32.ofNat mb)), .val (.int (att.toInt32)), .val (.int q32), .unset, .unset, .unset, .unset, .unset, .unset, .unset, .unset, .unset] [(.ref b38)])) _
    refine XS.astore X58.here hx rfl (Jvm.hb hby at_149) rfl rfl (l' := #[.val (.long id1), .second, .val (.long idr), .second, .val (.long qt1), .second, .val (.long qtr), .second, .val (.long att), .second, .val (.int fl), .val (.long q3), .second, .val (.int (qt1.toInt32)), .val (.int q8), .val (.int q11), .val (.int q18), .val (.int (Int32.ofNat ma)), .val (.int (Int32.ofNat mb)), .val (.int (att.toInt32)), .val (.int q32), .val (.ref b38), .unset, .unset, .unset, .unset, .unset, .unset, .unset, .unset]) rfl ?_
    refine XS.iload X58.here hx rfl (Jvm.hb hby at_151) rfl ?_
    show Steps p.tables e below (T58.setTop (mkF m 153 #[.val (.long id1), .second, .val (.long idr), .second, .val (.long qt1), .second, .val (.long qtr), .second, .val (.long att), .second, .val (.int fl), .val (.long q3), .second, .val (.int (qt1.toInt32)), .val (.int q8), .val (.int q11), .val (.int q18), .val (.int (Int32.ofNat ma)), .val (.int (Int32.ofNat mb)), .val (.int (att.toInt32)), .val (.int q32), .val (.ref b38), .unset, .unset, .unset, .unset, .unset, .unset, .unset, .unset] [(.int (qt1.toInt32))])) t_
    exact k_)
  have O61 : Old Z n0 h58 := (O55.wr W58 (show n0 ≤ b38 by omega))
  have Zc62 : n0 ≤ h58.size := by omega
  obtain ⟨_, _, ⟨T63, L63, k63, n63⟩, -, Xr63, hSr63, hg63, ⟨Lc63, hQ63, l63, y63, z63, Cp63⟩, st63⟩ := callSS X58 hx (y := (⟨"com/example/coyote_hill/coyotehill/ItemStatusEqualsPinLaw", "str", "(I)Ljava/lang/String;"⟩ : MethodName)) hown (mvT hZ (hw _ (List.mem_of_getElem? (i := 12) rfl))) (mvT hZ (hw _ (List.mem_of_getElem? (i := 13) rfl))) (mvT hZ (hw _ (List.mem_of_getElem? (i := 14) rfl))) (mvT hZ (hw _ (List.mem_of_getElem? (i := 15) rfl))) (by decide) (backOfSH (s := s) (vm0 := s.vm) (W := 0) (rmStr l Z a0 hw [] (qt1.toInt32) cst h58 n0 Zc62 I1 O61 (hcst : ¬ (cst = (0 : Int32)))) hZ (hw _ (List.mem_of_getElem? (i := 15) rfl)) (hw _ (List.mem_of_getElem? (i := 14) rfl)) (by decide) (by decide) hEL CR.1) (g := (mkF m 153 #[.val (.long id1), .second, .val (.long idr), .second, .val (.long qt1), .second, .val (.long qtr), .second, .val (.long att), .second, .val (.int fl), .val (.long q3), .second, .val (.int (qt1.toInt32)), .val (.int q8), .val (.int q11), .val (.int q18), .val (.int (Int32.ofNat ma)), .val (.int (Int32.ofNat mb)), .val (.int (att.toInt32)), .val (.int q32), .val (.ref b38), .unset, .unset, .unset, .unset, .unset, .unset, .unset, .unset] [(.int (qt1.toInt32))])) rfl (by rw [hml]; rfl) (argsL := [(.int (qt1.toInt32))]) (rest := []) (lenOf pd__I_Ljava_lang_String_ rfl) rfl (by show 2 * 0 + _ ≤ _; exact Nat.le_of_eq rfl) (Jvm.hb hby at_153) (fun _ _ => ⟨rfl, e58, (by decide : 1 + 6 ≤ _), (by decide : 4 + 15 ≤ _)⟩)
  dsimp only [Pt.U, Pt.locs, Pt.cells, Pt.slots] at Xr63 hSr63 hg63 l63 y63 z63 st63 hQ63 Cp63
  subst l63 y63 z63
  obtain ⟨X63, hS, hZ, hown⟩ := rebS (own := "com/example/coyote_hill/coyotehill/ItemStatusEqualsPinLaw") hS (by first | exact Nat.le_refl _ | (rw [e58]; exact hk)) Xr63 hSr63 hg63 hZ hown
  obtain ⟨a_63, b_63, kb_63, rfl, N63q, K63, Fq63_0, Fq63_1, Fq63_2, Fq63_3, P63_0⟩ := hQ63
  have N63 := Fr.app N58 N63q
  obtain ⟨h63, e63⟩ : ∃ z, T63.heap = z := ⟨_, rfl⟩
  rw [e63] at K63 Fq63_0 Fq63_1 Fq63_2 Fq63_3 Cp63
  have hk : T63.heap.size ≤ h63.size := Nat.le_of_eq (congrArg Array.size e63)
  have z64 : h58.size ≤ h63.size := K63.1
  have CR := CR.trans Cp63
  have lt63_0 : @LT.lt Nat _ a_63 h63.size := Fq63_0.lt
  have lt63_3 : @LT.lt Nat _ b_63 h63.size := Fq63_3.lt
  have s65 : ∀ t_, Steps p.tables e below (T63.setTop (mkF m 160 #[.val (.long id1), .second, .val (.long idr), .second, .val (.long qt1), .second, .val (.long qtr), .second, .val (.long att), .second, .val (.int fl), .val (.long q3), .second, .val (.int (qt1.toInt32)), .val (.int q8), .val (.int q11), .val (.int q18), .val (.int (Int32.ofNat ma)), .val (.int (Int32.ofNat mb)), .val (.int (att.toInt32)), .val (.int q32), .val (.ref b38), .val (.ref a_63), .unset, .unset, .unset, .unset, .unset, .unset, .unset] [(.int q8)])) t_ → Steps p.tables e below (s₁.setTop (entryFrame m #[(.long id1), (.long idr), (.long qt1), (.long qtr), (.long att), (.int fl)] maxLocals)) t_ := fun t_ k_ => s60 t_ (by
    show Steps p.tables e below (T58.setTop (mkF m 153 #[.val (.long id1), .second, .val (.long idr), .second, .val (.long qt1), .second, .val (.long qtr), .second, .val (.long att), .second, .val (.int fl), .val (.long q3), .second, .val (.int (qt1.toInt32)), .val (.int q8), .val (.int q11), .val (.int q18), .val (.int (Int32.ofNat ma)), .val (.int (Int32.ofNat mb)), .val (.int (att.toInt32)), .val (.int q32), .val (.ref b38), .unset, .unset, .unset, .unset, .unset, .unset, .unset, .unset] [(.int (qt1.toInt32))])) t_
    refine st63.trans ?_
    show Steps p.tables e below (T63.setTop (mkF m 156 #[.val (.long id1), .second, .val (.long idr), .second, .val (.long qt1), .second, .val (.long qtr), .second, .val (.long att), .second, .val (.int fl), .val (.long q3), .second, .val (.int (qt1.toInt32)), .val (.int q8), .val (.int q11), .val (.int q18), .val (.int (Int32.ofNat ma)), .val (.int (Int32.ofNat mb)), .val (.int (att.toInt32)), .val (.int q32), .val (.ref b38), .unset, .unset, .unset, .unset, .unset, .unset, .unset, .unset] [(.ref a_63)])) _
    refine XS.astore X63.here hx rfl (Jvm.hb hby at_156) rfl rfl (l' := #[.val (.long id1), .second, .val (.long idr), .second, .val (.long qt1), .second, .val (.long qtr), .second, .val (.long att), .second, .val (.int fl), .val (.long q3), .second, .val (.int (qt1.toInt32)), .val (.int q8), .val (.int q11), .val (.int q18), .val (.int (Int32.ofNat ma)), .val (.int (Int32.ofNat mb)), .val (.int (att.toInt32)), .val (.int q32), .val (.ref b38), .val (.ref a_63), .unset, .unset, .unset, .unset, .unset, .unset, .unset]) rfl ?_
    refine XS.iload X63.here hx rfl (Jvm.hb hby at_158) rfl ?_
    show Steps p.tables e below (T63.setTop (mkF m 160 #[.val (.long id1), .second, .val (.long idr), .second, .val (.long qt1), .second, .val (.long qtr), .second, .val (.long att), .second, .val (.int fl), .val (.long q3), .second, .val (.int (qt1.toInt32)), .val (.int q8), .val (.int q11), .val (.int q18), .val (.int (Int32.ofNat ma)), .val (.int (Int32.ofNat mb)), .val (.int (att.toInt32)), .val (.int q32), .val (.ref b38), .val (.ref a_63), .unset, .unset, .unset, .unset, .unset, .unset, .unset] [(.int q8)])) t_
    exact k_)
  have O66 : Old Z n0 h63 := (O61.keep K63 all0)
  have Zc67 : n0 ≤ h63.size := by omega
  obtain ⟨_, _, ⟨T68, L68, k68, n68⟩, -, Xr68, hSr68, hg68, ⟨Lc68, hQ68, l68, y68, z68, Cp68⟩, st68⟩ := callSS X63 hx (y := (⟨"com/example/coyote_hill/coyotehill/ItemStatusEqualsPinLaw", "str", "(I)Ljava/lang/String;"⟩ : MethodName)) hown (mvT hZ (hw _ (List.mem_of_getElem? (i := 12) rfl))) (mvT hZ (hw _ (List.mem_of_getElem? (i := 13) rfl))) (mvT hZ (hw _ (List.mem_of_getElem? (i := 14) rfl))) (mvT hZ (hw _ (List.mem_of_getElem? (i := 15) rfl))) (by decide) (backOfSH (s := s) (vm0 := T63.vm) (W := 0) (rmStr l Z a0 hw [] q8 cst h63 n0 Zc67 I1 O66 (hcst : ¬ (cst = (0 : Int32)))) hZ (hw _ (List.mem_of_getElem? (i := 15) rfl)) (hw _ (List.mem_of_getElem? (i := 14) rfl)) (by decide) (by decide) hEL CR.1) (g := (mkF m 160 #[.val (.long id1), .second, .val (.long idr), .second, .val (.long qt1), .second, .val (.long qtr), .second, .val (.long att), .second, .val (.int fl), .val (.long q3), .second, .val (.int (qt1.toInt32)), .val (.int q8), .val (.int q11), .val (.int q18), .val (.int (Int32.ofNat ma)), .val (.int (Int32.ofNat mb)), .val (.int (att.toInt32)), .val (.int q32), .val (.ref b38), .val (.ref a_63), .unset, .unset, .unset, .unset, .unset, .unset, .unset] [(.int q8)])) rfl (by rw [hml]; rfl) (argsL := [(.int q8)]) (rest := []) (lenOf pd__I_Ljava_lang_String_ rfl) rfl (by show 2 * 0 + _ ≤ _; exact Nat.le_of_eq rfl) (Jvm.hb hby at_160) (fun _ _ => ⟨rfl, e63, (by decide : 7 + 6 ≤ _), (by decide : 19 + 15 ≤ _)⟩)
  dsimp only [Pt.U, Pt.locs, Pt.cells, Pt.slots] at Xr68 hSr68 hg68 l68 y68 z68 st68 hQ68 Cp68
  subst l68 y68 z68
  obtain ⟨X68, hS, hZ, hown⟩ := rebS (own := "com/example/coyote_hill/coyotehill/ItemStatusEqualsPinLaw") hS (by first | exact Nat.le_refl _ | (rw [e63]; exact hk)) Xr68 hSr68 hg68 hZ hown
  obtain ⟨a_68, b_68, kb_68, rfl, N68q, K68, Fq68_0, Fq68_1, Fq68_2, Fq68_3, P68_0⟩ := hQ68
  have N68 := Fr.app N63 N68q
  obtain ⟨h68, e68⟩ : ∃ z, T68.heap = z := ⟨_, rfl⟩
  rw [e68] at K68 Fq68_0 Fq68_1 Fq68_2 Fq68_3 Cp68
  have hk : T68.heap.size ≤ h68.size := Nat.le_of_eq (congrArg Array.size e68)
  have z69 : h63.size ≤ h68.size := K68.1
  have CR := CR.trans Cp68
  have lt68_0 : @LT.lt Nat _ a_68 h68.size := Fq68_0.lt
  have lt68_3 : @LT.lt Nat _ b_68 h68.size := Fq68_3.lt
  have s70 : ∀ t_, Steps p.tables e below (T68.setTop (mkF m 167 #[.val (.long id1), .second, .val (.long idr), .second, .val (.long qt1), .second, .val (.long qtr), .second, .val (.long att), .second, .val (.int fl), .val (.long q3), .second, .val (.int (qt1.toInt32)), .val (.int q8), .val (.int q11), .val (.int q18), .val (.int (Int32.ofNat ma)), .val (.int (Int32.ofNat mb)), .val (.int (att.toInt32)), .val (.int q32), .val (.ref b38), .val (.ref a_63), .val (.ref a_68), .unset, .unset, .unset, .unset, .unset, .unset] [(.int q11)])) t_ → Steps p.tables e below (s₁.setTop (entryFrame m #[(.long id1), (.long idr), (.long qt1), (.long qtr), (.long att), (.int fl)] maxLocals)) t_ := fun t_ k_ => s65 t_ (by
    show Steps p.tables e below (T63.setTop (mkF m 160 #[.val (.long id1), .second, .val (.long idr), .second, .val (.long qt1), .second, .val (.long qtr), .second, .val (.long att), .second, .val (.int fl), .val (.long q3), .second, .val (.int (qt1.toInt32)), .val (.int q8), .val (.int q11), .val (.int q18), .val (.int (Int32.ofNat ma)), .val (.int (Int32.ofNat mb)), .val (.int (att.toInt32)), .val (.int q32), .val (.ref b38), .val (.ref a_63), .unset, .unset, .unset, .unset, .unset, .unset, .unset] [(.int q8)])) t_
    refine st68.trans ?_
    show Steps p.tables e below (T68.setTop (mkF m 163 #[.val (.long id1), .second, .val (.long idr), .second, .val (.long qt1), .second, .val (.long qtr), .second, .val (.long att), .second, .val (.int fl), .val (.long q3), .second, .val (.int (qt1.toInt32)), .val (.int q8), .val (.int q11), .val (.int q18), .val (.int (Int32.ofNat ma)), .val (.int (Int32.ofNat mb)), .val (.int (att.toInt32)), .val (.int q32), .val (.ref b38), .val (.ref a_63), .unset, .unset, .unset, .unset, .unset, .unset, .unset] [(.ref a_68)])) _
    refine XS.astore X68.here hx rfl (Jvm.hb hby at_163) rfl rfl (l' := #[.val (.long id1), .second, .val (.long idr), .second, .val (.long qt1), .second, .val (.long qtr), .second, .val (.long att), .second, .val (.int fl), .val (.long q3), .second, .val (.int (qt1.toInt32)), .val (.int q8), .val (.int q11), .val (.int q18), .val (.int (Int32.ofNat ma)), .val (.int (Int32.ofNat mb)), .val (.int (att.toInt32)), .val (.int q32), .val (.ref b38), .val (.ref a_63), .val (.ref a_68), .unset, .unset, .unset, .unset, .unset, .unset]) rfl ?_
    refine XS.iload X68.here hx rfl (Jvm.hb hby at_165) rfl ?_
    show Steps p.tables e below (T68.setTop (mkF m 167 #[.val (.long id1), .second, .val (.long idr), .second, .val (.long qt1), .second, .val (.long qtr), .second, .val (.long att), .second, .val (.int fl), .val (.long q3), .second, .val (.int (qt1.toInt32)), .val (.int q8), .val (.int q11), .val (.int q18), .val (.int (Int32.ofNat ma)), .val (.int (Int32.ofNat mb)), .val (.int (att.toInt32)), .val (.int q32), .val (.ref b38), .val (.ref a_63), .val (.ref a_68), .unset, .unset, .unset, .unset, .unset, .unset] [(.int q11)])) t_
    exact k_)
  have O71 : Old Z n0 h68 := (O66.keep K68 all0)
  have Zc72 : n0 ≤ h68.size := by omega
  obtain ⟨_, _, ⟨T73, L73, k73, n73⟩, -, Xr73, hSr73, hg73, ⟨Lc73, hQ73, l73, y73, z73, Cp73⟩, st73⟩ := callSS X68 hx (y := (⟨"com/example/coyote_hill/coyotehill/ItemStatusEqualsPinLaw", "str", "(I)Ljava/lang/String;"⟩ : MethodName)) hown (mvT hZ (hw _ (List.mem_of_getElem? (i := 12) rfl))) (mvT hZ (hw _ (List.mem_of_getElem? (i := 13) rfl))) (mvT hZ (hw _ (List.mem_of_getElem? (i := 14) rfl))) (mvT hZ (hw _ (List.mem_of_getElem? (i := 15) rfl))) (by decide) (backOfSH (s := s) (vm0 := T68.vm) (W := 0) (rmStr l Z a0 hw [] q11 cst h68 n0 Zc72 I1 O71 (hcst : ¬ (cst = (0 : Int32)))) hZ (hw _ (List.mem_of_getElem? (i := 15) rfl)) (hw _ (List.mem_of_getElem? (i := 14) rfl)) (by decide) (by decide) hEL CR.1) (g := (mkF m 167 #[.val (.long id1), .second, .val (.long idr), .second, .val (.long qt1), .second, .val (.long qtr), .second, .val (.long att), .second, .val (.int fl), .val (.long q3), .second, .val (.int (qt1.toInt32)), .val (.int q8), .val (.int q11), .val (.int q18), .val (.int (Int32.ofNat ma)), .val (.int (Int32.ofNat mb)), .val (.int (att.toInt32)), .val (.int q32), .val (.ref b38), .val (.ref a_63), .val (.ref a_68), .unset, .unset, .unset, .unset, .unset, .unset] [(.int q11)])) rfl (by rw [hml]; rfl) (argsL := [(.int q11)]) (rest := []) (lenOf pd__I_Ljava_lang_String_ rfl) rfl (by show 2 * 0 + _ ≤ _; exact Nat.le_of_eq rfl) (Jvm.hb hby at_167) (fun _ _ => ⟨rfl, e68, (by decide : 13 + 6 ≤ _), (by decide : 34 + 15 ≤ _)⟩)
  dsimp only [Pt.U, Pt.locs, Pt.cells, Pt.slots] at Xr73 hSr73 hg73 l73 y73 z73 st73 hQ73 Cp73
  subst l73 y73 z73
  obtain ⟨X73, hS, hZ, hown⟩ := rebS (own := "com/example/coyote_hill/coyotehill/ItemStatusEqualsPinLaw") hS (by first | exact Nat.le_refl _ | (rw [e68]; exact hk)) Xr73 hSr73 hg73 hZ hown
  obtain ⟨a_73, b_73, kb_73, rfl, N73q, K73, Fq73_0, Fq73_1, Fq73_2, Fq73_3, P73_0⟩ := hQ73
  have N73 := Fr.app N68 N73q
  obtain ⟨h73, e73⟩ : ∃ z, T73.heap = z := ⟨_, rfl⟩
  rw [e73] at K73 Fq73_0 Fq73_1 Fq73_2 Fq73_3 Cp73
  have hk : T73.heap.size ≤ h73.size := Nat.le_of_eq (congrArg Array.size e73)
  have z74 : h68.size ≤ h73.size := K73.1
  have CR := CR.trans Cp73
  have lt73_0 : @LT.lt Nat _ a_73 h73.size := Fq73_0.lt
  have lt73_3 : @LT.lt Nat _ b_73 h73.size := Fq73_3.lt
  have s75 : ∀ t_, Steps p.tables e below (T73.setTop (mkF m 174 #[.val (.long id1), .second, .val (.long idr), .second, .val (.long qt1), .second, .val (.long qtr), .second, .val (.long att), .second, .val (.int fl), .val (.long q3), .second, .val (.int (qt1.toInt32)), .val (.int q8), .val (.int q11), .val (.int q18), .val (.int (Int32.ofNat ma)), .val (.int (Int32.ofNat mb)), .val (.int (att.toInt32)), .val (.int q32), .val (.ref b38), .val (.ref a_63), .val (.ref a_68), .val (.ref a_73), .unset, .unset, .unset, .unset, .unset] [(.int q18)])) t_ → Steps p.tables e below (s₁.setTop (entryFrame m #[(.long id1), (.long idr), (.long qt1), (.long qtr), (.long att), (.int fl)] maxLocals)) t_ := fun t_ k_ => s70 t_ (by
    show Steps p.tables e below (T68.setTop (mkF m 167 #[.val (.long id1), .second, .val (.long idr), .second, .val (.long qt1), .second, .val (.long qtr), .second, .val (.long att), .second, .val (.int fl), .val (.long q3), .second, .val (.int (qt1.toInt32)), .val (.int q8), .val (.int q11), .val (.int q18), .val (.int (Int32.ofNat ma)), .val (.int (Int32.ofNat mb)), .val (.int (att.toInt32)), .val (.int q32), .val (.ref b38), .val (.ref a_63), .val (.ref a_68), .unset, .unset, .unset, .unset, .unset, .unset] [(.int q11)])) t_
    refine st73.trans ?_
    show Steps p.tables e below (T73.setTop (mkF m 170 #[.val (.long id1), .second, .val (.long idr), .second, .val (.long qt1), .second, .val (.long qtr), .second, .val (.long att), .second, .val (.int fl), .val (.long q3), .second, .val (.int (qt1.toInt32)), .val (.int q8), .val (.int q11), .val (.int q18), .val (.int (Int32.ofNat ma)), .val (.int (Int32.ofNat mb)), .val (.int (att.toInt32)), .val (.int q32), .val (.ref b38), .val (.ref a_63), .val (.ref a_68), .unset, .unset, .unset, .unset, .unset, .unset] [(.ref a_73)])) _
    refine XS.astore X73.here hx rfl (Jvm.hb hby at_170) rfl rfl (l' := #[.val (.long id1), .second, .val (.long idr), .second, .val (.long qt1), .second, .val (.long qtr), .second, .val (.long att), .second, .val (.int fl), .val (.long q3), .second, .val (.int (qt1.toInt32)), .val (.int q8), .val (.int q11), .val (.int q18), .val (.int (Int32.ofNat ma)), .val (.int (Int32.ofNat mb)), .val (.int (att.toInt32)), .val (.int q32), .val (.ref b38), .val (.ref a_63), .val (.ref a_68), .val (.ref a_73), .unset, .unset, .unset, .unset, .unset]) rfl ?_
    refine XS.iload X73.here hx rfl (Jvm.hb hby at_172) rfl ?_
    show Steps p.tables e below (T73.setTop (mkF m 174 #[.val (.long id1), .second, .val (.long idr), .second, .val (.long qt1), .second, .val (.long qtr), .second, .val (.long att), .second, .val (.int fl), .val (.long q3), .second, .val (.int (qt1.toInt32)), .val (.int q8), .val (.int q11), .val (.int q18), .val (.int (Int32.ofNat ma)), .val (.int (Int32.ofNat mb)), .val (.int (att.toInt32)), .val (.int q32), .val (.ref b38), .val (.ref a_63), .val (.ref a_68), .val (.ref a_73), .unset, .unset, .unset, .unset, .unset] [(.int q18)])) t_
    exact k_)
  have O76 : Old Z n0 h73 := (O71.keep K73 all0)
  have Zc77 : n0 ≤ h73.size := by omega
  obtain ⟨_, _, ⟨T78, L78, k78, n78⟩, -, Xr78, hSr78, hg78, ⟨Lc78, hQ78, l78, y78, z78, Cp78⟩, st78⟩ := callSS X73 hx (y := (⟨"com/example/coyote_hill/coyotehill/ItemStatusEqualsPinLaw", "str", "(I)Ljava/lang/String;"⟩ : MethodName)) hown (mvT hZ (hw _ (List.mem_of_getElem? (i := 12) rfl))) (mvT hZ (hw _ (List.mem_of_getElem? (i := 13) rfl))) (mvT hZ (hw _ (List.mem_of_getElem? (i := 14) rfl))) (mvT hZ (hw _ (List.mem_of_getElem? (i := 15) rfl))) (by decide) (backOfSH (s := s) (vm0 := T73.vm) (W := 0) (rmStr l Z a0 hw [] q18 cst h73 n0 Zc77 I1 O76 (hcst : ¬ (cst = (0 : Int32)))) hZ (hw _ (List.mem_of_getElem? (i := 15) rfl)) (hw _ (List.mem_of_getElem? (i := 14) rfl)) (by decide) (by decide) hEL CR.1) (g := (mkF m 174 #[.val (.long id1), .second, .val (.long idr), .second, .val (.long qt1), .second, .val (.long qtr), .second, .val (.long att), .second, .val (.int fl), .val (.long q3), .second, .val (.int (qt1.toInt32)), .val (.int q8), .val (.int q11), .val (.int q18), .val (.int (Int32.ofNat ma)), .val (.int (Int32.ofNat mb)), .val (.int (att.toInt32)), .val (.int q32), .val (.ref b38), .val (.ref a_63), .val (.ref a_68), .val (.ref a_73), .unset, .unset, .unset, .unset, .unset] [(.int q18)])) rfl (by rw [hml]; rfl) (argsL := [(.int q18)]) (rest := []) (lenOf pd__I_Ljava_lang_String_ rfl) rfl (by show 2 * 0 + _ ≤ _; exact Nat.le_of_eq rfl) (Jvm.hb hby at_174) (fun _ _ => ⟨rfl, e73, (by decide : 19 + 6 ≤ _), (by decide : 49 + 15 ≤ _)⟩)
  dsimp only [Pt.U, Pt.locs, Pt.cells, Pt.slots] at Xr78 hSr78 hg78 l78 y78 z78 st78 hQ78 Cp78
  subst l78 y78 z78
  obtain ⟨X78, hS, hZ, hown⟩ := rebS (own := "com/example/coyote_hill/coyotehill/ItemStatusEqualsPinLaw") hS (by first | exact Nat.le_refl _ | (rw [e73]; exact hk)) Xr78 hSr78 hg78 hZ hown
  obtain ⟨a_78, b_78, kb_78, rfl, N78q, K78, Fq78_0, Fq78_1, Fq78_2, Fq78_3, P78_0⟩ := hQ78
  have N78 := Fr.app N73 N78q
  obtain ⟨h78, e78⟩ : ∃ z, T78.heap = z := ⟨_, rfl⟩
  rw [e78] at K78 Fq78_0 Fq78_1 Fq78_2 Fq78_3 Cp78
  have hk : T78.heap.size ≤ h78.size := Nat.le_of_eq (congrArg Array.size e78)
  have z79 : h73.size ≤ h78.size := K78.1
  have CR := CR.trans Cp78
  have lt78_0 : @LT.lt Nat _ a_78 h78.size := Fq78_0.lt
  have lt78_3 : @LT.lt Nat _ b_78 h78.size := Fq78_3.lt
  obtain ⟨T80, h80, X80, e80, E80, A80, D80, -, st80⟩ := newO X78 hx hZ hown (hw _ (List.mem_of_getElem? (i := 49) rfl)) (hw _ (List.mem_of_getElem? (i := 50) rfl)) (hw _ (List.mem_of_getElem? (i := 51) rfl)) e78 (g := (mkF m 179 #[.val (.long id1), .second, .val (.long idr), .second, .val (.long qt1), .second, .val (.long qtr), .second, .val (.long att), .second, .val (.int fl), .val (.long q3), .second, .val (.int (qt1.toInt32)), .val (.int q8), .val (.int q11), .val (.int q18), .val (.int (Int32.ofNat ma)), .val (.int (Int32.ofNat mb)), .val (.int (att.toInt32)), .val (.int q32), .val (.ref b38), .val (.ref a_63), .val (.ref a_68), .val (.ref a_73), .val (.ref a_78), .unset, .unset, .unset, .unset] [])) rfl (Jvm.hb hby at_179) (by decide) (by decide)
  obtain ⟨b80, g80⟩ : ∃ z, z = h78.size := ⟨_, rfl⟩
  rw [← g80] at A80 D80 st80
  have z81 : h78.size ≤ h80.size := E80.1
  have Cp81 : CHr Z ELs T78.vm h78 T78.vm h80 := CHr.ext E80 CR.1
  have hk := Nat.le_trans hk z81
  have CR := CR.trans Cp81
  have l80 : b80 < h80.size := A80.lt
  have F82 : Fld Z h80 b80 "com/example/coyote_hill/coyotehill/ItemStatus" "_id" "J" (.long (0 : Int64)) := D80 (Or.inr (hw _ (List.mem_of_getElem? (i := 57) rfl))) (ty := .long) (by decide)
  have F83 : Fld Z h80 b80 "com/example/coyote_hill/coyotehill/ItemStatus" "_queue" "Ljava/lang/String;" .null := D80 (Or.inr (hw _ (List.mem_of_getElem? (i := 65) rfl))) (ty := (.object "java/lang/String")) (by decide)
  have F84 : Fld Z h80 b80 "com/example/coyote_hill/coyotehill/ItemStatus" "_tenant" "Ljava/lang/String;" .null := D80 (Or.inr (hw _ (List.mem_of_getElem? (i := 68) rfl))) (ty := (.object "java/lang/String")) (by decide)
  have F85 : Fld Z h80 b80 "com/example/coyote_hill/coyotehill/ItemStatus" "_state" "Lcom/example/coyote_hill/coyotehill/ItemState;" .null := D80 (Or.inr (hw _ (List.mem_of_getElem? (i := 72) rfl))) (ty := (.object "com/example/coyote_hill/coyotehill/ItemState")) (by decide)
  have F86 : Fld Z h80 b80 "com/example/coyote_hill/coyotehill/ItemStatus" "_attempt" "I" (.int (0 : Int32)) := D80 (Or.inr (hw _ (List.mem_of_getElem? (i := 74) rfl))) (ty := .int) (by decide)
  obtain ⟨s1, hs1⟩ : ∃ z : Addr, z = own_st4 ma ra rb rc rd := ⟨_, rfl⟩
  have O88 : Old Z n0 h80 := ((O76.keep K78 all0).ext E80)
  have Es87 : Exa Z h80 s1 "com/example/coyote_hill/coyotehill/ItemState" := by rw [hs1]; exact own_st4E ma (I6.ext O88.2) (I7.ext O88.2) (I8.ext O88.2) (I9.ext O88.2)
  have lt87 := Es87.lt
  have f89 : Arv Z h80 b38 k38 (.object "com/example/coyote_hill/coyotehill/ItemState") (4 : Int32) [(.ref ra), (.ref rb), (.ref rc), (.ref rd)] .null := (((((V58.keep K63 nin0).keep K68 nin0).keep K73 nin0).keep K78 nin0).ext E80)
  obtain ⟨cl90, Ar90, -, S90, M90, H90, -⟩ := id f89
  have hin90 : ¬ ((Int32.ofNat ma) < 0 ∨ cl90.slots.size ≤ ((Int32.ofNat ma)).toNatClampNeg) := inb_of S90 (own_in (n := 4) hmal (by decide))
  have hat90 : cl90.slots[((Int32.ofNat ma)).toNatClampNeg]? = some (.ref s1) := H90.at hin90 (by rw [hs1]; exact own_getst ma ra rb rc rd _ hmal)
  have s91 : ∀ t_, Steps p.tables e below (T80.setTop (mkF m 195 #[.val (.long id1), .second, .val (.long idr), .second, .val (.long qt1), .second, .val (.long qtr), .second, .val (.long att), .second, .val (.int fl), .val (.long q3), .second, .val (.int (qt1.toInt32)), .val (.int q8), .val (.int q11), .val (.int q18), .val (.int (Int32.ofNat ma)), .val (.int (Int32.ofNat mb)), .val (.int (att.toInt32)), .val (.int q32), .val (.ref b38), .val (.ref a_63), .val (.ref a_68), .val (.ref a_73), .val (.ref a_78), .unset, .unset, .unset, .unset] [(.int (att.toInt32)), (.ref s1), (.ref a_68), (.ref a_63), (.long id1), (.ref b80), (.ref b80)])) t_ → Steps p.tables e below (s₁.setTop (entryFrame m #[(.long id1), (.long idr), (.long qt1), (.long qtr), (.long att), (.int fl)] maxLocals)) t_ := fun t_ k_ => s75 t_ (by
    show Steps p.tables e below (T73.setTop (mkF m 174 #[.val (.long id1), .second, .val (.long idr), .second, .val (.long qt1), .second, .val (.long qtr), .second, .val (.long att), .second, .val (.int fl), .val (.long q3), .second, .val (.int (qt1.toInt32)), .val (.int q8), .val (.int q11), .val (.int q18), .val (.int (Int32.ofNat ma)), .val (.int (Int32.ofNat mb)), .val (.int (att.toInt32)), .val (.int q32), .val (.ref b38), .val (.ref a_63), .val (.ref a_68), .val (.ref a_73), .unset, .unset, .unset, .unset, .unset] [(.int q18)])) t_
    refine st78.trans ?_
    show Steps p.tables e below (T78.setTop (mkF m 177 #[.val (.long id1), .second, .val (.long idr), .second, .val (.long qt1), .second, .val (.long qtr), .second, .val (.long att), .second, .val (.int fl), .val (.long q3), .second, .val (.int (qt1.toInt32)), .val (.int q8), .val (.int q11), .val (.int q18), .val (.int (Int32.ofNat ma)), .val (.int (Int32.ofNat mb)), .val (.int (att.toInt32)), .val (.int q32), .val (.ref b38), .val (.ref a_63), .val (.ref a_68), .val (.ref a_73), .unset, .unset, .unset, .unset, .unset] [(.ref a_78)])) _
    refine XS.astore X78.here hx rfl (Jvm.hb hby at_177) rfl rfl (l' := #[.val (.long id1), .second, .val (.long idr), .second, .val (.long qt1), .second, .val (.long qtr), .second, .val (.long att), .second, .val (.int fl), .val (.long q3), .second, .val (.int (qt1.toInt32)), .val (.int q8), .val (.int q11), .val (.int q18), .val (.int (Int32.ofNat ma)), .val (.int (Int32.ofNat mb)), .val (.int (att.toInt32)), .val (.int q32), .val (.ref b38), .val (.ref a_63), .val (.ref a_68), .val (.ref a_73), .val (.ref a_78), .unset, .unset, .unset, .unset]) rfl ?_
    refine st80 _ ?_
    show Steps p.tables e below (T80.setTop (mkF m 182 #[.val (.long id1), .second, .val (.long idr), .second, .val (.long qt1), .second, .val (.long qtr), .second, .val (.long att), .second, .val (.int fl), .val (.long q3), .second, .val (.int (qt1.toInt32)), .val (.int q8), .val (.int q11), .val (.int q18), .val (.int (Int32.ofNat ma)), .val (.int (Int32.ofNat mb)), .val (.int (att.toInt32)), .val (.int q32), .val (.ref b38), .val (.ref a_63), .val (.ref a_68), .val (.ref a_73), .val (.ref a_78), .unset, .unset, .unset, .unset] [(.ref b80)])) _
    refine XS.dup X80.here hx rfl (Jvm.hb hby at_182) rfl rfl ?_
    refine XS.lloadN X80.here hx rfl (Jvm.hb hby at_183) rfl ?_
    refine XS.aload X80.here hx rfl (Jvm.hb hby at_184) rfl rfl ?_
    refine XS.aload X80.here hx rfl (Jvm.hb hby at_186) rfl rfl ?_
    refine XS.aload X80.here hx rfl (Jvm.hb hby at_188) rfl rfl ?_
    refine XS.iload X80.here hx rfl (Jvm.hb hby at_190) rfl ?_
    show Steps p.tables e below (T80.setTop (mkF m 192 #[.val (.long id1), .second, .val (.long idr), .second, .val (.long qt1), .second, .val (.long qtr), .second, .val (.long att), .second, .val (.int fl), .val (.long q3), .second, .val (.int (qt1.toInt32)), .val (.int q8), .val (.int q11), .val (.int q18), .val (.int (Int32.ofNat ma)), .val (.int (Int32.ofNat mb)), .val (.int (att.toInt32)), .val (.int q32), .val (.ref b38), .val (.ref a_63), .val (.ref a_68), .val (.ref a_73), .val (.ref a_78), .unset, .unset, .unset, .unset] [(.int (Int32.ofNat ma)), (.ref b38), (.ref a_68), (.ref a_63), (.long id1), (.ref b80), (.ref b80)])) _
    refine X80.aaload hx (j := (Int32.ofNat ma)) (v := (.ref s1)) (by rw [e80]; exact Ar90.1) (State.isArrayOf_alike hZ.alike Ar90.2.1) rfl Ar90.2.2 hin90 hat90 (g := (mkF m 192 #[.val (.long id1), .second, .val (.long idr), .second, .val (.long qt1), .second, .val (.long qtr), .second, .val (.long att), .second, .val (.int fl), .val (.long q3), .second, .val (.int (qt1.toInt32)), .val (.int q8), .val (.int q11), .val (.int q18), .val (.int (Int32.ofNat ma)), .val (.int (Int32.ofNat mb)), .val (.int (att.toInt32)), .val (.int q32), .val (.ref b38), .val (.ref a_63), .val (.ref a_68), .val (.ref a_73), .val (.ref a_78), .unset, .unset, .unset, .unset] [(.int (Int32.ofNat ma)), (.ref b38), (.ref a_68), (.ref a_63), (.long id1), (.ref b80), (.ref b80)])) rfl rfl (Jvm.hb hby at_192) _ ?_
    show Steps p.tables e below (T80.setTop (mkF m 193 #[.val (.long id1), .second, .val (.long idr), .second, .val (.long qt1), .second, .val (.long qtr), .second, .val (.long att), .second, .val (.int fl), .val (.long q3), .second, .val (.int (qt1.toInt32)), .val (.int q8), .val (.int q11), .val (.int q18), .val (.int (Int32.ofNat ma)), .val (.int (Int32.ofNat mb)), .val (.int (att.toInt32)), .val (.int q32), .val (.ref b38), .val (.ref a_63), .val (.ref a_68), .val (.ref a_73), .val (.ref a_78), .unset, .unset, .unset, .unset] [(.ref s1), (.ref a_68), (.ref a_63), (.long id1), (.ref b80), (.ref b80)])) _
    refine XS.iload X80.here hx rfl (Jvm.hb hby at_193) rfl ?_
    show Steps p.tables e below (T80.setTop (mkF m 195 #[.val (.long id1), .second, .val (.long idr), .second, .val (.long qt1), .second, .val (.long qtr), .second, .val (.long att), .second, .val (.int fl), .val (.long q3), .second, .val (.int (qt1.toInt32)), .val (.int q8), .val (.int q11), .val (.int q18), .val (.int (Int32.ofNat ma)), .val (.int (Int32.ofNat mb)), .val (.int (att.toInt32)), .val (.int q32), .val (.ref b38), .val (.ref a_63), .val (.ref a_68), .val (.ref a_73), .val (.ref a_78), .unset, .unset, .unset, .unset] [(.int (att.toInt32)), (.ref s1), (.ref a_68), (.ref a_63), (.long id1), (.ref b80), (.ref b80)])) t_
    exact k_)
  have f92 : Exa Z h80 a_63 "java/lang/String" := ((((Fq63_0.keep K68).keep K73).keep K78).ext E80)
  have f93 : Exa Z h80 a_68 "java/lang/String" := (((Fq68_0.keep K73).keep K78).ext E80)
  have Zc94 : n0 ≤ h80.size := by omega
  obtain ⟨_, _, ⟨T95, L95, k95, n95⟩, -, Xr95, hSr95, hg95, ⟨Lc95, hQ95, l95, y95, z95, Cp95⟩, st95⟩ := X80.specialBackS hx (y := (⟨"com/example/coyote_hill/coyotehill/ItemStatus", "<init>", "(JLjava/lang/String;Ljava/lang/String;Lcom/example/coyote_hill/coyotehill/ItemState;I)V"⟩ : MethodName)) rfl hown (mvT hZ (hw _ (List.mem_of_getElem? (i := 52) rfl))) (mvT hZ (hw _ (List.mem_of_getElem? (i := 53) rfl))) (mvT hZ (hw _ (List.mem_of_getElem? (i := 54) rfl))) (by decide) (backOfSH (s := s) (vm0 := T78.vm) (W := 1) (rmITi l Z a0 hw [] b80 id1 a_63 a_68 s1 (att.toInt32) h80 n0 Zc94 A80 F82 F83 F84 F85 F86 f92 f93 Es87 (by first | assumption | omega | rfl | decide : n0 ≤ b80)) hZ (hw _ (List.mem_of_getElem? (i := 54) rfl)) (hw _ (List.mem_of_getElem? (i := 51) rfl)) (by decide) (by decide) hEL CR.1) (g := (mkF m 195 #[.val (.long id1), .second, .val (.long idr), .second, .val (.long qt1), .second, .val (.long qtr), .second, .val (.long att), .second, .val (.int fl), .val (.long q3), .second, .val (.int (qt1.toInt32)), .val (.int q8), .val (.int q11), .val (.int q18), .val (.int (Int32.ofNat ma)), .val (.int (Int32.ofNat mb)), .val (.int (att.toInt32)), .val (.int q32), .val (.ref b38), .val (.ref a_63), .val (.ref a_68), .val (.ref a_73), .val (.ref a_78), .unset, .unset, .unset, .unset] [(.int (att.toInt32)), (.ref s1), (.ref a_68), (.ref a_63), (.long id1), (.ref b80), (.ref b80)])) rfl (by rw [hml]; rfl) (Steps.refl _) (a := b80) (argsL := [(.long id1), (.ref a_63), (.ref a_68), (.ref s1), (.int (att.toInt32))]) (rest := [(.ref b80)]) (lenOf pd__JLjava_lang_String_Ljava_lang_String_Lcom_example_coyote_hill_coyotehill_ItemState_I_V rfl) rfl (by show 2 * 0 + _ ≤ _; exact Nat.le_of_eq rfl) (Jvm.hb hby at_195) (fun _ _ => ⟨rfl, e80, (by decide : 26 + 6 ≤ _), (by decide : 69 + 76 ≤ _)⟩)
  dsimp only [Pt.U, Pt.locs, Pt.cells, Pt.slots] at Xr95 hSr95 hg95 l95 y95 z95 st95 hQ95 Cp95
  subst l95 y95 z95
  obtain ⟨X95, hS, hZ, hown⟩ := rebS (own := "com/example/coyote_hill/coyotehill/ItemStatusEqualsPinLaw") hS (by first | exact Nat.le_refl _ | (rw [e80]; exact hk)) Xr95 hSr95 hg95 hZ hown
  obtain ⟨rfl, N95q, K95, Fq95_0, Fq95_1, Fq95_2, Fq95_3, Fq95_4, Fq95_5⟩ := hQ95
  have N95 := Fr.app N78 N95q
  obtain ⟨h95, e95⟩ : ∃ z, T95.heap = z := ⟨_, rfl⟩
  rw [e95] at K95 Fq95_0 Fq95_1 Fq95_2 Fq95_3 Fq95_4 Fq95_5 Cp95
  have hk : T95.heap.size ≤ h95.size := Nat.le_of_eq (congrArg Array.size e95)
  have z96 : h80.size ≤ h95.size := K95.1
  have CR := CR.trans Cp95
  have lt95_0 : @LT.lt Nat _ b80 h95.size := Fq95_0.lt
  obtain ⟨T97, h97, X97, e97, E97, A97, D97, -, st97⟩ := newO X95 hx hZ hown (hw _ (List.mem_of_getElem? (i := 49) rfl)) (hw _ (List.mem_of_getElem? (i := 50) rfl)) (hw _ (List.mem_of_getElem? (i := 51) rfl)) e95 (g := (mkF m 200 #[.val (.long id1), .second, .val (.long idr), .second, .val (.long qt1), .second, .val (.long qtr), .second, .val (.long att), .second, .val (.int fl), .val (.long q3), .second, .val (.int (qt1.toInt32)), .val (.int q8), .val (.int q11), .val (.int q18), .val (.int (Int32.ofNat ma)), .val (.int (Int32.ofNat mb)), .val (.int (att.toInt32)), .val (.int q32), .val (.ref b38), .val (.ref a_63), .val (.ref a_68), .val (.ref a_73), .val (.ref a_78), .val (.ref b80), .unset, .unset, .unset] [])) rfl (Jvm.hb hby at_200) (by decide) (by decide)
  obtain ⟨b97, g97⟩ : ∃ z, z = h95.size := ⟨_, rfl⟩
  rw [← g97] at A97 D97 st97
  have z98 : h95.size ≤ h97.size := E97.1
  have Cp98 : CHr Z ELs T95.vm h95 T95.vm h97 := CHr.ext E97 CR.1
  have hk := Nat.le_trans hk z98
  have CR := CR.trans Cp98
  have l97 : b97 < h97.size := A97.lt
  have F99 : Fld Z h97 b97 "com/example/coyote_hill/coyotehill/ItemStatus" "_id" "J" (.long (0 : Int64)) := D97 (Or.inr (hw _ (List.mem_of_getElem? (i := 57) rfl))) (ty := .long) (by decide)
  have F100 : Fld Z h97 b97 "com/example/coyote_hill/coyotehill/ItemStatus" "_queue" "Ljava/lang/String;" .null := D97 (Or.inr (hw _ (List.mem_of_getElem? (i := 65) rfl))) (ty := (.object "java/lang/String")) (by decide)
  have F101 : Fld Z h97 b97 "com/example/coyote_hill/coyotehill/ItemStatus" "_tenant" "Ljava/lang/String;" .null := D97 (Or.inr (hw _ (List.mem_of_getElem? (i := 68) rfl))) (ty := (.object "java/lang/String")) (by decide)
  have F102 : Fld Z h97 b97 "com/example/coyote_hill/coyotehill/ItemStatus" "_state" "Lcom/example/coyote_hill/coyotehill/ItemState;" .null := D97 (Or.inr (hw _ (List.mem_of_getElem? (i := 72) rfl))) (ty := (.object "com/example/coyote_hill/coyotehill/ItemState")) (by decide)
  have F103 : Fld Z h97 b97 "com/example/coyote_hill/coyotehill/ItemStatus" "_attempt" "I" (.int (0 : Int32)) := D97 (Or.inr (hw _ (List.mem_of_getElem? (i := 74) rfl))) (ty := .int) (by decide)
  obtain ⟨s2, hs2⟩ : ∃ z : Addr, z = own_st4 mb ra rb rc rd := ⟨_, rfl⟩
  have O105 : Old Z n0 h97 := ((O88.keep K95 (allS (show n0 ≤ b80 by omega) all0)).ext E97)
  have Es104 : Exa Z h97 s2 "com/example/coyote_hill/coyotehill/ItemState" := by rw [hs2]; exact own_st4E mb (I6.ext O105.2) (I7.ext O105.2) (I8.ext O105.2) (I9.ext O105.2)
  have lt104 := Es104.lt
  have f106 : Arv Z h97 b38 k38 (.object "com/example/coyote_hill/coyotehill/ItemState") (4 : Int32) [(.ref ra), (.ref rb), (.ref rc), (.ref rd)] .null := ((f89.keep K95 (ninS (show @Ne Nat b38 b80 by omega) nin0)).ext E97)
  obtain ⟨cl107, Ar107, -, S107, M107, H107, -⟩ := id f106
  have hin107 : ¬ ((Int32.ofNat mb) < 0 ∨ cl107.slots.size ≤ ((Int32.ofNat mb)).toNatClampNeg) := inb_of S107 (own_in (n := 4) hmbl (by decide))
  have hat107 : cl107.slots[((Int32.ofNat mb)).toNatClampNeg]? = some (.ref s2) := H107.at hin107 (by rw [hs2]; exact own_getst mb ra rb rc rd _ hmbl)
  have s108 : ∀ t_, Steps p.tables e below (T97.setTop (mkF m 217 #[.val (.long id1), .second, .val (.long idr), .second, .val (.long qt1), .second, .val (.long qtr), .second, .val (.long att), .second, .val (.int fl), .val (.long q3), .second, .val (.int (qt1.toInt32)), .val (.int q8), .val (.int q11), .val (.int q18), .val (.int (Int32.ofNat ma)), .val (.int (Int32.ofNat mb)), .val (.int (att.toInt32)), .val (.int q32), .val (.ref b38), .val (.ref a_63), .val (.ref a_68), .val (.ref a_73), .val (.ref a_78), .val (.ref b80), .unset, .unset, .unset] [(.int q32), (.ref s2), (.ref a_78), (.ref a_73), (.long q3), (.ref b97), (.ref b97)])) t_ → Steps p.tables e below (s₁.setTop (entryFrame m #[(.long id1), (.long idr), (.long qt1), (.long qtr), (.long att), (.int fl)] maxLocals)) t_ := fun t_ k_ => s91 t_ (by
    show Steps p.tables e below (T80.setTop (mkF m 195 #[.val (.long id1), .second, .val (.long idr), .second, .val (.long qt1), .second, .val (.long qtr), .second, .val (.long att), .second, .val (.int fl), .val (.long q3), .second, .val (.int (qt1.toInt32)), .val (.int q8), .val (.int q11), .val (.int q18), .val (.int (Int32.ofNat ma)), .val (.int (Int32.ofNat mb)), .val (.int (att.toInt32)), .val (.int q32), .val (.ref b38), .val (.ref a_63), .val (.ref a_68), .val (.ref a_73), .val (.ref a_78), .unset, .unset, .unset, .unset] [(.int (att.toInt32)), (.ref s1), (.ref a_68), (.ref a_63), (.long id1), (.ref b80), (.ref b80)])) t_
    refine st95.trans ?_
    show Steps p.tables e below (T95.setTop (mkF m 198 #[.val (.long id1), .second, .val (.long idr), .second, .val (.long qt1), .second, .val (.long qtr), .second, .val (.long att), .second, .val (.int fl), .val (.long q3), .second, .val (.int (qt1.toInt32)), .val (.int q8), .val (.int q11), .val (.int q18), .val (.int (Int32.ofNat ma)), .val (.int (Int32.ofNat mb)), .val (.int (att.toInt32)), .val (.int q32), .val (.ref b38), .val (.ref a_63), .val (.ref a_68), .val (.ref a_73), .val (.ref a_78), .unset, .unset, .unset, .unset] [(.ref b80)])) _
    refine XS.astore X95.here hx rfl (Jvm.hb hby at_198) rfl rfl (l' := #[.val (.long id1), .second, .val (.long idr), .second, .val (.long qt1), .second, .val (.long qtr), .second, .val (.long att), .second, .val (.int fl), .val (.long q3), .second, .val (.int (qt1.toInt32)), .val (.int q8), .val (.int q11), .val (.int q18), .val (.int (Int32.ofNat ma)), .val (.int (Int32.ofNat mb)), .val (.int (att.toInt32)), .val (.int q32), .val (.ref b38), .val (.ref a_63), .val (.ref a_68), .val (.ref a_73), .val (.ref a_78), .val (.ref b80), .unset, .unset, .unset]) rfl ?_
    refine st97 _ ?_
    show Steps p.tables e below (T97.setTop (mkF m 203 #[.val (.long id1), .second, .val (.long idr), .second, .val (.long qt1), .second, .val (.long qtr), .second, .val (.long att), .second, .val (.int fl), .val (.long q3), .second, .val (.int (qt1.toInt32)), .val (.int q8), .val (.int q11), .val (.int q18), .val (.int (Int32.ofNat ma)), .val (.int (Int32.ofNat mb)), .val (.int (att.toInt32)), .val (.int q32), .val (.ref b38), .val (.ref a_63), .val (.ref a_68), .val (.ref a_73), .val (.ref a_78), .val (.ref b80), .unset, .unset, .unset] [(.ref b97)])) _
    refine XS.dup X97.here hx rfl (Jvm.hb hby at_203) rfl rfl ?_
    refine XS.lload X97.here hx rfl (Jvm.hb hby at_204) rfl ?_
    refine XS.aload X97.here hx rfl (Jvm.hb hby at_206) rfl rfl ?_
    refine XS.aload X97.here hx rfl (Jvm.hb hby at_208) rfl rfl ?_
    refine XS.aload X97.here hx rfl (Jvm.hb hby at_210) rfl rfl ?_
    refine XS.iload X97.here hx rfl (Jvm.hb hby at_212) rfl ?_
    show Steps p.tables e below (T97.setTop (mkF m 214 #[.val (.long id1), .second, .val (.long idr), .second, .val (.long qt1), .second, .val (.long qtr), .second, .val (.long att), .second, .val (.int fl), .val (.long q3), .second, .val (.int (qt1.toInt32)), .val (.int q8), .val (.int q11), .val (.int q18), .val (.int (Int32.ofNat ma)), .val (.int (Int32.ofNat mb)), .val (.int (att.toInt32)), .val (.int q32), .val (.ref b38), .val (.ref a_63), .val (.ref a_68), .val (.ref a_73), .val (.ref a_78), .val (.ref b80), .unset, .unset, .unset] [(.int (Int32.ofNat mb)), (.ref b38), (.ref a_78), (.ref a_73), (.long q3), (.ref b97), (.ref b97)])) _
    refine X97.aaload hx (j := (Int32.ofNat mb)) (v := (.ref s2)) (by rw [e97]; exact Ar107.1) (State.isArrayOf_alike hZ.alike Ar107.2.1) rfl Ar107.2.2 hin107 hat107 (g := (mkF m 214 #[.val (.long id1), .second, .val (.long idr), .second, .val (.long qt1), .second, .val (.long qtr), .second, .val (.long att), .second, .val (.int fl), .val (.long q3), .second, .val (.int (qt1.toInt32)), .val (.int q8), .val (.int q11), .val (.int q18), .val (.int (Int32.ofNat ma)), .val (.int (Int32.ofNat mb)), .val (.int (att.toInt32)), .val (.int q32), .val (.ref b38), .val (.ref a_63), .val (.ref a_68), .val (.ref a_73), .val (.ref a_78), .val (.ref b80), .unset, .unset, .unset] [(.int (Int32.ofNat mb)), (.ref b38), (.ref a_78), (.ref a_73), (.long q3), (.ref b97), (.ref b97)])) rfl rfl (Jvm.hb hby at_214) _ ?_
    show Steps p.tables e below (T97.setTop (mkF m 215 #[.val (.long id1), .second, .val (.long idr), .second, .val (.long qt1), .second, .val (.long qtr), .second, .val (.long att), .second, .val (.int fl), .val (.long q3), .second, .val (.int (qt1.toInt32)), .val (.int q8), .val (.int q11), .val (.int q18), .val (.int (Int32.ofNat ma)), .val (.int (Int32.ofNat mb)), .val (.int (att.toInt32)), .val (.int q32), .val (.ref b38), .val (.ref a_63), .val (.ref a_68), .val (.ref a_73), .val (.ref a_78), .val (.ref b80), .unset, .unset, .unset] [(.ref s2), (.ref a_78), (.ref a_73), (.long q3), (.ref b97), (.ref b97)])) _
    refine XS.iload X97.here hx rfl (Jvm.hb hby at_215) rfl ?_
    show Steps p.tables e below (T97.setTop (mkF m 217 #[.val (.long id1), .second, .val (.long idr), .second, .val (.long qt1), .second, .val (.long qtr), .second, .val (.long att), .second, .val (.int fl), .val (.long q3), .second, .val (.int (qt1.toInt32)), .val (.int q8), .val (.int q11), .val (.int q18), .val (.int (Int32.ofNat ma)), .val (.int (Int32.ofNat mb)), .val (.int (att.toInt32)), .val (.int q32), .val (.ref b38), .val (.ref a_63), .val (.ref a_68), .val (.ref a_73), .val (.ref a_78), .val (.ref b80), .unset, .unset, .unset] [(.int q32), (.ref s2), (.ref a_78), (.ref a_73), (.long q3), (.ref b97), (.ref b97)])) t_
    exact k_)
  have f109 : Exa Z h97 a_73 "java/lang/String" := ((((Fq73_0.keep K78).ext E80).keep K95).ext E97)
  have f110 : Exa Z h97 a_78 "java/lang/String" := (((Fq78_0.ext E80).keep K95).ext E97)
  have Zc111 : n0 ≤ h97.size := by omega
  obtain ⟨_, _, ⟨T112, L112, k112, n112⟩, -, Xr112, hSr112, hg112, ⟨Lc112, hQ112, l112, y112, z112, Cp112⟩, st112⟩ := X97.specialBackS hx (y := (⟨"com/example/coyote_hill/coyotehill/ItemStatus", "<init>", "(JLjava/lang/String;Ljava/lang/String;Lcom/example/coyote_hill/coyotehill/ItemState;I)V"⟩ : MethodName)) rfl hown (mvT hZ (hw _ (List.mem_of_getElem? (i := 52) rfl))) (mvT hZ (hw _ (List.mem_of_getElem? (i := 53) rfl))) (mvT hZ (hw _ (List.mem_of_getElem? (i := 54) rfl))) (by decide) (backOfSH (s := s) (vm0 := T95.vm) (W := 1) (rmITi l Z a0 hw [] b97 q3 a_73 a_78 s2 q32 h97 n0 Zc111 A97 F99 F100 F101 F102 F103 f109 f110 Es104 (by first | assumption | omega | rfl | decide : n0 ≤ b97)) hZ (hw _ (List.mem_of_getElem? (i := 54) rfl)) (hw _ (List.mem_of_getElem? (i := 51) rfl)) (by decide) (by decide) hEL CR.1) (g := (mkF m 217 #[.val (.long id1), .second, .val (.long idr), .second, .val (.long qt1), .second, .val (.long qtr), .second, .val (.long att), .second, .val (.int fl), .val (.long q3), .second, .val (.int (qt1.toInt32)), .val (.int q8), .val (.int q11), .val (.int q18), .val (.int (Int32.ofNat ma)), .val (.int (Int32.ofNat mb)), .val (.int (att.toInt32)), .val (.int q32), .val (.ref b38), .val (.ref a_63), .val (.ref a_68), .val (.ref a_73), .val (.ref a_78), .val (.ref b80), .unset, .unset, .unset] [(.int q32), (.ref s2), (.ref a_78), (.ref a_73), (.long q3), (.ref b97), (.ref b97)])) rfl (by rw [hml]; rfl) (Steps.refl _) (a := b97) (argsL := [(.long q3), (.ref a_73), (.ref a_78), (.ref s2), (.int q32)]) (rest := [(.ref b97)]) (lenOf pd__JLjava_lang_String_Ljava_lang_String_Lcom_example_coyote_hill_coyotehill_ItemState_I_V rfl) rfl (by show 2 * 0 + _ ≤ _; exact Nat.le_of_eq rfl) (Jvm.hb hby at_217) (fun _ _ => ⟨rfl, e97, (by decide : 33 + 6 ≤ _), (by decide : 150 + 76 ≤ _)⟩)
  dsimp only [Pt.U, Pt.locs, Pt.cells, Pt.slots] at Xr112 hSr112 hg112 l112 y112 z112 st112 hQ112 Cp112
  subst l112 y112 z112
  obtain ⟨X112, hS, hZ, hown⟩ := rebS (own := "com/example/coyote_hill/coyotehill/ItemStatusEqualsPinLaw") hS (by first | exact Nat.le_refl _ | (rw [e97]; exact hk)) Xr112 hSr112 hg112 hZ hown
  obtain ⟨rfl, N112q, K112, Fq112_0, Fq112_1, Fq112_2, Fq112_3, Fq112_4, Fq112_5⟩ := hQ112
  have N112 := Fr.app N95 N112q
  obtain ⟨h112, e112⟩ : ∃ z, T112.heap = z := ⟨_, rfl⟩
  rw [e112] at K112 Fq112_0 Fq112_1 Fq112_2 Fq112_3 Fq112_4 Fq112_5 Cp112
  have hk : T112.heap.size ≤ h112.size := Nat.le_of_eq (congrArg Array.size e112)
  have z113 : h97.size ≤ h112.size := K112.1
  have CR := CR.trans Cp112
  have lt112_0 : @LT.lt Nat _ b97 h112.size := Fq112_0.lt
  obtain ⟨q114, hq114⟩ : ∃ z : Int32, z = (lcmpW id1 q3) := ⟨_, rfl⟩
  have s115 : ∀ t_, Steps p.tables e below (T112.setTop (mkF m 226 #[.val (.long id1), .second, .val (.long idr), .second, .val (.long qt1), .second, .val (.long qtr), .second, .val (.long att), .second, .val (.int fl), .val (.long q3), .second, .val (.int (qt1.toInt32)), .val (.int q8), .val (.int q11), .val (.int q18), .val (.int (Int32.ofNat ma)), .val (.int (Int32.ofNat mb)), .val (.int (att.toInt32)), .val (.int q32), .val (.ref b38), .val (.ref a_63), .val (.ref a_68), .val (.ref a_73), .val (.ref a_78), .val (.ref b80), .val (.ref b97), .unset, .unset] [(.int q114)])) t_ → Steps p.tables e below (s₁.setTop (entryFrame m #[(.long id1), (.long idr), (.long qt1), (.long qtr), (.long att), (.int fl)] maxLocals)) t_ := fun t_ k_ => s108 t_ (by
    show Steps p.tables e below (T97.setTop (mkF m 217 #[.val (.long id1), .second, .val (.long idr), .second, .val (.long qt1), .second, .val (.long qtr), .second, .val (.long att), .second, .val (.int fl), .val (.long q3), .second, .val (.int (qt1.toInt32)), .val (.int q8), .val (.int q11), .val (.int q18), .val (.int (Int32.ofNat ma)), .val (.int (Int32.ofNat mb)), .val (.int (att.toInt32)), .val (.int q32), .val (.ref b38), .val (.ref a_63), .val (.ref a_68), .val (.ref a_73), .val (.ref a_78), .val (.ref b80), .unset, .unset, .unset] [(.int q32), (.ref s2), (.ref a_78), (.ref a_73), (.long q3), (.ref b97), (.ref b97)])) t_
    refine st112.trans ?_
    show Steps p.tables e below (T112.setTop (mkF m 220 #[.val (.long id1), .second, .val (.long idr), .second, .val (.long qt1), .second, .val (.long qtr), .second, .val (.long att), .second, .val (.int fl), .val (.long q3), .second, .val (.int (qt1.toInt32)), .val (.int q8), .val (.int q11), .val (.int q18), .val (.int (Int32.ofNat ma)), .val (.int (Int32.ofNat mb)), .val (.int (att.toInt32)), .val (.int q32), .val (.ref b38), .val (.ref a_63), .val (.ref a_68), .val (.ref a_73), .val (.ref a_78), .val (.ref b80), .unset, .unset, .unset] [(.ref b97)])) _
    refine XS.astore X112.here hx rfl (Jvm.hb hby at_220) rfl rfl (l' := #[.val (.long id1), .second, .val (.long idr), .second, .val (.long qt1), .second, .val (.long qtr), .second, .val (.long att), .second, .val (.int fl), .val (.long q3), .second, .val (.int (qt1.toInt32)), .val (.int q8), .val (.int q11), .val (.int q18), .val (.int (Int32.ofNat ma)), .val (.int (Int32.ofNat mb)), .val (.int (att.toInt32)), .val (.int q32), .val (.ref b38), .val (.ref a_63), .val (.ref a_68), .val (.ref a_73), .val (.ref a_78), .val (.ref b80), .val (.ref b97), .unset, .unset]) rfl ?_
    refine XS.lloadN X112.here hx rfl (Jvm.hb hby at_222) rfl ?_
    refine XS.lload X112.here hx rfl (Jvm.hb hby at_223) rfl ?_
    refine XS.lcmp X112.here hx rfl (Jvm.hb hby at_225) rfl ?_
    show Steps p.tables e below (T112.setTop (mkF m 226 #[.val (.long id1), .second, .val (.long idr), .second, .val (.long qt1), .second, .val (.long qtr), .second, .val (.long att), .second, .val (.int fl), .val (.long q3), .second, .val (.int (qt1.toInt32)), .val (.int q8), .val (.int q11), .val (.int q18), .val (.int (Int32.ofNat ma)), .val (.int (Int32.ofNat mb)), .val (.int (att.toInt32)), .val (.int q32), .val (.ref b38), .val (.ref a_63), .val (.ref a_68), .val (.ref a_73), .val (.ref a_78), .val (.ref b80), .val (.ref b97), .unset, .unset] [(.int (lcmpW id1 q3))])) t_
    exact castTop (by simp only [hq114]) k_)
  by_cases h116 : q114 = (0 : Int32)
  · have s117 : ∀ t_, Steps p.tables e below (T112.setTop (mkF m 233 #[.val (.long id1), .second, .val (.long idr), .second, .val (.long qt1), .second, .val (.long qtr), .second, .val (.long att), .second, .val (.int fl), .val (.long q3), .second, .val (.int (qt1.toInt32)), .val (.int q8), .val (.int q11), .val (.int q18), .val (.int (Int32.ofNat ma)), .val (.int (Int32.ofNat mb)), .val (.int (att.toInt32)), .val (.int q32), .val (.ref b38), .val (.ref a_63), .val (.ref a_68), .val (.ref a_73), .val (.ref a_78), .val (.ref b80), .val (.ref b97), .unset, .unset] [(.int q11), (.int (qt1.toInt32))])) t_ → Steps p.tables e below (s₁.setTop (entryFrame m #[(.long id1), (.long idr), (.long qt1), (.long qtr), (.long att), (.int fl)] maxLocals)) t_ := fun t_ k_ => s115 t_ (by
      show Steps p.tables e below (T112.setTop (mkF m 226 #[.val (.long id1), .second, .val (.long idr), .second, .val (.long qt1), .second, .val (.long qtr), .second, .val (.long att), .second, .val (.int fl), .val (.long q3), .second, .val (.int (qt1.toInt32)), .val (.int q8), .val (.int q11), .val (.int q18), .val (.int (Int32.ofNat ma)), .val (.int (Int32.ofNat mb)), .val (.int (att.toInt32)), .val (.int q32), .val (.ref b38), .val (.ref a_63), .val (.ref a_68), .val (.ref a_73), .val (.ref a_78), .val (.ref b80), .val (.ref b97), .unset, .unset] [(.int q114)])) t_
      refine XS.ifNo X112.here hx rfl (Jvm.hb hby at_226) rfl ((if0 _ _).trans (teq h116).2) ?_
      show Steps p.tables e below (T112.setTop (mkF m 229 #[.val (.long id1), .second, .val (.long idr), .second, .val (.long qt1), .second, .val (.long qtr), .second, .val (.long att), .second, .val (.int fl), .val (.long q3), .second, .val (.int (qt1.toInt32)), .val (.int q8), .val (.int q11), .val (.int q18), .val (.int (Int32.ofNat ma)), .val (.int (Int32.ofNat mb)), .val (.int (att.toInt32)), .val (.int q32), .val (.ref b38), .val (.ref a_63), .val (.ref a_68), .val (.ref a_73), .val (.ref a_78), .val (.ref b80), .val (.ref b97), .unset, .unset] [])) _
      refine XS.iload X112.here hx rfl (Jvm.hb hby at_229) rfl ?_
      refine XS.iload X112.here hx rfl (Jvm.hb hby at_231) rfl ?_
      show Steps p.tables e below (T112.setTop (mkF m 233 #[.val (.long id1), .second, .val (.long idr), .second, .val (.long qt1), .second, .val (.long qtr), .second, .val (.long att), .second, .val (.int fl), .val (.long q3), .second, .val (.int (qt1.toInt32)), .val (.int q8), .val (.int q11), .val (.int q18), .val (.int (Int32.ofNat ma)), .val (.int (Int32.ofNat mb)), .val (.int (att.toInt32)), .val (.int q32), .val (.ref b38), .val (.ref a_63), .val (.ref a_68), .val (.ref a_73), .val (.ref a_78), .val (.ref b80), .val (.ref b97), .unset, .unset] [(.int q11), (.int (qt1.toInt32))])) t_
      exact k_)
    have Zc118 : n0 ≤ h112.size := by omega
    obtain ⟨_, _, ⟨T119, L119, k119, n119⟩, -, X119, ⟨Lc119, hQ119, l119, y119, z119⟩, st119⟩ := Jvm.LawKit.callS X112 hx (y := (⟨"com/example/coyote_hill/coyotehill/ItemStatusEqualsPinLaw", "sameStr", "(II)Z"⟩ : MethodName)) hown (mvT hZ (hw _ (List.mem_of_getElem? (i := 89) rfl))) (mvT hZ (hw _ (List.mem_of_getElem? (i := 90) rfl))) (mvT hZ (hw _ (List.mem_of_getElem? (i := 14) rfl))) (mvT hZ (hw _ (List.mem_of_getElem? (i := 91) rfl))) (by decide) (backOf (W := 0) (rmSame l Z a0 hw [] (qt1.toInt32) q11 h112 n0 Zc118) hZ (hw _ (List.mem_of_getElem? (i := 91) rfl)) (hw _ (List.mem_of_getElem? (i := 14) rfl)) (by decide) (by decide)) (g := (mkF m 233 #[.val (.long id1), .second, .val (.long idr), .second, .val (.long qt1), .second, .val (.long qtr), .second, .val (.long att), .second, .val (.int fl), .val (.long q3), .second, .val (.int (qt1.toInt32)), .val (.int q8), .val (.int q11), .val (.int q18), .val (.int (Int32.ofNat ma)), .val (.int (Int32.ofNat mb)), .val (.int (att.toInt32)), .val (.int q32), .val (.ref b38), .val (.ref a_63), .val (.ref a_68), .val (.ref a_73), .val (.ref a_78), .val (.ref b80), .val (.ref b97), .unset, .unset] [(.int q11), (.int (qt1.toInt32))])) rfl (by rw [hml]; rfl) (argsL := [(.int (qt1.toInt32)), (.int q11)]) (rest := []) (lenOf pd__II_Z rfl) rfl (by show 2 * 0 + _ ≤ _; exact Nat.le_of_eq rfl) (Jvm.hb hby at_233) (fun _ _ => ⟨rfl, e112, (by decide : 39 + 0 ≤ _), (by decide : 226 + 0 ≤ _)⟩)
    dsimp only [Pt.U, Pt.locs, Pt.cells, Pt.slots] at X119 l119 y119 z119 st119 hQ119
    subst l119 y119 z119
    obtain ⟨rfl, N119q, e119⟩ := hQ119
    have N119 := Fr.app N112 N119q
    obtain ⟨q120, hq120⟩ : ∃ z : Int32, z = (if (own_str (qt1.toInt32)) = (own_str q11) then (1 : Int32) else (0 : Int32)) := ⟨_, rfl⟩
    rw [← hq120] at st119
    have s121 : ∀ t_, Steps p.tables e below (T119.setTop (mkF m 236 #[.val (.long id1), .second, .val (.long idr), .second, .val (.long qt1), .second, .val (.long qtr), .second, .val (.long att), .second, .val (.int fl), .val (.long q3), .second, .val (.int (qt1.toInt32)), .val (.int q8), .val (.int q11), .val (.int q18), .val (.int (Int32.ofNat ma)), .val (.int (Int32.ofNat mb)), .val (.int (att.toInt32)), .val (.int q32), .val (.ref b38), .val (.ref a_63), .val (.ref a_68), .val (.ref a_73), .val (.ref a_78), .val (.ref b80), .val (.ref b97), .unset, .unset] [(.int q120)])) t_ → Steps p.tables e below (s₁.setTop (entryFrame m #[(.long id1), (.long idr), (.long qt1), (.long qtr), (.long att), (.int fl)] maxLocals)) t_ := fun t_ k_ => s117 t_ (by
      show Steps p.tables e below (T112.setTop (mkF m 233 #[.val (.long id1), .second, .val (.long idr), .second, .val (.long qt1), .second, .val (.long qtr), .second, .val (.long att), .second, .val (.int fl), .val (.long q3), .second, .val (.int (qt1.toInt32)), .val (.int q8), .val (.int q11), .val (.int q18), .val (.int (Int32.ofNat ma)), .val (.int (Int32.ofNat mb)), .val (.int (att.toInt32)), .val (.int q32), .val (.ref b38), .val (.ref a_63), .val (.ref a_68), .val (.ref a_73), .val (.ref a_78), .val (.ref b80), .val (.ref b97), .unset, .unset] [(.int q11), (.int (qt1.toInt32))])) t_
      refine st119 _ ?_
      show Steps p.tables e below (T119.setTop (mkF m 236 #[.val (.long id1), .second, .val (.long idr), .second, .val (.long qt1), .second, .val (.long qtr), .second, .val (.long att), .second, .val (.int fl), .val (.long q3), .second, .val (.int (qt1.toInt32)), .val (.int q8), .val (.int q11), .val (.int q18), .val (.int (Int32.ofNat ma)), .val (.int (Int32.ofNat mb)), .val (.int (att.toInt32)), .val (.int q32), .val (.ref b38), .val (.ref a_63), .val (.ref a_68), .val (.ref a_73), .val (.ref a_78), .val (.ref b80), .val (.ref b97), .unset, .unset] [(.int q120)])) _
      show Steps p.tables e below (T119.setTop (mkF m 236 #[.val (.long id1), .second, .val (.long idr), .second, .val (.long qt1), .second, .val (.long qtr), .second, .val (.long att), .second, .val (.int fl), .val (.long q3), .second, .val (.int (qt1.toInt32)), .val (.int q8), .val (.int q11), .val (.int q18), .val (.int (Int32.ofNat ma)), .val (.int (Int32.ofNat mb)), .val (.int (att.toInt32)), .val (.int q32), .val (.ref b38), .val (.ref a_63), .val (.ref a_68), .val (.ref a_73), .val (.ref a_78), .val (.ref b80), .val (.ref b97), .unset, .unset] [(.int q120)])) t_
      exact k_)
    by_cases h122 : (own_str (qt1.toInt32)) = (own_str q11)
    · have s123 : ∀ t_, Steps p.tables e below (T119.setTop (mkF m 236 #[.val (.long id1), .second, .val (.long idr), .second, .val (.long qt1), .second, .val (.long qtr), .second, .val (.long att), .second, .val (.int fl), .val (.long q3), .second, .val (.int (qt1.toInt32)), .val (.int q8), .val (.int q11), .val (.int q18), .val (.int (Int32.ofNat ma)), .val (.int (Int32.ofNat mb)), .val (.int (att.toInt32)), .val (.int q32), .val (.ref b38), .val (.ref a_63), .val (.ref a_68), .val (.ref a_73), .val (.ref a_78), .val (.ref b80), .val (.ref b97), .unset, .unset] [(.int (1 : Int32))])) t_ → Steps p.tables e below (s₁.setTop (entryFrame m #[(.long id1), (.long idr), (.long qt1), (.long qtr), (.long att), (.int fl)] maxLocals)) t_ := fun t_ k_ => s121 t_ (castTop (by rw [hq120, if_pos h122]) k_)
      have s124 : ∀ t_, Steps p.tables e below (T119.setTop (mkF m 243 #[.val (.long id1), .second, .val (.long idr), .second, .val (.long qt1), .second, .val (.long qtr), .second, .val (.long att), .second, .val (.int fl), .val (.long q3), .second, .val (.int (qt1.toInt32)), .val (.int q8), .val (.int q11), .val (.int q18), .val (.int (Int32.ofNat ma)), .val (.int (Int32.ofNat mb)), .val (.int (att.toInt32)), .val (.int q32), .val (.ref b38), .val (.ref a_63), .val (.ref a_68), .val (.ref a_73), .val (.ref a_78), .val (.ref b80), .val (.ref b97), .unset, .unset] [(.int q18), (.int q8)])) t_ → Steps p.tables e below (s₁.setTop (entryFrame m #[(.long id1), (.long idr), (.long qt1), (.long qtr), (.long att), (.int fl)] maxLocals)) t_ := fun t_ k_ => s123 t_ (by
        show Steps p.tables e below (T119.setTop (mkF m 236 #[.val (.long id1), .second, .val (.long idr), .second, .val (.long qt1), .second, .val (.long qtr), .second, .val (.long att), .second, .val (.int fl), .val (.long q3), .second, .val (.int (qt1.toInt32)), .val (.int q8), .val (.int q11), .val (.int q18), .val (.int (Int32.ofNat ma)), .val (.int (Int32.ofNat mb)), .val (.int (att.toInt32)), .val (.int q32), .val (.ref b38), .val (.ref a_63), .val (.ref a_68), .val (.ref a_73), .val (.ref a_78), .val (.ref b80), .val (.ref b97), .unset, .unset] [(.int (1 : Int32))])) t_
        refine XS.ifNo X119.here hx rfl (Jvm.hb hby at_236) rfl ((if0 _ _).trans (feq (by decide : ¬ ((1 : Int32) = (0 : Int32)))).1) ?_
        show Steps p.tables e below (T119.setTop (mkF m 239 #[.val (.long id1), .second, .val (.long idr), .second, .val (.long qt1), .second, .val (.long qtr), .second, .val (.long att), .second, .val (.int fl), .val (.long q3), .second, .val (.int (qt1.toInt32)), .val (.int q8), .val (.int q11), .val (.int q18), .val (.int (Int32.ofNat ma)), .val (.int (Int32.ofNat mb)), .val (.int (att.toInt32)), .val (.int q32), .val (.ref b38), .val (.ref a_63), .val (.ref a_68), .val (.ref a_73), .val (.ref a_78), .val (.ref b80), .val (.ref b97), .unset, .unset] [])) _
        refine XS.iload X119.here hx rfl (Jvm.hb hby at_239) rfl ?_
        refine XS.iload X119.here hx rfl (Jvm.hb hby at_241) rfl ?_
        show Steps p.tables e below (T119.setTop (mkF m 243 #[.val (.long id1), .second, .val (.long idr), .second, .val (.long qt1), .second, .val (.long qtr), .second, .val (.long att), .second, .val (.int fl), .val (.long q3), .second, .val (.int (qt1.toInt32)), .val (.int q8), .val (.int q11), .val (.int q18), .val (.int (Int32.ofNat ma)), .val (.int (Int32.ofNat mb)), .val (.int (att.toInt32)), .val (.int q32), .val (.ref b38), .val (.ref a_63), .val (.ref a_68), .val (.ref a_73), .val (.ref a_78), .val (.ref b80), .val (.ref b97), .unset, .unset] [(.int q18), (.int q8)])) t_
        exact k_)
      have Zc125 : n0 ≤ h112.size := by omega
      obtain ⟨_, _, ⟨T126, L126, k126, n126⟩, -, X126, ⟨Lc126, hQ126, l126, y126, z126⟩, st126⟩ := Jvm.LawKit.callS X119 hx (y := (⟨"com/example/coyote_hill/coyotehill/ItemStatusEqualsPinLaw", "sameStr", "(II)Z"⟩ : MethodName)) hown (mvT hZ (hw _ (List.mem_of_getElem? (i := 89) rfl))) (mvT hZ (hw _ (List.mem_of_getElem? (i := 90) rfl))) (mvT hZ (hw _ (List.mem_of_getElem? (i := 14) rfl))) (mvT hZ (hw _ (List.mem_of_getElem? (i := 91) rfl))) (by decide) (backOf (W := 0) (rmSame l Z a0 hw [] q8 q18 h112 n0 Zc125) hZ (hw _ (List.mem_of_getElem? (i := 91) rfl)) (hw _ (List.mem_of_getElem? (i := 14) rfl)) (by decide) (by decide)) (g := (mkF m 243 #[.val (.long id1), .second, .val (.long idr), .second, .val (.long qt1), .second, .val (.long qtr), .second, .val (.long att), .second, .val (.int fl), .val (.long q3), .second, .val (.int (qt1.toInt32)), .val (.int q8), .val (.int q11), .val (.int q18), .val (.int (Int32.ofNat ma)), .val (.int (Int32.ofNat mb)), .val (.int (att.toInt32)), .val (.int q32), .val (.ref b38), .val (.ref a_63), .val (.ref a_68), .val (.ref a_73), .val (.ref a_78), .val (.ref b80), .val (.ref b97), .unset, .unset] [(.int q18), (.int q8)])) rfl (by rw [hml]; rfl) (argsL := [(.int q8), (.int q18)]) (rest := []) (lenOf pd__II_Z rfl) rfl (by show 2 * 0 + _ ≤ _; exact Nat.le_of_eq rfl) (Jvm.hb hby at_243) (fun _ _ => ⟨rfl, e119, (by decide : 39 + 0 ≤ _), (by decide : 226 + 0 ≤ _)⟩)
      dsimp only [Pt.U, Pt.locs, Pt.cells, Pt.slots] at X126 l126 y126 z126 st126 hQ126
      subst l126 y126 z126
      obtain ⟨rfl, N126q, e126⟩ := hQ126
      have N126 := Fr.app N119 N126q
      obtain ⟨q127, hq127⟩ : ∃ z : Int32, z = (if (own_str q8) = (own_str q18) then (1 : Int32) else (0 : Int32)) := ⟨_, rfl⟩
      rw [← hq127] at st126
      have s128 : ∀ t_, Steps p.tables e below (T126.setTop (mkF m 246 #[.val (.long id1), .second, .val (.long idr), .second, .val (.long qt1), .second, .val (.long qtr), .second, .val (.long att), .second, .val (.int fl), .val (.long q3), .second, .val (.int (qt1.toInt32)), .val (.int q8), .val (.int q11), .val (.int q18), .val (.int (Int32.ofNat ma)), .val (.int (Int32.ofNat mb)), .val (.int (att.toInt32)), .val (.int q32), .val (.ref b38), .val (.ref a_63), .val (.ref a_68), .val (.ref a_73), .val (.ref a_78), .val (.ref b80), .val (.ref b97), .unset, .unset] [(.int q127)])) t_ → Steps p.tables e below (s₁.setTop (entryFrame m #[(.long id1), (.long idr), (.long qt1), (.long qtr), (.long att), (.int fl)] maxLocals)) t_ := fun t_ k_ => s124 t_ (by
        show Steps p.tables e below (T119.setTop (mkF m 243 #[.val (.long id1), .second, .val (.long idr), .second, .val (.long qt1), .second, .val (.long qtr), .second, .val (.long att), .second, .val (.int fl), .val (.long q3), .second, .val (.int (qt1.toInt32)), .val (.int q8), .val (.int q11), .val (.int q18), .val (.int (Int32.ofNat ma)), .val (.int (Int32.ofNat mb)), .val (.int (att.toInt32)), .val (.int q32), .val (.ref b38), .val (.ref a_63), .val (.ref a_68), .val (.ref a_73), .val (.ref a_78), .val (.ref b80), .val (.ref b97), .unset, .unset] [(.int q18), (.int q8)])) t_
        refine st126 _ ?_
        show Steps p.tables e below (T126.setTop (mkF m 246 #[.val (.long id1), .second, .val (.long idr), .second, .val (.long qt1), .second, .val (.long qtr), .second, .val (.long att), .second, .val (.int fl), .val (.long q3), .second, .val (.int (qt1.toInt32)), .val (.int q8), .val (.int q11), .val (.int q18), .val (.int (Int32.ofNat ma)), .val (.int (Int32.ofNat mb)), .val (.int (att.toInt32)), .val (.int q32), .val (.ref b38), .val (.ref a_63), .val (.ref a_68), .val (.ref a_73), .val (.ref a_78), .val (.ref b80), .val (.ref b97), .unset, .unset] [(.int q127)])) _
        show Steps p.tables e below (T126.setTop (mkF m 246 #[.val (.long id1), .second, .val (.long idr), .second, .val (.long qt1), .second, .val (.long qtr), .second, .val (.long att), .second, .val (.int fl), .val (.long q3), .second, .val (.int (qt1.toInt32)), .val (.int q8), .val (.int q11), .val (.int q18), .val (.int (Int32.ofNat ma)), .val (.int (Int32.ofNat mb)), .val (.int (att.toInt32)), .val (.int q32), .val (.ref b38), .val (.ref a_63), .val (.ref a_68), .val (.ref a_73), .val (.ref a_78), .val (.ref b80), .val (.ref b97), .unset, .unset] [(.int q127)])) t_
        exact k_)
      by_cases h129 : (own_str q8) = (own_str q18)
      · have s130 : ∀ t_, Steps p.tables e below (T126.setTop (mkF m 246 #[.val (.long id1), .second, .val (.long idr), .second, .val (.long qt1), .second, .val (.long qtr), .second, .val (.long att), .second, .val (.int fl), .val (.long q3), .second, .val (.int (qt1.toInt32)), .val (.int q8), .val (.int q11), .val (.int q18), .val (.int (Int32.ofNat ma)), .val (.int (Int32.ofNat mb)), .val (.int (att.toInt32)), .val (.int q32), .val (.ref b38), .val (.ref a_63), .val (.ref a_68), .val (.ref a_73), .val (.ref a_78), .val (.ref b80), .val (.ref b97), .unset, .unset] [(.int (1 : Int32))])) t_ → Steps p.tables e below (s₁.setTop (entryFrame m #[(.long id1), (.long idr), (.long qt1), (.long qtr), (.long att), (.int fl)] maxLocals)) t_ := fun t_ k_ => s128 t_ (castTop (by rw [hq127, if_pos h129]) k_)
        have s131 : ∀ t_, Steps p.tables e below (T126.setTop (mkF m 253 #[.val (.long id1), .second, .val (.long idr), .second, .val (.long qt1), .second, .val (.long qtr), .second, .val (.long att), .second, .val (.int fl), .val (.long q3), .second, .val (.int (qt1.toInt32)), .val (.int q8), .val (.int q11), .val (.int q18), .val (.int (Int32.ofNat ma)), .val (.int (Int32.ofNat mb)), .val (.int (att.toInt32)), .val (.int q32), .val (.ref b38), .val (.ref a_63), .val (.ref a_68), .val (.ref a_73), .val (.ref a_78), .val (.ref b80), .val (.ref b97), .unset, .unset] [(.int (Int32.ofNat mb)), (.int (Int32.ofNat ma))])) t_ → Steps p.tables e below (s₁.setTop (entryFrame m #[(.long id1), (.long idr), (.long qt1), (.long qtr), (.long att), (.int fl)] maxLocals)) t_ := fun t_ k_ => s130 t_ (by
          show Steps p.tables e below (T126.setTop (mkF m 246 #[.val (.long id1), .second, .val (.long idr), .second, .val (.long qt1), .second, .val (.long qtr), .second, .val (.long att), .second, .val (.int fl), .val (.long q3), .second, .val (.int (qt1.toInt32)), .val (.int q8), .val (.int q11), .val (.int q18), .val (.int (Int32.ofNat ma)), .val (.int (Int32.ofNat mb)), .val (.int (att.toInt32)), .val (.int q32), .val (.ref b38), .val (.ref a_63), .val (.ref a_68), .val (.ref a_73), .val (.ref a_78), .val (.ref b80), .val (.ref b97), .unset, .unset] [(.int (1 : Int32))])) t_
          refine XS.ifNo X126.here hx rfl (Jvm.hb hby at_246) rfl ((if0 _ _).trans (feq (by decide : ¬ ((1 : Int32) = (0 : Int32)))).1) ?_
          show Steps p.tables e below (T126.setTop (mkF m 249 #[.val (.long id1), .second, .val (.long idr), .second, .val (.long qt1), .second, .val (.long qtr), .second, .val (.long att), .second, .val (.int fl), .val (.long q3), .second, .val (.int (qt1.toInt32)), .val (.int q8), .val (.int q11), .val (.int q18), .val (.int (Int32.ofNat ma)), .val (.int (Int32.ofNat mb)), .val (.int (att.toInt32)), .val (.int q32), .val (.ref b38), .val (.ref a_63), .val (.ref a_68), .val (.ref a_73), .val (.ref a_78), .val (.ref b80), .val (.ref b97), .unset, .unset] [])) _
          refine XS.iload X126.here hx rfl (Jvm.hb hby at_249) rfl ?_
          refine XS.iload X126.here hx rfl (Jvm.hb hby at_251) rfl ?_
          show Steps p.tables e below (T126.setTop (mkF m 253 #[.val (.long id1), .second, .val (.long idr), .second, .val (.long qt1), .second, .val (.long qtr), .second, .val (.long att), .second, .val (.int fl), .val (.long q3), .second, .val (.int (qt1.toInt32)), .val (.int q8), .val (.int q11), .val (.int q18), .val (.int (Int32.ofNat ma)), .val (.int (Int32.ofNat mb)), .val (.int (att.toInt32)), .val (.int q32), .val (.ref b38), .val (.ref a_63), .val (.ref a_68), .val (.ref a_73), .val (.ref a_78), .val (.ref b80), .val (.ref b97), .unset, .unset] [(.int (Int32.ofNat mb)), (.int (Int32.ofNat ma))])) t_
          exact k_)
        by_cases h132 : (Int32.ofNat ma) = (Int32.ofNat mb)
        · have s133 : ∀ t_, Steps p.tables e below (T126.setTop (mkF m 260 #[.val (.long id1), .second, .val (.long idr), .second, .val (.long qt1), .second, .val (.long qtr), .second, .val (.long att), .second, .val (.int fl), .val (.long q3), .second, .val (.int (qt1.toInt32)), .val (.int q8), .val (.int q11), .val (.int q18), .val (.int (Int32.ofNat ma)), .val (.int (Int32.ofNat mb)), .val (.int (att.toInt32)), .val (.int q32), .val (.ref b38), .val (.ref a_63), .val (.ref a_68), .val (.ref a_73), .val (.ref a_78), .val (.ref b80), .val (.ref b97), .unset, .unset] [(.int q32), (.int (att.toInt32))])) t_ → Steps p.tables e below (s₁.setTop (entryFrame m #[(.long id1), (.long idr), (.long qt1), (.long qtr), (.long att), (.int fl)] maxLocals)) t_ := fun t_ k_ => s131 t_ (by
            show Steps p.tables e below (T126.setTop (mkF m 253 #[.val (.long id1), .second, .val (.long idr), .second, .val (.long qt1), .second, .val (.long qtr), .second, .val (.long att), .second, .val (.int fl), .val (.long q3), .second, .val (.int (qt1.toInt32)), .val (.int q8), .val (.int q11), .val (.int q18), .val (.int (Int32.ofNat ma)), .val (.int (Int32.ofNat mb)), .val (.int (att.toInt32)), .val (.int q32), .val (.ref b38), .val (.ref a_63), .val (.ref a_68), .val (.ref a_73), .val (.ref a_78), .val (.ref b80), .val (.ref b97), .unset, .unset] [(.int (Int32.ofNat mb)), (.int (Int32.ofNat ma))])) t_
            refine XS.icmpNo X126.here hx rfl (Jvm.hb hby at_253) rfl (teq h132).2 ?_
            show Steps p.tables e below (T126.setTop (mkF m 256 #[.val (.long id1), .second, .val (.long idr), .second, .val (.long qt1), .second, .val (.long qtr), .second, .val (.long att), .second, .val (.int fl), .val (.long q3), .second, .val (.int (qt1.toInt32)), .val (.int q8), .val (.int q11), .val (.int q18), .val (.int (Int32.ofNat ma)), .val (.int (Int32.ofNat mb)), .val (.int (att.toInt32)), .val (.int q32), .val (.ref b38), .val (.ref a_63), .val (.ref a_68), .val (.ref a_73), .val (.ref a_78), .val (.ref b80), .val (.ref b97), .unset, .unset] [])) _
            refine XS.iload X126.here hx rfl (Jvm.hb hby at_256) rfl ?_
            refine XS.iload X126.here hx rfl (Jvm.hb hby at_258) rfl ?_
            show Steps p.tables e below (T126.setTop (mkF m 260 #[.val (.long id1), .second, .val (.long idr), .second, .val (.long qt1), .second, .val (.long qtr), .second, .val (.long att), .second, .val (.int fl), .val (.long q3), .second, .val (.int (qt1.toInt32)), .val (.int q8), .val (.int q11), .val (.int q18), .val (.int (Int32.ofNat ma)), .val (.int (Int32.ofNat mb)), .val (.int (att.toInt32)), .val (.int q32), .val (.ref b38), .val (.ref a_63), .val (.ref a_68), .val (.ref a_73), .val (.ref a_78), .val (.ref b80), .val (.ref b97), .unset, .unset] [(.int q32), (.int (att.toInt32))])) t_
            exact k_)
          by_cases h134 : (att.toInt32) = q32
          · have s135 : ∀ t_, Steps p.tables e below (T126.setTop (mkF m 277 #[.val (.long id1), .second, .val (.long idr), .second, .val (.long qt1), .second, .val (.long qtr), .second, .val (.long att), .second, .val (.int fl), .val (.long q3), .second, .val (.int (qt1.toInt32)), .val (.int q8), .val (.int q11), .val (.int q18), .val (.int (Int32.ofNat ma)), .val (.int (Int32.ofNat mb)), .val (.int (att.toInt32)), .val (.int q32), .val (.ref b38), .val (.ref a_63), .val (.ref a_68), .val (.ref a_73), .val (.ref a_78), .val (.ref b80), .val (.ref b97), .val (.int (1 : Int32)), .val .null] [(.ref b97), (.ref b80)])) t_ → Steps p.tables e below (s₁.setTop (entryFrame m #[(.long id1), (.long idr), (.long qt1), (.long qtr), (.long att), (.int fl)] maxLocals)) t_ := fun t_ k_ => s133 t_ (by
              show Steps p.tables e below (T126.setTop (mkF m 260 #[.val (.long id1), .second, .val (.long idr), .second, .val (.long qt1), .second, .val (.long qtr), .second, .val (.long att), .second, .val (.int fl), .val (.long q3), .second, .val (.int (qt1.toInt32)), .val (.int q8), .val (.int q11), .val (.int q18), .val (.int (Int32.ofNat ma)), .val (.int (Int32.ofNat mb)), .val (.int (att.toInt32)), .val (.int q32), .val (.ref b38), .val (.ref a_63), .val (.ref a_68), .val (.ref a_73), .val (.ref a_78), .val (.ref b80), .val (.ref b97), .unset, .unset] [(.int q32), (.int (att.toInt32))])) t_
              refine XS.icmpNo X126.here hx rfl (Jvm.hb hby at_260) rfl (teq h134).2 ?_
              show Steps p.tables e below (T126.setTop (mkF m 263 #[.val (.long id1), .second, .val (.long idr), .second, .val (.long qt1), .second, .val (.long qtr), .second, .val (.long att), .second, .val (.int fl), .val (.long q3), .second, .val (.int (qt1.toInt32)), .val (.int q8), .val (.int q11), .val (.int q18), .val (.int (Int32.ofNat ma)), .val (.int (Int32.ofNat mb)), .val (.int (att.toInt32)), .val (.int q32), .val (.ref b38), .val (.ref a_63), .val (.ref a_68), .val (.ref a_73), .val (.ref a_78), .val (.ref b80), .val (.ref b97), .unset, .unset] [])) _
              refine XS.iconst X126.here hx rfl (Jvm.hb hby at_263) ?_
              refine XS.goto X126.here hx rfl (pc0 := 264) (pc' := 268) rfl (Jvm.hb hby at_264) (by decide) (by decide) ?_
              refine XS.istore X126.here hx rfl (Jvm.hb hby at_268) rfl (l' := #[.val (.long id1), .second, .val (.long idr), .second, .val (.long qt1), .second, .val (.long qtr), .second, .val (.long att), .second, .val (.int fl), .val (.long q3), .second, .val (.int (qt1.toInt32)), .val (.int q8), .val (.int q11), .val (.int q18), .val (.int (Int32.ofNat ma)), .val (.int (Int32.ofNat mb)), .val (.int (att.toInt32)), .val (.int q32), .val (.ref b38), .val (.ref a_63), .val (.ref a_68), .val (.ref a_73), .val (.ref a_78), .val (.ref b80), .val (.ref b97), .val (.int (1 : Int32)), .unset]) rfl ?_
              refine XS.aconstNull X126.here hx rfl (Jvm.hb hby at_270) ?_
              refine XS.astore X126.here hx rfl (Jvm.hb hby at_271) rfl rfl (l' := #[.val (.long id1), .second, .val (.long idr), .second, .val (.long qt1), .second, .val (.long qtr), .second, .val (.long att), .second, .val (.int fl), .val (.long q3), .second, .val (.int (qt1.toInt32)), .val (.int q8), .val (.int q11), .val (.int q18), .val (.int (Int32.ofNat ma)), .val (.int (Int32.ofNat mb)), .val (.int (att.toInt32)), .val (.int q32), .val (.ref b38), .val (.ref a_63), .val (.ref a_68), .val (.ref a_73), .val (.ref a_78), .val (.ref b80), .val (.ref b97), .val (.int (1 : Int32)), .val .null]) rfl ?_
              refine XS.aload X126.here hx rfl (Jvm.hb hby at_273) rfl rfl ?_
              show Steps p.tables e below (T126.setTop (mkF m 275 #[.val (.long id1), .second, .val (.long idr), .second, .val (.long qt1), .second, .val (.long qtr), .second, .val (.long att), .second, .val (.int fl), .val (.long q3), .second, .val (.int (qt1.toInt32)), .val (.int q8), .val (.int q11), .val (.int q18), .val (.int (Int32.ofNat ma)), .val (.int (Int32.ofNat mb)), .val (.int (att.toInt32)), .val (.int q32), .val (.ref b38), .val (.ref a_63), .val (.ref a_68), .val (.ref a_73), .val (.ref a_78), .val (.ref b80), .val (.ref b97), .val (.int (1 : Int32)), .val .null] [(.ref b80)])) _
              refine XS.aload X126.here hx rfl (Jvm.hb hby at_275) rfl rfl ?_
              show Steps p.tables e below (T126.setTop (mkF m 277 #[.val (.long id1), .second, .val (.long idr), .second, .val (.long qt1), .second, .val (.long qtr), .second, .val (.long att), .second, .val (.int fl), .val (.long q3), .second, .val (.int (qt1.toInt32)), .val (.int q8), .val (.int q11), .val (.int q18), .val (.int (Int32.ofNat ma)), .val (.int (Int32.ofNat mb)), .val (.int (att.toInt32)), .val (.int q32), .val (.ref b38), .val (.ref a_63), .val (.ref a_68), .val (.ref a_73), .val (.ref a_78), .val (.ref b80), .val (.ref b97), .val (.int (1 : Int32)), .val .null] [(.ref b97), (.ref b80)])) t_
              exact k_)
            have O136 : Old Z n0 h112 := (O105.keep K112 (allS (show n0 ≤ b97 by omega) all0))
            have f137 : Exa Z h112 b80 "com/example/coyote_hill/coyotehill/ItemStatus" := ((Fq95_0.ext E97).keep K112)
            have f138 : Fld Z h112 b80 "com/example/coyote_hill/coyotehill/ItemStatus" "_id" "J" (.long id1) := ((Fq95_1.ext E97).keep K112 (ninS (show @Ne Nat b80 b97 by omega) nin0))
            have f139 : Fld Z h112 b80 "com/example/coyote_hill/coyotehill/ItemStatus" "_queue" "Ljava/lang/String;" (.ref a_63) := ((Fq95_2.ext E97).keep K112 (ninS (show @Ne Nat b80 b97 by omega) nin0))
            have f140 : Fld Z h112 b80 "com/example/coyote_hill/coyotehill/ItemStatus" "_tenant" "Ljava/lang/String;" (.ref a_68) := ((Fq95_3.ext E97).keep K112 (ninS (show @Ne Nat b80 b97 by omega) nin0))
            have f141 : Fld Z h112 b80 "com/example/coyote_hill/coyotehill/ItemStatus" "_state" "Lcom/example/coyote_hill/coyotehill/ItemState;" (.ref s1) := ((Fq95_4.ext E97).keep K112 (ninS (show @Ne Nat b80 b97 by omega) nin0))
            have f142 : Fld Z h112 b80 "com/example/coyote_hill/coyotehill/ItemStatus" "_attempt" "I" (.int (att.toInt32)) := ((Fq95_5.ext E97).keep K112 (ninS (show @Ne Nat b80 b97 by omega) nin0))
            have f143 : Exa Z h112 a_63 "java/lang/String" := (((f92.keep K95).ext E97).keep K112)
            have f144 : Fld Z h112 a_63 "java/lang/String" "value" "[B" (.ref b_63) := (((((((Fq63_1.keep K68 nin0).keep K73 nin0).keep K78 nin0).ext E80).keep K95 (ninS (show @Ne Nat a_63 b80 by omega) nin0)).ext E97).keep K112 (ninS (show @Ne Nat a_63 b97 by omega) nin0))
            have f145 : Fld Z h112 a_63 "java/lang/String" "coder" "B" (.int (own_cod (own_str (qt1.toInt32)))) := (((((((Fq63_2.keep K68 nin0).keep K73 nin0).keep K78 nin0).ext E80).keep K95 (ninS (show @Ne Nat a_63 b80 by omega) nin0)).ext E97).keep K112 (ninS (show @Ne Nat a_63 b97 by omega) nin0))
            have f146 : Arv Z h112 b_63 kb_63 .byte (Int32.ofNat (own_enl (own_str (qt1.toInt32)))) (own_enc (own_str (qt1.toInt32))) (.int (0 : Int32)) := (((((((Fq63_3.keep K68 nin0).keep K73 nin0).keep K78 nin0).ext E80).keep K95 (ninS (Ne.symm (Exa.neArv A80 ((((Fq63_3.keep K68 nin0).keep K73 nin0).keep K78 nin0).ext E80) (hw _ (List.mem_of_getElem? (i := 50) rfl)))) nin0)).ext E97).keep K112 (ninS (Ne.symm (Exa.neArv A97 ((((((Fq63_3.keep K68 nin0).keep K73 nin0).keep K78 nin0).ext E80).keep K95 (ninS (Ne.symm (Exa.neArv A80 ((((Fq63_3.keep K68 nin0).keep K73 nin0).keep K78 nin0).ext E80) (hw _ (List.mem_of_getElem? (i := 50) rfl)))) nin0)).ext E97) (hw _ (List.mem_of_getElem? (i := 50) rfl)))) nin0))
            have f147 : Exa Z h112 a_73 "java/lang/String" := (f109.keep K112)
            have f148 : Fld Z h112 a_73 "java/lang/String" "value" "[B" (.ref b_73) := (((((Fq73_1.keep K78 nin0).ext E80).keep K95 (ninS (show @Ne Nat a_73 b80 by omega) nin0)).ext E97).keep K112 (ninS (show @Ne Nat a_73 b97 by omega) nin0))
            have f149 : Fld Z h112 a_73 "java/lang/String" "coder" "B" (.int (own_cod (own_str q11))) := (((((Fq73_2.keep K78 nin0).ext E80).keep K95 (ninS (show @Ne Nat a_73 b80 by omega) nin0)).ext E97).keep K112 (ninS (show @Ne Nat a_73 b97 by omega) nin0))
            have f150 : Arv Z h112 b_73 kb_73 .byte (Int32.ofNat (own_enl (own_str q11))) (own_enc (own_str q11)) (.int (0 : Int32)) := (((((Fq73_3.keep K78 nin0).ext E80).keep K95 (ninS (Ne.symm (Exa.neArv A80 ((Fq73_3.keep K78 nin0).ext E80) (hw _ (List.mem_of_getElem? (i := 50) rfl)))) nin0)).ext E97).keep K112 (ninS (Ne.symm (Exa.neArv A97 ((((Fq73_3.keep K78 nin0).ext E80).keep K95 (ninS (Ne.symm (Exa.neArv A80 ((Fq73_3.keep K78 nin0).ext E80) (hw _ (List.mem_of_getElem? (i := 50) rfl)))) nin0)).ext E97) (hw _ (List.mem_of_getElem? (i := 50) rfl)))) nin0))
            have f151 : Exa Z h112 a_68 "java/lang/String" := (((f93.keep K95).ext E97).keep K112)
            have f152 : Fld Z h112 a_68 "java/lang/String" "value" "[B" (.ref b_68) := ((((((Fq68_1.keep K73 nin0).keep K78 nin0).ext E80).keep K95 (ninS (show @Ne Nat a_68 b80 by omega) nin0)).ext E97).keep K112 (ninS (show @Ne Nat a_68 b97 by omega) nin0))
            have f153 : Fld Z h112 a_68 "java/lang/String" "coder" "B" (.int (own_cod (own_str q8))) := ((((((Fq68_2.keep K73 nin0).keep K78 nin0).ext E80).keep K95 (ninS (show @Ne Nat a_68 b80 by omega) nin0)).ext E97).keep K112 (ninS (show @Ne Nat a_68 b97 by omega) nin0))
            have f154 : Arv Z h112 b_68 kb_68 .byte (Int32.ofNat (own_enl (own_str q8))) (own_enc (own_str q8)) (.int (0 : Int32)) := ((((((Fq68_3.keep K73 nin0).keep K78 nin0).ext E80).keep K95 (ninS (Ne.symm (Exa.neArv A80 (((Fq68_3.keep K73 nin0).keep K78 nin0).ext E80) (hw _ (List.mem_of_getElem? (i := 50) rfl)))) nin0)).ext E97).keep K112 (ninS (Ne.symm (Exa.neArv A97 (((((Fq68_3.keep K73 nin0).keep K78 nin0).ext E80).keep K95 (ninS (Ne.symm (Exa.neArv A80 (((Fq68_3.keep K73 nin0).keep K78 nin0).ext E80) (hw _ (List.mem_of_getElem? (i := 50) rfl)))) nin0)).ext E97) (hw _ (List.mem_of_getElem? (i := 50) rfl)))) nin0))
            have f155 : Exa Z h112 a_78 "java/lang/String" := (f110.keep K112)
            have f156 : Fld Z h112 a_78 "java/lang/String" "value" "[B" (.ref b_78) := ((((Fq78_1.ext E80).keep K95 (ninS (show @Ne Nat a_78 b80 by omega) nin0)).ext E97).keep K112 (ninS (show @Ne Nat a_78 b97 by omega) nin0))
            have f157 : Fld Z h112 a_78 "java/lang/String" "coder" "B" (.int (own_cod (own_str q18))) := ((((Fq78_2.ext E80).keep K95 (ninS (show @Ne Nat a_78 b80 by omega) nin0)).ext E97).keep K112 (ninS (show @Ne Nat a_78 b97 by omega) nin0))
            have f158 : Arv Z h112 b_78 kb_78 .byte (Int32.ofNat (own_enl (own_str q18))) (own_enc (own_str q18)) (.int (0 : Int32)) := ((((Fq78_3.ext E80).keep K95 (ninS (Ne.symm (Exa.neArv A80 (Fq78_3.ext E80) (hw _ (List.mem_of_getElem? (i := 50) rfl)))) nin0)).ext E97).keep K112 (ninS (Ne.symm (Exa.neArv A97 (((Fq78_3.ext E80).keep K95 (ninS (Ne.symm (Exa.neArv A80 (Fq78_3.ext E80) (hw _ (List.mem_of_getElem? (i := 50) rfl)))) nin0)).ext E97) (hw _ (List.mem_of_getElem? (i := 50) rfl)))) nin0))
            have Zc159 : n0 ≤ h112.size := by omega
            obtain ⟨cq160, kq160, q160a, q160b, q160c⟩ := isOf hZ e126 f137
            obtain ⟨_, _, ⟨T160, L160, k160, n160⟩, -, X160, ⟨Lc160, hQ160, l160, y160, z160⟩, st160⟩ := X126.virtualBack hx (y := (⟨"com/example/coyote_hill/coyotehill/ItemStatus", "equals", "(Ljava/lang/Object;)Z"⟩ : MethodName)) (z := (⟨"com/example/coyote_hill/coyotehill/ItemStatus", "equals", "(Ljava/lang/Object;)Z"⟩ : MethodName)) hown (mvT hZ (hw _ (List.mem_of_getElem? (i := 75) rfl))) (mvT hZ (hw _ (List.mem_of_getElem? (i := 76) rfl))) (notFace_of_selects (args := #[]) (mvT hZ (hw _ (List.mem_of_getElem? (i := 78) rfl)))) (mvT hZ (hw _ (List.mem_of_getElem? (i := 78) rfl))) (mvT hZ (hw _ (List.mem_of_getElem? (i := 77) rfl))) (by decide) (backOf (W := 0) (rmEqO l Z a0 hw [] b80 b97 cst id1 q3 s1 s2 (att.toInt32) q32 a_63 b_63 kb_63 (own_str (qt1.toInt32)) a_73 b_73 kb_73 (own_str q11) a_68 b_68 kb_68 (own_str q8) a_78 b_78 kb_78 (own_str q18) h112 n0 Zc159 I1 O136 (hcst : ¬ (cst = (0 : Int32))) f137 f138 f139 f140 f141 f142 Fq112_0 Fq112_1 Fq112_2 Fq112_3 Fq112_4 Fq112_5 f143 f144 f145 f146 f147 f148 f149 f150 f151 f152 f153 f154 f155 f156 f157 f158 (own_neN (by omega)) (own_neN (by omega)) (own_strchs _) (own_strchs _) (own_strchs _) (own_strchs _) (own_strl _) (own_strl _) (own_strl _) (own_strl _)) hZ (hw _ (List.mem_of_getElem? (i := 79) rfl)) (hw _ (List.mem_of_getElem? (i := 51) rfl)) (by decide) (by decide)) q160a q160c (g := (mkF m 277 #[.val (.long id1), .second, .val (.long idr), .second, .val (.long qt1), .second, .val (.long qtr), .second, .val (.long att), .second, .val (.int fl), .val (.long q3), .second, .val (.int (qt1.toInt32)), .val (.int q8), .val (.int q11), .val (.int q18), .val (.int (Int32.ofNat ma)), .val (.int (Int32.ofNat mb)), .val (.int (att.toInt32)), .val (.int q32), .val (.ref b38), .val (.ref a_63), .val (.ref a_68), .val (.ref a_73), .val (.ref a_78), .val (.ref b80), .val (.ref b97), .val (.int (1 : Int32)), .val .null] [(.ref b97), (.ref b80)])) rfl (by rw [hml]; rfl) (Steps.refl _) (argsL := [(.ref b97)]) (rest := []) (lenOf pd__Ljava_lang_Object__Z rfl) rfl (by show 2 * 0 + _ ≤ _; exact Nat.le_of_eq rfl) (Jvm.hb hby at_277) (fun _ _ => ⟨rfl, e126, (by decide : 39 + 0 ≤ _), (by decide : 226 + 0 ≤ _)⟩)
            dsimp only [Pt.U, Pt.locs, Pt.cells, Pt.slots] at X160 l160 y160 z160 st160 hQ160
            subst l160 y160 z160
            obtain ⟨rfl, N160q, e160⟩ := hQ160
            have N160 := Fr.app N126 N160q
            obtain ⟨q161, hq161⟩ : ∃ z : Int32, z = (if (lcmpW id1 q3) = (0 : Int32) then (if (own_str (qt1.toInt32)) = (own_str q11) then (if (own_str q8) = (own_str q18) then (if s1 = s2 then (if (att.toInt32) = q32 then (1 : Int32) else (0 : Int32)) else (0 : Int32)) else (0 : Int32)) else (0 : Int32)) else (0 : Int32)) := ⟨_, rfl⟩
            rw [← hq161] at st160
            have hE0 : q161 = (1 : Int32) := by rw [hq161, if_pos (hq114.symm.trans h116), if_pos h122, if_pos h129, if_pos (own_stT h132 hmal hmbl hs1 hs2), if_pos h134]
            have s162 : ∀ t_, Steps p.tables e below (T160.setTop (mkF m 289 #[.val (.long id1), .second, .val (.long idr), .second, .val (.long qt1), .second, .val (.long qtr), .second, .val (.long att), .second, .val (.int fl), .val (.long q3), .second, .val (.int (qt1.toInt32)), .val (.int q8), .val (.int q11), .val (.int q18), .val (.int (Int32.ofNat ma)), .val (.int (Int32.ofNat mb)), .val (.int (att.toInt32)), .val (.int q32), .val (.ref b38), .val (.ref a_63), .val (.ref a_68), .val (.ref a_73), .val (.ref a_78), .val (.ref b80), .val (.ref b97), .val (.int (1 : Int32)), .val .null] [(.ref b80), (.ref b97)])) t_ → Steps p.tables e below (s₁.setTop (entryFrame m #[(.long id1), (.long idr), (.long qt1), (.long qtr), (.long att), (.int fl)] maxLocals)) t_ := fun t_ k_ => s135 t_ (by
              show Steps p.tables e below (T126.setTop (mkF m 277 #[.val (.long id1), .second, .val (.long idr), .second, .val (.long qt1), .second, .val (.long qtr), .second, .val (.long att), .second, .val (.int fl), .val (.long q3), .second, .val (.int (qt1.toInt32)), .val (.int q8), .val (.int q11), .val (.int q18), .val (.int (Int32.ofNat ma)), .val (.int (Int32.ofNat mb)), .val (.int (att.toInt32)), .val (.int q32), .val (.ref b38), .val (.ref a_63), .val (.ref a_68), .val (.ref a_73), .val (.ref a_78), .val (.ref b80), .val (.ref b97), .val (.int (1 : Int32)), .val .null] [(.ref b97), (.ref b80)])) t_
              refine st160.trans ?_
              show Steps p.tables e below (T160.setTop (mkF m 280 #[.val (.long id1), .second, .val (.long idr), .second, .val (.long qt1), .second, .val (.long qtr), .second, .val (.long att), .second, .val (.int fl), .val (.long q3), .second, .val (.int (qt1.toInt32)), .val (.int q8), .val (.int q11), .val (.int q18), .val (.int (Int32.ofNat ma)), .val (.int (Int32.ofNat mb)), .val (.int (att.toInt32)), .val (.int q32), .val (.ref b38), .val (.ref a_63), .val (.ref a_68), .val (.ref a_73), .val (.ref a_78), .val (.ref b80), .val (.ref b97), .val (.int (1 : Int32)), .val .null] [(.int q161)])) _
              refine XS.iload X160.here hx rfl (Jvm.hb hby at_280) rfl ?_
              refine XS.icmpNo X160.here hx rfl (Jvm.hb hby at_282) rfl (teq hE0).2 ?_
              show Steps p.tables e below (T160.setTop (mkF m 285 #[.val (.long id1), .second, .val (.long idr), .second, .val (.long qt1), .second, .val (.long qtr), .second, .val (.long att), .second, .val (.int fl), .val (.long q3), .second, .val (.int (qt1.toInt32)), .val (.int q8), .val (.int q11), .val (.int q18), .val (.int (Int32.ofNat ma)), .val (.int (Int32.ofNat mb)), .val (.int (att.toInt32)), .val (.int q32), .val (.ref b38), .val (.ref a_63), .val (.ref a_68), .val (.ref a_73), .val (.ref a_78), .val (.ref b80), .val (.ref b97), .val (.int (1 : Int32)), .val .null] [])) _
              refine XS.aload X160.here hx rfl (Jvm.hb hby at_285) rfl rfl ?_
              refine XS.aload X160.here hx rfl (Jvm.hb hby at_287) rfl rfl ?_
              show Steps p.tables e below (T160.setTop (mkF m 289 #[.val (.long id1), .second, .val (.long idr), .second, .val (.long qt1), .second, .val (.long qtr), .second, .val (.long att), .second, .val (.int fl), .val (.long q3), .second, .val (.int (qt1.toInt32)), .val (.int q8), .val (.int q11), .val (.int q18), .val (.int (Int32.ofNat ma)), .val (.int (Int32.ofNat mb)), .val (.int (att.toInt32)), .val (.int q32), .val (.ref b38), .val (.ref a_63), .val (.ref a_68), .val (.ref a_73), .val (.ref a_78), .val (.ref b80), .val (.ref b97), .val (.int (1 : Int32)), .val .null] [(.ref b80), (.ref b97)])) t_
              exact k_)
            have Zc163 : n0 ≤ h112.size := by omega
            obtain ⟨cq164, kq164, q164a, q164b, q164c⟩ := isOf hZ e160 Fq112_0
            obtain ⟨_, _, ⟨T164, L164, k164, n164⟩, -, X164, ⟨Lc164, hQ164, l164, y164, z164⟩, st164⟩ := X160.virtualBack hx (y := (⟨"com/example/coyote_hill/coyotehill/ItemStatus", "equals", "(Ljava/lang/Object;)Z"⟩ : MethodName)) (z := (⟨"com/example/coyote_hill/coyotehill/ItemStatus", "equals", "(Ljava/lang/Object;)Z"⟩ : MethodName)) hown (mvT hZ (hw _ (List.mem_of_getElem? (i := 75) rfl))) (mvT hZ (hw _ (List.mem_of_getElem? (i := 76) rfl))) (notFace_of_selects (args := #[]) (mvT hZ (hw _ (List.mem_of_getElem? (i := 78) rfl)))) (mvT hZ (hw _ (List.mem_of_getElem? (i := 78) rfl))) (mvT hZ (hw _ (List.mem_of_getElem? (i := 77) rfl))) (by decide) (backOf (W := 0) (rmEqO l Z a0 hw [] b97 b80 cst q3 id1 s2 s1 q32 (att.toInt32) a_73 b_73 kb_73 (own_str q11) a_63 b_63 kb_63 (own_str (qt1.toInt32)) a_78 b_78 kb_78 (own_str q18) a_68 b_68 kb_68 (own_str q8) h112 n0 Zc163 I1 O136 (hcst : ¬ (cst = (0 : Int32))) Fq112_0 Fq112_1 Fq112_2 Fq112_3 Fq112_4 Fq112_5 f137 f138 f139 f140 f141 f142 f147 f148 f149 f150 f143 f144 f145 f146 f155 f156 f157 f158 f151 f152 f153 f154 (own_neN (by omega)) (own_neN (by omega)) (own_strchs _) (own_strchs _) (own_strchs _) (own_strchs _) (own_strl _) (own_strl _) (own_strl _) (own_strl _)) hZ (hw _ (List.mem_of_getElem? (i := 79) rfl)) (hw _ (List.mem_of_getElem? (i := 51) rfl)) (by decide) (by decide)) q164a q164c (g := (mkF m 289 #[.val (.long id1), .second, .val (.long idr), .second, .val (.long qt1), .second, .val (.long qtr), .second, .val (.long att), .second, .val (.int fl), .val (.long q3), .second, .val (.int (qt1.toInt32)), .val (.int q8), .val (.int q11), .val (.int q18), .val (.int (Int32.ofNat ma)), .val (.int (Int32.ofNat mb)), .val (.int (att.toInt32)), .val (.int q32), .val (.ref b38), .val (.ref a_63), .val (.ref a_68), .val (.ref a_73), .val (.ref a_78), .val (.ref b80), .val (.ref b97), .val (.int (1 : Int32)), .val .null] [(.ref b80), (.ref b97)])) rfl (by rw [hml]; rfl) (Steps.refl _) (argsL := [(.ref b80)]) (rest := []) (lenOf pd__Ljava_lang_Object__Z rfl) rfl (by show 2 * 0 + _ ≤ _; exact Nat.le_of_eq rfl) (Jvm.hb hby at_289) (fun _ _ => ⟨rfl, e160, (by decide : 39 + 0 ≤ _), (by decide : 226 + 0 ≤ _)⟩)
            dsimp only [Pt.U, Pt.locs, Pt.cells, Pt.slots] at X164 l164 y164 z164 st164 hQ164
            subst l164 y164 z164
            obtain ⟨rfl, N164q, e164⟩ := hQ164
            have N164 := Fr.app N160 N164q
            obtain ⟨q165, hq165⟩ : ∃ z : Int32, z = (if (lcmpW q3 id1) = (0 : Int32) then (if (own_str q11) = (own_str (qt1.toInt32)) then (if (own_str q18) = (own_str q8) then (if s2 = s1 then (if q32 = (att.toInt32) then (1 : Int32) else (0 : Int32)) else (0 : Int32)) else (0 : Int32)) else (0 : Int32)) else (0 : Int32)) := ⟨_, rfl⟩
            rw [← hq165] at st164
            have hE1 : q165 = (1 : Int32) := by rw [hq165, if_pos (own_lcs (hq114.symm.trans h116)), if_pos (Eq.symm h122), if_pos (Eq.symm h129), if_pos (Eq.symm (own_stT h132 hmal hmbl hs1 hs2)), if_pos (Eq.symm h134)]
            have s166 : ∀ t_, Steps p.tables e below (T164.setTop (mkF m 301 #[.val (.long id1), .second, .val (.long idr), .second, .val (.long qt1), .second, .val (.long qtr), .second, .val (.long att), .second, .val (.int fl), .val (.long q3), .second, .val (.int (qt1.toInt32)), .val (.int q8), .val (.int q11), .val (.int q18), .val (.int (Int32.ofNat ma)), .val (.int (Int32.ofNat mb)), .val (.int (att.toInt32)), .val (.int q32), .val (.ref b38), .val (.ref a_63), .val (.ref a_68), .val (.ref a_73), .val (.ref a_78), .val (.ref b80), .val (.ref b97), .val (.int (1 : Int32)), .val .null] [(.ref b80), (.ref b80)])) t_ → Steps p.tables e below (s₁.setTop (entryFrame m #[(.long id1), (.long idr), (.long qt1), (.long qtr), (.long att), (.int fl)] maxLocals)) t_ := fun t_ k_ => s162 t_ (by
              show Steps p.tables e below (T160.setTop (mkF m 289 #[.val (.long id1), .second, .val (.long idr), .second, .val (.long qt1), .second, .val (.long qtr), .second, .val (.long att), .second, .val (.int fl), .val (.long q3), .second, .val (.int (qt1.toInt32)), .val (.int q8), .val (.int q11), .val (.int q18), .val (.int (Int32.ofNat ma)), .val (.int (Int32.ofNat mb)), .val (.int (att.toInt32)), .val (.int q32), .val (.ref b38), .val (.ref a_63), .val (.ref a_68), .val (.ref a_73), .val (.ref a_78), .val (.ref b80), .val (.ref b97), .val (.int (1 : Int32)), .val .null] [(.ref b80), (.ref b97)])) t_
              refine st164.trans ?_
              show Steps p.tables e below (T164.setTop (mkF m 292 #[.val (.long id1), .second, .val (.long idr), .second, .val (.long qt1), .second, .val (.long qtr), .second, .val (.long att), .second, .val (.int fl), .val (.long q3), .second, .val (.int (qt1.toInt32)), .val (.int q8), .val (.int q11), .val (.int q18), .val (.int (Int32.ofNat ma)), .val (.int (Int32.ofNat mb)), .val (.int (att.toInt32)), .val (.int q32), .val (.ref b38), .val (.ref a_63), .val (.ref a_68), .val (.ref a_73), .val (.ref a_78), .val (.ref b80), .val (.ref b97), .val (.int (1 : Int32)), .val .null] [(.int q165)])) _
              refine XS.iload X164.here hx rfl (Jvm.hb hby at_292) rfl ?_
              refine XS.icmpNo X164.here hx rfl (Jvm.hb hby at_294) rfl (teq hE1).2 ?_
              show Steps p.tables e below (T164.setTop (mkF m 297 #[.val (.long id1), .second, .val (.long idr), .second, .val (.long qt1), .second, .val (.long qtr), .second, .val (.long att), .second, .val (.int fl), .val (.long q3), .second, .val (.int (qt1.toInt32)), .val (.int q8), .val (.int q11), .val (.int q18), .val (.int (Int32.ofNat ma)), .val (.int (Int32.ofNat mb)), .val (.int (att.toInt32)), .val (.int q32), .val (.ref b38), .val (.ref a_63), .val (.ref a_68), .val (.ref a_73), .val (.ref a_78), .val (.ref b80), .val (.ref b97), .val (.int (1 : Int32)), .val .null] [])) _
              refine XS.aload X164.here hx rfl (Jvm.hb hby at_297) rfl rfl ?_
              refine XS.aload X164.here hx rfl (Jvm.hb hby at_299) rfl rfl ?_
              show Steps p.tables e below (T164.setTop (mkF m 301 #[.val (.long id1), .second, .val (.long idr), .second, .val (.long qt1), .second, .val (.long qtr), .second, .val (.long att), .second, .val (.int fl), .val (.long q3), .second, .val (.int (qt1.toInt32)), .val (.int q8), .val (.int q11), .val (.int q18), .val (.int (Int32.ofNat ma)), .val (.int (Int32.ofNat mb)), .val (.int (att.toInt32)), .val (.int q32), .val (.ref b38), .val (.ref a_63), .val (.ref a_68), .val (.ref a_73), .val (.ref a_78), .val (.ref b80), .val (.ref b97), .val (.int (1 : Int32)), .val .null] [(.ref b80), (.ref b80)])) t_
              exact k_)
            have Zc167 : n0 ≤ h112.size := by omega
            obtain ⟨cq168, kq168, q168a, q168b, q168c⟩ := isOf hZ e164 f137
            obtain ⟨_, _, ⟨T168, L168, k168, n168⟩, -, X168, ⟨Lc168, hQ168, l168, y168, z168⟩, st168⟩ := X164.virtualBack hx (y := (⟨"com/example/coyote_hill/coyotehill/ItemStatus", "equals", "(Ljava/lang/Object;)Z"⟩ : MethodName)) (z := (⟨"com/example/coyote_hill/coyotehill/ItemStatus", "equals", "(Ljava/lang/Object;)Z"⟩ : MethodName)) hown (mvT hZ (hw _ (List.mem_of_getElem? (i := 75) rfl))) (mvT hZ (hw _ (List.mem_of_getElem? (i := 76) rfl))) (notFace_of_selects (args := #[]) (mvT hZ (hw _ (List.mem_of_getElem? (i := 78) rfl)))) (mvT hZ (hw _ (List.mem_of_getElem? (i := 78) rfl))) (mvT hZ (hw _ (List.mem_of_getElem? (i := 77) rfl))) (by decide) (backOf (W := 0) (rmEqS l Z a0 hw [] b80 id1 a_63 a_68 s1 (att.toInt32) h112 n0 Zc167 f137 f138 f139 f140 f141 f142 f143 f151) hZ (hw _ (List.mem_of_getElem? (i := 79) rfl)) (hw _ (List.mem_of_getElem? (i := 51) rfl)) (by decide) (by decide)) q168a q168c (g := (mkF m 301 #[.val (.long id1), .second, .val (.long idr), .second, .val (.long qt1), .second, .val (.long qtr), .second, .val (.long att), .second, .val (.int fl), .val (.long q3), .second, .val (.int (qt1.toInt32)), .val (.int q8), .val (.int q11), .val (.int q18), .val (.int (Int32.ofNat ma)), .val (.int (Int32.ofNat mb)), .val (.int (att.toInt32)), .val (.int q32), .val (.ref b38), .val (.ref a_63), .val (.ref a_68), .val (.ref a_73), .val (.ref a_78), .val (.ref b80), .val (.ref b97), .val (.int (1 : Int32)), .val .null] [(.ref b80), (.ref b80)])) rfl (by rw [hml]; rfl) (Steps.refl _) (argsL := [(.ref b80)]) (rest := []) (lenOf pd__Ljava_lang_Object__Z rfl) rfl (by show 2 * 0 + _ ≤ _; exact Nat.le_of_eq rfl) (Jvm.hb hby at_301) (fun _ _ => ⟨rfl, e164, (by decide : 39 + 0 ≤ _), (by decide : 226 + 0 ≤ _)⟩)
            dsimp only [Pt.U, Pt.locs, Pt.cells, Pt.slots] at X168 l168 y168 z168 st168 hQ168
            subst l168 y168 z168
            obtain ⟨rfl, N168q, e168⟩ := hQ168
            have N168 := Fr.app N164 N168q
            have s169 : ∀ t_, Steps p.tables e below (T168.setTop (mkF m 311 #[.val (.long id1), .second, .val (.long idr), .second, .val (.long qt1), .second, .val (.long qtr), .second, .val (.long att), .second, .val (.int fl), .val (.long q3), .second, .val (.int (qt1.toInt32)), .val (.int q8), .val (.int q11), .val (.int q18), .val (.int (Int32.ofNat ma)), .val (.int (Int32.ofNat mb)), .val (.int (att.toInt32)), .val (.int q32), .val (.ref b38), .val (.ref a_63), .val (.ref a_68), .val (.ref a_73), .val (.ref a_78), .val (.ref b80), .val (.ref b97), .val (.int (1 : Int32)), .val .null] [.null, (.ref b80)])) t_ → Steps p.tables e below (s₁.setTop (entryFrame m #[(.long id1), (.long idr), (.long qt1), (.long qtr), (.long att), (.int fl)] maxLocals)) t_ := fun t_ k_ => s166 t_ (by
              show Steps p.tables e below (T164.setTop (mkF m 301 #[.val (.long id1), .second, .val (.long idr), .second, .val (.long qt1), .second, .val (.long qtr), .second, .val (.long att), .second, .val (.int fl), .val (.long q3), .second, .val (.int (qt1.toInt32)), .val (.int q8), .val (.int q11), .val (.int q18), .val (.int (Int32.ofNat ma)), .val (.int (Int32.ofNat mb)), .val (.int (att.toInt32)), .val (.int q32), .val (.ref b38), .val (.ref a_63), .val (.ref a_68), .val (.ref a_73), .val (.ref a_78), .val (.ref b80), .val (.ref b97), .val (.int (1 : Int32)), .val .null] [(.ref b80), (.ref b80)])) t_
              refine st168.trans ?_
              show Steps p.tables e below (T168.setTop (mkF m 304 #[.val (.long id1), .second, .val (.long idr), .second, .val (.long qt1), .second, .val (.long qtr), .second, .val (.long att), .second, .val (.int fl), .val (.long q3), .second, .val (.int (qt1.toInt32)), .val (.int q8), .val (.int q11), .val (.int q18), .val (.int (Int32.ofNat ma)), .val (.int (Int32.ofNat mb)), .val (.int (att.toInt32)), .val (.int q32), .val (.ref b38), .val (.ref a_63), .val (.ref a_68), .val (.ref a_73), .val (.ref a_78), .val (.ref b80), .val (.ref b97), .val (.int (1 : Int32)), .val .null] [(.int (1 : Int32))])) _
              refine XS.ifNo X168.here hx rfl (Jvm.hb hby at_304) rfl ((if0 _ _).trans (feq (by decide : ¬ ((1 : Int32) = (0 : Int32)))).1) ?_
              show Steps p.tables e below (T168.setTop (mkF m 307 #[.val (.long id1), .second, .val (.long idr), .second, .val (.long qt1), .second, .val (.long qtr), .second, .val (.long att), .second, .val (.int fl), .val (.long q3), .second, .val (.int (qt1.toInt32)), .val (.int q8), .val (.int q11), .val (.int q18), .val (.int (Int32.ofNat ma)), .val (.int (Int32.ofNat mb)), .val (.int (att.toInt32)), .val (.int q32), .val (.ref b38), .val (.ref a_63), .val (.ref a_68), .val (.ref a_73), .val (.ref a_78), .val (.ref b80), .val (.ref b97), .val (.int (1 : Int32)), .val .null] [])) _
              refine XS.aload X168.here hx rfl (Jvm.hb hby at_307) rfl rfl ?_
              refine XS.aload X168.here hx rfl (Jvm.hb hby at_309) rfl rfl ?_
              show Steps p.tables e below (T168.setTop (mkF m 311 #[.val (.long id1), .second, .val (.long idr), .second, .val (.long qt1), .second, .val (.long qtr), .second, .val (.long att), .second, .val (.int fl), .val (.long q3), .second, .val (.int (qt1.toInt32)), .val (.int q8), .val (.int q11), .val (.int q18), .val (.int (Int32.ofNat ma)), .val (.int (Int32.ofNat mb)), .val (.int (att.toInt32)), .val (.int q32), .val (.ref b38), .val (.ref a_63), .val (.ref a_68), .val (.ref a_73), .val (.ref a_78), .val (.ref b80), .val (.ref b97), .val (.int (1 : Int32)), .val .null] [.null, (.ref b80)])) t_
              exact k_)
            have Zc170 : n0 ≤ h112.size := by omega
            obtain ⟨cq171, kq171, q171a, q171b, q171c⟩ := isOf hZ e168 f137
            obtain ⟨_, _, ⟨T171, L171, k171, n171⟩, -, X171, ⟨Lc171, hQ171, l171, y171, z171⟩, st171⟩ := X168.virtualBack hx (y := (⟨"com/example/coyote_hill/coyotehill/ItemStatus", "equals", "(Ljava/lang/Object;)Z"⟩ : MethodName)) (z := (⟨"com/example/coyote_hill/coyotehill/ItemStatus", "equals", "(Ljava/lang/Object;)Z"⟩ : MethodName)) hown (mvT hZ (hw _ (List.mem_of_getElem? (i := 75) rfl))) (mvT hZ (hw _ (List.mem_of_getElem? (i := 76) rfl))) (notFace_of_selects (args := #[]) (mvT hZ (hw _ (List.mem_of_getElem? (i := 78) rfl)))) (mvT hZ (hw _ (List.mem_of_getElem? (i := 78) rfl))) (mvT hZ (hw _ (List.mem_of_getElem? (i := 77) rfl))) (by decide) (backOf (W := 0) (rmEqN l Z a0 hw [] b80 h112 n0 Zc170) hZ (hw _ (List.mem_of_getElem? (i := 79) rfl)) (hw _ (List.mem_of_getElem? (i := 51) rfl)) (by decide) (by decide)) q171a q171c (g := (mkF m 311 #[.val (.long id1), .second, .val (.long idr), .second, .val (.long qt1), .second, .val (.long qtr), .second, .val (.long att), .second, .val (.int fl), .val (.long q3), .second, .val (.int (qt1.toInt32)), .val (.int q8), .val (.int q11), .val (.int q18), .val (.int (Int32.ofNat ma)), .val (.int (Int32.ofNat mb)), .val (.int (att.toInt32)), .val (.int q32), .val (.ref b38), .val (.ref a_63), .val (.ref a_68), .val (.ref a_73), .val (.ref a_78), .val (.ref b80), .val (.ref b97), .val (.int (1 : Int32)), .val .null] [.null, (.ref b80)])) rfl (by rw [hml]; rfl) (Steps.refl _) (argsL := [.null]) (rest := []) (lenOf pd__Ljava_lang_Object__Z rfl) rfl (by show 2 * 0 + _ ≤ _; exact Nat.le_of_eq rfl) (Jvm.hb hby at_311) (fun _ _ => ⟨rfl, e168, (by decide : 39 + 0 ≤ _), (by decide : 226 + 0 ≤ _)⟩)
            dsimp only [Pt.U, Pt.locs, Pt.cells, Pt.slots] at X171 l171 y171 z171 st171 hQ171
            subst l171 y171 z171
            obtain ⟨rfl, N171q, e171⟩ := hQ171
            have N171 := Fr.app N168 N171q
            have s172 : ∀ t_, Steps p.tables e below (T171.setTop (mkF m 321 #[.val (.long id1), .second, .val (.long idr), .second, .val (.long qt1), .second, .val (.long qtr), .second, .val (.long att), .second, .val (.int fl), .val (.long q3), .second, .val (.int (qt1.toInt32)), .val (.int q8), .val (.int q11), .val (.int q18), .val (.int (Int32.ofNat ma)), .val (.int (Int32.ofNat mb)), .val (.int (att.toInt32)), .val (.int q32), .val (.ref b38), .val (.ref a_63), .val (.ref a_68), .val (.ref a_73), .val (.ref a_78), .val (.ref b80), .val (.ref b97), .val (.int (1 : Int32)), .val .null] [(.ref a_63), (.ref b80)])) t_ → Steps p.tables e below (s₁.setTop (entryFrame m #[(.long id1), (.long idr), (.long qt1), (.long qtr), (.long att), (.int fl)] maxLocals)) t_ := fun t_ k_ => s169 t_ (by
              show Steps p.tables e below (T168.setTop (mkF m 311 #[.val (.long id1), .second, .val (.long idr), .second, .val (.long qt1), .second, .val (.long qtr), .second, .val (.long att), .second, .val (.int fl), .val (.long q3), .second, .val (.int (qt1.toInt32)), .val (.int q8), .val (.int q11), .val (.int q18), .val (.int (Int32.ofNat ma)), .val (.int (Int32.ofNat mb)), .val (.int (att.toInt32)), .val (.int q32), .val (.ref b38), .val (.ref a_63), .val (.ref a_68), .val (.ref a_73), .val (.ref a_78), .val (.ref b80), .val (.ref b97), .val (.int (1 : Int32)), .val .null] [.null, (.ref b80)])) t_
              refine st171.trans ?_
              show Steps p.tables e below (T171.setTop (mkF m 314 #[.val (.long id1), .second, .val (.long idr), .second, .val (.long qt1), .second, .val (.long qtr), .second, .val (.long att), .second, .val (.int fl), .val (.long q3), .second, .val (.int (qt1.toInt32)), .val (.int q8), .val (.int q11), .val (.int q18), .val (.int (Int32.ofNat ma)), .val (.int (Int32.ofNat mb)), .val (.int (att.toInt32)), .val (.int q32), .val (.ref b38), .val (.ref a_63), .val (.ref a_68), .val (.ref a_73), .val (.ref a_78), .val (.ref b80), .val (.ref b97), .val (.int (1 : Int32)), .val .null] [(.int (0 : Int32))])) _
              refine XS.ifNo X171.here hx rfl (Jvm.hb hby at_314) rfl ((if0 _ _).trans (teq (rfl : (0 : Int32) = (0 : Int32))).2) ?_
              show Steps p.tables e below (T171.setTop (mkF m 317 #[.val (.long id1), .second, .val (.long idr), .second, .val (.long qt1), .second, .val (.long qtr), .second, .val (.long att), .second, .val (.int fl), .val (.long q3), .second, .val (.int (qt1.toInt32)), .val (.int q8), .val (.int q11), .val (.int q18), .val (.int (Int32.ofNat ma)), .val (.int (Int32.ofNat mb)), .val (.int (att.toInt32)), .val (.int q32), .val (.ref b38), .val (.ref a_63), .val (.ref a_68), .val (.ref a_73), .val (.ref a_78), .val (.ref b80), .val (.ref b97), .val (.int (1 : Int32)), .val .null] [])) _
              refine XS.aload X171.here hx rfl (Jvm.hb hby at_317) rfl rfl ?_
              refine XS.aload X171.here hx rfl (Jvm.hb hby at_319) rfl rfl ?_
              show Steps p.tables e below (T171.setTop (mkF m 321 #[.val (.long id1), .second, .val (.long idr), .second, .val (.long qt1), .second, .val (.long qtr), .second, .val (.long att), .second, .val (.int fl), .val (.long q3), .second, .val (.int (qt1.toInt32)), .val (.int q8), .val (.int q11), .val (.int q18), .val (.int (Int32.ofNat ma)), .val (.int (Int32.ofNat mb)), .val (.int (att.toInt32)), .val (.int q32), .val (.ref b38), .val (.ref a_63), .val (.ref a_68), .val (.ref a_73), .val (.ref a_78), .val (.ref b80), .val (.ref b97), .val (.int (1 : Int32)), .val .null] [(.ref a_63), (.ref b80)])) t_
              exact k_)
            have Zc173 : n0 ≤ h112.size := by omega
            obtain ⟨cq174, kq174, q174a, q174b, q174c⟩ := isOf hZ e171 f137
            obtain ⟨_, _, ⟨T174, L174, k174, n174⟩, -, X174, ⟨Lc174, hQ174, l174, y174, z174⟩, st174⟩ := X171.virtualBack hx (y := (⟨"com/example/coyote_hill/coyotehill/ItemStatus", "equals", "(Ljava/lang/Object;)Z"⟩ : MethodName)) (z := (⟨"com/example/coyote_hill/coyotehill/ItemStatus", "equals", "(Ljava/lang/Object;)Z"⟩ : MethodName)) hown (mvT hZ (hw _ (List.mem_of_getElem? (i := 75) rfl))) (mvT hZ (hw _ (List.mem_of_getElem? (i := 76) rfl))) (notFace_of_selects (args := #[]) (mvT hZ (hw _ (List.mem_of_getElem? (i := 78) rfl)))) (mvT hZ (hw _ (List.mem_of_getElem? (i := 78) rfl))) (mvT hZ (hw _ (List.mem_of_getElem? (i := 77) rfl))) (by decide) (backOf (W := 0) (rmEqX l Z a0 hw [] b80 a_63 h112 n0 Zc173 f143) hZ (hw _ (List.mem_of_getElem? (i := 79) rfl)) (hw _ (List.mem_of_getElem? (i := 51) rfl)) (by decide) (by decide)) q174a q174c (g := (mkF m 321 #[.val (.long id1), .second, .val (.long idr), .second, .val (.long qt1), .second, .val (.long qtr), .second, .val (.long att), .second, .val (.int fl), .val (.long q3), .second, .val (.int (qt1.toInt32)), .val (.int q8), .val (.int q11), .val (.int q18), .val (.int (Int32.ofNat ma)), .val (.int (Int32.ofNat mb)), .val (.int (att.toInt32)), .val (.int q32), .val (.ref b38), .val (.ref a_63), .val (.ref a_68), .val (.ref a_73), .val (.ref a_78), .val (.ref b80), .val (.ref b97), .val (.int (1 : Int32)), .val .null] [(.ref a_63), (.ref b80)])) rfl (by rw [hml]; rfl) (Steps.refl _) (argsL := [(.ref a_63)]) (rest := []) (lenOf pd__Ljava_lang_Object__Z rfl) rfl (by show 2 * 0 + _ ≤ _; exact Nat.le_of_eq rfl) (Jvm.hb hby at_321) (fun _ _ => ⟨rfl, e171, (by decide : 39 + 0 ≤ _), (by decide : 226 + 0 ≤ _)⟩)
            dsimp only [Pt.U, Pt.locs, Pt.cells, Pt.slots] at X174 l174 y174 z174 st174 hQ174
            subst l174 y174 z174
            obtain ⟨rfl, N174q, e174⟩ := hQ174
            have N174 := Fr.app N171 N174q
            have s175 : ∀ t_, Steps p.tables e below (T174.setTop (mkF m 332 #[.val (.long id1), .second, .val (.long idr), .second, .val (.long qt1), .second, .val (.long qtr), .second, .val (.long att), .second, .val (.int fl), .val (.long q3), .second, .val (.int (qt1.toInt32)), .val (.int q8), .val (.int q11), .val (.int q18), .val (.int (Int32.ofNat ma)), .val (.int (Int32.ofNat mb)), .val (.int (att.toInt32)), .val (.int q32), .val (.ref b38), .val (.ref a_63), .val (.ref a_68), .val (.ref a_73), .val (.ref a_78), .val (.ref b80), .val (.ref b97), .val (.int (1 : Int32)), .val .null] [(.int (1 : Int32))])) t_ → Steps p.tables e below (s₁.setTop (entryFrame m #[(.long id1), (.long idr), (.long qt1), (.long qtr), (.long att), (.int fl)] maxLocals)) t_ := fun t_ k_ => s172 t_ (by
              show Steps p.tables e below (T171.setTop (mkF m 321 #[.val (.long id1), .second, .val (.long idr), .second, .val (.long qt1), .second, .val (.long qtr), .second, .val (.long att), .second, .val (.int fl), .val (.long q3), .second, .val (.int (qt1.toInt32)), .val (.int q8), .val (.int q11), .val (.int q18), .val (.int (Int32.ofNat ma)), .val (.int (Int32.ofNat mb)), .val (.int (att.toInt32)), .val (.int q32), .val (.ref b38), .val (.ref a_63), .val (.ref a_68), .val (.ref a_73), .val (.ref a_78), .val (.ref b80), .val (.ref b97), .val (.int (1 : Int32)), .val .null] [(.ref a_63), (.ref b80)])) t_
              refine st174.trans ?_
              show Steps p.tables e below (T174.setTop (mkF m 324 #[.val (.long id1), .second, .val (.long idr), .second, .val (.long qt1), .second, .val (.long qtr), .second, .val (.long att), .second, .val (.int fl), .val (.long q3), .second, .val (.int (qt1.toInt32)), .val (.int q8), .val (.int q11), .val (.int q18), .val (.int (Int32.ofNat ma)), .val (.int (Int32.ofNat mb)), .val (.int (att.toInt32)), .val (.int q32), .val (.ref b38), .val (.ref a_63), .val (.ref a_68), .val (.ref a_73), .val (.ref a_78), .val (.ref b80), .val (.ref b97), .val (.int (1 : Int32)), .val .null] [(.int (0 : Int32))])) _
              refine XS.ifNo X174.here hx rfl (Jvm.hb hby at_324) rfl ((if0 _ _).trans (teq (rfl : (0 : Int32) = (0 : Int32))).2) ?_
              show Steps p.tables e below (T174.setTop (mkF m 327 #[.val (.long id1), .second, .val (.long idr), .second, .val (.long qt1), .second, .val (.long qtr), .second, .val (.long att), .second, .val (.int fl), .val (.long q3), .second, .val (.int (qt1.toInt32)), .val (.int q8), .val (.int q11), .val (.int q18), .val (.int (Int32.ofNat ma)), .val (.int (Int32.ofNat mb)), .val (.int (att.toInt32)), .val (.int q32), .val (.ref b38), .val (.ref a_63), .val (.ref a_68), .val (.ref a_73), .val (.ref a_78), .val (.ref b80), .val (.ref b97), .val (.int (1 : Int32)), .val .null] [])) _
              refine XS.iconst X174.here hx rfl (Jvm.hb hby at_327) ?_
              refine XS.goto X174.here hx rfl (pc0 := 328) (pc' := 332) rfl (Jvm.hb hby at_328) (by decide) (by decide) ?_
              show Steps p.tables e below (T174.setTop (mkF m 332 #[.val (.long id1), .second, .val (.long idr), .second, .val (.long qt1), .second, .val (.long qtr), .second, .val (.long att), .second, .val (.int fl), .val (.long q3), .second, .val (.int (qt1.toInt32)), .val (.int q8), .val (.int q11), .val (.int q18), .val (.int (Int32.ofNat ma)), .val (.int (Int32.ofNat mb)), .val (.int (att.toInt32)), .val (.int q32), .val (.ref b38), .val (.ref a_63), .val (.ref a_68), .val (.ref a_73), .val (.ref a_78), .val (.ref b80), .val (.ref b97), .val (.int (1 : Int32)), .val .null] [(.int (1 : Int32))])) t_
              exact k_)
            obtain ⟨fs, hr, hrun, hended, hREW⟩ := X174.leaveW hS (by first | exact Nat.le_refl _ | (rw [e174]; exact hk)) (v := some (.int (1 : Int32))) (fun h => by rw [Bd.returns] at h; cases h)
            refine ⟨_, _, s175 _ ?_, hrun, hended, _, _, rfl, ?_, (by show CHr Z ELs s.vm s.heap T174.vm T174.heap; rw [hh, e174]; exact CR.trans (CHv.at X174 hZ hEL CR.1)), hREW.1, hREW.2.1, hREW.2.2.1, hREW.2.2.2.mono (by decide) (by decide)⟩
            · show Steps p.tables e below (T174.setTop (mkF m 332 #[.val (.long id1), .second, .val (.long idr), .second, .val (.long qt1), .second, .val (.long qtr), .second, .val (.long att), .second, .val (.int fl), .val (.long q3), .second, .val (.int (qt1.toInt32)), .val (.int q8), .val (.int q11), .val (.int q18), .val (.int (Int32.ofNat ma)), .val (.int (Int32.ofNat mb)), .val (.int (att.toInt32)), .val (.int q32), .val (.ref b38), .val (.ref a_63), .val (.ref a_68), .val (.ref a_73), .val (.ref a_78), .val (.ref b80), .val (.ref b97), .val (.int (1 : Int32)), .val .null] [(.int (1 : Int32))])) _
              exact retN X174 hx (t := .boolean) Bd.returns (by simp) (Jvm.hb hby at_332) hr
            · show Q_rmLaw Z _ _ _ _ _ _ _ _ _ _ _ h0 n0 _ T174.heap _
              rw [e174]
              exact ⟨rfl, N174⟩
          · have s176 : ∀ t_, Steps p.tables e below (T126.setTop (mkF m 277 #[.val (.long id1), .second, .val (.long idr), .second, .val (.long qt1), .second, .val (.long qtr), .second, .val (.long att), .second, .val (.int fl), .val (.long q3), .second, .val (.int (qt1.toInt32)), .val (.int q8), .val (.int q11), .val (.int q18), .val (.int (Int32.ofNat ma)), .val (.int (Int32.ofNat mb)), .val (.int (att.toInt32)), .val (.int q32), .val (.ref b38), .val (.ref a_63), .val (.ref a_68), .val (.ref a_73), .val (.ref a_78), .val (.ref b80), .val (.ref b97), .val (.int (0 : Int32)), .val .null] [(.ref b97), (.ref b80)])) t_ → Steps p.tables e below (s₁.setTop (entryFrame m #[(.long id1), (.long idr), (.long qt1), (.long qtr), (.long att), (.int fl)] maxLocals)) t_ := fun t_ k_ => s133 t_ (by
              show Steps p.tables e below (T126.setTop (mkF m 260 #[.val (.long id1), .second, .val (.long idr), .second, .val (.long qt1), .second, .val (.long qtr), .second, .val (.long att), .second, .val (.int fl), .val (.long q3), .second, .val (.int (qt1.toInt32)), .val (.int q8), .val (.int q11), .val (.int q18), .val (.int (Int32.ofNat ma)), .val (.int (Int32.ofNat mb)), .val (.int (att.toInt32)), .val (.int q32), .val (.ref b38), .val (.ref a_63), .val (.ref a_68), .val (.ref a_73), .val (.ref a_78), .val (.ref b80), .val (.ref b97), .unset, .unset] [(.int q32), (.int (att.toInt32))])) t_
              refine XS.icmpYes X126.here hx rfl (pc0 := 260) (pc' := 267) rfl (Jvm.hb hby at_260) rfl (feq h134).2 (by decide) (by decide) ?_
              show Steps p.tables e below (T126.setTop (mkF m 267 #[.val (.long id1), .second, .val (.long idr), .second, .val (.long qt1), .second, .val (.long qtr), .second, .val (.long att), .second, .val (.int fl), .val (.long q3), .second, .val (.int (qt1.toInt32)), .val (.int q8), .val (.int q11), .val (.int q18), .val (.int (Int32.ofNat ma)), .val (.int (Int32.ofNat mb)), .val (.int (att.toInt32)), .val (.int q32), .val (.ref b38), .val (.ref a_63), .val (.ref a_68), .val (.ref a_73), .val (.ref a_78), .val (.ref b80), .val (.ref b97), .unset, .unset] [])) _
              refine XS.iconst X126.here hx rfl (Jvm.hb hby at_267) ?_
              refine XS.istore X126.here hx rfl (Jvm.hb hby at_268) rfl (l' := #[.val (.long id1), .second, .val (.long idr), .second, .val (.long qt1), .second, .val (.long qtr), .second, .val (.long att), .second, .val (.int fl), .val (.long q3), .second, .val (.int (qt1.toInt32)), .val (.int q8), .val (.int q11), .val (.int q18), .val (.int (Int32.ofNat ma)), .val (.int (Int32.ofNat mb)), .val (.int (att.toInt32)), .val (.int q32), .val (.ref b38), .val (.ref a_63), .val (.ref a_68), .val (.ref a_73), .val (.ref a_78), .val (.ref b80), .val (.ref b97), .val (.int (0 : Int32)), .unset]) rfl ?_
              refine XS.aconstNull X126.here hx rfl (Jvm.hb hby at_270) ?_
              refine XS.astore X126.here hx rfl (Jvm.hb hby at_271) rfl rfl (l' := #[.val (.long id1), .second, .val (.long idr), .second, .val (.long qt1), .second, .val (.long qtr), .second, .val (.long att), .second, .val (.int fl), .val (.long q3), .second, .val (.int (qt1.toInt32)), .val (.int q8), .val (.int q11), .val (.int q18), .val (.int (Int32.ofNat ma)), .val (.int (Int32.ofNat mb)), .val (.int (att.toInt32)), .val (.int q32), .val (.ref b38), .val (.ref a_63), .val (.ref a_68), .val (.ref a_73), .val (.ref a_78), .val (.ref b80), .val (.ref b97), .val (.int (0 : Int32)), .val .null]) rfl ?_
              refine XS.aload X126.here hx rfl (Jvm.hb hby at_273) rfl rfl ?_
              refine XS.aload X126.here hx rfl (Jvm.hb hby at_275) rfl rfl ?_
              show Steps p.tables e below (T126.setTop (mkF m 277 #[.val (.long id1), .second, .val (.long idr), .second, .val (.long qt1), .second, .val (.long qtr), .second, .val (.long att), .second, .val (.int fl), .val (.long q3), .second, .val (.int (qt1.toInt32)), .val (.int q8), .val (.int q11), .val (.int q18), .val (.int (Int32.ofNat ma)), .val (.int (Int32.ofNat mb)), .val (.int (att.toInt32)), .val (.int q32), .val (.ref b38), .val (.ref a_63), .val (.ref a_68), .val (.ref a_73), .val (.ref a_78), .val (.ref b80), .val (.ref b97), .val (.int (0 : Int32)), .val .null] [(.ref b97), (.ref b80)])) _
              show Steps p.tables e below (T126.setTop (mkF m 277 #[.val (.long id1), .second, .val (.long idr), .second, .val (.long qt1), .second, .val (.long qtr), .second, .val (.long att), .second, .val (.int fl), .val (.long q3), .second, .val (.int (qt1.toInt32)), .val (.int q8), .val (.int q11), .val (.int q18), .val (.int (Int32.ofNat ma)), .val (.int (Int32.ofNat mb)), .val (.int (att.toInt32)), .val (.int q32), .val (.ref b38), .val (.ref a_63), .val (.ref a_68), .val (.ref a_73), .val (.ref a_78), .val (.ref b80), .val (.ref b97), .val (.int (0 : Int32)), .val .null] [(.ref b97), (.ref b80)])) t_
              exact k_)
            have O177 : Old Z n0 h112 := (O105.keep K112 (allS (show n0 ≤ b97 by omega) all0))
            have f178 : Exa Z h112 b80 "com/example/coyote_hill/coyotehill/ItemStatus" := ((Fq95_0.ext E97).keep K112)
            have f179 : Fld Z h112 b80 "com/example/coyote_hill/coyotehill/ItemStatus" "_id" "J" (.long id1) := ((Fq95_1.ext E97).keep K112 (ninS (show @Ne Nat b80 b97 by omega) nin0))
            have f180 : Fld Z h112 b80 "com/example/coyote_hill/coyotehill/ItemStatus" "_queue" "Ljava/lang/String;" (.ref a_63) := ((Fq95_2.ext E97).keep K112 (ninS (show @Ne Nat b80 b97 by omega) nin0))
            have f181 : Fld Z h112 b80 "com/example/coyote_hill/coyotehill/ItemStatus" "_tenant" "Ljava/lang/String;" (.ref a_68) := ((Fq95_3.ext E97).keep K112 (ninS (show @Ne Nat b80 b97 by omega) nin0))
            have f182 : Fld Z h112 b80 "com/example/coyote_hill/coyotehill/ItemStatus" "_state" "Lcom/example/coyote_hill/coyotehill/ItemState;" (.ref s1) := ((Fq95_4.ext E97).keep K112 (ninS (show @Ne Nat b80 b97 by omega) nin0))
            have f183 : Fld Z h112 b80 "com/example/coyote_hill/coyotehill/ItemStatus" "_attempt" "I" (.int (att.toInt32)) := ((Fq95_5.ext E97).keep K112 (ninS (show @Ne Nat b80 b97 by omega) nin0))
            have f184 : Exa Z h112 a_63 "java/lang/String" := (((f92.keep K95).ext E97).keep K112)
            have f185 : Fld Z h112 a_63 "java/lang/String" "value" "[B" (.ref b_63) := (((((((Fq63_1.keep K68 nin0).keep K73 nin0).keep K78 nin0).ext E80).keep K95 (ninS (show @Ne Nat a_63 b80 by omega) nin0)).ext E97).keep K112 (ninS (show @Ne Nat a_63 b97 by omega) nin0))
            have f186 : Fld Z h112 a_63 "java/lang/String" "coder" "B" (.int (own_cod (own_str (qt1.toInt32)))) := (((((((Fq63_2.keep K68 nin0).keep K73 nin0).keep K78 nin0).ext E80).keep K95 (ninS (show @Ne Nat a_63 b80 by omega) nin0)).ext E97).keep K112 (ninS (show @Ne Nat a_63 b97 by omega) nin0))
            have f187 : Arv Z h112 b_63 kb_63 .byte (Int32.ofNat (own_enl (own_str (qt1.toInt32)))) (own_enc (own_str (qt1.toInt32))) (.int (0 : Int32)) := (((((((Fq63_3.keep K68 nin0).keep K73 nin0).keep K78 nin0).ext E80).keep K95 (ninS (Ne.symm (Exa.neArv A80 ((((Fq63_3.keep K68 nin0).keep K73 nin0).keep K78 nin0).ext E80) (hw _ (List.mem_of_getElem? (i := 50) rfl)))) nin0)).ext E97).keep K112 (ninS (Ne.symm (Exa.neArv A97 ((((((Fq63_3.keep K68 nin0).keep K73 nin0).keep K78 nin0).ext E80).keep K95 (ninS (Ne.symm (Exa.neArv A80 ((((Fq63_3.keep K68 nin0).keep K73 nin0).keep K78 nin0).ext E80) (hw _ (List.mem_of_getElem? (i := 50) rfl)))) nin0)).ext E97) (hw _ (List.mem_of_getElem? (i := 50) rfl)))) nin0))
            have f188 : Exa Z h112 a_73 "java/lang/String" := (f109.keep K112)
            have f189 : Fld Z h112 a_73 "java/lang/String" "value" "[B" (.ref b_73) := (((((Fq73_1.keep K78 nin0).ext E80).keep K95 (ninS (show @Ne Nat a_73 b80 by omega) nin0)).ext E97).keep K112 (ninS (show @Ne Nat a_73 b97 by omega) nin0))
            have f190 : Fld Z h112 a_73 "java/lang/String" "coder" "B" (.int (own_cod (own_str q11))) := (((((Fq73_2.keep K78 nin0).ext E80).keep K95 (ninS (show @Ne Nat a_73 b80 by omega) nin0)).ext E97).keep K112 (ninS (show @Ne Nat a_73 b97 by omega) nin0))
            have f191 : Arv Z h112 b_73 kb_73 .byte (Int32.ofNat (own_enl (own_str q11))) (own_enc (own_str q11)) (.int (0 : Int32)) := (((((Fq73_3.keep K78 nin0).ext E80).keep K95 (ninS (Ne.symm (Exa.neArv A80 ((Fq73_3.keep K78 nin0).ext E80) (hw _ (List.mem_of_getElem? (i := 50) rfl)))) nin0)).ext E97).keep K112 (ninS (Ne.symm (Exa.neArv A97 ((((Fq73_3.keep K78 nin0).ext E80).keep K95 (ninS (Ne.symm (Exa.neArv A80 ((Fq73_3.keep K78 nin0).ext E80) (hw _ (List.mem_of_getElem? (i := 50) rfl)))) nin0)).ext E97) (hw _ (List.mem_of_getElem? (i := 50) rfl)))) nin0))
            have f192 : Exa Z h112 a_68 "java/lang/String" := (((f93.keep K95).ext E97).keep K112)
            have f193 : Fld Z h112 a_68 "java/lang/String" "value" "[B" (.ref b_68) := ((((((Fq68_1.keep K73 nin0).keep K78 nin0).ext E80).keep K95 (ninS (show @Ne Nat a_68 b80 by omega) nin0)).ext E97).keep K112 (ninS (show @Ne Nat a_68 b97 by omega) nin0))
            have f194 : Fld Z h112 a_68 "java/lang/String" "coder" "B" (.int (own_cod (own_str q8))) := ((((((Fq68_2.keep K73 nin0).keep K78 nin0).ext E80).keep K95 (ninS (show @Ne Nat a_68 b80 by omega) nin0)).ext E97).keep K112 (ninS (show @Ne Nat a_68 b97 by omega) nin0))
            have f195 : Arv Z h112 b_68 kb_68 .byte (Int32.ofNat (own_enl (own_str q8))) (own_enc (own_str q8)) (.int (0 : Int32)) := ((((((Fq68_3.keep K73 nin0).keep K78 nin0).ext E80).keep K95 (ninS (Ne.symm (Exa.neArv A80 (((Fq68_3.keep K73 nin0).keep K78 nin0).ext E80) (hw _ (List.mem_of_getElem? (i := 50) rfl)))) nin0)).ext E97).keep K112 (ninS (Ne.symm (Exa.neArv A97 (((((Fq68_3.keep K73 nin0).keep K78 nin0).ext E80).keep K95 (ninS (Ne.symm (Exa.neArv A80 (((Fq68_3.keep K73 nin0).keep K78 nin0).ext E80) (hw _ (List.mem_of_getElem? (i := 50) rfl)))) nin0)).ext E97) (hw _ (List.mem_of_getElem? (i := 50) rfl)))) nin0))
            have f196 : Exa Z h112 a_78 "java/lang/String" := (f110.keep K112)
            have f197 : Fld Z h112 a_78 "java/lang/String" "value" "[B" (.ref b_78) := ((((Fq78_1.ext E80).keep K95 (ninS (show @Ne Nat a_78 b80 by omega) nin0)).ext E97).keep K112 (ninS (show @Ne Nat a_78 b97 by omega) nin0))
            have f198 : Fld Z h112 a_78 "java/lang/String" "coder" "B" (.int (own_cod (own_str q18))) := ((((Fq78_2.ext E80).keep K95 (ninS (show @Ne Nat a_78 b80 by omega) nin0)).ext E97).keep K112 (ninS (show @Ne Nat a_78 b97 by omega) nin0))
            have f199 : Arv Z h112 b_78 kb_78 .byte (Int32.ofNat (own_enl (own_str q18))) (own_enc (own_str q18)) (.int (0 : Int32)) := ((((Fq78_3.ext E80).keep K95 (ninS (Ne.symm (Exa.neArv A80 (Fq78_3.ext E80) (hw _ (List.mem_of_getElem? (i := 50) rfl)))) nin0)).ext E97).keep K112 (ninS (Ne.symm (Exa.neArv A97 (((Fq78_3.ext E80).keep K95 (ninS (Ne.symm (Exa.neArv A80 (Fq78_3.ext E80) (hw _ (List.mem_of_getElem? (i := 50) rfl)))) nin0)).ext E97) (hw _ (List.mem_of_getElem? (i := 50) rfl)))) nin0))
            have Zc200 : n0 ≤ h112.size := by omega
            obtain ⟨cq201, kq201, q201a, q201b, q201c⟩ := isOf hZ e126 f178
            obtain ⟨_, _, ⟨T201, L201, k201, n201⟩, -, X201, ⟨Lc201, hQ201, l201, y201, z201⟩, st201⟩ := X126.virtualBack hx (y := (⟨"com/example/coyote_hill/coyotehill/ItemStatus", "equals", "(Ljava/lang/Object;)Z"⟩ : MethodName)) (z := (⟨"com/example/coyote_hill/coyotehill/ItemStatus", "equals", "(Ljava/lang/Object;)Z"⟩ : MethodName)) hown (mvT hZ (hw _ (List.mem_of_getElem? (i := 75) rfl))) (mvT hZ (hw _ (List.mem_of_getElem? (i := 76) rfl))) (notFace_of_selects (args := #[]) (mvT hZ (hw _ (List.mem_of_getElem? (i := 78) rfl)))) (mvT hZ (hw _ (List.mem_of_getElem? (i := 78) rfl))) (mvT hZ (hw _ (List.mem_of_getElem? (i := 77) rfl))) (by decide) (backOf (W := 0) (rmEqO l Z a0 hw [] b80 b97 cst id1 q3 s1 s2 (att.toInt32) q32 a_63 b_63 kb_63 (own_str (qt1.toInt32)) a_73 b_73 kb_73 (own_str q11) a_68 b_68 kb_68 (own_str q8) a_78 b_78 kb_78 (own_str q18) h112 n0 Zc200 I1 O177 (hcst : ¬ (cst = (0 : Int32))) f178 f179 f180 f181 f182 f183 Fq112_0 Fq112_1 Fq112_2 Fq112_3 Fq112_4 Fq112_5 f184 f185 f186 f187 f188 f189 f190 f191 f192 f193 f194 f195 f196 f197 f198 f199 (own_neN (by omega)) (own_neN (by omega)) (own_strchs _) (own_strchs _) (own_strchs _) (own_strchs _) (own_strl _) (own_strl _) (own_strl _) (own_strl _)) hZ (hw _ (List.mem_of_getElem? (i := 79) rfl)) (hw _ (List.mem_of_getElem? (i := 51) rfl)) (by decide) (by decide)) q201a q201c (g := (mkF m 277 #[.val (.long id1), .second, .val (.long idr), .second, .val (.long qt1), .second, .val (.long qtr), .second, .val (.long att), .second, .val (.int fl), .val (.long q3), .second, .val (.int (qt1.toInt32)), .val (.int q8), .val (.int q11), .val (.int q18), .val (.int (Int32.ofNat ma)), .val (.int (Int32.ofNat mb)), .val (.int (att.toInt32)), .val (.int q32), .val (.ref b38), .val (.ref a_63), .val (.ref a_68), .val (.ref a_73), .val (.ref a_78), .val (.ref b80), .val (.ref b97), .val (.int (0 : Int32)), .val .null] [(.ref b97), (.ref b80)])) rfl (by rw [hml]; rfl) (Steps.refl _) (argsL := [(.ref b97)]) (rest := []) (lenOf pd__Ljava_lang_Object__Z rfl) rfl (by show 2 * 0 + _ ≤ _; exact Nat.le_of_eq rfl) (Jvm.hb hby at_277) (fun _ _ => ⟨rfl, e126, (by decide : 39 + 0 ≤ _), (by decide : 226 + 0 ≤ _)⟩)
            dsimp only [Pt.U, Pt.locs, Pt.cells, Pt.slots] at X201 l201 y201 z201 st201 hQ201
            subst l201 y201 z201
            obtain ⟨rfl, N201q, e201⟩ := hQ201
            have N201 := Fr.app N126 N201q
            obtain ⟨q202, hq202⟩ : ∃ z : Int32, z = (if (lcmpW id1 q3) = (0 : Int32) then (if (own_str (qt1.toInt32)) = (own_str q11) then (if (own_str q8) = (own_str q18) then (if s1 = s2 then (if (att.toInt32) = q32 then (1 : Int32) else (0 : Int32)) else (0 : Int32)) else (0 : Int32)) else (0 : Int32)) else (0 : Int32)) := ⟨_, rfl⟩
            rw [← hq202] at st201
            have hE0 : q202 = (0 : Int32) := by rw [hq202, if_pos (hq114.symm.trans h116), if_pos h122, if_pos h129, if_pos (own_stT h132 hmal hmbl hs1 hs2), if_neg h134]
            have s203 : ∀ t_, Steps p.tables e below (T201.setTop (mkF m 289 #[.val (.long id1), .second, .val (.long idr), .second, .val (.long qt1), .second, .val (.long qtr), .second, .val (.long att), .second, .val (.int fl), .val (.long q3), .second, .val (.int (qt1.toInt32)), .val (.int q8), .val (.int q11), .val (.int q18), .val (.int (Int32.ofNat ma)), .val (.int (Int32.ofNat mb)), .val (.int (att.toInt32)), .val (.int q32), .val (.ref b38), .val (.ref a_63), .val (.ref a_68), .val (.ref a_73), .val (.ref a_78), .val (.ref b80), .val (.ref b97), .val (.int (0 : Int32)), .val .null] [(.ref b80), (.ref b97)])) t_ → Steps p.tables e below (s₁.setTop (entryFrame m #[(.long id1), (.long idr), (.long qt1), (.long qtr), (.long att), (.int fl)] maxLocals)) t_ := fun t_ k_ => s176 t_ (by
              show Steps p.tables e below (T126.setTop (mkF m 277 #[.val (.long id1), .second, .val (.long idr), .second, .val (.long qt1), .second, .val (.long qtr), .second, .val (.long att), .second, .val (.int fl), .val (.long q3), .second, .val (.int (qt1.toInt32)), .val (.int q8), .val (.int q11), .val (.int q18), .val (.int (Int32.ofNat ma)), .val (.int (Int32.ofNat mb)), .val (.int (att.toInt32)), .val (.int q32), .val (.ref b38), .val (.ref a_63), .val (.ref a_68), .val (.ref a_73), .val (.ref a_78), .val (.ref b80), .val (.ref b97), .val (.int (0 : Int32)), .val .null] [(.ref b97), (.ref b80)])) t_
              refine st201.trans ?_
              show Steps p.tables e below (T201.setTop (mkF m 280 #[.val (.long id1), .second, .val (.long idr), .second, .val (.long qt1), .second, .val (.long qtr), .second, .val (.long att), .second, .val (.int fl), .val (.long q3), .second, .val (.int (qt1.toInt32)), .val (.int q8), .val (.int q11), .val (.int q18), .val (.int (Int32.ofNat ma)), .val (.int (Int32.ofNat mb)), .val (.int (att.toInt32)), .val (.int q32), .val (.ref b38), .val (.ref a_63), .val (.ref a_68), .val (.ref a_73), .val (.ref a_78), .val (.ref b80), .val (.ref b97), .val (.int (0 : Int32)), .val .null] [(.int q202)])) _
              refine XS.iload X201.here hx rfl (Jvm.hb hby at_280) rfl ?_
              refine XS.icmpNo X201.here hx rfl (Jvm.hb hby at_282) rfl (teq hE0).2 ?_
              show Steps p.tables e below (T201.setTop (mkF m 285 #[.val (.long id1), .second, .val (.long idr), .second, .val (.long qt1), .second, .val (.long qtr), .second, .val (.long att), .second, .val (.int fl), .val (.long q3), .second, .val (.int (qt1.toInt32)), .val (.int q8), .val (.int q11), .val (.int q18), .val (.int (Int32.ofNat ma)), .val (.int (Int32.ofNat mb)), .val (.int (att.toInt32)), .val (.int q32), .val (.ref b38), .val (.ref a_63), .val (.ref a_68), .val (.ref a_73), .val (.ref a_78), .val (.ref b80), .val (.ref b97), .val (.int (0 : Int32)), .val .null] [])) _
              refine XS.aload X201.here hx rfl (Jvm.hb hby at_285) rfl rfl ?_
              refine XS.aload X201.here hx rfl (Jvm.hb hby at_287) rfl rfl ?_
              show Steps p.tables e below (T201.setTop (mkF m 289 #[.val (.long id1), .second, .val (.long idr), .second, .val (.long qt1), .second, .val (.long qtr), .second, .val (.long att), .second, .val (.int fl), .val (.long q3), .second, .val (.int (qt1.toInt32)), .val (.int q8), .val (.int q11), .val (.int q18), .val (.int (Int32.ofNat ma)), .val (.int (Int32.ofNat mb)), .val (.int (att.toInt32)), .val (.int q32), .val (.ref b38), .val (.ref a_63), .val (.ref a_68), .val (.ref a_73), .val (.ref a_78), .val (.ref b80), .val (.ref b97), .val (.int (0 : Int32)), .val .null] [(.ref b80), (.ref b97)])) t_
              exact k_)
            have Zc204 : n0 ≤ h112.size := by omega
            obtain ⟨cq205, kq205, q205a, q205b, q205c⟩ := isOf hZ e201 Fq112_0
            obtain ⟨_, _, ⟨T205, L205, k205, n205⟩, -, X205, ⟨Lc205, hQ205, l205, y205, z205⟩, st205⟩ := X201.virtualBack hx (y := (⟨"com/example/coyote_hill/coyotehill/ItemStatus", "equals", "(Ljava/lang/Object;)Z"⟩ : MethodName)) (z := (⟨"com/example/coyote_hill/coyotehill/ItemStatus", "equals", "(Ljava/lang/Object;)Z"⟩ : MethodName)) hown (mvT hZ (hw _ (List.mem_of_getElem? (i := 75) rfl))) (mvT hZ (hw _ (List.mem_of_getElem? (i := 76) rfl))) (notFace_of_selects (args := #[]) (mvT hZ (hw _ (List.mem_of_getElem? (i := 78) rfl)))) (mvT hZ (hw _ (List.mem_of_getElem? (i := 78) rfl))) (mvT hZ (hw _ (List.mem_of_getElem? (i := 77) rfl))) (by decide) (backOf (W := 0) (rmEqO l Z a0 hw [] b97 b80 cst q3 id1 s2 s1 q32 (att.toInt32) a_73 b_73 kb_73 (own_str q11) a_63 b_63 kb_63 (own_str (qt1.toInt32)) a_78 b_78 kb_78 (own_str q18) a_68 b_68 kb_68 (own_str q8) h112 n0 Zc204 I1 O177 (hcst : ¬ (cst = (0 : Int32))) Fq112_0 Fq112_1 Fq112_2 Fq112_3 Fq112_4 Fq112_5 f178 f179 f180 f181 f182 f183 f188 f189 f190 f191 f184 f185 f186 f187 f196 f197 f198 f199 f192 f193 f194 f195 (own_neN (by omega)) (own_neN (by omega)) (own_strchs _) (own_strchs _) (own_strchs _) (own_strchs _) (own_strl _) (own_strl _) (own_strl _) (own_strl _)) hZ (hw _ (List.mem_of_getElem? (i := 79) rfl)) (hw _ (List.mem_of_getElem? (i := 51) rfl)) (by decide) (by decide)) q205a q205c (g := (mkF m 289 #[.val (.long id1), .second, .val (.long idr), .second, .val (.long qt1), .second, .val (.long qtr), .second, .val (.long att), .second, .val (.int fl), .val (.long q3), .second, .val (.int (qt1.toInt32)), .val (.int q8), .val (.int q11), .val (.int q18), .val (.int (Int32.ofNat ma)), .val (.int (Int32.ofNat mb)), .val (.int (att.toInt32)), .val (.int q32), .val (.ref b38), .val (.ref a_63), .val (.ref a_68), .val (.ref a_73), .val (.ref a_78), .val (.ref b80), .val (.ref b97), .val (.int (0 : Int32)), .val .null] [(.ref b80), (.ref b97)])) rfl (by rw [hml]; rfl) (Steps.refl _) (argsL := [(.ref b80)]) (rest := []) (lenOf pd__Ljava_lang_Object__Z rfl) rfl (by show 2 * 0 + _ ≤ _; exact Nat.le_of_eq rfl) (Jvm.hb hby at_289) (fun _ _ => ⟨rfl, e201, (by decide : 39 + 0 ≤ _), (by decide : 226 + 0 ≤ _)⟩)
            dsimp only [Pt.U, Pt.locs, Pt.cells, Pt.slots] at X205 l205 y205 z205 st205 hQ205
            subst l205 y205 z205
            obtain ⟨rfl, N205q, e205⟩ := hQ205
            have N205 := Fr.app N201 N205q
            obtain ⟨q206, hq206⟩ : ∃ z : Int32, z = (if (lcmpW q3 id1) = (0 : Int32) then (if (own_str q11) = (own_str (qt1.toInt32)) then (if (own_str q18) = (own_str q8) then (if s2 = s1 then (if q32 = (att.toInt32) then (1 : Int32) else (0 : Int32)) else (0 : Int32)) else (0 : Int32)) else (0 : Int32)) else (0 : Int32)) := ⟨_, rfl⟩
            rw [← hq206] at st205
            have hE1 : q206 = (0 : Int32) := by rw [hq206, if_pos (own_lcs (hq114.symm.trans h116)), if_pos (Eq.symm h122), if_pos (Eq.symm h129), if_pos (Eq.symm (own_stT h132 hmal hmbl hs1 hs2)), if_neg (fun q => h134 q.symm)]
            have s207 : ∀ t_, Steps p.tables e below (T205.setTop (mkF m 301 #[.val (.long id1), .second, .val (.long idr), .second, .val (.long qt1), .second, .val (.long qtr), .second, .val (.long att), .second, .val (.int fl), .val (.long q3), .second, .val (.int (qt1.toInt32)), .val (.int q8), .val (.int q11), .val (.int q18), .val (.int (Int32.ofNat ma)), .val (.int (Int32.ofNat mb)), .val (.int (att.toInt32)), .val (.int q32), .val (.ref b38), .val (.ref a_63), .val (.ref a_68), .val (.ref a_73), .val (.ref a_78), .val (.ref b80), .val (.ref b97), .val (.int (0 : Int32)), .val .null] [(.ref b80), (.ref b80)])) t_ → Steps p.tables e below (s₁.setTop (entryFrame m #[(.long id1), (.long idr), (.long qt1), (.long qtr), (.long att), (.int fl)] maxLocals)) t_ := fun t_ k_ => s203 t_ (by
              show Steps p.tables e below (T201.setTop (mkF m 289 #[.val (.long id1), .second, .val (.long idr), .second, .val (.long qt1), .second, .val (.long qtr), .second, .val (.long att), .second, .val (.int fl), .val (.long q3), .second, .val (.int (qt1.toInt32)), .val (.int q8), .val (.int q11), .val (.int q18), .val (.int (Int32.ofNat ma)), .val (.int (Int32.ofNat mb)), .val (.int (att.toInt32)), .val (.int q32), .val (.ref b38), .val (.ref a_63), .val (.ref a_68), .val (.ref a_73), .val (.ref a_78), .val (.ref b80), .val (.ref b97), .val (.int (0 : Int32)), .val .null] [(.ref b80), (.ref b97)])) t_
              refine st205.trans ?_
              show Steps p.tables e below (T205.setTop (mkF m 292 #[.val (.long id1), .second, .val (.long idr), .second, .val (.long qt1), .second, .val (.long qtr), .second, .val (.long att), .second, .val (.int fl), .val (.long q3), .second, .val (.int (qt1.toInt32)), .val (.int q8), .val (.int q11), .val (.int q18), .val (.int (Int32.ofNat ma)), .val (.int (Int32.ofNat mb)), .val (.int (att.toInt32)), .val (.int q32), .val (.ref b38), .val (.ref a_63), .val (.ref a_68), .val (.ref a_73), .val (.ref a_78), .val (.ref b80), .val (.ref b97), .val (.int (0 : Int32)), .val .null] [(.int q206)])) _
              refine XS.iload X205.here hx rfl (Jvm.hb hby at_292) rfl ?_
              refine XS.icmpNo X205.here hx rfl (Jvm.hb hby at_294) rfl (teq hE1).2 ?_
              show Steps p.tables e below (T205.setTop (mkF m 297 #[.val (.long id1), .second, .val (.long idr), .second, .val (.long qt1), .second, .val (.long qtr), .second, .val (.long att), .second, .val (.int fl), .val (.long q3), .second, .val (.int (qt1.toInt32)), .val (.int q8), .val (.int q11), .val (.int q18), .val (.int (Int32.ofNat ma)), .val (.int (Int32.ofNat mb)), .val (.int (att.toInt32)), .val (.int q32), .val (.ref b38), .val (.ref a_63), .val (.ref a_68), .val (.ref a_73), .val (.ref a_78), .val (.ref b80), .val (.ref b97), .val (.int (0 : Int32)), .val .null] [])) _
              refine XS.aload X205.here hx rfl (Jvm.hb hby at_297) rfl rfl ?_
              refine XS.aload X205.here hx rfl (Jvm.hb hby at_299) rfl rfl ?_
              show Steps p.tables e below (T205.setTop (mkF m 301 #[.val (.long id1), .second, .val (.long idr), .second, .val (.long qt1), .second, .val (.long qtr), .second, .val (.long att), .second, .val (.int fl), .val (.long q3), .second, .val (.int (qt1.toInt32)), .val (.int q8), .val (.int q11), .val (.int q18), .val (.int (Int32.ofNat ma)), .val (.int (Int32.ofNat mb)), .val (.int (att.toInt32)), .val (.int q32), .val (.ref b38), .val (.ref a_63), .val (.ref a_68), .val (.ref a_73), .val (.ref a_78), .val (.ref b80), .val (.ref b97), .val (.int (0 : Int32)), .val .null] [(.ref b80), (.ref b80)])) t_
              exact k_)
            have Zc208 : n0 ≤ h112.size := by omega
            obtain ⟨cq209, kq209, q209a, q209b, q209c⟩ := isOf hZ e205 f178
            obtain ⟨_, _, ⟨T209, L209, k209, n209⟩, -, X209, ⟨Lc209, hQ209, l209, y209, z209⟩, st209⟩ := X205.virtualBack hx (y := (⟨"com/example/coyote_hill/coyotehill/ItemStatus", "equals", "(Ljava/lang/Object;)Z"⟩ : MethodName)) (z := (⟨"com/example/coyote_hill/coyotehill/ItemStatus", "equals", "(Ljava/lang/Object;)Z"⟩ : MethodName)) hown (mvT hZ (hw _ (List.mem_of_getElem? (i := 75) rfl))) (mvT hZ (hw _ (List.mem_of_getElem? (i := 76) rfl))) (notFace_of_selects (args := #[]) (mvT hZ (hw _ (List.mem_of_getElem? (i := 78) rfl)))) (mvT hZ (hw _ (List.mem_of_getElem? (i := 78) rfl))) (mvT hZ (hw _ (List.mem_of_getElem? (i := 77) rfl))) (by decide) (backOf (W := 0) (rmEqS l Z a0 hw [] b80 id1 a_63 a_68 s1 (att.toInt32) h112 n0 Zc208 f178 f179 f180 f181 f182 f183 f184 f192) hZ (hw _ (List.mem_of_getElem? (i := 79) rfl)) (hw _ (List.mem_of_getElem? (i := 51) rfl)) (by decide) (by decide)) q209a q209c (g := (mkF m 301 #[.val (.long id1), .second, .val (.long idr), .second, .val (.long qt1), .second, .val (.long qtr), .second, .val (.long att), .second, .val (.int fl), .val (.long q3), .second, .val (.int (qt1.toInt32)), .val (.int q8), .val (.int q11), .val (.int q18), .val (.int (Int32.ofNat ma)), .val (.int (Int32.ofNat mb)), .val (.int (att.toInt32)), .val (.int q32), .val (.ref b38), .val (.ref a_63), .val (.ref a_68), .val (.ref a_73), .val (.ref a_78), .val (.ref b80), .val (.ref b97), .val (.int (0 : Int32)), .val .null] [(.ref b80), (.ref b80)])) rfl (by rw [hml]; rfl) (Steps.refl _) (argsL := [(.ref b80)]) (rest := []) (lenOf pd__Ljava_lang_Object__Z rfl) rfl (by show 2 * 0 + _ ≤ _; exact Nat.le_of_eq rfl) (Jvm.hb hby at_301) (fun _ _ => ⟨rfl, e205, (by decide : 39 + 0 ≤ _), (by decide : 226 + 0 ≤ _)⟩)
            dsimp only [Pt.U, Pt.locs, Pt.cells, Pt.slots] at X209 l209 y209 z209 st209 hQ209
            subst l209 y209 z209
            obtain ⟨rfl, N209q, e209⟩ := hQ209
            have N209 := Fr.app N205 N209q
            have s210 : ∀ t_, Steps p.tables e below (T209.setTop (mkF m 311 #[.val (.long id1), .second, .val (.long idr), .second, .val (.long qt1), .second, .val (.long qtr), .second, .val (.long att), .second, .val (.int fl), .val (.long q3), .second, .val (.int (qt1.toInt32)), .val (.int q8), .val (.int q11), .val (.int q18), .val (.int (Int32.ofNat ma)), .val (.int (Int32.ofNat mb)), .val (.int (att.toInt32)), .val (.int q32), .val (.ref b38), .val (.ref a_63), .val (.ref a_68), .val (.ref a_73), .val (.ref a_78), .val (.ref b80), .val (.ref b97), .val (.int (0 : Int32)), .val .null] [.null, (.ref b80)])) t_ → Steps p.tables e below (s₁.setTop (entryFrame m #[(.long id1), (.long idr), (.long qt1), (.long qtr), (.long att), (.int fl)] maxLocals)) t_ := fun t_ k_ => s207 t_ (by
              show Steps p.tables e below (T205.setTop (mkF m 301 #[.val (.long id1), .second, .val (.long idr), .second, .val (.long qt1), .second, .val (.long qtr), .second, .val (.long att), .second, .val (.int fl), .val (.long q3), .second, .val (.int (qt1.toInt32)), .val (.int q8), .val (.int q11), .val (.int q18), .val (.int (Int32.ofNat ma)), .val (.int (Int32.ofNat mb)), .val (.int (att.toInt32)), .val (.int q32), .val (.ref b38), .val (.ref a_63), .val (.ref a_68), .val (.ref a_73), .val (.ref a_78), .val (.ref b80), .val (.ref b97), .val (.int (0 : Int32)), .val .null] [(.ref b80), (.ref b80)])) t_
              refine st209.trans ?_
              show Steps p.tables e below (T209.setTop (mkF m 304 #[.val (.long id1), .second, .val (.long idr), .second, .val (.long qt1), .second, .val (.long qtr), .second, .val (.long att), .second, .val (.int fl), .val (.long q3), .second, .val (.int (qt1.toInt32)), .val (.int q8), .val (.int q11), .val (.int q18), .val (.int (Int32.ofNat ma)), .val (.int (Int32.ofNat mb)), .val (.int (att.toInt32)), .val (.int q32), .val (.ref b38), .val (.ref a_63), .val (.ref a_68), .val (.ref a_73), .val (.ref a_78), .val (.ref b80), .val (.ref b97), .val (.int (0 : Int32)), .val .null] [(.int (1 : Int32))])) _
              refine XS.ifNo X209.here hx rfl (Jvm.hb hby at_304) rfl ((if0 _ _).trans (feq (by decide : ¬ ((1 : Int32) = (0 : Int32)))).1) ?_
              show Steps p.tables e below (T209.setTop (mkF m 307 #[.val (.long id1), .second, .val (.long idr), .second, .val (.long qt1), .second, .val (.long qtr), .second, .val (.long att), .second, .val (.int fl), .val (.long q3), .second, .val (.int (qt1.toInt32)), .val (.int q8), .val (.int q11), .val (.int q18), .val (.int (Int32.ofNat ma)), .val (.int (Int32.ofNat mb)), .val (.int (att.toInt32)), .val (.int q32), .val (.ref b38), .val (.ref a_63), .val (.ref a_68), .val (.ref a_73), .val (.ref a_78), .val (.ref b80), .val (.ref b97), .val (.int (0 : Int32)), .val .null] [])) _
              refine XS.aload X209.here hx rfl (Jvm.hb hby at_307) rfl rfl ?_
              refine XS.aload X209.here hx rfl (Jvm.hb hby at_309) rfl rfl ?_
              show Steps p.tables e below (T209.setTop (mkF m 311 #[.val (.long id1), .second, .val (.long idr), .second, .val (.long qt1), .second, .val (.long qtr), .second, .val (.long att), .second, .val (.int fl), .val (.long q3), .second, .val (.int (qt1.toInt32)), .val (.int q8), .val (.int q11), .val (.int q18), .val (.int (Int32.ofNat ma)), .val (.int (Int32.ofNat mb)), .val (.int (att.toInt32)), .val (.int q32), .val (.ref b38), .val (.ref a_63), .val (.ref a_68), .val (.ref a_73), .val (.ref a_78), .val (.ref b80), .val (.ref b97), .val (.int (0 : Int32)), .val .null] [.null, (.ref b80)])) t_
              exact k_)
            have Zc211 : n0 ≤ h112.size := by omega
            obtain ⟨cq212, kq212, q212a, q212b, q212c⟩ := isOf hZ e209 f178
            obtain ⟨_, _, ⟨T212, L212, k212, n212⟩, -, X212, ⟨Lc212, hQ212, l212, y212, z212⟩, st212⟩ := X209.virtualBack hx (y := (⟨"com/example/coyote_hill/coyotehill/ItemStatus", "equals", "(Ljava/lang/Object;)Z"⟩ : MethodName)) (z := (⟨"com/example/coyote_hill/coyotehill/ItemStatus", "equals", "(Ljava/lang/Object;)Z"⟩ : MethodName)) hown (mvT hZ (hw _ (List.mem_of_getElem? (i := 75) rfl))) (mvT hZ (hw _ (List.mem_of_getElem? (i := 76) rfl))) (notFace_of_selects (args := #[]) (mvT hZ (hw _ (List.mem_of_getElem? (i := 78) rfl)))) (mvT hZ (hw _ (List.mem_of_getElem? (i := 78) rfl))) (mvT hZ (hw _ (List.mem_of_getElem? (i := 77) rfl))) (by decide) (backOf (W := 0) (rmEqN l Z a0 hw [] b80 h112 n0 Zc211) hZ (hw _ (List.mem_of_getElem? (i := 79) rfl)) (hw _ (List.mem_of_getElem? (i := 51) rfl)) (by decide) (by decide)) q212a q212c (g := (mkF m 311 #[.val (.long id1), .second, .val (.long idr), .second, .val (.long qt1), .second, .val (.long qtr), .second, .val (.long att), .second, .val (.int fl), .val (.long q3), .second, .val (.int (qt1.toInt32)), .val (.int q8), .val (.int q11), .val (.int q18), .val (.int (Int32.ofNat ma)), .val (.int (Int32.ofNat mb)), .val (.int (att.toInt32)), .val (.int q32), .val (.ref b38), .val (.ref a_63), .val (.ref a_68), .val (.ref a_73), .val (.ref a_78), .val (.ref b80), .val (.ref b97), .val (.int (0 : Int32)), .val .null] [.null, (.ref b80)])) rfl (by rw [hml]; rfl) (Steps.refl _) (argsL := [.null]) (rest := []) (lenOf pd__Ljava_lang_Object__Z rfl) rfl (by show 2 * 0 + _ ≤ _; exact Nat.le_of_eq rfl) (Jvm.hb hby at_311) (fun _ _ => ⟨rfl, e209, (by decide : 39 + 0 ≤ _), (by decide : 226 + 0 ≤ _)⟩)
            dsimp only [Pt.U, Pt.locs, Pt.cells, Pt.slots] at X212 l212 y212 z212 st212 hQ212
            subst l212 y212 z212
            obtain ⟨rfl, N212q, e212⟩ := hQ212
            have N212 := Fr.app N209 N212q
            have s213 : ∀ t_, Steps p.tables e below (T212.setTop (mkF m 321 #[.val (.long id1), .second, .val (.long idr), .second, .val (.long qt1), .second, .val (.long qtr), .second, .val (.long att), .second, .val (.int fl), .val (.long q3), .second, .val (.int (qt1.toInt32)), .val (.int q8), .val (.int q11), .val (.int q18), .val (.int (Int32.ofNat ma)), .val (.int (Int32.ofNat mb)), .val (.int (att.toInt32)), .val (.int q32), .val (.ref b38), .val (.ref a_63), .val (.ref a_68), .val (.ref a_73), .val (.ref a_78), .val (.ref b80), .val (.ref b97), .val (.int (0 : Int32)), .val .null] [(.ref a_63), (.ref b80)])) t_ → Steps p.tables e below (s₁.setTop (entryFrame m #[(.long id1), (.long idr), (.long qt1), (.long qtr), (.long att), (.int fl)] maxLocals)) t_ := fun t_ k_ => s210 t_ (by
              show Steps p.tables e below (T209.setTop (mkF m 311 #[.val (.long id1), .second, .val (.long idr), .second, .val (.long qt1), .second, .val (.long qtr), .second, .val (.long att), .second, .val (.int fl), .val (.long q3), .second, .val (.int (qt1.toInt32)), .val (.int q8), .val (.int q11), .val (.int q18), .val (.int (Int32.ofNat ma)), .val (.int (Int32.ofNat mb)), .val (.int (att.toInt32)), .val (.int q32), .val (.ref b38), .val (.ref a_63), .val (.ref a_68), .val (.ref a_73), .val (.ref a_78), .val (.ref b80), .val (.ref b97), .val (.int (0 : Int32)), .val .null] [.null, (.ref b80)])) t_
              refine st212.trans ?_
              show Steps p.tables e below (T212.setTop (mkF m 314 #[.val (.long id1), .second, .val (.long idr), .second, .val (.long qt1), .second, .val (.long qtr), .second, .val (.long att), .second, .val (.int fl), .val (.long q3), .second, .val (.int (qt1.toInt32)), .val (.int q8), .val (.int q11), .val (.int q18), .val (.int (Int32.ofNat ma)), .val (.int (Int32.ofNat mb)), .val (.int (att.toInt32)), .val (.int q32), .val (.ref b38), .val (.ref a_63), .val (.ref a_68), .val (.ref a_73), .val (.ref a_78), .val (.ref b80), .val (.ref b97), .val (.int (0 : Int32)), .val .null] [(.int (0 : Int32))])) _
              refine XS.ifNo X212.here hx rfl (Jvm.hb hby at_314) rfl ((if0 _ _).trans (teq (rfl : (0 : Int32) = (0 : Int32))).2) ?_
              show Steps p.tables e below (T212.setTop (mkF m 317 #[.val (.long id1), .second, .val (.long idr), .second, .val (.long qt1), .second, .val (.long qtr), .second, .val (.long att), .second, .val (.int fl), .val (.long q3), .second, .val (.int (qt1.toInt32)), .val (.int q8), .val (.int q11), .val (.int q18), .val (.int (Int32.ofNat ma)), .val (.int (Int32.ofNat mb)), .val (.int (att.toInt32)), .val (.int q32), .val (.ref b38), .val (.ref a_63), .val (.ref a_68), .val (.ref a_73), .val (.ref a_78), .val (.ref b80), .val (.ref b97), .val (.int (0 : Int32)), .val .null] [])) _
              refine XS.aload X212.here hx rfl (Jvm.hb hby at_317) rfl rfl ?_
              refine XS.aload X212.here hx rfl (Jvm.hb hby at_319) rfl rfl ?_
              show Steps p.tables e below (T212.setTop (mkF m 321 #[.val (.long id1), .second, .val (.long idr), .second, .val (.long qt1), .second, .val (.long qtr), .second, .val (.long att), .second, .val (.int fl), .val (.long q3), .second, .val (.int (qt1.toInt32)), .val (.int q8), .val (.int q11), .val (.int q18), .val (.int (Int32.ofNat ma)), .val (.int (Int32.ofNat mb)), .val (.int (att.toInt32)), .val (.int q32), .val (.ref b38), .val (.ref a_63), .val (.ref a_68), .val (.ref a_73), .val (.ref a_78), .val (.ref b80), .val (.ref b97), .val (.int (0 : Int32)), .val .null] [(.ref a_63), (.ref b80)])) t_
              exact k_)
            have Zc214 : n0 ≤ h112.size := by omega
            obtain ⟨cq215, kq215, q215a, q215b, q215c⟩ := isOf hZ e212 f178
            obtain ⟨_, _, ⟨T215, L215, k215, n215⟩, -, X215, ⟨Lc215, hQ215, l215, y215, z215⟩, st215⟩ := X212.virtualBack hx (y := (⟨"com/example/coyote_hill/coyotehill/ItemStatus", "equals", "(Ljava/lang/Object;)Z"⟩ : MethodName)) (z := (⟨"com/example/coyote_hill/coyotehill/ItemStatus", "equals", "(Ljava/lang/Object;)Z"⟩ : MethodName)) hown (mvT hZ (hw _ (List.mem_of_getElem? (i := 75) rfl))) (mvT hZ (hw _ (List.mem_of_getElem? (i := 76) rfl))) (notFace_of_selects (args := #[]) (mvT hZ (hw _ (List.mem_of_getElem? (i := 78) rfl)))) (mvT hZ (hw _ (List.mem_of_getElem? (i := 78) rfl))) (mvT hZ (hw _ (List.mem_of_getElem? (i := 77) rfl))) (by decide) (backOf (W := 0) (rmEqX l Z a0 hw [] b80 a_63 h112 n0 Zc214 f184) hZ (hw _ (List.mem_of_getElem? (i := 79) rfl)) (hw _ (List.mem_of_getElem? (i := 51) rfl)) (by decide) (by decide)) q215a q215c (g := (mkF m 321 #[.val (.long id1), .second, .val (.long idr), .second, .val (.long qt1), .second, .val (.long qtr), .second, .val (.long att), .second, .val (.int fl), .val (.long q3), .second, .val (.int (qt1.toInt32)), .val (.int q8), .val (.int q11), .val (.int q18), .val (.int (Int32.ofNat ma)), .val (.int (Int32.ofNat mb)), .val (.int (att.toInt32)), .val (.int q32), .val (.ref b38), .val (.ref a_63), .val (.ref a_68), .val (.ref a_73), .val (.ref a_78), .val (.ref b80), .val (.ref b97), .val (.int (0 : Int32)), .val .null] [(.ref a_63), (.ref b80)])) rfl (by rw [hml]; rfl) (Steps.refl _) (argsL := [(.ref a_63)]) (rest := []) (lenOf pd__Ljava_lang_Object__Z rfl) rfl (by show 2 * 0 + _ ≤ _; exact Nat.le_of_eq rfl) (Jvm.hb hby at_321) (fun _ _ => ⟨rfl, e212, (by decide : 39 + 0 ≤ _), (by decide : 226 + 0 ≤ _)⟩)
            dsimp only [Pt.U, Pt.locs, Pt.cells, Pt.slots] at X215 l215 y215 z215 st215 hQ215
            subst l215 y215 z215
            obtain ⟨rfl, N215q, e215⟩ := hQ215
            have N215 := Fr.app N212 N215q
            have s216 : ∀ t_, Steps p.tables e below (T215.setTop (mkF m 332 #[.val (.long id1), .second, .val (.long idr), .second, .val (.long qt1), .second, .val (.long qtr), .second, .val (.long att), .second, .val (.int fl), .val (.long q3), .second, .val (.int (qt1.toInt32)), .val (.int q8), .val (.int q11), .val (.int q18), .val (.int (Int32.ofNat ma)), .val (.int (Int32.ofNat mb)), .val (.int (att.toInt32)), .val (.int q32), .val (.ref b38), .val (.ref a_63), .val (.ref a_68), .val (.ref a_73), .val (.ref a_78), .val (.ref b80), .val (.ref b97), .val (.int (0 : Int32)), .val .null] [(.int (1 : Int32))])) t_ → Steps p.tables e below (s₁.setTop (entryFrame m #[(.long id1), (.long idr), (.long qt1), (.long qtr), (.long att), (.int fl)] maxLocals)) t_ := fun t_ k_ => s213 t_ (by
              show Steps p.tables e below (T212.setTop (mkF m 321 #[.val (.long id1), .second, .val (.long idr), .second, .val (.long qt1), .second, .val (.long qtr), .second, .val (.long att), .second, .val (.int fl), .val (.long q3), .second, .val (.int (qt1.toInt32)), .val (.int q8), .val (.int q11), .val (.int q18), .val (.int (Int32.ofNat ma)), .val (.int (Int32.ofNat mb)), .val (.int (att.toInt32)), .val (.int q32), .val (.ref b38), .val (.ref a_63), .val (.ref a_68), .val (.ref a_73), .val (.ref a_78), .val (.ref b80), .val (.ref b97), .val (.int (0 : Int32)), .val .null] [(.ref a_63), (.ref b80)])) t_
              refine st215.trans ?_
              show Steps p.tables e below (T215.setTop (mkF m 324 #[.val (.long id1), .second, .val (.long idr), .second, .val (.long qt1), .second, .val (.long qtr), .second, .val (.long att), .second, .val (.int fl), .val (.long q3), .second, .val (.int (qt1.toInt32)), .val (.int q8), .val (.int q11), .val (.int q18), .val (.int (Int32.ofNat ma)), .val (.int (Int32.ofNat mb)), .val (.int (att.toInt32)), .val (.int q32), .val (.ref b38), .val (.ref a_63), .val (.ref a_68), .val (.ref a_73), .val (.ref a_78), .val (.ref b80), .val (.ref b97), .val (.int (0 : Int32)), .val .null] [(.int (0 : Int32))])) _
              refine XS.ifNo X215.here hx rfl (Jvm.hb hby at_324) rfl ((if0 _ _).trans (teq (rfl : (0 : Int32) = (0 : Int32))).2) ?_
              show Steps p.tables e below (T215.setTop (mkF m 327 #[.val (.long id1), .second, .val (.long idr), .second, .val (.long qt1), .second, .val (.long qtr), .second, .val (.long att), .second, .val (.int fl), .val (.long q3), .second, .val (.int (qt1.toInt32)), .val (.int q8), .val (.int q11), .val (.int q18), .val (.int (Int32.ofNat ma)), .val (.int (Int32.ofNat mb)), .val (.int (att.toInt32)), .val (.int q32), .val (.ref b38), .val (.ref a_63), .val (.ref a_68), .val (.ref a_73), .val (.ref a_78), .val (.ref b80), .val (.ref b97), .val (.int (0 : Int32)), .val .null] [])) _
              refine XS.iconst X215.here hx rfl (Jvm.hb hby at_327) ?_
              refine XS.goto X215.here hx rfl (pc0 := 328) (pc' := 332) rfl (Jvm.hb hby at_328) (by decide) (by decide) ?_
              show Steps p.tables e below (T215.setTop (mkF m 332 #[.val (.long id1), .second, .val (.long idr), .second, .val (.long qt1), .second, .val (.long qtr), .second, .val (.long att), .second, .val (.int fl), .val (.long q3), .second, .val (.int (qt1.toInt32)), .val (.int q8), .val (.int q11), .val (.int q18), .val (.int (Int32.ofNat ma)), .val (.int (Int32.ofNat mb)), .val (.int (att.toInt32)), .val (.int q32), .val (.ref b38), .val (.ref a_63), .val (.ref a_68), .val (.ref a_73), .val (.ref a_78), .val (.ref b80), .val (.ref b97), .val (.int (0 : Int32)), .val .null] [(.int (1 : Int32))])) t_
              exact k_)
            obtain ⟨fs, hr, hrun, hended, hREW⟩ := X215.leaveW hS (by first | exact Nat.le_refl _ | (rw [e215]; exact hk)) (v := some (.int (1 : Int32))) (fun h => by rw [Bd.returns] at h; cases h)
            refine ⟨_, _, s216 _ ?_, hrun, hended, _, _, rfl, ?_, (by show CHr Z ELs s.vm s.heap T215.vm T215.heap; rw [hh, e215]; exact CR.trans (CHv.at X215 hZ hEL CR.1)), hREW.1, hREW.2.1, hREW.2.2.1, hREW.2.2.2.mono (by decide) (by decide)⟩
            · show Steps p.tables e below (T215.setTop (mkF m 332 #[.val (.long id1), .second, .val (.long idr), .second, .val (.long qt1), .second, .val (.long qtr), .second, .val (.long att), .second, .val (.int fl), .val (.long q3), .second, .val (.int (qt1.toInt32)), .val (.int q8), .val (.int q11), .val (.int q18), .val (.int (Int32.ofNat ma)), .val (.int (Int32.ofNat mb)), .val (.int (att.toInt32)), .val (.int q32), .val (.ref b38), .val (.ref a_63), .val (.ref a_68), .val (.ref a_73), .val (.ref a_78), .val (.ref b80), .val (.ref b97), .val (.int (0 : Int32)), .val .null] [(.int (1 : Int32))])) _
              exact retN X215 hx (t := .boolean) Bd.returns (by simp) (Jvm.hb hby at_332) hr
            · show Q_rmLaw Z _ _ _ _ _ _ _ _ _ _ _ h0 n0 _ T215.heap _
              rw [e215]
              exact ⟨rfl, N215⟩
        · have s217 : ∀ t_, Steps p.tables e below (T126.setTop (mkF m 277 #[.val (.long id1), .second, .val (.long idr), .second, .val (.long qt1), .second, .val (.long qtr), .second, .val (.long att), .second, .val (.int fl), .val (.long q3), .second, .val (.int (qt1.toInt32)), .val (.int q8), .val (.int q11), .val (.int q18), .val (.int (Int32.ofNat ma)), .val (.int (Int32.ofNat mb)), .val (.int (att.toInt32)), .val (.int q32), .val (.ref b38), .val (.ref a_63), .val (.ref a_68), .val (.ref a_73), .val (.ref a_78), .val (.ref b80), .val (.ref b97), .val (.int (0 : Int32)), .val .null] [(.ref b97), (.ref b80)])) t_ → Steps p.tables e below (s₁.setTop (entryFrame m #[(.long id1), (.long idr), (.long qt1), (.long qtr), (.long att), (.int fl)] maxLocals)) t_ := fun t_ k_ => s131 t_ (by
            show Steps p.tables e below (T126.setTop (mkF m 253 #[.val (.long id1), .second, .val (.long idr), .second, .val (.long qt1), .second, .val (.long qtr), .second, .val (.long att), .second, .val (.int fl), .val (.long q3), .second, .val (.int (qt1.toInt32)), .val (.int q8), .val (.int q11), .val (.int q18), .val (.int (Int32.ofNat ma)), .val (.int (Int32.ofNat mb)), .val (.int (att.toInt32)), .val (.int q32), .val (.ref b38), .val (.ref a_63), .val (.ref a_68), .val (.ref a_73), .val (.ref a_78), .val (.ref b80), .val (.ref b97), .unset, .unset] [(.int (Int32.ofNat mb)), (.int (Int32.ofNat ma))])) t_
            refine XS.icmpYes X126.here hx rfl (pc0 := 253) (pc' := 267) rfl (Jvm.hb hby at_253) rfl (feq h132).2 (by decide) (by decide) ?_
            show Steps p.tables e below (T126.setTop (mkF m 267 #[.val (.long id1), .second, .val (.long idr), .second, .val (.long qt1), .second, .val (.long qtr), .second, .val (.long att), .second, .val (.int fl), .val (.long q3), .second, .val (.int (qt1.toInt32)), .val (.int q8), .val (.int q11), .val (.int q18), .val (.int (Int32.ofNat ma)), .val (.int (Int32.ofNat mb)), .val (.int (att.toInt32)), .val (.int q32), .val (.ref b38), .val (.ref a_63), .val (.ref a_68), .val (.ref a_73), .val (.ref a_78), .val (.ref b80), .val (.ref b97), .unset, .unset] [])) _
            refine XS.iconst X126.here hx rfl (Jvm.hb hby at_267) ?_
            refine XS.istore X126.here hx rfl (Jvm.hb hby at_268) rfl (l' := #[.val (.long id1), .second, .val (.long idr), .second, .val (.long qt1), .second, .val (.long qtr), .second, .val (.long att), .second, .val (.int fl), .val (.long q3), .second, .val (.int (qt1.toInt32)), .val (.int q8), .val (.int q11), .val (.int q18), .val (.int (Int32.ofNat ma)), .val (.int (Int32.ofNat mb)), .val (.int (att.toInt32)), .val (.int q32), .val (.ref b38), .val (.ref a_63), .val (.ref a_68), .val (.ref a_73), .val (.ref a_78), .val (.ref b80), .val (.ref b97), .val (.int (0 : Int32)), .unset]) rfl ?_
            refine XS.aconstNull X126.here hx rfl (Jvm.hb hby at_270) ?_
            refine XS.astore X126.here hx rfl (Jvm.hb hby at_271) rfl rfl (l' := #[.val (.long id1), .second, .val (.long idr), .second, .val (.long qt1), .second, .val (.long qtr), .second, .val (.long att), .second, .val (.int fl), .val (.long q3), .second, .val (.int (qt1.toInt32)), .val (.int q8), .val (.int q11), .val (.int q18), .val (.int (Int32.ofNat ma)), .val (.int (Int32.ofNat mb)), .val (.int (att.toInt32)), .val (.int q32), .val (.ref b38), .val (.ref a_63), .val (.ref a_68), .val (.ref a_73), .val (.ref a_78), .val (.ref b80), .val (.ref b97), .val (.int (0 : Int32)), .val .null]) rfl ?_
            refine XS.aload X126.here hx rfl (Jvm.hb hby at_273) rfl rfl ?_
            refine XS.aload X126.here hx rfl (Jvm.hb hby at_275) rfl rfl ?_
            show Steps p.tables e below (T126.setTop (mkF m 277 #[.val (.long id1), .second, .val (.long idr), .second, .val (.long qt1), .second, .val (.long qtr), .second, .val (.long att), .second, .val (.int fl), .val (.long q3), .second, .val (.int (qt1.toInt32)), .val (.int q8), .val (.int q11), .val (.int q18), .val (.int (Int32.ofNat ma)), .val (.int (Int32.ofNat mb)), .val (.int (att.toInt32)), .val (.int q32), .val (.ref b38), .val (.ref a_63), .val (.ref a_68), .val (.ref a_73), .val (.ref a_78), .val (.ref b80), .val (.ref b97), .val (.int (0 : Int32)), .val .null] [(.ref b97), (.ref b80)])) _
            show Steps p.tables e below (T126.setTop (mkF m 277 #[.val (.long id1), .second, .val (.long idr), .second, .val (.long qt1), .second, .val (.long qtr), .second, .val (.long att), .second, .val (.int fl), .val (.long q3), .second, .val (.int (qt1.toInt32)), .val (.int q8), .val (.int q11), .val (.int q18), .val (.int (Int32.ofNat ma)), .val (.int (Int32.ofNat mb)), .val (.int (att.toInt32)), .val (.int q32), .val (.ref b38), .val (.ref a_63), .val (.ref a_68), .val (.ref a_73), .val (.ref a_78), .val (.ref b80), .val (.ref b97), .val (.int (0 : Int32)), .val .null] [(.ref b97), (.ref b80)])) t_
            exact k_)
          have O218 : Old Z n0 h112 := (O105.keep K112 (allS (show n0 ≤ b97 by omega) all0))
          have f219 : Exa Z h112 b80 "com/example/coyote_hill/coyotehill/ItemStatus" := ((Fq95_0.ext E97).keep K112)
          have f220 : Fld Z h112 b80 "com/example/coyote_hill/coyotehill/ItemStatus" "_id" "J" (.long id1) := ((Fq95_1.ext E97).keep K112 (ninS (show @Ne Nat b80 b97 by omega) nin0))
          have f221 : Fld Z h112 b80 "com/example/coyote_hill/coyotehill/ItemStatus" "_queue" "Ljava/lang/String;" (.ref a_63) := ((Fq95_2.ext E97).keep K112 (ninS (show @Ne Nat b80 b97 by omega) nin0))
          have f222 : Fld Z h112 b80 "com/example/coyote_hill/coyotehill/ItemStatus" "_tenant" "Ljava/lang/String;" (.ref a_68) := ((Fq95_3.ext E97).keep K112 (ninS (show @Ne Nat b80 b97 by omega) nin0))
          have f223 : Fld Z h112 b80 "com/example/coyote_hill/coyotehill/ItemStatus" "_state" "Lcom/example/coyote_hill/coyotehill/ItemState;" (.ref s1) := ((Fq95_4.ext E97).keep K112 (ninS (show @Ne Nat b80 b97 by omega) nin0))
          have f224 : Fld Z h112 b80 "com/example/coyote_hill/coyotehill/ItemStatus" "_attempt" "I" (.int (att.toInt32)) := ((Fq95_5.ext E97).keep K112 (ninS (show @Ne Nat b80 b97 by omega) nin0))
          have f225 : Exa Z h112 a_63 "java/lang/String" := (((f92.keep K95).ext E97).keep K112)
          have f226 : Fld Z h112 a_63 "java/lang/String" "value" "[B" (.ref b_63) := (((((((Fq63_1.keep K68 nin0).keep K73 nin0).keep K78 nin0).ext E80).keep K95 (ninS (show @Ne Nat a_63 b80 by omega) nin0)).ext E97).keep K112 (ninS (show @Ne Nat a_63 b97 by omega) nin0))
          have f227 : Fld Z h112 a_63 "java/lang/String" "coder" "B" (.int (own_cod (own_str (qt1.toInt32)))) := (((((((Fq63_2.keep K68 nin0).keep K73 nin0).keep K78 nin0).ext E80).keep K95 (ninS (show @Ne Nat a_63 b80 by omega) nin0)).ext E97).keep K112 (ninS (show @Ne Nat a_63 b97 by omega) nin0))
          have f228 : Arv Z h112 b_63 kb_63 .byte (Int32.ofNat (own_enl (own_str (qt1.toInt32)))) (own_enc (own_str (qt1.toInt32))) (.int (0 : Int32)) := (((((((Fq63_3.keep K68 nin0).keep K73 nin0).keep K78 nin0).ext E80).keep K95 (ninS (Ne.symm (Exa.neArv A80 ((((Fq63_3.keep K68 nin0).keep K73 nin0).keep K78 nin0).ext E80) (hw _ (List.mem_of_getElem? (i := 50) rfl)))) nin0)).ext E97).keep K112 (ninS (Ne.symm (Exa.neArv A97 ((((((Fq63_3.keep K68 nin0).keep K73 nin0).keep K78 nin0).ext E80).keep K95 (ninS (Ne.symm (Exa.neArv A80 ((((Fq63_3.keep K68 nin0).keep K73 nin0).keep K78 nin0).ext E80) (hw _ (List.mem_of_getElem? (i := 50) rfl)))) nin0)).ext E97) (hw _ (List.mem_of_getElem? (i := 50) rfl)))) nin0))
          have f229 : Exa Z h112 a_73 "java/lang/String" := (f109.keep K112)
          have f230 : Fld Z h112 a_73 "java/lang/String" "value" "[B" (.ref b_73) := (((((Fq73_1.keep K78 nin0).ext E80).keep K95 (ninS (show @Ne Nat a_73 b80 by omega) nin0)).ext E97).keep K112 (ninS (show @Ne Nat a_73 b97 by omega) nin0))
          have f231 : Fld Z h112 a_73 "java/lang/String" "coder" "B" (.int (own_cod (own_str q11))) := (((((Fq73_2.keep K78 nin0).ext E80).keep K95 (ninS (show @Ne Nat a_73 b80 by omega) nin0)).ext E97).keep K112 (ninS (show @Ne Nat a_73 b97 by omega) nin0))
          have f232 : Arv Z h112 b_73 kb_73 .byte (Int32.ofNat (own_enl (own_str q11))) (own_enc (own_str q11)) (.int (0 : Int32)) := (((((Fq73_3.keep K78 nin0).ext E80).keep K95 (ninS (Ne.symm (Exa.neArv A80 ((Fq73_3.keep K78 nin0).ext E80) (hw _ (List.mem_of_getElem? (i := 50) rfl)))) nin0)).ext E97).keep K112 (ninS (Ne.symm (Exa.neArv A97 ((((Fq73_3.keep K78 nin0).ext E80).keep K95 (ninS (Ne.symm (Exa.neArv A80 ((Fq73_3.keep K78 nin0).ext E80) (hw _ (List.mem_of_getElem? (i := 50) rfl)))) nin0)).ext E97) (hw _ (List.mem_of_getElem? (i := 50) rfl)))) nin0))
          have f233 : Exa Z h112 a_68 "java/lang/String" := (((f93.keep K95).ext E97).keep K112)
          have f234 : Fld Z h112 a_68 "java/lang/String" "value" "[B" (.ref b_68) := ((((((Fq68_1.keep K73 nin0).keep K78 nin0).ext E80).keep K95 (ninS (show @Ne Nat a_68 b80 by omega) nin0)).ext E97).keep K112 (ninS (show @Ne Nat a_68 b97 by omega) nin0))
          have f235 : Fld Z h112 a_68 "java/lang/String" "coder" "B" (.int (own_cod (own_str q8))) := ((((((Fq68_2.keep K73 nin0).keep K78 nin0).ext E80).keep K95 (ninS (show @Ne Nat a_68 b80 by omega) nin0)).ext E97).keep K112 (ninS (show @Ne Nat a_68 b97 by omega) nin0))
          have f236 : Arv Z h112 b_68 kb_68 .byte (Int32.ofNat (own_enl (own_str q8))) (own_enc (own_str q8)) (.int (0 : Int32)) := ((((((Fq68_3.keep K73 nin0).keep K78 nin0).ext E80).keep K95 (ninS (Ne.symm (Exa.neArv A80 (((Fq68_3.keep K73 nin0).keep K78 nin0).ext E80) (hw _ (List.mem_of_getElem? (i := 50) rfl)))) nin0)).ext E97).keep K112 (ninS (Ne.symm (Exa.neArv A97 (((((Fq68_3.keep K73 nin0).keep K78 nin0).ext E80).keep K95 (ninS (Ne.symm (Exa.neArv A80 (((Fq68_3.keep K73 nin0).keep K78 nin0).ext E80) (hw _ (List.mem_of_getElem? (i := 50) rfl)))) nin0)).ext E97) (hw _ (List.mem_of_getElem? (i := 50) rfl)))) nin0))
          have f237 : Exa Z h112 a_78 "java/lang/String" := (f110.keep K112)
          have f238 : Fld Z h112 a_78 "java/lang/String" "value" "[B" (.ref b_78) := ((((Fq78_1.ext E80).keep K95 (ninS (show @Ne Nat a_78 b80 by omega) nin0)).ext E97).keep K112 (ninS (show @Ne Nat a_78 b97 by omega) nin0))
          have f239 : Fld Z h112 a_78 "java/lang/String" "coder" "B" (.int (own_cod (own_str q18))) := ((((Fq78_2.ext E80).keep K95 (ninS (show @Ne Nat a_78 b80 by omega) nin0)).ext E97).keep K112 (ninS (show @Ne Nat a_78 b97 by omega) nin0))
          have f240 : Arv Z h112 b_78 kb_78 .byte (Int32.ofNat (own_enl (own_str q18))) (own_enc (own_str q18)) (.int (0 : Int32)) := ((((Fq78_3.ext E80).keep K95 (ninS (Ne.symm (Exa.neArv A80 (Fq78_3.ext E80) (hw _ (List.mem_of_getElem? (i := 50) rfl)))) nin0)).ext E97).keep K112 (ninS (Ne.symm (Exa.neArv A97 (((Fq78_3.ext E80).keep K95 (ninS (Ne.symm (Exa.neArv A80 (Fq78_3.ext E80) (hw _ (List.mem_of_getElem? (i := 50) rfl)))) nin0)).ext E97) (hw _ (List.mem_of_getElem? (i := 50) rfl)))) nin0))
          have Zc241 : n0 ≤ h112.size := by omega
          obtain ⟨cq242, kq242, q242a, q242b, q242c⟩ := isOf hZ e126 f219
          obtain ⟨_, _, ⟨T242, L242, k242, n242⟩, -, X242, ⟨Lc242, hQ242, l242, y242, z242⟩, st242⟩ := X126.virtualBack hx (y := (⟨"com/example/coyote_hill/coyotehill/ItemStatus", "equals", "(Ljava/lang/Object;)Z"⟩ : MethodName)) (z := (⟨"com/example/coyote_hill/coyotehill/ItemStatus", "equals", "(Ljava/lang/Object;)Z"⟩ : MethodName)) hown (mvT hZ (hw _ (List.mem_of_getElem? (i := 75) rfl))) (mvT hZ (hw _ (List.mem_of_getElem? (i := 76) rfl))) (notFace_of_selects (args := #[]) (mvT hZ (hw _ (List.mem_of_getElem? (i := 78) rfl)))) (mvT hZ (hw _ (List.mem_of_getElem? (i := 78) rfl))) (mvT hZ (hw _ (List.mem_of_getElem? (i := 77) rfl))) (by decide) (backOf (W := 0) (rmEqO l Z a0 hw [] b80 b97 cst id1 q3 s1 s2 (att.toInt32) q32 a_63 b_63 kb_63 (own_str (qt1.toInt32)) a_73 b_73 kb_73 (own_str q11) a_68 b_68 kb_68 (own_str q8) a_78 b_78 kb_78 (own_str q18) h112 n0 Zc241 I1 O218 (hcst : ¬ (cst = (0 : Int32))) f219 f220 f221 f222 f223 f224 Fq112_0 Fq112_1 Fq112_2 Fq112_3 Fq112_4 Fq112_5 f225 f226 f227 f228 f229 f230 f231 f232 f233 f234 f235 f236 f237 f238 f239 f240 (own_neN (by omega)) (own_neN (by omega)) (own_strchs _) (own_strchs _) (own_strchs _) (own_strchs _) (own_strl _) (own_strl _) (own_strl _) (own_strl _)) hZ (hw _ (List.mem_of_getElem? (i := 79) rfl)) (hw _ (List.mem_of_getElem? (i := 51) rfl)) (by decide) (by decide)) q242a q242c (g := (mkF m 277 #[.val (.long id1), .second, .val (.long idr), .second, .val (.long qt1), .second, .val (.long qtr), .second, .val (.long att), .second, .val (.int fl), .val (.long q3), .second, .val (.int (qt1.toInt32)), .val (.int q8), .val (.int q11), .val (.int q18), .val (.int (Int32.ofNat ma)), .val (.int (Int32.ofNat mb)), .val (.int (att.toInt32)), .val (.int q32), .val (.ref b38), .val (.ref a_63), .val (.ref a_68), .val (.ref a_73), .val (.ref a_78), .val (.ref b80), .val (.ref b97), .val (.int (0 : Int32)), .val .null] [(.ref b97), (.ref b80)])) rfl (by rw [hml]; rfl) (Steps.refl _) (argsL := [(.ref b97)]) (rest := []) (lenOf pd__Ljava_lang_Object__Z rfl) rfl (by show 2 * 0 + _ ≤ _; exact Nat.le_of_eq rfl) (Jvm.hb hby at_277) (fun _ _ => ⟨rfl, e126, (by decide : 39 + 0 ≤ _), (by decide : 226 + 0 ≤ _)⟩)
          dsimp only [Pt.U, Pt.locs, Pt.cells, Pt.slots] at X242 l242 y242 z242 st242 hQ242
          subst l242 y242 z242
          obtain ⟨rfl, N242q, e242⟩ := hQ242
          have N242 := Fr.app N126 N242q
          obtain ⟨q243, hq243⟩ : ∃ z : Int32, z = (if (lcmpW id1 q3) = (0 : Int32) then (if (own_str (qt1.toInt32)) = (own_str q11) then (if (own_str q8) = (own_str q18) then (if s1 = s2 then (if (att.toInt32) = q32 then (1 : Int32) else (0 : Int32)) else (0 : Int32)) else (0 : Int32)) else (0 : Int32)) else (0 : Int32)) := ⟨_, rfl⟩
          rw [← hq243] at st242
          have hE0 : q243 = (0 : Int32) := by rw [hq243, if_pos (hq114.symm.trans h116), if_pos h122, if_pos h129, if_neg (own_stF h132 hmal hmbl hs1 hs2 hab hac had hbc hbd hcd)]
          have s244 : ∀ t_, Steps p.tables e below (T242.setTop (mkF m 289 #[.val (.long id1), .second, .val (.long idr), .second, .val (.long qt1), .second, .val (.long qtr), .second, .val (.long att), .second, .val (.int fl), .val (.long q3), .second, .val (.int (qt1.toInt32)), .val (.int q8), .val (.int q11), .val (.int q18), .val (.int (Int32.ofNat ma)), .val (.int (Int32.ofNat mb)), .val (.int (att.toInt32)), .val (.int q32), .val (.ref b38), .val (.ref a_63), .val (.ref a_68), .val (.ref a_73), .val (.ref a_78), .val (.ref b80), .val (.ref b97), .val (.int (0 : Int32)), .val .null] [(.ref b80), (.ref b97)])) t_ → Steps p.tables e below (s₁.setTop (entryFrame m #[(.long id1), (.long idr), (.long qt1), (.long qtr), (.long att), (.int fl)] maxLocals)) t_ := fun t_ k_ => s217 t_ (by
            show Steps p.tables e below (T126.setTop (mkF m 277 #[.val (.long id1), .second, .val (.long idr), .second, .val (.long qt1), .second, .val (.long qtr), .second, .val (.long att), .second, .val (.int fl), .val (.long q3), .second, .val (.int (qt1.toInt32)), .val (.int q8), .val (.int q11), .val (.int q18), .val (.int (Int32.ofNat ma)), .val (.int (Int32.ofNat mb)), .val (.int (att.toInt32)), .val (.int q32), .val (.ref b38), .val (.ref a_63), .val (.ref a_68), .val (.ref a_73), .val (.ref a_78), .val (.ref b80), .val (.ref b97), .val (.int (0 : Int32)), .val .null] [(.ref b97), (.ref b80)])) t_
            refine st242.trans ?_
            show Steps p.tables e below (T242.setTop (mkF m 280 #[.val (.long id1), .second, .val (.long idr), .second, .val (.long qt1), .second, .val (.long qtr), .second, .val (.long att), .second, .val (.int fl), .val (.long q3), .second, .val (.int (qt1.toInt32)), .val (.int q8), .val (.int q11), .val (.int q18), .val (.int (Int32.ofNat ma)), .val (.int (Int32.ofNat mb)), .val (.int (att.toInt32)), .val (.int q32), .val (.ref b38), .val (.ref a_63), .val (.ref a_68), .val (.ref a_73), .val (.ref a_78), .val (.ref b80), .val (.ref b97), .val (.int (0 : Int32)), .val .null] [(.int q243)])) _
            refine XS.iload X242.here hx rfl (Jvm.hb hby at_280) rfl ?_
            refine XS.icmpNo X242.here hx rfl (Jvm.hb hby at_282) rfl (teq hE0).2 ?_
            show Steps p.tables e below (T242.setTop (mkF m 285 #[.val (.long id1), .second, .val (.long idr), .second, .val (.long qt1), .second, .val (.long qtr), .second, .val (.long att), .second, .val (.int fl), .val (.long q3), .second, .val (.int (qt1.toInt32)), .val (.int q8), .val (.int q11), .val (.int q18), .val (.int (Int32.ofNat ma)), .val (.int (Int32.ofNat mb)), .val (.int (att.toInt32)), .val (.int q32), .val (.ref b38), .val (.ref a_63), .val (.ref a_68), .val (.ref a_73), .val (.ref a_78), .val (.ref b80), .val (.ref b97), .val (.int (0 : Int32)), .val .null] [])) _
            refine XS.aload X242.here hx rfl (Jvm.hb hby at_285) rfl rfl ?_
            refine XS.aload X242.here hx rfl (Jvm.hb hby at_287) rfl rfl ?_
            show Steps p.tables e below (T242.setTop (mkF m 289 #[.val (.long id1), .second, .val (.long idr), .second, .val (.long qt1), .second, .val (.long qtr), .second, .val (.long att), .second, .val (.int fl), .val (.long q3), .second, .val (.int (qt1.toInt32)), .val (.int q8), .val (.int q11), .val (.int q18), .val (.int (Int32.ofNat ma)), .val (.int (Int32.ofNat mb)), .val (.int (att.toInt32)), .val (.int q32), .val (.ref b38), .val (.ref a_63), .val (.ref a_68), .val (.ref a_73), .val (.ref a_78), .val (.ref b80), .val (.ref b97), .val (.int (0 : Int32)), .val .null] [(.ref b80), (.ref b97)])) t_
            exact k_)
          have Zc245 : n0 ≤ h112.size := by omega
          obtain ⟨cq246, kq246, q246a, q246b, q246c⟩ := isOf hZ e242 Fq112_0
          obtain ⟨_, _, ⟨T246, L246, k246, n246⟩, -, X246, ⟨Lc246, hQ246, l246, y246, z246⟩, st246⟩ := X242.virtualBack hx (y := (⟨"com/example/coyote_hill/coyotehill/ItemStatus", "equals", "(Ljava/lang/Object;)Z"⟩ : MethodName)) (z := (⟨"com/example/coyote_hill/coyotehill/ItemStatus", "equals", "(Ljava/lang/Object;)Z"⟩ : MethodName)) hown (mvT hZ (hw _ (List.mem_of_getElem? (i := 75) rfl))) (mvT hZ (hw _ (List.mem_of_getElem? (i := 76) rfl))) (notFace_of_selects (args := #[]) (mvT hZ (hw _ (List.mem_of_getElem? (i := 78) rfl)))) (mvT hZ (hw _ (List.mem_of_getElem? (i := 78) rfl))) (mvT hZ (hw _ (List.mem_of_getElem? (i := 77) rfl))) (by decide) (backOf (W := 0) (rmEqO l Z a0 hw [] b97 b80 cst q3 id1 s2 s1 q32 (att.toInt32) a_73 b_73 kb_73 (own_str q11) a_63 b_63 kb_63 (own_str (qt1.toInt32)) a_78 b_78 kb_78 (own_str q18) a_68 b_68 kb_68 (own_str q8) h112 n0 Zc245 I1 O218 (hcst : ¬ (cst = (0 : Int32))) Fq112_0 Fq112_1 Fq112_2 Fq112_3 Fq112_4 Fq112_5 f219 f220 f221 f222 f223 f224 f229 f230 f231 f232 f225 f226 f227 f228 f237 f238 f239 f240 f233 f234 f235 f236 (own_neN (by omega)) (own_neN (by omega)) (own_strchs _) (own_strchs _) (own_strchs _) (own_strchs _) (own_strl _) (own_strl _) (own_strl _) (own_strl _)) hZ (hw _ (List.mem_of_getElem? (i := 79) rfl)) (hw _ (List.mem_of_getElem? (i := 51) rfl)) (by decide) (by decide)) q246a q246c (g := (mkF m 289 #[.val (.long id1), .second, .val (.long idr), .second, .val (.long qt1), .second, .val (.long qtr), .second, .val (.long att), .second, .val (.int fl), .val (.long q3), .second, .val (.int (qt1.toInt32)), .val (.int q8), .val (.int q11), .val (.int q18), .val (.int (Int32.ofNat ma)), .val (.int (Int32.ofNat mb)), .val (.int (att.toInt32)), .val (.int q32), .val (.ref b38), .val (.ref a_63), .val (.ref a_68), .val (.ref a_73), .val (.ref a_78), .val (.ref b80), .val (.ref b97), .val (.int (0 : Int32)), .val .null] [(.ref b80), (.ref b97)])) rfl (by rw [hml]; rfl) (Steps.refl _) (argsL := [(.ref b80)]) (rest := []) (lenOf pd__Ljava_lang_Object__Z rfl) rfl (by show 2 * 0 + _ ≤ _; exact Nat.le_of_eq rfl) (Jvm.hb hby at_289) (fun _ _ => ⟨rfl, e242, (by decide : 39 + 0 ≤ _), (by decide : 226 + 0 ≤ _)⟩)
          dsimp only [Pt.U, Pt.locs, Pt.cells, Pt.slots] at X246 l246 y246 z246 st246 hQ246
          subst l246 y246 z246
          obtain ⟨rfl, N246q, e246⟩ := hQ246
          have N246 := Fr.app N242 N246q
          obtain ⟨q247, hq247⟩ : ∃ z : Int32, z = (if (lcmpW q3 id1) = (0 : Int32) then (if (own_str q11) = (own_str (qt1.toInt32)) then (if (own_str q18) = (own_str q8) then (if s2 = s1 then (if q32 = (att.toInt32) then (1 : Int32) else (0 : Int32)) else (0 : Int32)) else (0 : Int32)) else (0 : Int32)) else (0 : Int32)) := ⟨_, rfl⟩
          rw [← hq247] at st246
          have hE1 : q247 = (0 : Int32) := by rw [hq247, if_pos (own_lcs (hq114.symm.trans h116)), if_pos (Eq.symm h122), if_pos (Eq.symm h129), if_neg (fun q => (own_stF h132 hmal hmbl hs1 hs2 hab hac had hbc hbd hcd) q.symm)]
          have s248 : ∀ t_, Steps p.tables e below (T246.setTop (mkF m 301 #[.val (.long id1), .second, .val (.long idr), .second, .val (.long qt1), .second, .val (.long qtr), .second, .val (.long att), .second, .val (.int fl), .val (.long q3), .second, .val (.int (qt1.toInt32)), .val (.int q8), .val (.int q11), .val (.int q18), .val (.int (Int32.ofNat ma)), .val (.int (Int32.ofNat mb)), .val (.int (att.toInt32)), .val (.int q32), .val (.ref b38), .val (.ref a_63), .val (.ref a_68), .val (.ref a_73), .val (.ref a_78), .val (.ref b80), .val (.ref b97), .val (.int (0 : Int32)), .val .null] [(.ref b80), (.ref b80)])) t_ → Steps p.tables e below (s₁.setTop (entryFrame m #[(.long id1), (.long idr), (.long qt1), (.long qtr), (.long att), (.int fl)] maxLocals)) t_ := fun t_ k_ => s244 t_ (by
            show Steps p.tables e below (T242.setTop (mkF m 289 #[.val (.long id1), .second, .val (.long idr), .second, .val (.long qt1), .second, .val (.long qtr), .second, .val (.long att), .second, .val (.int fl), .val (.long q3), .second, .val (.int (qt1.toInt32)), .val (.int q8), .val (.int q11), .val (.int q18), .val (.int (Int32.ofNat ma)), .val (.int (Int32.ofNat mb)), .val (.int (att.toInt32)), .val (.int q32), .val (.ref b38), .val (.ref a_63), .val (.ref a_68), .val (.ref a_73), .val (.ref a_78), .val (.ref b80), .val (.ref b97), .val (.int (0 : Int32)), .val .null] [(.ref b80), (.ref b97)])) t_
            refine st246.trans ?_
            show Steps p.tables e below (T246.setTop (mkF m 292 #[.val (.long id1), .second, .val (.long idr), .second, .val (.long qt1), .second, .val (.long qtr), .second, .val (.long att), .second, .val (.int fl), .val (.long q3), .second, .val (.int (qt1.toInt32)), .val (.int q8), .val (.int q11), .val (.int q18), .val (.int (Int32.ofNat ma)), .val (.int (Int32.ofNat mb)), .val (.int (att.toInt32)), .val (.int q32), .val (.ref b38), .val (.ref a_63), .val (.ref a_68), .val (.ref a_73), .val (.ref a_78), .val (.ref b80), .val (.ref b97), .val (.int (0 : Int32)), .val .null] [(.int q247)])) _
            refine XS.iload X246.here hx rfl (Jvm.hb hby at_292) rfl ?_
            refine XS.icmpNo X246.here hx rfl (Jvm.hb hby at_294) rfl (teq hE1).2 ?_
            show Steps p.tables e below (T246.setTop (mkF m 297 #[.val (.long id1), .second, .val (.long idr), .second, .val (.long qt1), .second, .val (.long qtr), .second, .val (.long att), .second, .val (.int fl), .val (.long q3), .second, .val (.int (qt1.toInt32)), .val (.int q8), .val (.int q11), .val (.int q18), .val (.int (Int32.ofNat ma)), .val (.int (Int32.ofNat mb)), .val (.int (att.toInt32)), .val (.int q32), .val (.ref b38), .val (.ref a_63), .val (.ref a_68), .val (.ref a_73), .val (.ref a_78), .val (.ref b80), .val (.ref b97), .val (.int (0 : Int32)), .val .null] [])) _
            refine XS.aload X246.here hx rfl (Jvm.hb hby at_297) rfl rfl ?_
            refine XS.aload X246.here hx rfl (Jvm.hb hby at_299) rfl rfl ?_
            show Steps p.tables e below (T246.setTop (mkF m 301 #[.val (.long id1), .second, .val (.long idr), .second, .val (.long qt1), .second, .val (.long qtr), .second, .val (.long att), .second, .val (.int fl), .val (.long q3), .second, .val (.int (qt1.toInt32)), .val (.int q8), .val (.int q11), .val (.int q18), .val (.int (Int32.ofNat ma)), .val (.int (Int32.ofNat mb)), .val (.int (att.toInt32)), .val (.int q32), .val (.ref b38), .val (.ref a_63), .val (.ref a_68), .val (.ref a_73), .val (.ref a_78), .val (.ref b80), .val (.ref b97), .val (.int (0 : Int32)), .val .null] [(.ref b80), (.ref b80)])) t_
            exact k_)
          have Zc249 : n0 ≤ h112.size := by omega
          obtain ⟨cq250, kq250, q250a, q250b, q250c⟩ := isOf hZ e246 f219
          obtain ⟨_, _, ⟨T250, L250, k250, n250⟩, -, X250, ⟨Lc250, hQ250, l250, y250, z250⟩, st250⟩ := X246.virtualBack hx (y := (⟨"com/example/coyote_hill/coyotehill/ItemStatus", "equals", "(Ljava/lang/Object;)Z"⟩ : MethodName)) (z := (⟨"com/example/coyote_hill/coyotehill/ItemStatus", "equals", "(Ljava/lang/Object;)Z"⟩ : MethodName)) hown (mvT hZ (hw _ (List.mem_of_getElem? (i := 75) rfl))) (mvT hZ (hw _ (List.mem_of_getElem? (i := 76) rfl))) (notFace_of_selects (args := #[]) (mvT hZ (hw _ (List.mem_of_getElem? (i := 78) rfl)))) (mvT hZ (hw _ (List.mem_of_getElem? (i := 78) rfl))) (mvT hZ (hw _ (List.mem_of_getElem? (i := 77) rfl))) (by decide) (backOf (W := 0) (rmEqS l Z a0 hw [] b80 id1 a_63 a_68 s1 (att.toInt32) h112 n0 Zc249 f219 f220 f221 f222 f223 f224 f225 f233) hZ (hw _ (List.mem_of_getElem? (i := 79) rfl)) (hw _ (List.mem_of_getElem? (i := 51) rfl)) (by decide) (by decide)) q250a q250c (g := (mkF m 301 #[.val (.long id1), .second, .val (.long idr), .second, .val (.long qt1), .second, .val (.long qtr), .second, .val (.long att), .second, .val (.int fl), .val (.long q3), .second, .val (.int (qt1.toInt32)), .val (.int q8), .val (.int q11), .val (.int q18), .val (.int (Int32.ofNat ma)), .val (.int (Int32.ofNat mb)), .val (.int (att.toInt32)), .val (.int q32), .val (.ref b38), .val (.ref a_63), .val (.ref a_68), .val (.ref a_73), .val (.ref a_78), .val (.ref b80), .val (.ref b97), .val (.int (0 : Int32)), .val .null] [(.ref b80), (.ref b80)])) rfl (by rw [hml]; rfl) (Steps.refl _) (argsL := [(.ref b80)]) (rest := []) (lenOf pd__Ljava_lang_Object__Z rfl) rfl (by show 2 * 0 + _ ≤ _; exact Nat.le_of_eq rfl) (Jvm.hb hby at_301) (fun _ _ => ⟨rfl, e246, (by decide : 39 + 0 ≤ _), (by decide : 226 + 0 ≤ _)⟩)
          dsimp only [Pt.U, Pt.locs, Pt.cells, Pt.slots] at X250 l250 y250 z250 st250 hQ250
          subst l250 y250 z250
          obtain ⟨rfl, N250q, e250⟩ := hQ250
          have N250 := Fr.app N246 N250q
          have s251 : ∀ t_, Steps p.tables e below (T250.setTop (mkF m 311 #[.val (.long id1), .second, .val (.long idr), .second, .val (.long qt1), .second, .val (.long qtr), .second, .val (.long att), .second, .val (.int fl), .val (.long q3), .second, .val (.int (qt1.toInt32)), .val (.int q8), .val (.int q11), .val (.int q18), .val (.int (Int32.ofNat ma)), .val (.int (Int32.ofNat mb)), .val (.int (att.toInt32)), .val (.int q32), .val (.ref b38), .val (.ref a_63), .val (.ref a_68), .val (.ref a_73), .val (.ref a_78), .val (.ref b80), .val (.ref b97), .val (.int (0 : Int32)), .val .null] [.null, (.ref b80)])) t_ → Steps p.tables e below (s₁.setTop (entryFrame m #[(.long id1), (.long idr), (.long qt1), (.long qtr), (.long att), (.int fl)] maxLocals)) t_ := fun t_ k_ => s248 t_ (by
            show Steps p.tables e below (T246.setTop (mkF m 301 #[.val (.long id1), .second, .val (.long idr), .second, .val (.long qt1), .second, .val (.long qtr), .second, .val (.long att), .second, .val (.int fl), .val (.long q3), .second, .val (.int (qt1.toInt32)), .val (.int q8), .val (.int q11), .val (.int q18), .val (.int (Int32.ofNat ma)), .val (.int (Int32.ofNat mb)), .val (.int (att.toInt32)), .val (.int q32), .val (.ref b38), .val (.ref a_63), .val (.ref a_68), .val (.ref a_73), .val (.ref a_78), .val (.ref b80), .val (.ref b97), .val (.int (0 : Int32)), .val .null] [(.ref b80), (.ref b80)])) t_
            refine st250.trans ?_
            show Steps p.tables e below (T250.setTop (mkF m 304 #[.val (.long id1), .second, .val (.long idr), .second, .val (.long qt1), .second, .val (.long qtr), .second, .val (.long att), .second, .val (.int fl), .val (.long q3), .second, .val (.int (qt1.toInt32)), .val (.int q8), .val (.int q11), .val (.int q18), .val (.int (Int32.ofNat ma)), .val (.int (Int32.ofNat mb)), .val (.int (att.toInt32)), .val (.int q32), .val (.ref b38), .val (.ref a_63), .val (.ref a_68), .val (.ref a_73), .val (.ref a_78), .val (.ref b80), .val (.ref b97), .val (.int (0 : Int32)), .val .null] [(.int (1 : Int32))])) _
            refine XS.ifNo X250.here hx rfl (Jvm.hb hby at_304) rfl ((if0 _ _).trans (feq (by decide : ¬ ((1 : Int32) = (0 : Int32)))).1) ?_
            show Steps p.tables e below (T250.setTop (mkF m 307 #[.val (.long id1), .second, .val (.long idr), .second, .val (.long qt1), .second, .val (.long qtr), .second, .val (.long att), .second, .val (.int fl), .val (.long q3), .second, .val (.int (qt1.toInt32)), .val (.int q8), .val (.int q11), .val (.int q18), .val (.int (Int32.ofNat ma)), .val (.int (Int32.ofNat mb)), .val (.int (att.toInt32)), .val (.int q32), .val (.ref b38), .val (.ref a_63), .val (.ref a_68), .val (.ref a_73), .val (.ref a_78), .val (.ref b80), .val (.ref b97), .val (.int (0 : Int32)), .val .null] [])) _
            refine XS.aload X250.here hx rfl (Jvm.hb hby at_307) rfl rfl ?_
            refine XS.aload X250.here hx rfl (Jvm.hb hby at_309) rfl rfl ?_
            show Steps p.tables e below (T250.setTop (mkF m 311 #[.val (.long id1), .second, .val (.long idr), .second, .val (.long qt1), .second, .val (.long qtr), .second, .val (.long att), .second, .val (.int fl), .val (.long q3), .second, .val (.int (qt1.toInt32)), .val (.int q8), .val (.int q11), .val (.int q18), .val (.int (Int32.ofNat ma)), .val (.int (Int32.ofNat mb)), .val (.int (att.toInt32)), .val (.int q32), .val (.ref b38), .val (.ref a_63), .val (.ref a_68), .val (.ref a_73), .val (.ref a_78), .val (.ref b80), .val (.ref b97), .val (.int (0 : Int32)), .val .null] [.null, (.ref b80)])) t_
            exact k_)
          have Zc252 : n0 ≤ h112.size := by omega
          obtain ⟨cq253, kq253, q253a, q253b, q253c⟩ := isOf hZ e250 f219
          obtain ⟨_, _, ⟨T253, L253, k253, n253⟩, -, X253, ⟨Lc253, hQ253, l253, y253, z253⟩, st253⟩ := X250.virtualBack hx (y := (⟨"com/example/coyote_hill/coyotehill/ItemStatus", "equals", "(Ljava/lang/Object;)Z"⟩ : MethodName)) (z := (⟨"com/example/coyote_hill/coyotehill/ItemStatus", "equals", "(Ljava/lang/Object;)Z"⟩ : MethodName)) hown (mvT hZ (hw _ (List.mem_of_getElem? (i := 75) rfl))) (mvT hZ (hw _ (List.mem_of_getElem? (i := 76) rfl))) (notFace_of_selects (args := #[]) (mvT hZ (hw _ (List.mem_of_getElem? (i := 78) rfl)))) (mvT hZ (hw _ (List.mem_of_getElem? (i := 78) rfl))) (mvT hZ (hw _ (List.mem_of_getElem? (i := 77) rfl))) (by decide) (backOf (W := 0) (rmEqN l Z a0 hw [] b80 h112 n0 Zc252) hZ (hw _ (List.mem_of_getElem? (i := 79) rfl)) (hw _ (List.mem_of_getElem? (i := 51) rfl)) (by decide) (by decide)) q253a q253c (g := (mkF m 311 #[.val (.long id1), .second, .val (.long idr), .second, .val (.long qt1), .second, .val (.long qtr), .second, .val (.long att), .second, .val (.int fl), .val (.long q3), .second, .val (.int (qt1.toInt32)), .val (.int q8), .val (.int q11), .val (.int q18), .val (.int (Int32.ofNat ma)), .val (.int (Int32.ofNat mb)), .val (.int (att.toInt32)), .val (.int q32), .val (.ref b38), .val (.ref a_63), .val (.ref a_68), .val (.ref a_73), .val (.ref a_78), .val (.ref b80), .val (.ref b97), .val (.int (0 : Int32)), .val .null] [.null, (.ref b80)])) rfl (by rw [hml]; rfl) (Steps.refl _) (argsL := [.null]) (rest := []) (lenOf pd__Ljava_lang_Object__Z rfl) rfl (by show 2 * 0 + _ ≤ _; exact Nat.le_of_eq rfl) (Jvm.hb hby at_311) (fun _ _ => ⟨rfl, e250, (by decide : 39 + 0 ≤ _), (by decide : 226 + 0 ≤ _)⟩)
          dsimp only [Pt.U, Pt.locs, Pt.cells, Pt.slots] at X253 l253 y253 z253 st253 hQ253
          subst l253 y253 z253
          obtain ⟨rfl, N253q, e253⟩ := hQ253
          have N253 := Fr.app N250 N253q
          have s254 : ∀ t_, Steps p.tables e below (T253.setTop (mkF m 321 #[.val (.long id1), .second, .val (.long idr), .second, .val (.long qt1), .second, .val (.long qtr), .second, .val (.long att), .second, .val (.int fl), .val (.long q3), .second, .val (.int (qt1.toInt32)), .val (.int q8), .val (.int q11), .val (.int q18), .val (.int (Int32.ofNat ma)), .val (.int (Int32.ofNat mb)), .val (.int (att.toInt32)), .val (.int q32), .val (.ref b38), .val (.ref a_63), .val (.ref a_68), .val (.ref a_73), .val (.ref a_78), .val (.ref b80), .val (.ref b97), .val (.int (0 : Int32)), .val .null] [(.ref a_63), (.ref b80)])) t_ → Steps p.tables e below (s₁.setTop (entryFrame m #[(.long id1), (.long idr), (.long qt1), (.long qtr), (.long att), (.int fl)] maxLocals)) t_ := fun t_ k_ => s251 t_ (by
            show Steps p.tables e below (T250.setTop (mkF m 311 #[.val (.long id1), .second, .val (.long idr), .second, .val (.long qt1), .second, .val (.long qtr), .second, .val (.long att), .second, .val (.int fl), .val (.long q3), .second, .val (.int (qt1.toInt32)), .val (.int q8), .val (.int q11), .val (.int q18), .val (.int (Int32.ofNat ma)), .val (.int (Int32.ofNat mb)), .val (.int (att.toInt32)), .val (.int q32), .val (.ref b38), .val (.ref a_63), .val (.ref a_68), .val (.ref a_73), .val (.ref a_78), .val (.ref b80), .val (.ref b97), .val (.int (0 : Int32)), .val .null] [.null, (.ref b80)])) t_
            refine st253.trans ?_
            show Steps p.tables e below (T253.setTop (mkF m 314 #[.val (.long id1), .second, .val (.long idr), .second, .val (.long qt1), .second, .val (.long qtr), .second, .val (.long att), .second, .val (.int fl), .val (.long q3), .second, .val (.int (qt1.toInt32)), .val (.int q8), .val (.int q11), .val (.int q18), .val (.int (Int32.ofNat ma)), .val (.int (Int32.ofNat mb)), .val (.int (att.toInt32)), .val (.int q32), .val (.ref b38), .val (.ref a_63), .val (.ref a_68), .val (.ref a_73), .val (.ref a_78), .val (.ref b80), .val (.ref b97), .val (.int (0 : Int32)), .val .null] [(.int (0 : Int32))])) _
            refine XS.ifNo X253.here hx rfl (Jvm.hb hby at_314) rfl ((if0 _ _).trans (teq (rfl : (0 : Int32) = (0 : Int32))).2) ?_
            show Steps p.tables e below (T253.setTop (mkF m 317 #[.val (.long id1), .second, .val (.long idr), .second, .val (.long qt1), .second, .val (.long qtr), .second, .val (.long att), .second, .val (.int fl), .val (.long q3), .second, .val (.int (qt1.toInt32)), .val (.int q8), .val (.int q11), .val (.int q18), .val (.int (Int32.ofNat ma)), .val (.int (Int32.ofNat mb)), .val (.int (att.toInt32)), .val (.int q32), .val (.ref b38), .val (.ref a_63), .val (.ref a_68), .val (.ref a_73), .val (.ref a_78), .val (.ref b80), .val (.ref b97), .val (.int (0 : Int32)), .val .null] [])) _
            refine XS.aload X253.here hx rfl (Jvm.hb hby at_317) rfl rfl ?_
            refine XS.aload X253.here hx rfl (Jvm.hb hby at_319) rfl rfl ?_
            show Steps p.tables e below (T253.setTop (mkF m 321 #[.val (.long id1), .second, .val (.long idr), .second, .val (.long qt1), .second, .val (.long qtr), .second, .val (.long att), .second, .val (.int fl), .val (.long q3), .second, .val (.int (qt1.toInt32)), .val (.int q8), .val (.int q11), .val (.int q18), .val (.int (Int32.ofNat ma)), .val (.int (Int32.ofNat mb)), .val (.int (att.toInt32)), .val (.int q32), .val (.ref b38), .val (.ref a_63), .val (.ref a_68), .val (.ref a_73), .val (.ref a_78), .val (.ref b80), .val (.ref b97), .val (.int (0 : Int32)), .val .null] [(.ref a_63), (.ref b80)])) t_
            exact k_)
          have Zc255 : n0 ≤ h112.size := by omega
          obtain ⟨cq256, kq256, q256a, q256b, q256c⟩ := isOf hZ e253 f219
          obtain ⟨_, _, ⟨T256, L256, k256, n256⟩, -, X256, ⟨Lc256, hQ256, l256, y256, z256⟩, st256⟩ := X253.virtualBack hx (y := (⟨"com/example/coyote_hill/coyotehill/ItemStatus", "equals", "(Ljava/lang/Object;)Z"⟩ : MethodName)) (z := (⟨"com/example/coyote_hill/coyotehill/ItemStatus", "equals", "(Ljava/lang/Object;)Z"⟩ : MethodName)) hown (mvT hZ (hw _ (List.mem_of_getElem? (i := 75) rfl))) (mvT hZ (hw _ (List.mem_of_getElem? (i := 76) rfl))) (notFace_of_selects (args := #[]) (mvT hZ (hw _ (List.mem_of_getElem? (i := 78) rfl)))) (mvT hZ (hw _ (List.mem_of_getElem? (i := 78) rfl))) (mvT hZ (hw _ (List.mem_of_getElem? (i := 77) rfl))) (by decide) (backOf (W := 0) (rmEqX l Z a0 hw [] b80 a_63 h112 n0 Zc255 f225) hZ (hw _ (List.mem_of_getElem? (i := 79) rfl)) (hw _ (List.mem_of_getElem? (i := 51) rfl)) (by decide) (by decide)) q256a q256c (g := (mkF m 321 #[.val (.long id1), .second, .val (.long idr), .second, .val (.long qt1), .second, .val (.long qtr), .second, .val (.long att), .second, .val (.int fl), .val (.long q3), .second, .val (.int (qt1.toInt32)), .val (.int q8), .val (.int q11), .val (.int q18), .val (.int (Int32.ofNat ma)), .val (.int (Int32.ofNat mb)), .val (.int (att.toInt32)), .val (.int q32), .val (.ref b38), .val (.ref a_63), .val (.ref a_68), .val (.ref a_73), .val (.ref a_78), .val (.ref b80), .val (.ref b97), .val (.int (0 : Int32)), .val .null] [(.ref a_63), (.ref b80)])) rfl (by rw [hml]; rfl) (Steps.refl _) (argsL := [(.ref a_63)]) (rest := []) (lenOf pd__Ljava_lang_Object__Z rfl) rfl (by show 2 * 0 + _ ≤ _; exact Nat.le_of_eq rfl) (Jvm.hb hby at_321) (fun _ _ => ⟨rfl, e253, (by decide : 39 + 0 ≤ _), (by decide : 226 + 0 ≤ _)⟩)
          dsimp only [Pt.U, Pt.locs, Pt.cells, Pt.slots] at X256 l256 y256 z256 st256 hQ256
          subst l256 y256 z256
          obtain ⟨rfl, N256q, e256⟩ := hQ256
          have N256 := Fr.app N253 N256q
          have s257 : ∀ t_, Steps p.tables e below (T256.setTop (mkF m 332 #[.val (.long id1), .second, .val (.long idr), .second, .val (.long qt1), .second, .val (.long qtr), .second, .val (.long att), .second, .val (.int fl), .val (.long q3), .second, .val (.int (qt1.toInt32)), .val (.int q8), .val (.int q11), .val (.int q18), .val (.int (Int32.ofNat ma)), .val (.int (Int32.ofNat mb)), .val (.int (att.toInt32)), .val (.int q32), .val (.ref b38), .val (.ref a_63), .val (.ref a_68), .val (.ref a_73), .val (.ref a_78), .val (.ref b80), .val (.ref b97), .val (.int (0 : Int32)), .val .null] [(.int (1 : Int32))])) t_ → Steps p.tables e below (s₁.setTop (entryFrame m #[(.long id1), (.long idr), (.long qt1), (.long qtr), (.long att), (.int fl)] maxLocals)) t_ := fun t_ k_ => s254 t_ (by
            show Steps p.tables e below (T253.setTop (mkF m 321 #[.val (.long id1), .second, .val (.long idr), .second, .val (.long qt1), .second, .val (.long qtr), .second, .val (.long att), .second, .val (.int fl), .val (.long q3), .second, .val (.int (qt1.toInt32)), .val (.int q8), .val (.int q11), .val (.int q18), .val (.int (Int32.ofNat ma)), .val (.int (Int32.ofNat mb)), .val (.int (att.toInt32)), .val (.int q32), .val (.ref b38), .val (.ref a_63), .val (.ref a_68), .val (.ref a_73), .val (.ref a_78), .val (.ref b80), .val (.ref b97), .val (.int (0 : Int32)), .val .null] [(.ref a_63), (.ref b80)])) t_
            refine st256.trans ?_
            show Steps p.tables e below (T256.setTop (mkF m 324 #[.val (.long id1), .second, .val (.long idr), .second, .val (.long qt1), .second, .val (.long qtr), .second, .val (.long att), .second, .val (.int fl), .val (.long q3), .second, .val (.int (qt1.toInt32)), .val (.int q8), .val (.int q11), .val (.int q18), .val (.int (Int32.ofNat ma)), .val (.int (Int32.ofNat mb)), .val (.int (att.toInt32)), .val (.int q32), .val (.ref b38), .val (.ref a_63), .val (.ref a_68), .val (.ref a_73), .val (.ref a_78), .val (.ref b80), .val (.ref b97), .val (.int (0 : Int32)), .val .null] [(.int (0 : Int32))])) _
            refine XS.ifNo X256.here hx rfl (Jvm.hb hby at_324) rfl ((if0 _ _).trans (teq (rfl : (0 : Int32) = (0 : Int32))).2) ?_
            show Steps p.tables e below (T256.setTop (mkF m 327 #[.val (.long id1), .second, .val (.long idr), .second, .val (.long qt1), .second, .val (.long qtr), .second, .val (.long att), .second, .val (.int fl), .val (.long q3), .second, .val (.int (qt1.toInt32)), .val (.int q8), .val (.int q11), .val (.int q18), .val (.int (Int32.ofNat ma)), .val (.int (Int32.ofNat mb)), .val (.int (att.toInt32)), .val (.int q32), .val (.ref b38), .val (.ref a_63), .val (.ref a_68), .val (.ref a_73), .val (.ref a_78), .val (.ref b80), .val (.ref b97), .val (.int (0 : Int32)), .val .null] [])) _
            refine XS.iconst X256.here hx rfl (Jvm.hb hby at_327) ?_
            refine XS.goto X256.here hx rfl (pc0 := 328) (pc' := 332) rfl (Jvm.hb hby at_328) (by decide) (by decide) ?_
            show Steps p.tables e below (T256.setTop (mkF m 332 #[.val (.long id1), .second, .val (.long idr), .second, .val (.long qt1), .second, .val (.long qtr), .second, .val (.long att), .second, .val (.int fl), .val (.long q3), .second, .val (.int (qt1.toInt32)), .val (.int q8), .val (.int q11), .val (.int q18), .val (.int (Int32.ofNat ma)), .val (.int (Int32.ofNat mb)), .val (.int (att.toInt32)), .val (.int q32), .val (.ref b38), .val (.ref a_63), .val (.ref a_68), .val (.ref a_73), .val (.ref a_78), .val (.ref b80), .val (.ref b97), .val (.int (0 : Int32)), .val .null] [(.int (1 : Int32))])) t_
            exact k_)
          obtain ⟨fs, hr, hrun, hended, hREW⟩ := X256.leaveW hS (by first | exact Nat.le_refl _ | (rw [e256]; exact hk)) (v := some (.int (1 : Int32))) (fun h => by rw [Bd.returns] at h; cases h)
          refine ⟨_, _, s257 _ ?_, hrun, hended, _, _, rfl, ?_, (by show CHr Z ELs s.vm s.heap T256.vm T256.heap; rw [hh, e256]; exact CR.trans (CHv.at X256 hZ hEL CR.1)), hREW.1, hREW.2.1, hREW.2.2.1, hREW.2.2.2.mono (by decide) (by decide)⟩
          · show Steps p.tables e below (T256.setTop (mkF m 332 #[.val (.long id1), .second, .val (.long idr), .second, .val (.long qt1), .second, .val (.long qtr), .second, .val (.long att), .second, .val (.int fl), .val (.long q3), .second, .val (.int (qt1.toInt32)), .val (.int q8), .val (.int q11), .val (.int q18), .val (.int (Int32.ofNat ma)), .val (.int (Int32.ofNat mb)), .val (.int (att.toInt32)), .val (.int q32), .val (.ref b38), .val (.ref a_63), .val (.ref a_68), .val (.ref a_73), .val (.ref a_78), .val (.ref b80), .val (.ref b97), .val (.int (0 : Int32)), .val .null] [(.int (1 : Int32))])) _
            exact retN X256 hx (t := .boolean) Bd.returns (by simp) (Jvm.hb hby at_332) hr
          · show Q_rmLaw Z _ _ _ _ _ _ _ _ _ _ _ h0 n0 _ T256.heap _
            rw [e256]
            exact ⟨rfl, N256⟩
      · have s258 : ∀ t_, Steps p.tables e below (T126.setTop (mkF m 246 #[.val (.long id1), .second, .val (.long idr), .second, .val (.long qt1), .second, .val (.long qtr), .second, .val (.long att), .second, .val (.int fl), .val (.long q3), .second, .val (.int (qt1.toInt32)), .val (.int q8), .val (.int q11), .val (.int q18), .val (.int (Int32.ofNat ma)), .val (.int (Int32.ofNat mb)), .val (.int (att.toInt32)), .val (.int q32), .val (.ref b38), .val (.ref a_63), .val (.ref a_68), .val (.ref a_73), .val (.ref a_78), .val (.ref b80), .val (.ref b97), .unset, .unset] [(.int (0 : Int32))])) t_ → Steps p.tables e below (s₁.setTop (entryFrame m #[(.long id1), (.long idr), (.long qt1), (.long qtr), (.long att), (.int fl)] maxLocals)) t_ := fun t_ k_ => s128 t_ (castTop (by rw [hq127, if_neg h129]) k_)
        have s259 : ∀ t_, Steps p.tables e below (T126.setTop (mkF m 277 #[.val (.long id1), .second, .val (.long idr), .second, .val (.long qt1), .second, .val (.long qtr), .second, .val (.long att), .second, .val (.int fl), .val (.long q3), .second, .val (.int (qt1.toInt32)), .val (.int q8), .val (.int q11), .val (.int q18), .val (.int (Int32.ofNat ma)), .val (.int (Int32.ofNat mb)), .val (.int (att.toInt32)), .val (.int q32), .val (.ref b38), .val (.ref a_63), .val (.ref a_68), .val (.ref a_73), .val (.ref a_78), .val (.ref b80), .val (.ref b97), .val (.int (0 : Int32)), .val .null] [(.ref b97), (.ref b80)])) t_ → Steps p.tables e below (s₁.setTop (entryFrame m #[(.long id1), (.long idr), (.long qt1), (.long qtr), (.long att), (.int fl)] maxLocals)) t_ := fun t_ k_ => s258 t_ (by
          show Steps p.tables e below (T126.setTop (mkF m 246 #[.val (.long id1), .second, .val (.long idr), .second, .val (.long qt1), .second, .val (.long qtr), .second, .val (.long att), .second, .val (.int fl), .val (.long q3), .second, .val (.int (qt1.toInt32)), .val (.int q8), .val (.int q11), .val (.int q18), .val (.int (Int32.ofNat ma)), .val (.int (Int32.ofNat mb)), .val (.int (att.toInt32)), .val (.int q32), .val (.ref b38), .val (.ref a_63), .val (.ref a_68), .val (.ref a_73), .val (.ref a_78), .val (.ref b80), .val (.ref b97), .unset, .unset] [(.int (0 : Int32))])) t_
          refine XS.ifYes X126.here hx rfl (pc0 := 246) (pc' := 267) rfl (Jvm.hb hby at_246) rfl ((if0 _ _).trans (teq (rfl : (0 : Int32) = (0 : Int32))).1) (by decide) (by decide) ?_
          show Steps p.tables e below (T126.setTop (mkF m 267 #[.val (.long id1), .second, .val (.long idr), .second, .val (.long qt1), .second, .val (.long qtr), .second, .val (.long att), .second, .val (.int fl), .val (.long q3), .second, .val (.int (qt1.toInt32)), .val (.int q8), .val (.int q11), .val (.int q18), .val (.int (Int32.ofNat ma)), .val (.int (Int32.ofNat mb)), .val (.int (att.toInt32)), .val (.int q32), .val (.ref b38), .val (.ref a_63), .val (.ref a_68), .val (.ref a_73), .val (.ref a_78), .val (.ref b80), .val (.ref b97), .unset, .unset] [])) _
          refine XS.iconst X126.here hx rfl (Jvm.hb hby at_267) ?_
          refine XS.istore X126.here hx rfl (Jvm.hb hby at_268) rfl (l' := #[.val (.long id1), .second, .val (.long idr), .second, .val (.long qt1), .second, .val (.long qtr), .second, .val (.long att), .second, .val (.int fl), .val (.long q3), .second, .val (.int (qt1.toInt32)), .val (.int q8), .val (.int q11), .val (.int q18), .val (.int (Int32.ofNat ma)), .val (.int (Int32.ofNat mb)), .val (.int (att.toInt32)), .val (.int q32), .val (.ref b38), .val (.ref a_63), .val (.ref a_68), .val (.ref a_73), .val (.ref a_78), .val (.ref b80), .val (.ref b97), .val (.int (0 : Int32)), .unset]) rfl ?_
          refine XS.aconstNull X126.here hx rfl (Jvm.hb hby at_270) ?_
          refine XS.astore X126.here hx rfl (Jvm.hb hby at_271) rfl rfl (l' := #[.val (.long id1), .second, .val (.long idr), .second, .val (.long qt1), .second, .val (.long qtr), .second, .val (.long att), .second, .val (.int fl), .val (.long q3), .second, .val (.int (qt1.toInt32)), .val (.int q8), .val (.int q11), .val (.int q18), .val (.int (Int32.ofNat ma)), .val (.int (Int32.ofNat mb)), .val (.int (att.toInt32)), .val (.int q32), .val (.ref b38), .val (.ref a_63), .val (.ref a_68), .val (.ref a_73), .val (.ref a_78), .val (.ref b80), .val (.ref b97), .val (.int (0 : Int32)), .val .null]) rfl ?_
          refine XS.aload X126.here hx rfl (Jvm.hb hby at_273) rfl rfl ?_
          refine XS.aload X126.here hx rfl (Jvm.hb hby at_275) rfl rfl ?_
          show Steps p.tables e below (T126.setTop (mkF m 277 #[.val (.long id1), .second, .val (.long idr), .second, .val (.long qt1), .second, .val (.long qtr), .second, .val (.long att), .second, .val (.int fl), .val (.long q3), .second, .val (.int (qt1.toInt32)), .val (.int q8), .val (.int q11), .val (.int q18), .val (.int (Int32.ofNat ma)), .val (.int (Int32.ofNat mb)), .val (.int (att.toInt32)), .val (.int q32), .val (.ref b38), .val (.ref a_63), .val (.ref a_68), .val (.ref a_73), .val (.ref a_78), .val (.ref b80), .val (.ref b97), .val (.int (0 : Int32)), .val .null] [(.ref b97), (.ref b80)])) _
          show Steps p.tables e below (T126.setTop (mkF m 277 #[.val (.long id1), .second, .val (.long idr), .second, .val (.long qt1), .second, .val (.long qtr), .second, .val (.long att), .second, .val (.int fl), .val (.long q3), .second, .val (.int (qt1.toInt32)), .val (.int q8), .val (.int q11), .val (.int q18), .val (.int (Int32.ofNat ma)), .val (.int (Int32.ofNat mb)), .val (.int (att.toInt32)), .val (.int q32), .val (.ref b38), .val (.ref a_63), .val (.ref a_68), .val (.ref a_73), .val (.ref a_78), .val (.ref b80), .val (.ref b97), .val (.int (0 : Int32)), .val .null] [(.ref b97), (.ref b80)])) t_
          exact k_)
        have O260 : Old Z n0 h112 := (O105.keep K112 (allS (show n0 ≤ b97 by omega) all0))
        have f261 : Exa Z h112 b80 "com/example/coyote_hill/coyotehill/ItemStatus" := ((Fq95_0.ext E97).keep K112)
        have f262 : Fld Z h112 b80 "com/example/coyote_hill/coyotehill/ItemStatus" "_id" "J" (.long id1) := ((Fq95_1.ext E97).keep K112 (ninS (show @Ne Nat b80 b97 by omega) nin0))
        have f263 : Fld Z h112 b80 "com/example/coyote_hill/coyotehill/ItemStatus" "_queue" "Ljava/lang/String;" (.ref a_63) := ((Fq95_2.ext E97).keep K112 (ninS (show @Ne Nat b80 b97 by omega) nin0))
        have f264 : Fld Z h112 b80 "com/example/coyote_hill/coyotehill/ItemStatus" "_tenant" "Ljava/lang/String;" (.ref a_68) := ((Fq95_3.ext E97).keep K112 (ninS (show @Ne Nat b80 b97 by omega) nin0))
        have f265 : Fld Z h112 b80 "com/example/coyote_hill/coyotehill/ItemStatus" "_state" "Lcom/example/coyote_hill/coyotehill/ItemState;" (.ref s1) := ((Fq95_4.ext E97).keep K112 (ninS (show @Ne Nat b80 b97 by omega) nin0))
        have f266 : Fld Z h112 b80 "com/example/coyote_hill/coyotehill/ItemStatus" "_attempt" "I" (.int (att.toInt32)) := ((Fq95_5.ext E97).keep K112 (ninS (show @Ne Nat b80 b97 by omega) nin0))
        have f267 : Exa Z h112 a_63 "java/lang/String" := (((f92.keep K95).ext E97).keep K112)
        have f268 : Fld Z h112 a_63 "java/lang/String" "value" "[B" (.ref b_63) := (((((((Fq63_1.keep K68 nin0).keep K73 nin0).keep K78 nin0).ext E80).keep K95 (ninS (show @Ne Nat a_63 b80 by omega) nin0)).ext E97).keep K112 (ninS (show @Ne Nat a_63 b97 by omega) nin0))
        have f269 : Fld Z h112 a_63 "java/lang/String" "coder" "B" (.int (own_cod (own_str (qt1.toInt32)))) := (((((((Fq63_2.keep K68 nin0).keep K73 nin0).keep K78 nin0).ext E80).keep K95 (ninS (show @Ne Nat a_63 b80 by omega) nin0)).ext E97).keep K112 (ninS (show @Ne Nat a_63 b97 by omega) nin0))
        have f270 : Arv Z h112 b_63 kb_63 .byte (Int32.ofNat (own_enl (own_str (qt1.toInt32)))) (own_enc (own_str (qt1.toInt32))) (.int (0 : Int32)) := (((((((Fq63_3.keep K68 nin0).keep K73 nin0).keep K78 nin0).ext E80).keep K95 (ninS (Ne.symm (Exa.neArv A80 ((((Fq63_3.keep K68 nin0).keep K73 nin0).keep K78 nin0).ext E80) (hw _ (List.mem_of_getElem? (i := 50) rfl)))) nin0)).ext E97).keep K112 (ninS (Ne.symm (Exa.neArv A97 ((((((Fq63_3.keep K68 nin0).keep K73 nin0).keep K78 nin0).ext E80).keep K95 (ninS (Ne.symm (Exa.neArv A80 ((((Fq63_3.keep K68 nin0).keep K73 nin0).keep K78 nin0).ext E80) (hw _ (List.mem_of_getElem? (i := 50) rfl)))) nin0)).ext E97) (hw _ (List.mem_of_getElem? (i := 50) rfl)))) nin0))
        have f271 : Exa Z h112 a_73 "java/lang/String" := (f109.keep K112)
        have f272 : Fld Z h112 a_73 "java/lang/String" "value" "[B" (.ref b_73) := (((((Fq73_1.keep K78 nin0).ext E80).keep K95 (ninS (show @Ne Nat a_73 b80 by omega) nin0)).ext E97).keep K112 (ninS (show @Ne Nat a_73 b97 by omega) nin0))
        have f273 : Fld Z h112 a_73 "java/lang/String" "coder" "B" (.int (own_cod (own_str q11))) := (((((Fq73_2.keep K78 nin0).ext E80).keep K95 (ninS (show @Ne Nat a_73 b80 by omega) nin0)).ext E97).keep K112 (ninS (show @Ne Nat a_73 b97 by omega) nin0))
        have f274 : Arv Z h112 b_73 kb_73 .byte (Int32.ofNat (own_enl (own_str q11))) (own_enc (own_str q11)) (.int (0 : Int32)) := (((((Fq73_3.keep K78 nin0).ext E80).keep K95 (ninS (Ne.symm (Exa.neArv A80 ((Fq73_3.keep K78 nin0).ext E80) (hw _ (List.mem_of_getElem? (i := 50) rfl)))) nin0)).ext E97).keep K112 (ninS (Ne.symm (Exa.neArv A97 ((((Fq73_3.keep K78 nin0).ext E80).keep K95 (ninS (Ne.symm (Exa.neArv A80 ((Fq73_3.keep K78 nin0).ext E80) (hw _ (List.mem_of_getElem? (i := 50) rfl)))) nin0)).ext E97) (hw _ (List.mem_of_getElem? (i := 50) rfl)))) nin0))
        have f275 : Exa Z h112 a_68 "java/lang/String" := (((f93.keep K95).ext E97).keep K112)
        have f276 : Fld Z h112 a_68 "java/lang/String" "value" "[B" (.ref b_68) := ((((((Fq68_1.keep K73 nin0).keep K78 nin0).ext E80).keep K95 (ninS (show @Ne Nat a_68 b80 by omega) nin0)).ext E97).keep K112 (ninS (show @Ne Nat a_68 b97 by omega) nin0))
        have f277 : Fld Z h112 a_68 "java/lang/String" "coder" "B" (.int (own_cod (own_str q8))) := ((((((Fq68_2.keep K73 nin0).keep K78 nin0).ext E80).keep K95 (ninS (show @Ne Nat a_68 b80 by omega) nin0)).ext E97).keep K112 (ninS (show @Ne Nat a_68 b97 by omega) nin0))
        have f278 : Arv Z h112 b_68 kb_68 .byte (Int32.ofNat (own_enl (own_str q8))) (own_enc (own_str q8)) (.int (0 : Int32)) := ((((((Fq68_3.keep K73 nin0).keep K78 nin0).ext E80).keep K95 (ninS (Ne.symm (Exa.neArv A80 (((Fq68_3.keep K73 nin0).keep K78 nin0).ext E80) (hw _ (List.mem_of_getElem? (i := 50) rfl)))) nin0)).ext E97).keep K112 (ninS (Ne.symm (Exa.neArv A97 (((((Fq68_3.keep K73 nin0).keep K78 nin0).ext E80).keep K95 (ninS (Ne.symm (Exa.neArv A80 (((Fq68_3.keep K73 nin0).keep K78 nin0).ext E80) (hw _ (List.mem_of_getElem? (i := 50) rfl)))) nin0)).ext E97) (hw _ (List.mem_of_getElem? (i := 50) rfl)))) nin0))
        have f279 : Exa Z h112 a_78 "java/lang/String" := (f110.keep K112)
        have f280 : Fld Z h112 a_78 "java/lang/String" "value" "[B" (.ref b_78) := ((((Fq78_1.ext E80).keep K95 (ninS (show @Ne Nat a_78 b80 by omega) nin0)).ext E97).keep K112 (ninS (show @Ne Nat a_78 b97 by omega) nin0))
        have f281 : Fld Z h112 a_78 "java/lang/String" "coder" "B" (.int (own_cod (own_str q18))) := ((((Fq78_2.ext E80).keep K95 (ninS (show @Ne Nat a_78 b80 by omega) nin0)).ext E97).keep K112 (ninS (show @Ne Nat a_78 b97 by omega) nin0))
        have f282 : Arv Z h112 b_78 kb_78 .byte (Int32.ofNat (own_enl (own_str q18))) (own_enc (own_str q18)) (.int (0 : Int32)) := ((((Fq78_3.ext E80).keep K95 (ninS (Ne.symm (Exa.neArv A80 (Fq78_3.ext E80) (hw _ (List.mem_of_getElem? (i := 50) rfl)))) nin0)).ext E97).keep K112 (ninS (Ne.symm (Exa.neArv A97 (((Fq78_3.ext E80).keep K95 (ninS (Ne.symm (Exa.neArv A80 (Fq78_3.ext E80) (hw _ (List.mem_of_getElem? (i := 50) rfl)))) nin0)).ext E97) (hw _ (List.mem_of_getElem? (i := 50) rfl)))) nin0))
        have Zc283 : n0 ≤ h112.size := by omega
        obtain ⟨cq284, kq284, q284a, q284b, q284c⟩ := isOf hZ e126 f261
        obtain ⟨_, _, ⟨T284, L284, k284, n284⟩, -, X284, ⟨Lc284, hQ284, l284, y284, z284⟩, st284⟩ := X126.virtualBack hx (y := (⟨"com/example/coyote_hill/coyotehill/ItemStatus", "equals", "(Ljava/lang/Object;)Z"⟩ : MethodName)) (z := (⟨"com/example/coyote_hill/coyotehill/ItemStatus", "equals", "(Ljava/lang/Object;)Z"⟩ : MethodName)) hown (mvT hZ (hw _ (List.mem_of_getElem? (i := 75) rfl))) (mvT hZ (hw _ (List.mem_of_getElem? (i := 76) rfl))) (notFace_of_selects (args := #[]) (mvT hZ (hw _ (List.mem_of_getElem? (i := 78) rfl)))) (mvT hZ (hw _ (List.mem_of_getElem? (i := 78) rfl))) (mvT hZ (hw _ (List.mem_of_getElem? (i := 77) rfl))) (by decide) (backOf (W := 0) (rmEqO l Z a0 hw [] b80 b97 cst id1 q3 s1 s2 (att.toInt32) q32 a_63 b_63 kb_63 (own_str (qt1.toInt32)) a_73 b_73 kb_73 (own_str q11) a_68 b_68 kb_68 (own_str q8) a_78 b_78 kb_78 (own_str q18) h112 n0 Zc283 I1 O260 (hcst : ¬ (cst = (0 : Int32))) f261 f262 f263 f264 f265 f266 Fq112_0 Fq112_1 Fq112_2 Fq112_3 Fq112_4 Fq112_5 f267 f268 f269 f270 f271 f272 f273 f274 f275 f276 f277 f278 f279 f280 f281 f282 (own_neN (by omega)) (own_neN (by omega)) (own_strchs _) (own_strchs _) (own_strchs _) (own_strchs _) (own_strl _) (own_strl _) (own_strl _) (own_strl _)) hZ (hw _ (List.mem_of_getElem? (i := 79) rfl)) (hw _ (List.mem_of_getElem? (i := 51) rfl)) (by decide) (by decide)) q284a q284c (g := (mkF m 277 #[.val (.long id1), .second, .val (.long idr), .second, .val (.long qt1), .second, .val (.long qtr), .second, .val (.long att), .second, .val (.int fl), .val (.long q3), .second, .val (.int (qt1.toInt32)), .val (.int q8), .val (.int q11), .val (.int q18), .val (.int (Int32.ofNat ma)), .val (.int (Int32.ofNat mb)), .val (.int (att.toInt32)), .val (.int q32), .val (.ref b38), .val (.ref a_63), .val (.ref a_68), .val (.ref a_73), .val (.ref a_78), .val (.ref b80), .val (.ref b97), .val (.int (0 : Int32)), .val .null] [(.ref b97), (.ref b80)])) rfl (by rw [hml]; rfl) (Steps.refl _) (argsL := [(.ref b97)]) (rest := []) (lenOf pd__Ljava_lang_Object__Z rfl) rfl (by show 2 * 0 + _ ≤ _; exact Nat.le_of_eq rfl) (Jvm.hb hby at_277) (fun _ _ => ⟨rfl, e126, (by decide : 39 + 0 ≤ _), (by decide : 226 + 0 ≤ _)⟩)
        dsimp only [Pt.U, Pt.locs, Pt.cells, Pt.slots] at X284 l284 y284 z284 st284 hQ284
        subst l284 y284 z284
        obtain ⟨rfl, N284q, e284⟩ := hQ284
        have N284 := Fr.app N126 N284q
        obtain ⟨q285, hq285⟩ : ∃ z : Int32, z = (if (lcmpW id1 q3) = (0 : Int32) then (if (own_str (qt1.toInt32)) = (own_str q11) then (if (own_str q8) = (own_str q18) then (if s1 = s2 then (if (att.toInt32) = q32 then (1 : Int32) else (0 : Int32)) else (0 : Int32)) else (0 : Int32)) else (0 : Int32)) else (0 : Int32)) := ⟨_, rfl⟩
        rw [← hq285] at st284
        have hE0 : q285 = (0 : Int32) := by rw [hq285, if_pos (hq114.symm.trans h116), if_pos h122, if_neg h129]
        have s286 : ∀ t_, Steps p.tables e below (T284.setTop (mkF m 289 #[.val (.long id1), .second, .val (.long idr), .second, .val (.long qt1), .second, .val (.long qtr), .second, .val (.long att), .second, .val (.int fl), .val (.long q3), .second, .val (.int (qt1.toInt32)), .val (.int q8), .val (.int q11), .val (.int q18), .val (.int (Int32.ofNat ma)), .val (.int (Int32.ofNat mb)), .val (.int (att.toInt32)), .val (.int q32), .val (.ref b38), .val (.ref a_63), .val (.ref a_68), .val (.ref a_73), .val (.ref a_78), .val (.ref b80), .val (.ref b97), .val (.int (0 : Int32)), .val .null] [(.ref b80), (.ref b97)])) t_ → Steps p.tables e below (s₁.setTop (entryFrame m #[(.long id1), (.long idr), (.long qt1), (.long qtr), (.long att), (.int fl)] maxLocals)) t_ := fun t_ k_ => s259 t_ (by
          show Steps p.tables e below (T126.setTop (mkF m 277 #[.val (.long id1), .second, .val (.long idr), .second, .val (.long qt1), .second, .val (.long qtr), .second, .val (.long att), .second, .val (.int fl), .val (.long q3), .second, .val (.int (qt1.toInt32)), .val (.int q8), .val (.int q11), .val (.int q18), .val (.int (Int32.ofNat ma)), .val (.int (Int32.ofNat mb)), .val (.int (att.toInt32)), .val (.int q32), .val (.ref b38), .val (.ref a_63), .val (.ref a_68), .val (.ref a_73), .val (.ref a_78), .val (.ref b80), .val (.ref b97), .val (.int (0 : Int32)), .val .null] [(.ref b97), (.ref b80)])) t_
          refine st284.trans ?_
          show Steps p.tables e below (T284.setTop (mkF m 280 #[.val (.long id1), .second, .val (.long idr), .second, .val (.long qt1), .second, .val (.long qtr), .second, .val (.long att), .second, .val (.int fl), .val (.long q3), .second, .val (.int (qt1.toInt32)), .val (.int q8), .val (.int q11), .val (.int q18), .val (.int (Int32.ofNat ma)), .val (.int (Int32.ofNat mb)), .val (.int (att.toInt32)), .val (.int q32), .val (.ref b38), .val (.ref a_63), .val (.ref a_68), .val (.ref a_73), .val (.ref a_78), .val (.ref b80), .val (.ref b97), .val (.int (0 : Int32)), .val .null] [(.int q285)])) _
          refine XS.iload X284.here hx rfl (Jvm.hb hby at_280) rfl ?_
          refine XS.icmpNo X284.here hx rfl (Jvm.hb hby at_282) rfl (teq hE0).2 ?_
          show Steps p.tables e below (T284.setTop (mkF m 285 #[.val (.long id1), .second, .val (.long idr), .second, .val (.long qt1), .second, .val (.long qtr), .second, .val (.long att), .second, .val (.int fl), .val (.long q3), .second, .val (.int (qt1.toInt32)), .val (.int q8), .val (.int q11), .val (.int q18), .val (.int (Int32.ofNat ma)), .val (.int (Int32.ofNat mb)), .val (.int (att.toInt32)), .val (.int q32), .val (.ref b38), .val (.ref a_63), .val (.ref a_68), .val (.ref a_73), .val (.ref a_78), .val (.ref b80), .val (.ref b97), .val (.int (0 : Int32)), .val .null] [])) _
          refine XS.aload X284.here hx rfl (Jvm.hb hby at_285) rfl rfl ?_
          refine XS.aload X284.here hx rfl (Jvm.hb hby at_287) rfl rfl ?_
          show Steps p.tables e below (T284.setTop (mkF m 289 #[.val (.long id1), .second, .val (.long idr), .second, .val (.long qt1), .second, .val (.long qtr), .second, .val (.long att), .second, .val (.int fl), .val (.long q3), .second, .val (.int (qt1.toInt32)), .val (.int q8), .val (.int q11), .val (.int q18), .val (.int (Int32.ofNat ma)), .val (.int (Int32.ofNat mb)), .val (.int (att.toInt32)), .val (.int q32), .val (.ref b38), .val (.ref a_63), .val (.ref a_68), .val (.ref a_73), .val (.ref a_78), .val (.ref b80), .val (.ref b97), .val (.int (0 : Int32)), .val .null] [(.ref b80), (.ref b97)])) t_
          exact k_)
        have Zc287 : n0 ≤ h112.size := by omega
        obtain ⟨cq288, kq288, q288a, q288b, q288c⟩ := isOf hZ e284 Fq112_0
        obtain ⟨_, _, ⟨T288, L288, k288, n288⟩, -, X288, ⟨Lc288, hQ288, l288, y288, z288⟩, st288⟩ := X284.virtualBack hx (y := (⟨"com/example/coyote_hill/coyotehill/ItemStatus", "equals", "(Ljava/lang/Object;)Z"⟩ : MethodName)) (z := (⟨"com/example/coyote_hill/coyotehill/ItemStatus", "equals", "(Ljava/lang/Object;)Z"⟩ : MethodName)) hown (mvT hZ (hw _ (List.mem_of_getElem? (i := 75) rfl))) (mvT hZ (hw _ (List.mem_of_getElem? (i := 76) rfl))) (notFace_of_selects (args := #[]) (mvT hZ (hw _ (List.mem_of_getElem? (i := 78) rfl)))) (mvT hZ (hw _ (List.mem_of_getElem? (i := 78) rfl))) (mvT hZ (hw _ (List.mem_of_getElem? (i := 77) rfl))) (by decide) (backOf (W := 0) (rmEqO l Z a0 hw [] b97 b80 cst q3 id1 s2 s1 q32 (att.toInt32) a_73 b_73 kb_73 (own_str q11) a_63 b_63 kb_63 (own_str (qt1.toInt32)) a_78 b_78 kb_78 (own_str q18) a_68 b_68 kb_68 (own_str q8) h112 n0 Zc287 I1 O260 (hcst : ¬ (cst = (0 : Int32))) Fq112_0 Fq112_1 Fq112_2 Fq112_3 Fq112_4 Fq112_5 f261 f262 f263 f264 f265 f266 f271 f272 f273 f274 f267 f268 f269 f270 f279 f280 f281 f282 f275 f276 f277 f278 (own_neN (by omega)) (own_neN (by omega)) (own_strchs _) (own_strchs _) (own_strchs _) (own_strchs _) (own_strl _) (own_strl _) (own_strl _) (own_strl _)) hZ (hw _ (List.mem_of_getElem? (i := 79) rfl)) (hw _ (List.mem_of_getElem? (i := 51) rfl)) (by decide) (by decide)) q288a q288c (g := (mkF m 289 #[.val (.long id1), .second, .val (.long idr), .second, .val (.long qt1), .second, .val (.long qtr), .second, .val (.long att), .second, .val (.int fl), .val (.long q3), .second, .val (.int (qt1.toInt32)), .val (.int q8), .val (.int q11), .val (.int q18), .val (.int (Int32.ofNat ma)), .val (.int (Int32.ofNat mb)), .val (.int (att.toInt32)), .val (.int q32), .val (.ref b38), .val (.ref a_63), .val (.ref a_68), .val (.ref a_73), .val (.ref a_78), .val (.ref b80), .val (.ref b97), .val (.int (0 : Int32)), .val .null] [(.ref b80), (.ref b97)])) rfl (by rw [hml]; rfl) (Steps.refl _) (argsL := [(.ref b80)]) (rest := []) (lenOf pd__Ljava_lang_Object__Z rfl) rfl (by show 2 * 0 + _ ≤ _; exact Nat.le_of_eq rfl) (Jvm.hb hby at_289) (fun _ _ => ⟨rfl, e284, (by decide : 39 + 0 ≤ _), (by decide : 226 + 0 ≤ _)⟩)
        dsimp only [Pt.U, Pt.locs, Pt.cells, Pt.slots] at X288 l288 y288 z288 st288 hQ288
        subst l288 y288 z288
        obtain ⟨rfl, N288q, e288⟩ := hQ288
        have N288 := Fr.app N284 N288q
        obtain ⟨q289, hq289⟩ : ∃ z : Int32, z = (if (lcmpW q3 id1) = (0 : Int32) then (if (own_str q11) = (own_str (qt1.toInt32)) then (if (own_str q18) = (own_str q8) then (if s2 = s1 then (if q32 = (att.toInt32) then (1 : Int32) else (0 : Int32)) else (0 : Int32)) else (0 : Int32)) else (0 : Int32)) else (0 : Int32)) := ⟨_, rfl⟩
        rw [← hq289] at st288
        have hE1 : q289 = (0 : Int32) := by rw [hq289, if_pos (own_lcs (hq114.symm.trans h116)), if_pos (Eq.symm h122), if_neg (fun q => h129 q.symm)]
        have s290 : ∀ t_, Steps p.tables e below (T288.setTop (mkF m 301 #[.val (.long id1), .second, .val (.long idr), .second, .val (.long qt1), .second, .val (.long qtr), .second, .val (.long att), .second, .val (.int fl), .val (.long q3), .second, .val (.int (qt1.toInt32)), .val (.int q8), .val (.int q11), .val (.int q18), .val (.int (Int32.ofNat ma)), .val (.int (Int32.ofNat mb)), .val (.int (att.toInt32)), .val (.int q32), .val (.ref b38), .val (.ref a_63), .val (.ref a_68), .val (.ref a_73), .val (.ref a_78), .val (.ref b80), .val (.ref b97), .val (.int (0 : Int32)), .val .null] [(.ref b80), (.ref b80)])) t_ → Steps p.tables e below (s₁.setTop (entryFrame m #[(.long id1), (.long idr), (.long qt1), (.long qtr), (.long att), (.int fl)] maxLocals)) t_ := fun t_ k_ => s286 t_ (by
          show Steps p.tables e below (T284.setTop (mkF m 289 #[.val (.long id1), .second, .val (.long idr), .second, .val (.long qt1), .second, .val (.long qtr), .second, .val (.long att), .second, .val (.int fl), .val (.long q3), .second, .val (.int (qt1.toInt32)), .val (.int q8), .val (.int q11), .val (.int q18), .val (.int (Int32.ofNat ma)), .val (.int (Int32.ofNat mb)), .val (.int (att.toInt32)), .val (.int q32), .val (.ref b38), .val (.ref a_63), .val (.ref a_68), .val (.ref a_73), .val (.ref a_78), .val (.ref b80), .val (.ref b97), .val (.int (0 : Int32)), .val .null] [(.ref b80), (.ref b97)])) t_
          refine st288.trans ?_
          show Steps p.tables e below (T288.setTop (mkF m 292 #[.val (.long id1), .second, .val (.long idr), .second, .val (.long qt1), .second, .val (.long qtr), .second, .val (.long att), .second, .val (.int fl), .val (.long q3), .second, .val (.int (qt1.toInt32)), .val (.int q8), .val (.int q11), .val (.int q18), .val (.int (Int32.ofNat ma)), .val (.int (Int32.ofNat mb)), .val (.int (att.toInt32)), .val (.int q32), .val (.ref b38), .val (.ref a_63), .val (.ref a_68), .val (.ref a_73), .val (.ref a_78), .val (.ref b80), .val (.ref b97), .val (.int (0 : Int32)), .val .null] [(.int q289)])) _
          refine XS.iload X288.here hx rfl (Jvm.hb hby at_292) rfl ?_
          refine XS.icmpNo X288.here hx rfl (Jvm.hb hby at_294) rfl (teq hE1).2 ?_
          show Steps p.tables e below (T288.setTop (mkF m 297 #[.val (.long id1), .second, .val (.long idr), .second, .val (.long qt1), .second, .val (.long qtr), .second, .val (.long att), .second, .val (.int fl), .val (.long q3), .second, .val (.int (qt1.toInt32)), .val (.int q8), .val (.int q11), .val (.int q18), .val (.int (Int32.ofNat ma)), .val (.int (Int32.ofNat mb)), .val (.int (att.toInt32)), .val (.int q32), .val (.ref b38), .val (.ref a_63), .val (.ref a_68), .val (.ref a_73), .val (.ref a_78), .val (.ref b80), .val (.ref b97), .val (.int (0 : Int32)), .val .null] [])) _
          refine XS.aload X288.here hx rfl (Jvm.hb hby at_297) rfl rfl ?_
          refine XS.aload X288.here hx rfl (Jvm.hb hby at_299) rfl rfl ?_
          show Steps p.tables e below (T288.setTop (mkF m 301 #[.val (.long id1), .second, .val (.long idr), .second, .val (.long qt1), .second, .val (.long qtr), .second, .val (.long att), .second, .val (.int fl), .val (.long q3), .second, .val (.int (qt1.toInt32)), .val (.int q8), .val (.int q11), .val (.int q18), .val (.int (Int32.ofNat ma)), .val (.int (Int32.ofNat mb)), .val (.int (att.toInt32)), .val (.int q32), .val (.ref b38), .val (.ref a_63), .val (.ref a_68), .val (.ref a_73), .val (.ref a_78), .val (.ref b80), .val (.ref b97), .val (.int (0 : Int32)), .val .null] [(.ref b80), (.ref b80)])) t_
          exact k_)
        have Zc291 : n0 ≤ h112.size := by omega
        obtain ⟨cq292, kq292, q292a, q292b, q292c⟩ := isOf hZ e288 f261
        obtain ⟨_, _, ⟨T292, L292, k292, n292⟩, -, X292, ⟨Lc292, hQ292, l292, y292, z292⟩, st292⟩ := X288.virtualBack hx (y := (⟨"com/example/coyote_hill/coyotehill/ItemStatus", "equals", "(Ljava/lang/Object;)Z"⟩ : MethodName)) (z := (⟨"com/example/coyote_hill/coyotehill/ItemStatus", "equals", "(Ljava/lang/Object;)Z"⟩ : MethodName)) hown (mvT hZ (hw _ (List.mem_of_getElem? (i := 75) rfl))) (mvT hZ (hw _ (List.mem_of_getElem? (i := 76) rfl))) (notFace_of_selects (args := #[]) (mvT hZ (hw _ (List.mem_of_getElem? (i := 78) rfl)))) (mvT hZ (hw _ (List.mem_of_getElem? (i := 78) rfl))) (mvT hZ (hw _ (List.mem_of_getElem? (i := 77) rfl))) (by decide) (backOf (W := 0) (rmEqS l Z a0 hw [] b80 id1 a_63 a_68 s1 (att.toInt32) h112 n0 Zc291 f261 f262 f263 f264 f265 f266 f267 f275) hZ (hw _ (List.mem_of_getElem? (i := 79) rfl)) (hw _ (List.mem_of_getElem? (i := 51) rfl)) (by decide) (by decide)) q292a q292c (g := (mkF m 301 #[.val (.long id1), .second, .val (.long idr), .second, .val (.long qt1), .second, .val (.long qtr), .second, .val (.long att), .second, .val (.int fl), .val (.long q3), .second, .val (.int (qt1.toInt32)), .val (.int q8), .val (.int q11), .val (.int q18), .val (.int (Int32.ofNat ma)), .val (.int (Int32.ofNat mb)), .val (.int (att.toInt32)), .val (.int q32), .val (.ref b38), .val (.ref a_63), .val (.ref a_68), .val (.ref a_73), .val (.ref a_78), .val (.ref b80), .val (.ref b97), .val (.int (0 : Int32)), .val .null] [(.ref b80), (.ref b80)])) rfl (by rw [hml]; rfl) (Steps.refl _) (argsL := [(.ref b80)]) (rest := []) (lenOf pd__Ljava_lang_Object__Z rfl) rfl (by show 2 * 0 + _ ≤ _; exact Nat.le_of_eq rfl) (Jvm.hb hby at_301) (fun _ _ => ⟨rfl, e288, (by decide : 39 + 0 ≤ _), (by decide : 226 + 0 ≤ _)⟩)
        dsimp only [Pt.U, Pt.locs, Pt.cells, Pt.slots] at X292 l292 y292 z292 st292 hQ292
        subst l292 y292 z292
        obtain ⟨rfl, N292q, e292⟩ := hQ292
        have N292 := Fr.app N288 N292q
        have s293 : ∀ t_, Steps p.tables e below (T292.setTop (mkF m 311 #[.val (.long id1), .second, .val (.long idr), .second, .val (.long qt1), .second, .val (.long qtr), .second, .val (.long att), .second, .val (.int fl), .val (.long q3), .second, .val (.int (qt1.toInt32)), .val (.int q8), .val (.int q11), .val (.int q18), .val (.int (Int32.ofNat ma)), .val (.int (Int32.ofNat mb)), .val (.int (att.toInt32)), .val (.int q32), .val (.ref b38), .val (.ref a_63), .val (.ref a_68), .val (.ref a_73), .val (.ref a_78), .val (.ref b80), .val (.ref b97), .val (.int (0 : Int32)), .val .null] [.null, (.ref b80)])) t_ → Steps p.tables e below (s₁.setTop (entryFrame m #[(.long id1), (.long idr), (.long qt1), (.long qtr), (.long att), (.int fl)] maxLocals)) t_ := fun t_ k_ => s290 t_ (by
          show Steps p.tables e below (T288.setTop (mkF m 301 #[.val (.long id1), .second, .val (.long idr), .second, .val (.long qt1), .second, .val (.long qtr), .second, .val (.long att), .second, .val (.int fl), .val (.long q3), .second, .val (.int (qt1.toInt32)), .val (.int q8), .val (.int q11), .val (.int q18), .val (.int (Int32.ofNat ma)), .val (.int (Int32.ofNat mb)), .val (.int (att.toInt32)), .val (.int q32), .val (.ref b38), .val (.ref a_63), .val (.ref a_68), .val (.ref a_73), .val (.ref a_78), .val (.ref b80), .val (.ref b97), .val (.int (0 : Int32)), .val .null] [(.ref b80), (.ref b80)])) t_
          refine st292.trans ?_
          show Steps p.tables e below (T292.setTop (mkF m 304 #[.val (.long id1), .second, .val (.long idr), .second, .val (.long qt1), .second, .val (.long qtr), .second, .val (.long att), .second, .val (.int fl), .val (.long q3), .second, .val (.int (qt1.toInt32)), .val (.int q8), .val (.int q11), .val (.int q18), .val (.int (Int32.ofNat ma)), .val (.int (Int32.ofNat mb)), .val (.int (att.toInt32)), .val (.int q32), .val (.ref b38), .val (.ref a_63), .val (.ref a_68), .val (.ref a_73), .val (.ref a_78), .val (.ref b80), .val (.ref b97), .val (.int (0 : Int32)), .val .null] [(.int (1 : Int32))])) _
          refine XS.ifNo X292.here hx rfl (Jvm.hb hby at_304) rfl ((if0 _ _).trans (feq (by decide : ¬ ((1 : Int32) = (0 : Int32)))).1) ?_
          show Steps p.tables e below (T292.setTop (mkF m 307 #[.val (.long id1), .second, .val (.long idr), .second, .val (.long qt1), .second, .val (.long qtr), .second, .val (.long att), .second, .val (.int fl), .val (.long q3), .second, .val (.int (qt1.toInt32)), .val (.int q8), .val (.int q11), .val (.int q18), .val (.int (Int32.ofNat ma)), .val (.int (Int32.ofNat mb)), .val (.int (att.toInt32)), .val (.int q32), .val (.ref b38), .val (.ref a_63), .val (.ref a_68), .val (.ref a_73), .val (.ref a_78), .val (.ref b80), .val (.ref b97), .val (.int (0 : Int32)), .val .null] [])) _
          refine XS.aload X292.here hx rfl (Jvm.hb hby at_307) rfl rfl ?_
          refine XS.aload X292.here hx rfl (Jvm.hb hby at_309) rfl rfl ?_
          show Steps p.tables e below (T292.setTop (mkF m 311 #[.val (.long id1), .second, .val (.long idr), .second, .val (.long qt1), .second, .val (.long qtr), .second, .val (.long att), .second, .val (.int fl), .val (.long q3), .second, .val (.int (qt1.toInt32)), .val (.int q8), .val (.int q11), .val (.int q18), .val (.int (Int32.ofNat ma)), .val (.int (Int32.ofNat mb)), .val (.int (att.toInt32)), .val (.int q32), .val (.ref b38), .val (.ref a_63), .val (.ref a_68), .val (.ref a_73), .val (.ref a_78), .val (.ref b80), .val (.ref b97), .val (.int (0 : Int32)), .val .null] [.null, (.ref b80)])) t_
          exact k_)
        have Zc294 : n0 ≤ h112.size := by omega
        obtain ⟨cq295, kq295, q295a, q295b, q295c⟩ := isOf hZ e292 f261
        obtain ⟨_, _, ⟨T295, L295, k295, n295⟩, -, X295, ⟨Lc295, hQ295, l295, y295, z295⟩, st295⟩ := X292.virtualBack hx (y := (⟨"com/example/coyote_hill/coyotehill/ItemStatus", "equals", "(Ljava/lang/Object;)Z"⟩ : MethodName)) (z := (⟨"com/example/coyote_hill/coyotehill/ItemStatus", "equals", "(Ljava/lang/Object;)Z"⟩ : MethodName)) hown (mvT hZ (hw _ (List.mem_of_getElem? (i := 75) rfl))) (mvT hZ (hw _ (List.mem_of_getElem? (i := 76) rfl))) (notFace_of_selects (args := #[]) (mvT hZ (hw _ (List.mem_of_getElem? (i := 78) rfl)))) (mvT hZ (hw _ (List.mem_of_getElem? (i := 78) rfl))) (mvT hZ (hw _ (List.mem_of_getElem? (i := 77) rfl))) (by decide) (backOf (W := 0) (rmEqN l Z a0 hw [] b80 h112 n0 Zc294) hZ (hw _ (List.mem_of_getElem? (i := 79) rfl)) (hw _ (List.mem_of_getElem? (i := 51) rfl)) (by decide) (by decide)) q295a q295c (g := (mkF m 311 #[.val (.long id1), .second, .val (.long idr), .second, .val (.long qt1), .second, .val (.long qtr), .second, .val (.long att), .second, .val (.int fl), .val (.long q3), .second, .val (.int (qt1.toInt32)), .val (.int q8), .val (.int q11), .val (.int q18), .val (.int (Int32.ofNat ma)), .val (.int (Int32.ofNat mb)), .val (.int (att.toInt32)), .val (.int q32), .val (.ref b38), .val (.ref a_63), .val (.ref a_68), .val (.ref a_73), .val (.ref a_78), .val (.ref b80), .val (.ref b97), .val (.int (0 : Int32)), .val .null] [.null, (.ref b80)])) rfl (by rw [hml]; rfl) (Steps.refl _) (argsL := [.null]) (rest := []) (lenOf pd__Ljava_lang_Object__Z rfl) rfl (by show 2 * 0 + _ ≤ _; exact Nat.le_of_eq rfl) (Jvm.hb hby at_311) (fun _ _ => ⟨rfl, e292, (by decide : 39 + 0 ≤ _), (by decide : 226 + 0 ≤ _)⟩)
        dsimp only [Pt.U, Pt.locs, Pt.cells, Pt.slots] at X295 l295 y295 z295 st295 hQ295
        subst l295 y295 z295
        obtain ⟨rfl, N295q, e295⟩ := hQ295
        have N295 := Fr.app N292 N295q
        have s296 : ∀ t_, Steps p.tables e below (T295.setTop (mkF m 321 #[.val (.long id1), .second, .val (.long idr), .second, .val (.long qt1), .second, .val (.long qtr), .second, .val (.long att), .second, .val (.int fl), .val (.long q3), .second, .val (.int (qt1.toInt32)), .val (.int q8), .val (.int q11), .val (.int q18), .val (.int (Int32.ofNat ma)), .val (.int (Int32.ofNat mb)), .val (.int (att.toInt32)), .val (.int q32), .val (.ref b38), .val (.ref a_63), .val (.ref a_68), .val (.ref a_73), .val (.ref a_78), .val (.ref b80), .val (.ref b97), .val (.int (0 : Int32)), .val .null] [(.ref a_63), (.ref b80)])) t_ → Steps p.tables e below (s₁.setTop (entryFrame m #[(.long id1), (.long idr), (.long qt1), (.long qtr), (.long att), (.int fl)] maxLocals)) t_ := fun t_ k_ => s293 t_ (by
          show Steps p.tables e below (T292.setTop (mkF m 311 #[.val (.long id1), .second, .val (.long idr), .second, .val (.long qt1), .second, .val (.long qtr), .second, .val (.long att), .second, .val (.int fl), .val (.long q3), .second, .val (.int (qt1.toInt32)), .val (.int q8), .val (.int q11), .val (.int q18), .val (.int (Int32.ofNat ma)), .val (.int (Int32.ofNat mb)), .val (.int (att.toInt32)), .val (.int q32), .val (.ref b38), .val (.ref a_63), .val (.ref a_68), .val (.ref a_73), .val (.ref a_78), .val (.ref b80), .val (.ref b97), .val (.int (0 : Int32)), .val .null] [.null, (.ref b80)])) t_
          refine st295.trans ?_
          show Steps p.tables e below (T295.setTop (mkF m 314 #[.val (.long id1), .second, .val (.long idr), .second, .val (.long qt1), .second, .val (.long qtr), .second, .val (.long att), .second, .val (.int fl), .val (.long q3), .second, .val (.int (qt1.toInt32)), .val (.int q8), .val (.int q11), .val (.int q18), .val (.int (Int32.ofNat ma)), .val (.int (Int32.ofNat mb)), .val (.int (att.toInt32)), .val (.int q32), .val (.ref b38), .val (.ref a_63), .val (.ref a_68), .val (.ref a_73), .val (.ref a_78), .val (.ref b80), .val (.ref b97), .val (.int (0 : Int32)), .val .null] [(.int (0 : Int32))])) _
          refine XS.ifNo X295.here hx rfl (Jvm.hb hby at_314) rfl ((if0 _ _).trans (teq (rfl : (0 : Int32) = (0 : Int32))).2) ?_
          show Steps p.tables e below (T295.setTop (mkF m 317 #[.val (.long id1), .second, .val (.long idr), .second, .val (.long qt1), .second, .val (.long qtr), .second, .val (.long att), .second, .val (.int fl), .val (.long q3), .second, .val (.int (qt1.toInt32)), .val (.int q8), .val (.int q11), .val (.int q18), .val (.int (Int32.ofNat ma)), .val (.int (Int32.ofNat mb)), .val (.int (att.toInt32)), .val (.int q32), .val (.ref b38), .val (.ref a_63), .val (.ref a_68), .val (.ref a_73), .val (.ref a_78), .val (.ref b80), .val (.ref b97), .val (.int (0 : Int32)), .val .null] [])) _
          refine XS.aload X295.here hx rfl (Jvm.hb hby at_317) rfl rfl ?_
          refine XS.aload X295.here hx rfl (Jvm.hb hby at_319) rfl rfl ?_
          show Steps p.tables e below (T295.setTop (mkF m 321 #[.val (.long id1), .second, .val (.long idr), .second, .val (.long qt1), .second, .val (.long qtr), .second, .val (.long att), .second, .val (.int fl), .val (.long q3), .second, .val (.int (qt1.toInt32)), .val (.int q8), .val (.int q11), .val (.int q18), .val (.int (Int32.ofNat ma)), .val (.int (Int32.ofNat mb)), .val (.int (att.toInt32)), .val (.int q32), .val (.ref b38), .val (.ref a_63), .val (.ref a_68), .val (.ref a_73), .val (.ref a_78), .val (.ref b80), .val (.ref b97), .val (.int (0 : Int32)), .val .null] [(.ref a_63), (.ref b80)])) t_
          exact k_)
        have Zc297 : n0 ≤ h112.size := by omega
        obtain ⟨cq298, kq298, q298a, q298b, q298c⟩ := isOf hZ e295 f261
        obtain ⟨_, _, ⟨T298, L298, k298, n298⟩, -, X298, ⟨Lc298, hQ298, l298, y298, z298⟩, st298⟩ := X295.virtualBack hx (y := (⟨"com/example/coyote_hill/coyotehill/ItemStatus", "equals", "(Ljava/lang/Object;)Z"⟩ : MethodName)) (z := (⟨"com/example/coyote_hill/coyotehill/ItemStatus", "equals", "(Ljava/lang/Object;)Z"⟩ : MethodName)) hown (mvT hZ (hw _ (List.mem_of_getElem? (i := 75) rfl))) (mvT hZ (hw _ (List.mem_of_getElem? (i := 76) rfl))) (notFace_of_selects (args := #[]) (mvT hZ (hw _ (List.mem_of_getElem? (i := 78) rfl)))) (mvT hZ (hw _ (List.mem_of_getElem? (i := 78) rfl))) (mvT hZ (hw _ (List.mem_of_getElem? (i := 77) rfl))) (by decide) (backOf (W := 0) (rmEqX l Z a0 hw [] b80 a_63 h112 n0 Zc297 f267) hZ (hw _ (List.mem_of_getElem? (i := 79) rfl)) (hw _ (List.mem_of_getElem? (i := 51) rfl)) (by decide) (by decide)) q298a q298c (g := (mkF m 321 #[.val (.long id1), .second, .val (.long idr), .second, .val (.long qt1), .second, .val (.long qtr), .second, .val (.long att), .second, .val (.int fl), .val (.long q3), .second, .val (.int (qt1.toInt32)), .val (.int q8), .val (.int q11), .val (.int q18), .val (.int (Int32.ofNat ma)), .val (.int (Int32.ofNat mb)), .val (.int (att.toInt32)), .val (.int q32), .val (.ref b38), .val (.ref a_63), .val (.ref a_68), .val (.ref a_73), .val (.ref a_78), .val (.ref b80), .val (.ref b97), .val (.int (0 : Int32)), .val .null] [(.ref a_63), (.ref b80)])) rfl (by rw [hml]; rfl) (Steps.refl _) (argsL := [(.ref a_63)]) (rest := []) (lenOf pd__Ljava_lang_Object__Z rfl) rfl (by show 2 * 0 + _ ≤ _; exact Nat.le_of_eq rfl) (Jvm.hb hby at_321) (fun _ _ => ⟨rfl, e295, (by decide : 39 + 0 ≤ _), (by decide : 226 + 0 ≤ _)⟩)
        dsimp only [Pt.U, Pt.locs, Pt.cells, Pt.slots] at X298 l298 y298 z298 st298 hQ298
        subst l298 y298 z298
        obtain ⟨rfl, N298q, e298⟩ := hQ298
        have N298 := Fr.app N295 N298q
        have s299 : ∀ t_, Steps p.tables e below (T298.setTop (mkF m 332 #[.val (.long id1), .second, .val (.long idr), .second, .val (.long qt1), .second, .val (.long qtr), .second, .val (.long att), .second, .val (.int fl), .val (.long q3), .second, .val (.int (qt1.toInt32)), .val (.int q8), .val (.int q11), .val (.int q18), .val (.int (Int32.ofNat ma)), .val (.int (Int32.ofNat mb)), .val (.int (att.toInt32)), .val (.int q32), .val (.ref b38), .val (.ref a_63), .val (.ref a_68), .val (.ref a_73), .val (.ref a_78), .val (.ref b80), .val (.ref b97), .val (.int (0 : Int32)), .val .null] [(.int (1 : Int32))])) t_ → Steps p.tables e below (s₁.setTop (entryFrame m #[(.long id1), (.long idr), (.long qt1), (.long qtr), (.long att), (.int fl)] maxLocals)) t_ := fun t_ k_ => s296 t_ (by
          show Steps p.tables e below (T295.setTop (mkF m 321 #[.val (.long id1), .second, .val (.long idr), .second, .val (.long qt1), .second, .val (.long qtr), .second, .val (.long att), .second, .val (.int fl), .val (.long q3), .second, .val (.int (qt1.toInt32)), .val (.int q8), .val (.int q11), .val (.int q18), .val (.int (Int32.ofNat ma)), .val (.int (Int32.ofNat mb)), .val (.int (att.toInt32)), .val (.int q32), .val (.ref b38), .val (.ref a_63), .val (.ref a_68), .val (.ref a_73), .val (.ref a_78), .val (.ref b80), .val (.ref b97), .val (.int (0 : Int32)), .val .null] [(.ref a_63), (.ref b80)])) t_
          refine st298.trans ?_
          show Steps p.tables e below (T298.setTop (mkF m 324 #[.val (.long id1), .second, .val (.long idr), .second, .val (.long qt1), .second, .val (.long qtr), .second, .val (.long att), .second, .val (.int fl), .val (.long q3), .second, .val (.int (qt1.toInt32)), .val (.int q8), .val (.int q11), .val (.int q18), .val (.int (Int32.ofNat ma)), .val (.int (Int32.ofNat mb)), .val (.int (att.toInt32)), .val (.int q32), .val (.ref b38), .val (.ref a_63), .val (.ref a_68), .val (.ref a_73), .val (.ref a_78), .val (.ref b80), .val (.ref b97), .val (.int (0 : Int32)), .val .null] [(.int (0 : Int32))])) _
          refine XS.ifNo X298.here hx rfl (Jvm.hb hby at_324) rfl ((if0 _ _).trans (teq (rfl : (0 : Int32) = (0 : Int32))).2) ?_
          show Steps p.tables e below (T298.setTop (mkF m 327 #[.val (.long id1), .second, .val (.long idr), .second, .val (.long qt1), .second, .val (.long qtr), .second, .val (.long att), .second, .val (.int fl), .val (.long q3), .second, .val (.int (qt1.toInt32)), .val (.int q8), .val (.int q11), .val (.int q18), .val (.int (Int32.ofNat ma)), .val (.int (Int32.ofNat mb)), .val (.int (att.toInt32)), .val (.int q32), .val (.ref b38), .val (.ref a_63), .val (.ref a_68), .val (.ref a_73), .val (.ref a_78), .val (.ref b80), .val (.ref b97), .val (.int (0 : Int32)), .val .null] [])) _
          refine XS.iconst X298.here hx rfl (Jvm.hb hby at_327) ?_
          refine XS.goto X298.here hx rfl (pc0 := 328) (pc' := 332) rfl (Jvm.hb hby at_328) (by decide) (by decide) ?_
          show Steps p.tables e below (T298.setTop (mkF m 332 #[.val (.long id1), .second, .val (.long idr), .second, .val (.long qt1), .second, .val (.long qtr), .second, .val (.long att), .second, .val (.int fl), .val (.long q3), .second, .val (.int (qt1.toInt32)), .val (.int q8), .val (.int q11), .val (.int q18), .val (.int (Int32.ofNat ma)), .val (.int (Int32.ofNat mb)), .val (.int (att.toInt32)), .val (.int q32), .val (.ref b38), .val (.ref a_63), .val (.ref a_68), .val (.ref a_73), .val (.ref a_78), .val (.ref b80), .val (.ref b97), .val (.int (0 : Int32)), .val .null] [(.int (1 : Int32))])) t_
          exact k_)
        obtain ⟨fs, hr, hrun, hended, hREW⟩ := X298.leaveW hS (by first | exact Nat.le_refl _ | (rw [e298]; exact hk)) (v := some (.int (1 : Int32))) (fun h => by rw [Bd.returns] at h; cases h)
        refine ⟨_, _, s299 _ ?_, hrun, hended, _, _, rfl, ?_, (by show CHr Z ELs s.vm s.heap T298.vm T298.heap; rw [hh, e298]; exact CR.trans (CHv.at X298 hZ hEL CR.1)), hREW.1, hREW.2.1, hREW.2.2.1, hREW.2.2.2.mono (by decide) (by decide)⟩
        · show Steps p.tables e below (T298.setTop (mkF m 332 #[.val (.long id1), .second, .val (.long idr), .second, .val (.long qt1), .second, .val (.long qtr), .second, .val (.long att), .second, .val (.int fl), .val (.long q3), .second, .val (.int (qt1.toInt32)), .val (.int q8), .val (.int q11), .val (.int q18), .val (.int (Int32.ofNat ma)), .val (.int (Int32.ofNat mb)), .val (.int (att.toInt32)), .val (.int q32), .val (.ref b38), .val (.ref a_63), .val (.ref a_68), .val (.ref a_73), .val (.ref a_78), .val (.ref b80), .val (.ref b97), .val (.int (0 : Int32)), .val .null] [(.int (1 : Int32))])) _
          exact retN X298 hx (t := .boolean) Bd.returns (by simp) (Jvm.hb hby at_332) hr
        · show Q_rmLaw Z _ _ _ _ _ _ _ _ _ _ _ h0 n0 _ T298.heap _
          rw [e298]
          exact ⟨rfl, N298⟩
    · have s300 : ∀ t_, Steps p.tables e below (T119.setTop (mkF m 236 #[.val (.long id1), .second, .val (.long idr), .second, .val (.long qt1), .second, .val (.long qtr), .second, .val (.long att), .second, .val (.int fl), .val (.long q3), .second, .val (.int (qt1.toInt32)), .val (.int q8), .val (.int q11), .val (.int q18), .val (.int (Int32.ofNat ma)), .val (.int (Int32.ofNat mb)), .val (.int (att.toInt32)), .val (.int q32), .val (.ref b38), .val (.ref a_63), .val (.ref a_68), .val (.ref a_73), .val (.ref a_78), .val (.ref b80), .val (.ref b97), .unset, .unset] [(.int (0 : Int32))])) t_ → Steps p.tables e below (s₁.setTop (entryFrame m #[(.long id1), (.long idr), (.long qt1), (.long qtr), (.long att), (.int fl)] maxLocals)) t_ := fun t_ k_ => s121 t_ (castTop (by rw [hq120, if_neg h122]) k_)
      have s301 : ∀ t_, Steps p.tables e below (T119.setTop (mkF m 277 #[.val (.long id1), .second, .val (.long idr), .second, .val (.long qt1), .second, .val (.long qtr), .second, .val (.long att), .second, .val (.int fl), .val (.long q3), .second, .val (.int (qt1.toInt32)), .val (.int q8), .val (.int q11), .val (.int q18), .val (.int (Int32.ofNat ma)), .val (.int (Int32.ofNat mb)), .val (.int (att.toInt32)), .val (.int q32), .val (.ref b38), .val (.ref a_63), .val (.ref a_68), .val (.ref a_73), .val (.ref a_78), .val (.ref b80), .val (.ref b97), .val (.int (0 : Int32)), .val .null] [(.ref b97), (.ref b80)])) t_ → Steps p.tables e below (s₁.setTop (entryFrame m #[(.long id1), (.long idr), (.long qt1), (.long qtr), (.long att), (.int fl)] maxLocals)) t_ := fun t_ k_ => s300 t_ (by
        show Steps p.tables e below (T119.setTop (mkF m 236 #[.val (.long id1), .second, .val (.long idr), .second, .val (.long qt1), .second, .val (.long qtr), .second, .val (.long att), .second, .val (.int fl), .val (.long q3), .second, .val (.int (qt1.toInt32)), .val (.int q8), .val (.int q11), .val (.int q18), .val (.int (Int32.ofNat ma)), .val (.int (Int32.ofNat mb)), .val (.int (att.toInt32)), .val (.int q32), .val (.ref b38), .val (.ref a_63), .val (.ref a_68), .val (.ref a_73), .val (.ref a_78), .val (.ref b80), .val (.ref b97), .unset, .unset] [(.int (0 : Int32))])) t_
        refine XS.ifYes X119.here hx rfl (pc0 := 236) (pc' := 267) rfl (Jvm.hb hby at_236) rfl ((if0 _ _).trans (teq (rfl : (0 : Int32) = (0 : Int32))).1) (by decide) (by decide) ?_
        show Steps p.tables e below (T119.setTop (mkF m 267 #[.val (.long id1), .second, .val (.long idr), .second, .val (.long qt1), .second, .val (.long qtr), .second, .val (.long att), .second, .val (.int fl), .val (.long q3), .second, .val (.int (qt1.toInt32)), .val (.int q8), .val (.int q11), .val (.int q18), .val (.int (Int32.ofNat ma)), .val (.int (Int32.ofNat mb)), .val (.int (att.toInt32)), .val (.int q32), .val (.ref b38), .val (.ref a_63), .val (.ref a_68), .val (.ref a_73), .val (.ref a_78), .val (.ref b80), .val (.ref b97), .unset, .unset] [])) _
        refine XS.iconst X119.here hx rfl (Jvm.hb hby at_267) ?_
        refine XS.istore X119.here hx rfl (Jvm.hb hby at_268) rfl (l' := #[.val (.long id1), .second, .val (.long idr), .second, .val (.long qt1), .second, .val (.long qtr), .second, .val (.long att), .second, .val (.int fl), .val (.long q3), .second, .val (.int (qt1.toInt32)), .val (.int q8), .val (.int q11), .val (.int q18), .val (.int (Int32.ofNat ma)), .val (.int (Int32.ofNat mb)), .val (.int (att.toInt32)), .val (.int q32), .val (.ref b38), .val (.ref a_63), .val (.ref a_68), .val (.ref a_73), .val (.ref a_78), .val (.ref b80), .val (.ref b97), .val (.int (0 : Int32)), .unset]) rfl ?_
        refine XS.aconstNull X119.here hx rfl (Jvm.hb hby at_270) ?_
        refine XS.astore X119.here hx rfl (Jvm.hb hby at_271) rfl rfl (l' := #[.val (.long id1), .second, .val (.long idr), .second, .val (.long qt1), .second, .val (.long qtr), .second, .val (.long att), .second, .val (.int fl), .val (.long q3), .second, .val (.int (qt1.toInt32)), .val (.int q8), .val (.int q11), .val (.int q18), .val (.int (Int32.ofNat ma)), .val (.int (Int32.ofNat mb)), .val (.int (att.toInt32)), .val (.int q32), .val (.ref b38), .val (.ref a_63), .val (.ref a_68), .val (.ref a_73), .val (.ref a_78), .val (.ref b80), .val (.ref b97), .val (.int (0 : Int32)), .val .null]) rfl ?_
        refine XS.aload X119.here hx rfl (Jvm.hb hby at_273) rfl rfl ?_
        refine XS.aload X119.here hx rfl (Jvm.hb hby at_275) rfl rfl ?_
        show Steps p.tables e below (T119.setTop (mkF m 277 #[.val (.long id1), .second, .val (.long idr), .second, .val (.long qt1), .second, .val (.long qtr), .second, .val (.long att), .second, .val (.int fl), .val (.long q3), .second, .val (.int (qt1.toInt32)), .val (.int q8), .val (.int q11), .val (.int q18), .val (.int (Int32.ofNat ma)), .val (.int (Int32.ofNat mb)), .val (.int (att.toInt32)), .val (.int q32), .val (.ref b38), .val (.ref a_63), .val (.ref a_68), .val (.ref a_73), .val (.ref a_78), .val (.ref b80), .val (.ref b97), .val (.int (0 : Int32)), .val .null] [(.ref b97), (.ref b80)])) _
        show Steps p.tables e below (T119.setTop (mkF m 277 #[.val (.long id1), .second, .val (.long idr), .second, .val (.long qt1), .second, .val (.long qtr), .second, .val (.long att), .second, .val (.int fl), .val (.long q3), .second, .val (.int (qt1.toInt32)), .val (.int q8), .val (.int q11), .val (.int q18), .val (.int (Int32.ofNat ma)), .val (.int (Int32.ofNat mb)), .val (.int (att.toInt32)), .val (.int q32), .val (.ref b38), .val (.ref a_63), .val (.ref a_68), .val (.ref a_73), .val (.ref a_78), .val (.ref b80), .val (.ref b97), .val (.int (0 : Int32)), .val .null] [(.ref b97), (.ref b80)])) t_
        exact k_)
      have O302 : Old Z n0 h112 := (O105.keep K112 (allS (show n0 ≤ b97 by omega) all0))
      have f303 : Exa Z h112 b80 "com/example/coyote_hill/coyotehill/ItemStatus" := ((Fq95_0.ext E97).keep K112)
      have f304 : Fld Z h112 b80 "com/example/coyote_hill/coyotehill/ItemStatus" "_id" "J" (.long id1) := ((Fq95_1.ext E97).keep K112 (ninS (show @Ne Nat b80 b97 by omega) nin0))
      have f305 : Fld Z h112 b80 "com/example/coyote_hill/coyotehill/ItemStatus" "_queue" "Ljava/lang/String;" (.ref a_63) := ((Fq95_2.ext E97).keep K112 (ninS (show @Ne Nat b80 b97 by omega) nin0))
      have f306 : Fld Z h112 b80 "com/example/coyote_hill/coyotehill/ItemStatus" "_tenant" "Ljava/lang/String;" (.ref a_68) := ((Fq95_3.ext E97).keep K112 (ninS (show @Ne Nat b80 b97 by omega) nin0))
      have f307 : Fld Z h112 b80 "com/example/coyote_hill/coyotehill/ItemStatus" "_state" "Lcom/example/coyote_hill/coyotehill/ItemState;" (.ref s1) := ((Fq95_4.ext E97).keep K112 (ninS (show @Ne Nat b80 b97 by omega) nin0))
      have f308 : Fld Z h112 b80 "com/example/coyote_hill/coyotehill/ItemStatus" "_attempt" "I" (.int (att.toInt32)) := ((Fq95_5.ext E97).keep K112 (ninS (show @Ne Nat b80 b97 by omega) nin0))
      have f309 : Exa Z h112 a_63 "java/lang/String" := (((f92.keep K95).ext E97).keep K112)
      have f310 : Fld Z h112 a_63 "java/lang/String" "value" "[B" (.ref b_63) := (((((((Fq63_1.keep K68 nin0).keep K73 nin0).keep K78 nin0).ext E80).keep K95 (ninS (show @Ne Nat a_63 b80 by omega) nin0)).ext E97).keep K112 (ninS (show @Ne Nat a_63 b97 by omega) nin0))
      have f311 : Fld Z h112 a_63 "java/lang/String" "coder" "B" (.int (own_cod (own_str (qt1.toInt32)))) := (((((((Fq63_2.keep K68 nin0).keep K73 nin0).keep K78 nin0).ext E80).keep K95 (ninS (show @Ne Nat a_63 b80 by omega) nin0)).ext E97).keep K112 (ninS (show @Ne Nat a_63 b97 by omega) nin0))
      have f312 : Arv Z h112 b_63 kb_63 .byte (Int32.ofNat (own_enl (own_str (qt1.toInt32)))) (own_enc (own_str (qt1.toInt32))) (.int (0 : Int32)) := (((((((Fq63_3.keep K68 nin0).keep K73 nin0).keep K78 nin0).ext E80).keep K95 (ninS (Ne.symm (Exa.neArv A80 ((((Fq63_3.keep K68 nin0).keep K73 nin0).keep K78 nin0).ext E80) (hw _ (List.mem_of_getElem? (i := 50) rfl)))) nin0)).ext E97).keep K112 (ninS (Ne.symm (Exa.neArv A97 ((((((Fq63_3.keep K68 nin0).keep K73 nin0).keep K78 nin0).ext E80).keep K95 (ninS (Ne.symm (Exa.neArv A80 ((((Fq63_3.keep K68 nin0).keep K73 nin0).keep K78 nin0).ext E80) (hw _ (List.mem_of_getElem? (i := 50) rfl)))) nin0)).ext E97) (hw _ (List.mem_of_getElem? (i := 50) rfl)))) nin0))
      have f313 : Exa Z h112 a_73 "java/lang/String" := (f109.keep K112)
      have f314 : Fld Z h112 a_73 "java/lang/String" "value" "[B" (.ref b_73) := (((((Fq73_1.keep K78 nin0).ext E80).keep K95 (ninS (show @Ne Nat a_73 b80 by omega) nin0)).ext E97).keep K112 (ninS (show @Ne Nat a_73 b97 by omega) nin0))
      have f315 : Fld Z h112 a_73 "java/lang/String" "coder" "B" (.int (own_cod (own_str q11))) := (((((Fq73_2.keep K78 nin0).ext E80).keep K95 (ninS (show @Ne Nat a_73 b80 by omega) nin0)).ext E97).keep K112 (ninS (show @Ne Nat a_73 b97 by omega) nin0))
      have f316 : Arv Z h112 b_73 kb_73 .byte (Int32.ofNat (own_enl (own_str q11))) (own_enc (own_str q11)) (.int (0 : Int32)) := (((((Fq73_3.keep K78 nin0).ext E80).keep K95 (ninS (Ne.symm (Exa.neArv A80 ((Fq73_3.keep K78 nin0).ext E80) (hw _ (List.mem_of_getElem? (i := 50) rfl)))) nin0)).ext E97).keep K112 (ninS (Ne.symm (Exa.neArv A97 ((((Fq73_3.keep K78 nin0).ext E80).keep K95 (ninS (Ne.symm (Exa.neArv A80 ((Fq73_3.keep K78 nin0).ext E80) (hw _ (List.mem_of_getElem? (i := 50) rfl)))) nin0)).ext E97) (hw _ (List.mem_of_getElem? (i := 50) rfl)))) nin0))
      have f317 : Exa Z h112 a_68 "java/lang/String" := (((f93.keep K95).ext E97).keep K112)
      have f318 : Fld Z h112 a_68 "java/lang/String" "value" "[B" (.ref b_68) := ((((((Fq68_1.keep K73 nin0).keep K78 nin0).ext E80).keep K95 (ninS (show @Ne Nat a_68 b80 by omega) nin0)).ext E97).keep K112 (ninS (show @Ne Nat a_68 b97 by omega) nin0))
      have f319 : Fld Z h112 a_68 "java/lang/String" "coder" "B" (.int (own_cod (own_str q8))) := ((((((Fq68_2.keep K73 nin0).keep K78 nin0).ext E80).keep K95 (ninS (show @Ne Nat a_68 b80 by omega) nin0)).ext E97).keep K112 (ninS (show @Ne Nat a_68 b97 by omega) nin0))
      have f320 : Arv Z h112 b_68 kb_68 .byte (Int32.ofNat (own_enl (own_str q8))) (own_enc (own_str q8)) (.int (0 : Int32)) := ((((((Fq68_3.keep K73 nin0).keep K78 nin0).ext E80).keep K95 (ninS (Ne.symm (Exa.neArv A80 (((Fq68_3.keep K73 nin0).keep K78 nin0).ext E80) (hw _ (List.mem_of_getElem? (i := 50) rfl)))) nin0)).ext E97).keep K112 (ninS (Ne.symm (Exa.neArv A97 (((((Fq68_3.keep K73 nin0).keep K78 nin0).ext E80).keep K95 (ninS (Ne.symm (Exa.neArv A80 (((Fq68_3.keep K73 nin0).keep K78 nin0).ext E80) (hw _ (List.mem_of_getElem? (i := 50) rfl)))) nin0)).ext E97) (hw _ (List.mem_of_getElem? (i := 50) rfl)))) nin0))
      have f321 : Exa Z h112 a_78 "java/lang/String" := (f110.keep K112)
      have f322 : Fld Z h112 a_78 "java/lang/String" "value" "[B" (.ref b_78) := ((((Fq78_1.ext E80).keep K95 (ninS (show @Ne Nat a_78 b80 by omega) nin0)).ext E97).keep K112 (ninS (show @Ne Nat a_78 b97 by omega) nin0))
      have f323 : Fld Z h112 a_78 "java/lang/String" "coder" "B" (.int (own_cod (own_str q18))) := ((((Fq78_2.ext E80).keep K95 (ninS (show @Ne Nat a_78 b80 by omega) nin0)).ext E97).keep K112 (ninS (show @Ne Nat a_78 b97 by omega) nin0))
      have f324 : Arv Z h112 b_78 kb_78 .byte (Int32.ofNat (own_enl (own_str q18))) (own_enc (own_str q18)) (.int (0 : Int32)) := ((((Fq78_3.ext E80).keep K95 (ninS (Ne.symm (Exa.neArv A80 (Fq78_3.ext E80) (hw _ (List.mem_of_getElem? (i := 50) rfl)))) nin0)).ext E97).keep K112 (ninS (Ne.symm (Exa.neArv A97 (((Fq78_3.ext E80).keep K95 (ninS (Ne.symm (Exa.neArv A80 (Fq78_3.ext E80) (hw _ (List.mem_of_getElem? (i := 50) rfl)))) nin0)).ext E97) (hw _ (List.mem_of_getElem? (i := 50) rfl)))) nin0))
      have Zc325 : n0 ≤ h112.size := by omega
      obtain ⟨cq326, kq326, q326a, q326b, q326c⟩ := isOf hZ e119 f303
      obtain ⟨_, _, ⟨T326, L326, k326, n326⟩, -, X326, ⟨Lc326, hQ326, l326, y326, z326⟩, st326⟩ := X119.virtualBack hx (y := (⟨"com/example/coyote_hill/coyotehill/ItemStatus", "equals", "(Ljava/lang/Object;)Z"⟩ : MethodName)) (z := (⟨"com/example/coyote_hill/coyotehill/ItemStatus", "equals", "(Ljava/lang/Object;)Z"⟩ : MethodName)) hown (mvT hZ (hw _ (List.mem_of_getElem? (i := 75) rfl))) (mvT hZ (hw _ (List.mem_of_getElem? (i := 76) rfl))) (notFace_of_selects (args := #[]) (mvT hZ (hw _ (List.mem_of_getElem? (i := 78) rfl)))) (mvT hZ (hw _ (List.mem_of_getElem? (i := 78) rfl))) (mvT hZ (hw _ (List.mem_of_getElem? (i := 77) rfl))) (by decide) (backOf (W := 0) (rmEqO l Z a0 hw [] b80 b97 cst id1 q3 s1 s2 (att.toInt32) q32 a_63 b_63 kb_63 (own_str (qt1.toInt32)) a_73 b_73 kb_73 (own_str q11) a_68 b_68 kb_68 (own_str q8) a_78 b_78 kb_78 (own_str q18) h112 n0 Zc325 I1 O302 (hcst : ¬ (cst = (0 : Int32))) f303 f304 f305 f306 f307 f308 Fq112_0 Fq112_1 Fq112_2 Fq112_3 Fq112_4 Fq112_5 f309 f310 f311 f312 f313 f314 f315 f316 f317 f318 f319 f320 f321 f322 f323 f324 (own_neN (by omega)) (own_neN (by omega)) (own_strchs _) (own_strchs _) (own_strchs _) (own_strchs _) (own_strl _) (own_strl _) (own_strl _) (own_strl _)) hZ (hw _ (List.mem_of_getElem? (i := 79) rfl)) (hw _ (List.mem_of_getElem? (i := 51) rfl)) (by decide) (by decide)) q326a q326c (g := (mkF m 277 #[.val (.long id1), .second, .val (.long idr), .second, .val (.long qt1), .second, .val (.long qtr), .second, .val (.long att), .second, .val (.int fl), .val (.long q3), .second, .val (.int (qt1.toInt32)), .val (.int q8), .val (.int q11), .val (.int q18), .val (.int (Int32.ofNat ma)), .val (.int (Int32.ofNat mb)), .val (.int (att.toInt32)), .val (.int q32), .val (.ref b38), .val (.ref a_63), .val (.ref a_68), .val (.ref a_73), .val (.ref a_78), .val (.ref b80), .val (.ref b97), .val (.int (0 : Int32)), .val .null] [(.ref b97), (.ref b80)])) rfl (by rw [hml]; rfl) (Steps.refl _) (argsL := [(.ref b97)]) (rest := []) (lenOf pd__Ljava_lang_Object__Z rfl) rfl (by show 2 * 0 + _ ≤ _; exact Nat.le_of_eq rfl) (Jvm.hb hby at_277) (fun _ _ => ⟨rfl, e119, (by decide : 39 + 0 ≤ _), (by decide : 226 + 0 ≤ _)⟩)
      dsimp only [Pt.U, Pt.locs, Pt.cells, Pt.slots] at X326 l326 y326 z326 st326 hQ326
      subst l326 y326 z326
      obtain ⟨rfl, N326q, e326⟩ := hQ326
      have N326 := Fr.app N119 N326q
      obtain ⟨q327, hq327⟩ : ∃ z : Int32, z = (if (lcmpW id1 q3) = (0 : Int32) then (if (own_str (qt1.toInt32)) = (own_str q11) then (if (own_str q8) = (own_str q18) then (if s1 = s2 then (if (att.toInt32) = q32 then (1 : Int32) else (0 : Int32)) else (0 : Int32)) else (0 : Int32)) else (0 : Int32)) else (0 : Int32)) := ⟨_, rfl⟩
      rw [← hq327] at st326
      have hE0 : q327 = (0 : Int32) := by rw [hq327, if_pos (hq114.symm.trans h116), if_neg h122]
      have s328 : ∀ t_, Steps p.tables e below (T326.setTop (mkF m 289 #[.val (.long id1), .second, .val (.long idr), .second, .val (.long qt1), .second, .val (.long qtr), .second, .val (.long att), .second, .val (.int fl), .val (.long q3), .second, .val (.int (qt1.toInt32)), .val (.int q8), .val (.int q11), .val (.int q18), .val (.int (Int32.ofNat ma)), .val (.int (Int32.ofNat mb)), .val (.int (att.toInt32)), .val (.int q32), .val (.ref b38), .val (.ref a_63), .val (.ref a_68), .val (.ref a_73), .val (.ref a_78), .val (.ref b80), .val (.ref b97), .val (.int (0 : Int32)), .val .null] [(.ref b80), (.ref b97)])) t_ → Steps p.tables e below (s₁.setTop (entryFrame m #[(.long id1), (.long idr), (.long qt1), (.long qtr), (.long att), (.int fl)] maxLocals)) t_ := fun t_ k_ => s301 t_ (by
        show Steps p.tables e below (T119.setTop (mkF m 277 #[.val (.long id1), .second, .val (.long idr), .second, .val (.long qt1), .second, .val (.long qtr), .second, .val (.long att), .second, .val (.int fl), .val (.long q3), .second, .val (.int (qt1.toInt32)), .val (.int q8), .val (.int q11), .val (.int q18), .val (.int (Int32.ofNat ma)), .val (.int (Int32.ofNat mb)), .val (.int (att.toInt32)), .val (.int q32), .val (.ref b38), .val (.ref a_63), .val (.ref a_68), .val (.ref a_73), .val (.ref a_78), .val (.ref b80), .val (.ref b97), .val (.int (0 : Int32)), .val .null] [(.ref b97), (.ref b80)])) t_
        refine st326.trans ?_
        show Steps p.tables e below (T326.setTop (mkF m 280 #[.val (.long id1), .second, .val (.long idr), .second, .val (.long qt1), .second, .val (.long qtr), .second, .val (.long att), .second, .val (.int fl), .val (.long q3), .second, .val (.int (qt1.toInt32)), .val (.int q8), .val (.int q11), .val (.int q18), .val (.int (Int32.ofNat ma)), .val (.int (Int32.ofNat mb)), .val (.int (att.toInt32)), .val (.int q32), .val (.ref b38), .val (.ref a_63), .val (.ref a_68), .val (.ref a_73), .val (.ref a_78), .val (.ref b80), .val (.ref b97), .val (.int (0 : Int32)), .val .null] [(.int q327)])) _
        refine XS.iload X326.here hx rfl (Jvm.hb hby at_280) rfl ?_
        refine XS.icmpNo X326.here hx rfl (Jvm.hb hby at_282) rfl (teq hE0).2 ?_
        show Steps p.tables e below (T326.setTop (mkF m 285 #[.val (.long id1), .second, .val (.long idr), .second, .val (.long qt1), .second, .val (.long qtr), .second, .val (.long att), .second, .val (.int fl), .val (.long q3), .second, .val (.int (qt1.toInt32)), .val (.int q8), .val (.int q11), .val (.int q18), .val (.int (Int32.ofNat ma)), .val (.int (Int32.ofNat mb)), .val (.int (att.toInt32)), .val (.int q32), .val (.ref b38), .val (.ref a_63), .val (.ref a_68), .val (.ref a_73), .val (.ref a_78), .val (.ref b80), .val (.ref b97), .val (.int (0 : Int32)), .val .null] [])) _
        refine XS.aload X326.here hx rfl (Jvm.hb hby at_285) rfl rfl ?_
        refine XS.aload X326.here hx rfl (Jvm.hb hby at_287) rfl rfl ?_
        show Steps p.tables e below (T326.setTop (mkF m 289 #[.val (.long id1), .second, .val (.long idr), .second, .val (.long qt1), .second, .val (.long qtr), .second, .val (.long att), .second, .val (.int fl), .val (.long q3), .second, .val (.int (qt1.toInt32)), .val (.int q8), .val (.int q11), .val (.int q18), .val (.int (Int32.ofNat ma)), .val (.int (Int32.ofNat mb)), .val (.int (att.toInt32)), .val (.int q32), .val (.ref b38), .val (.ref a_63), .val (.ref a_68), .val (.ref a_73), .val (.ref a_78), .val (.ref b80), .val (.ref b97), .val (.int (0 : Int32)), .val .null] [(.ref b80), (.ref b97)])) t_
        exact k_)
      have Zc329 : n0 ≤ h112.size := by omega
      obtain ⟨cq330, kq330, q330a, q330b, q330c⟩ := isOf hZ e326 Fq112_0
      obtain ⟨_, _, ⟨T330, L330, k330, n330⟩, -, X330, ⟨Lc330, hQ330, l330, y330, z330⟩, st330⟩ := X326.virtualBack hx (y := (⟨"com/example/coyote_hill/coyotehill/ItemStatus", "equals", "(Ljava/lang/Object;)Z"⟩ : MethodName)) (z := (⟨"com/example/coyote_hill/coyotehill/ItemStatus", "equals", "(Ljava/lang/Object;)Z"⟩ : MethodName)) hown (mvT hZ (hw _ (List.mem_of_getElem? (i := 75) rfl))) (mvT hZ (hw _ (List.mem_of_getElem? (i := 76) rfl))) (notFace_of_selects (args := #[]) (mvT hZ (hw _ (List.mem_of_getElem? (i := 78) rfl)))) (mvT hZ (hw _ (List.mem_of_getElem? (i := 78) rfl))) (mvT hZ (hw _ (List.mem_of_getElem? (i := 77) rfl))) (by decide) (backOf (W := 0) (rmEqO l Z a0 hw [] b97 b80 cst q3 id1 s2 s1 q32 (att.toInt32) a_73 b_73 kb_73 (own_str q11) a_63 b_63 kb_63 (own_str (qt1.toInt32)) a_78 b_78 kb_78 (own_str q18) a_68 b_68 kb_68 (own_str q8) h112 n0 Zc329 I1 O302 (hcst : ¬ (cst = (0 : Int32))) Fq112_0 Fq112_1 Fq112_2 Fq112_3 Fq112_4 Fq112_5 f303 f304 f305 f306 f307 f308 f313 f314 f315 f316 f309 f310 f311 f312 f321 f322 f323 f324 f317 f318 f319 f320 (own_neN (by omega)) (own_neN (by omega)) (own_strchs _) (own_strchs _) (own_strchs _) (own_strchs _) (own_strl _) (own_strl _) (own_strl _) (own_strl _)) hZ (hw _ (List.mem_of_getElem? (i := 79) rfl)) (hw _ (List.mem_of_getElem? (i := 51) rfl)) (by decide) (by decide)) q330a q330c (g := (mkF m 289 #[.val (.long id1), .second, .val (.long idr), .second, .val (.long qt1), .second, .val (.long qtr), .second, .val (.long att), .second, .val (.int fl), .val (.long q3), .second, .val (.int (qt1.toInt32)), .val (.int q8), .val (.int q11), .val (.int q18), .val (.int (Int32.ofNat ma)), .val (.int (Int32.ofNat mb)), .val (.int (att.toInt32)), .val (.int q32), .val (.ref b38), .val (.ref a_63), .val (.ref a_68), .val (.ref a_73), .val (.ref a_78), .val (.ref b80), .val (.ref b97), .val (.int (0 : Int32)), .val .null] [(.ref b80), (.ref b97)])) rfl (by rw [hml]; rfl) (Steps.refl _) (argsL := [(.ref b80)]) (rest := []) (lenOf pd__Ljava_lang_Object__Z rfl) rfl (by show 2 * 0 + _ ≤ _; exact Nat.le_of_eq rfl) (Jvm.hb hby at_289) (fun _ _ => ⟨rfl, e326, (by decide : 39 + 0 ≤ _), (by decide : 226 + 0 ≤ _)⟩)
      dsimp only [Pt.U, Pt.locs, Pt.cells, Pt.slots] at X330 l330 y330 z330 st330 hQ330
      subst l330 y330 z330
      obtain ⟨rfl, N330q, e330⟩ := hQ330
      have N330 := Fr.app N326 N330q
      obtain ⟨q331, hq331⟩ : ∃ z : Int32, z = (if (lcmpW q3 id1) = (0 : Int32) then (if (own_str q11) = (own_str (qt1.toInt32)) then (if (own_str q18) = (own_str q8) then (if s2 = s1 then (if q32 = (att.toInt32) then (1 : Int32) else (0 : Int32)) else (0 : Int32)) else (0 : Int32)) else (0 : Int32)) else (0 : Int32)) := ⟨_, rfl⟩
      rw [← hq331] at st330
      have hE1 : q331 = (0 : Int32) := by rw [hq331, if_pos (own_lcs (hq114.symm.trans h116)), if_neg (fun q => h122 q.symm)]
      have s332 : ∀ t_, Steps p.tables e below (T330.setTop (mkF m 301 #[.val (.long id1), .second, .val (.long idr), .second, .val (.long qt1), .second, .val (.long qtr), .second, .val (.long att), .second, .val (.int fl), .val (.long q3), .second, .val (.int (qt1.toInt32)), .val (.int q8), .val (.int q11), .val (.int q18), .val (.int (Int32.ofNat ma)), .val (.int (Int32.ofNat mb)), .val (.int (att.toInt32)), .val (.int q32), .val (.ref b38), .val (.ref a_63), .val (.ref a_68), .val (.ref a_73), .val (.ref a_78), .val (.ref b80), .val (.ref b97), .val (.int (0 : Int32)), .val .null] [(.ref b80), (.ref b80)])) t_ → Steps p.tables e below (s₁.setTop (entryFrame m #[(.long id1), (.long idr), (.long qt1), (.long qtr), (.long att), (.int fl)] maxLocals)) t_ := fun t_ k_ => s328 t_ (by
        show Steps p.tables e below (T326.setTop (mkF m 289 #[.val (.long id1), .second, .val (.long idr), .second, .val (.long qt1), .second, .val (.long qtr), .second, .val (.long att), .second, .val (.int fl), .val (.long q3), .second, .val (.int (qt1.toInt32)), .val (.int q8), .val (.int q11), .val (.int q18), .val (.int (Int32.ofNat ma)), .val (.int (Int32.ofNat mb)), .val (.int (att.toInt32)), .val (.int q32), .val (.ref b38), .val (.ref a_63), .val (.ref a_68), .val (.ref a_73), .val (.ref a_78), .val (.ref b80), .val (.ref b97), .val (.int (0 : Int32)), .val .null] [(.ref b80), (.ref b97)])) t_
        refine st330.trans ?_
        show Steps p.tables e below (T330.setTop (mkF m 292 #[.val (.long id1), .second, .val (.long idr), .second, .val (.long qt1), .second, .val (.long qtr), .second, .val (.long att), .second, .val (.int fl), .val (.long q3), .second, .val (.int (qt1.toInt32)), .val (.int q8), .val (.int q11), .val (.int q18), .val (.int (Int32.ofNat ma)), .val (.int (Int32.ofNat mb)), .val (.int (att.toInt32)), .val (.int q32), .val (.ref b38), .val (.ref a_63), .val (.ref a_68), .val (.ref a_73), .val (.ref a_78), .val (.ref b80), .val (.ref b97), .val (.int (0 : Int32)), .val .null] [(.int q331)])) _
        refine XS.iload X330.here hx rfl (Jvm.hb hby at_292) rfl ?_
        refine XS.icmpNo X330.here hx rfl (Jvm.hb hby at_294) rfl (teq hE1).2 ?_
        show Steps p.tables e below (T330.setTop (mkF m 297 #[.val (.long id1), .second, .val (.long idr), .second, .val (.long qt1), .second, .val (.long qtr), .second, .val (.long att), .second, .val (.int fl), .val (.long q3), .second, .val (.int (qt1.toInt32)), .val (.int q8), .val (.int q11), .val (.int q18), .val (.int (Int32.ofNat ma)), .val (.int (Int32.ofNat mb)), .val (.int (att.toInt32)), .val (.int q32), .val (.ref b38), .val (.ref a_63), .val (.ref a_68), .val (.ref a_73), .val (.ref a_78), .val (.ref b80), .val (.ref b97), .val (.int (0 : Int32)), .val .null] [])) _
        refine XS.aload X330.here hx rfl (Jvm.hb hby at_297) rfl rfl ?_
        refine XS.aload X330.here hx rfl (Jvm.hb hby at_299) rfl rfl ?_
        show Steps p.tables e below (T330.setTop (mkF m 301 #[.val (.long id1), .second, .val (.long idr), .second, .val (.long qt1), .second, .val (.long qtr), .second, .val (.long att), .second, .val (.int fl), .val (.long q3), .second, .val (.int (qt1.toInt32)), .val (.int q8), .val (.int q11), .val (.int q18), .val (.int (Int32.ofNat ma)), .val (.int (Int32.ofNat mb)), .val (.int (att.toInt32)), .val (.int q32), .val (.ref b38), .val (.ref a_63), .val (.ref a_68), .val (.ref a_73), .val (.ref a_78), .val (.ref b80), .val (.ref b97), .val (.int (0 : Int32)), .val .null] [(.ref b80), (.ref b80)])) t_
        exact k_)
      have Zc333 : n0 ≤ h112.size := by omega
      obtain ⟨cq334, kq334, q334a, q334b, q334c⟩ := isOf hZ e330 f303
      obtain ⟨_, _, ⟨T334, L334, k334, n334⟩, -, X334, ⟨Lc334, hQ334, l334, y334, z334⟩, st334⟩ := X330.virtualBack hx (y := (⟨"com/example/coyote_hill/coyotehill/ItemStatus", "equals", "(Ljava/lang/Object;)Z"⟩ : MethodName)) (z := (⟨"com/example/coyote_hill/coyotehill/ItemStatus", "equals", "(Ljava/lang/Object;)Z"⟩ : MethodName)) hown (mvT hZ (hw _ (List.mem_of_getElem? (i := 75) rfl))) (mvT hZ (hw _ (List.mem_of_getElem? (i := 76) rfl))) (notFace_of_selects (args := #[]) (mvT hZ (hw _ (List.mem_of_getElem? (i := 78) rfl)))) (mvT hZ (hw _ (List.mem_of_getElem? (i := 78) rfl))) (mvT hZ (hw _ (List.mem_of_getElem? (i := 77) rfl))) (by decide) (backOf (W := 0) (rmEqS l Z a0 hw [] b80 id1 a_63 a_68 s1 (att.toInt32) h112 n0 Zc333 f303 f304 f305 f306 f307 f308 f309 f317) hZ (hw _ (List.mem_of_getElem? (i := 79) rfl)) (hw _ (List.mem_of_getElem? (i := 51) rfl)) (by decide) (by decide)) q334a q334c (g := (mkF m 301 #[.val (.long id1), .second, .val (.long idr), .second, .val (.long qt1), .second, .val (.long qtr), .second, .val (.long att), .second, .val (.int fl), .val (.long q3), .second, .val (.int (qt1.toInt32)), .val (.int q8), .val (.int q11), .val (.int q18), .val (.int (Int32.ofNat ma)), .val (.int (Int32.ofNat mb)), .val (.int (att.toInt32)), .val (.int q32), .val (.ref b38), .val (.ref a_63), .val (.ref a_68), .val (.ref a_73), .val (.ref a_78), .val (.ref b80), .val (.ref b97), .val (.int (0 : Int32)), .val .null] [(.ref b80), (.ref b80)])) rfl (by rw [hml]; rfl) (Steps.refl _) (argsL := [(.ref b80)]) (rest := []) (lenOf pd__Ljava_lang_Object__Z rfl) rfl (by show 2 * 0 + _ ≤ _; exact Nat.le_of_eq rfl) (Jvm.hb hby at_301) (fun _ _ => ⟨rfl, e330, (by decide : 39 + 0 ≤ _), (by decide : 226 + 0 ≤ _)⟩)
      dsimp only [Pt.U, Pt.locs, Pt.cells, Pt.slots] at X334 l334 y334 z334 st334 hQ334
      subst l334 y334 z334
      obtain ⟨rfl, N334q, e334⟩ := hQ334
      have N334 := Fr.app N330 N334q
      have s335 : ∀ t_, Steps p.tables e below (T334.setTop (mkF m 311 #[.val (.long id1), .second, .val (.long idr), .second, .val (.long qt1), .second, .val (.long qtr), .second, .val (.long att), .second, .val (.int fl), .val (.long q3), .second, .val (.int (qt1.toInt32)), .val (.int q8), .val (.int q11), .val (.int q18), .val (.int (Int32.ofNat ma)), .val (.int (Int32.ofNat mb)), .val (.int (att.toInt32)), .val (.int q32), .val (.ref b38), .val (.ref a_63), .val (.ref a_68), .val (.ref a_73), .val (.ref a_78), .val (.ref b80), .val (.ref b97), .val (.int (0 : Int32)), .val .null] [.null, (.ref b80)])) t_ → Steps p.tables e below (s₁.setTop (entryFrame m #[(.long id1), (.long idr), (.long qt1), (.long qtr), (.long att), (.int fl)] maxLocals)) t_ := fun t_ k_ => s332 t_ (by
        show Steps p.tables e below (T330.setTop (mkF m 301 #[.val (.long id1), .second, .val (.long idr), .second, .val (.long qt1), .second, .val (.long qtr), .second, .val (.long att), .second, .val (.int fl), .val (.long q3), .second, .val (.int (qt1.toInt32)), .val (.int q8), .val (.int q11), .val (.int q18), .val (.int (Int32.ofNat ma)), .val (.int (Int32.ofNat mb)), .val (.int (att.toInt32)), .val (.int q32), .val (.ref b38), .val (.ref a_63), .val (.ref a_68), .val (.ref a_73), .val (.ref a_78), .val (.ref b80), .val (.ref b97), .val (.int (0 : Int32)), .val .null] [(.ref b80), (.ref b80)])) t_
        refine st334.trans ?_
        show Steps p.tables e below (T334.setTop (mkF m 304 #[.val (.long id1), .second, .val (.long idr), .second, .val (.long qt1), .second, .val (.long qtr), .second, .val (.long att), .second, .val (.int fl), .val (.long q3), .second, .val (.int (qt1.toInt32)), .val (.int q8), .val (.int q11), .val (.int q18), .val (.int (Int32.ofNat ma)), .val (.int (Int32.ofNat mb)), .val (.int (att.toInt32)), .val (.int q32), .val (.ref b38), .val (.ref a_63), .val (.ref a_68), .val (.ref a_73), .val (.ref a_78), .val (.ref b80), .val (.ref b97), .val (.int (0 : Int32)), .val .null] [(.int (1 : Int32))])) _
        refine XS.ifNo X334.here hx rfl (Jvm.hb hby at_304) rfl ((if0 _ _).trans (feq (by decide : ¬ ((1 : Int32) = (0 : Int32)))).1) ?_
        show Steps p.tables e below (T334.setTop (mkF m 307 #[.val (.long id1), .second, .val (.long idr), .second, .val (.long qt1), .second, .val (.long qtr), .second, .val (.long att), .second, .val (.int fl), .val (.long q3), .second, .val (.int (qt1.toInt32)), .val (.int q8), .val (.int q11), .val (.int q18), .val (.int (Int32.ofNat ma)), .val (.int (Int32.ofNat mb)), .val (.int (att.toInt32)), .val (.int q32), .val (.ref b38), .val (.ref a_63), .val (.ref a_68), .val (.ref a_73), .val (.ref a_78), .val (.ref b80), .val (.ref b97), .val (.int (0 : Int32)), .val .null] [])) _
        refine XS.aload X334.here hx rfl (Jvm.hb hby at_307) rfl rfl ?_
        refine XS.aload X334.here hx rfl (Jvm.hb hby at_309) rfl rfl ?_
        show Steps p.tables e below (T334.setTop (mkF m 311 #[.val (.long id1), .second, .val (.long idr), .second, .val (.long qt1), .second, .val (.long qtr), .second, .val (.long att), .second, .val (.int fl), .val (.long q3), .second, .val (.int (qt1.toInt32)), .val (.int q8), .val (.int q11), .val (.int q18), .val (.int (Int32.ofNat ma)), .val (.int (Int32.ofNat mb)), .val (.int (att.toInt32)), .val (.int q32), .val (.ref b38), .val (.ref a_63), .val (.ref a_68), .val (.ref a_73), .val (.ref a_78), .val (.ref b80), .val (.ref b97), .val (.int (0 : Int32)), .val .null] [.null, (.ref b80)])) t_
        exact k_)
      have Zc336 : n0 ≤ h112.size := by omega
      obtain ⟨cq337, kq337, q337a, q337b, q337c⟩ := isOf hZ e334 f303
      obtain ⟨_, _, ⟨T337, L337, k337, n337⟩, -, X337, ⟨Lc337, hQ337, l337, y337, z337⟩, st337⟩ := X334.virtualBack hx (y := (⟨"com/example/coyote_hill/coyotehill/ItemStatus", "equals", "(Ljava/lang/Object;)Z"⟩ : MethodName)) (z := (⟨"com/example/coyote_hill/coyotehill/ItemStatus", "equals", "(Ljava/lang/Object;)Z"⟩ : MethodName)) hown (mvT hZ (hw _ (List.mem_of_getElem? (i := 75) rfl))) (mvT hZ (hw _ (List.mem_of_getElem? (i := 76) rfl))) (notFace_of_selects (args := #[]) (mvT hZ (hw _ (List.mem_of_getElem? (i := 78) rfl)))) (mvT hZ (hw _ (List.mem_of_getElem? (i := 78) rfl))) (mvT hZ (hw _ (List.mem_of_getElem? (i := 77) rfl))) (by decide) (backOf (W := 0) (rmEqN l Z a0 hw [] b80 h112 n0 Zc336) hZ (hw _ (List.mem_of_getElem? (i := 79) rfl)) (hw _ (List.mem_of_getElem? (i := 51) rfl)) (by decide) (by decide)) q337a q337c (g := (mkF m 311 #[.val (.long id1), .second, .val (.long idr), .second, .val (.long qt1), .second, .val (.long qtr), .second, .val (.long att), .second, .val (.int fl), .val (.long q3), .second, .val (.int (qt1.toInt32)), .val (.int q8), .val (.int q11), .val (.int q18), .val (.int (Int32.ofNat ma)), .val (.int (Int32.ofNat mb)), .val (.int (att.toInt32)), .val (.int q32), .val (.ref b38), .val (.ref a_63), .val (.ref a_68), .val (.ref a_73), .val (.ref a_78), .val (.ref b80), .val (.ref b97), .val (.int (0 : Int32)), .val .null] [.null, (.ref b80)])) rfl (by rw [hml]; rfl) (Steps.refl _) (argsL := [.null]) (rest := []) (lenOf pd__Ljava_lang_Object__Z rfl) rfl (by show 2 * 0 + _ ≤ _; exact Nat.le_of_eq rfl) (Jvm.hb hby at_311) (fun _ _ => ⟨rfl, e334, (by decide : 39 + 0 ≤ _), (by decide : 226 + 0 ≤ _)⟩)
      dsimp only [Pt.U, Pt.locs, Pt.cells, Pt.slots] at X337 l337 y337 z337 st337 hQ337
      subst l337 y337 z337
      obtain ⟨rfl, N337q, e337⟩ := hQ337
      have N337 := Fr.app N334 N337q
      have s338 : ∀ t_, Steps p.tables e below (T337.setTop (mkF m 321 #[.val (.long id1), .second, .val (.long idr), .second, .val (.long qt1), .second, .val (.long qtr), .second, .val (.long att), .second, .val (.int fl), .val (.long q3), .second, .val (.int (qt1.toInt32)), .val (.int q8), .val (.int q11), .val (.int q18), .val (.int (Int32.ofNat ma)), .val (.int (Int32.ofNat mb)), .val (.int (att.toInt32)), .val (.int q32), .val (.ref b38), .val (.ref a_63), .val (.ref a_68), .val (.ref a_73), .val (.ref a_78), .val (.ref b80), .val (.ref b97), .val (.int (0 : Int32)), .val .null] [(.ref a_63), (.ref b80)])) t_ → Steps p.tables e below (s₁.setTop (entryFrame m #[(.long id1), (.long idr), (.long qt1), (.long qtr), (.long att), (.int fl)] maxLocals)) t_ := fun t_ k_ => s335 t_ (by
        show Steps p.tables e below (T334.setTop (mkF m 311 #[.val (.long id1), .second, .val (.long idr), .second, .val (.long qt1), .second, .val (.long qtr), .second, .val (.long att), .second, .val (.int fl), .val (.long q3), .second, .val (.int (qt1.toInt32)), .val (.int q8), .val (.int q11), .val (.int q18), .val (.int (Int32.ofNat ma)), .val (.int (Int32.ofNat mb)), .val (.int (att.toInt32)), .val (.int q32), .val (.ref b38), .val (.ref a_63), .val (.ref a_68), .val (.ref a_73), .val (.ref a_78), .val (.ref b80), .val (.ref b97), .val (.int (0 : Int32)), .val .null] [.null, (.ref b80)])) t_
        refine st337.trans ?_
        show Steps p.tables e below (T337.setTop (mkF m 314 #[.val (.long id1), .second, .val (.long idr), .second, .val (.long qt1), .second, .val (.long qtr), .second, .val (.long att), .second, .val (.int fl), .val (.long q3), .second, .val (.int (qt1.toInt32)), .val (.int q8), .val (.int q11), .val (.int q18), .val (.int (Int32.ofNat ma)), .val (.int (Int32.ofNat mb)), .val (.int (att.toInt32)), .val (.int q32), .val (.ref b38), .val (.ref a_63), .val (.ref a_68), .val (.ref a_73), .val (.ref a_78), .val (.ref b80), .val (.ref b97), .val (.int (0 : Int32)), .val .null] [(.int (0 : Int32))])) _
        refine XS.ifNo X337.here hx rfl (Jvm.hb hby at_314) rfl ((if0 _ _).trans (teq (rfl : (0 : Int32) = (0 : Int32))).2) ?_
        show Steps p.tables e below (T337.setTop (mkF m 317 #[.val (.long id1), .second, .val (.long idr), .second, .val (.long qt1), .second, .val (.long qtr), .second, .val (.long att), .second, .val (.int fl), .val (.long q3), .second, .val (.int (qt1.toInt32)), .val (.int q8), .val (.int q11), .val (.int q18), .val (.int (Int32.ofNat ma)), .val (.int (Int32.ofNat mb)), .val (.int (att.toInt32)), .val (.int q32), .val (.ref b38), .val (.ref a_63), .val (.ref a_68), .val (.ref a_73), .val (.ref a_78), .val (.ref b80), .val (.ref b97), .val (.int (0 : Int32)), .val .null] [])) _
        refine XS.aload X337.here hx rfl (Jvm.hb hby at_317) rfl rfl ?_
        refine XS.aload X337.here hx rfl (Jvm.hb hby at_319) rfl rfl ?_
        show Steps p.tables e below (T337.setTop (mkF m 321 #[.val (.long id1), .second, .val (.long idr), .second, .val (.long qt1), .second, .val (.long qtr), .second, .val (.long att), .second, .val (.int fl), .val (.long q3), .second, .val (.int (qt1.toInt32)), .val (.int q8), .val (.int q11), .val (.int q18), .val (.int (Int32.ofNat ma)), .val (.int (Int32.ofNat mb)), .val (.int (att.toInt32)), .val (.int q32), .val (.ref b38), .val (.ref a_63), .val (.ref a_68), .val (.ref a_73), .val (.ref a_78), .val (.ref b80), .val (.ref b97), .val (.int (0 : Int32)), .val .null] [(.ref a_63), (.ref b80)])) t_
        exact k_)
      have Zc339 : n0 ≤ h112.size := by omega
      obtain ⟨cq340, kq340, q340a, q340b, q340c⟩ := isOf hZ e337 f303
      obtain ⟨_, _, ⟨T340, L340, k340, n340⟩, -, X340, ⟨Lc340, hQ340, l340, y340, z340⟩, st340⟩ := X337.virtualBack hx (y := (⟨"com/example/coyote_hill/coyotehill/ItemStatus", "equals", "(Ljava/lang/Object;)Z"⟩ : MethodName)) (z := (⟨"com/example/coyote_hill/coyotehill/ItemStatus", "equals", "(Ljava/lang/Object;)Z"⟩ : MethodName)) hown (mvT hZ (hw _ (List.mem_of_getElem? (i := 75) rfl))) (mvT hZ (hw _ (List.mem_of_getElem? (i := 76) rfl))) (notFace_of_selects (args := #[]) (mvT hZ (hw _ (List.mem_of_getElem? (i := 78) rfl)))) (mvT hZ (hw _ (List.mem_of_getElem? (i := 78) rfl))) (mvT hZ (hw _ (List.mem_of_getElem? (i := 77) rfl))) (by decide) (backOf (W := 0) (rmEqX l Z a0 hw [] b80 a_63 h112 n0 Zc339 f309) hZ (hw _ (List.mem_of_getElem? (i := 79) rfl)) (hw _ (List.mem_of_getElem? (i := 51) rfl)) (by decide) (by decide)) q340a q340c (g := (mkF m 321 #[.val (.long id1), .second, .val (.long idr), .second, .val (.long qt1), .second, .val (.long qtr), .second, .val (.long att), .second, .val (.int fl), .val (.long q3), .second, .val (.int (qt1.toInt32)), .val (.int q8), .val (.int q11), .val (.int q18), .val (.int (Int32.ofNat ma)), .val (.int (Int32.ofNat mb)), .val (.int (att.toInt32)), .val (.int q32), .val (.ref b38), .val (.ref a_63), .val (.ref a_68), .val (.ref a_73), .val (.ref a_78), .val (.ref b80), .val (.ref b97), .val (.int (0 : Int32)), .val .null] [(.ref a_63), (.ref b80)])) rfl (by rw [hml]; rfl) (Steps.refl _) (argsL := [(.ref a_63)]) (rest := []) (lenOf pd__Ljava_lang_Object__Z rfl) rfl (by show 2 * 0 + _ ≤ _; exact Nat.le_of_eq rfl) (Jvm.hb hby at_321) (fun _ _ => ⟨rfl, e337, (by decide : 39 + 0 ≤ _), (by decide : 226 + 0 ≤ _)⟩)
      dsimp only [Pt.U, Pt.locs, Pt.cells, Pt.slots] at X340 l340 y340 z340 st340 hQ340
      subst l340 y340 z340
      obtain ⟨rfl, N340q, e340⟩ := hQ340
      have N340 := Fr.app N337 N340q
      have s341 : ∀ t_, Steps p.tables e below (T340.setTop (mkF m 332 #[.val (.long id1), .second, .val (.long idr), .second, .val (.long qt1), .second, .val (.long qtr), .second, .val (.long att), .second, .val (.int fl), .val (.long q3), .second, .val (.int (qt1.toInt32)), .val (.int q8), .val (.int q11), .val (.int q18), .val (.int (Int32.ofNat ma)), .val (.int (Int32.ofNat mb)), .val (.int (att.toInt32)), .val (.int q32), .val (.ref b38), .val (.ref a_63), .val (.ref a_68), .val (.ref a_73), .val (.ref a_78), .val (.ref b80), .val (.ref b97), .val (.int (0 : Int32)), .val .null] [(.int (1 : Int32))])) t_ → Steps p.tables e below (s₁.setTop (entryFrame m #[(.long id1), (.long idr), (.long qt1), (.long qtr), (.long att), (.int fl)] maxLocals)) t_ := fun t_ k_ => s338 t_ (by
        show Steps p.tables e below (T337.setTop (mkF m 321 #[.val (.long id1), .second, .val (.long idr), .second, .val (.long qt1), .second, .val (.long qtr), .second, .val (.long att), .second, .val (.int fl), .val (.long q3), .second, .val (.int (qt1.toInt32)), .val (.int q8), .val (.int q11), .val (.int q18), .val (.int (Int32.ofNat ma)), .val (.int (Int32.ofNat mb)), .val (.int (att.toInt32)), .val (.int q32), .val (.ref b38), .val (.ref a_63), .val (.ref a_68), .val (.ref a_73), .val (.ref a_78), .val (.ref b80), .val (.ref b97), .val (.int (0 : Int32)), .val .null] [(.ref a_63), (.ref b80)])) t_
        refine st340.trans ?_
        show Steps p.tables e below (T340.setTop (mkF m 324 #[.val (.long id1), .second, .val (.long idr), .second, .val (.long qt1), .second, .val (.long qtr), .second, .val (.long att), .second, .val (.int fl), .val (.long q3), .second, .val (.int (qt1.toInt32)), .val (.int q8), .val (.int q11), .val (.int q18), .val (.int (Int32.ofNat ma)), .val (.int (Int32.ofNat mb)), .val (.int (att.toInt32)), .val (.int q32), .val (.ref b38), .val (.ref a_63), .val (.ref a_68), .val (.ref a_73), .val (.ref a_78), .val (.ref b80), .val (.ref b97), .val (.int (0 : Int32)), .val .null] [(.int (0 : Int32))])) _
        refine XS.ifNo X340.here hx rfl (Jvm.hb hby at_324) rfl ((if0 _ _).trans (teq (rfl : (0 : Int32) = (0 : Int32))).2) ?_
        show Steps p.tables e below (T340.setTop (mkF m 327 #[.val (.long id1), .second, .val (.long idr), .second, .val (.long qt1), .second, .val (.long qtr), .second, .val (.long att), .second, .val (.int fl), .val (.long q3), .second, .val (.int (qt1.toInt32)), .val (.int q8), .val (.int q11), .val (.int q18), .val (.int (Int32.ofNat ma)), .val (.int (Int32.ofNat mb)), .val (.int (att.toInt32)), .val (.int q32), .val (.ref b38), .val (.ref a_63), .val (.ref a_68), .val (.ref a_73), .val (.ref a_78), .val (.ref b80), .val (.ref b97), .val (.int (0 : Int32)), .val .null] [])) _
        refine XS.iconst X340.here hx rfl (Jvm.hb hby at_327) ?_
        refine XS.goto X340.here hx rfl (pc0 := 328) (pc' := 332) rfl (Jvm.hb hby at_328) (by decide) (by decide) ?_
        show Steps p.tables e below (T340.setTop (mkF m 332 #[.val (.long id1), .second, .val (.long idr), .second, .val (.long qt1), .second, .val (.long qtr), .second, .val (.long att), .second, .val (.int fl), .val (.long q3), .second, .val (.int (qt1.toInt32)), .val (.int q8), .val (.int q11), .val (.int q18), .val (.int (Int32.ofNat ma)), .val (.int (Int32.ofNat mb)), .val (.int (att.toInt32)), .val (.int q32), .val (.ref b38), .val (.ref a_63), .val (.ref a_68), .val (.ref a_73), .val (.ref a_78), .val (.ref b80), .val (.ref b97), .val (.int (0 : Int32)), .val .null] [(.int (1 : Int32))])) t_
        exact k_)
      obtain ⟨fs, hr, hrun, hended, hREW⟩ := X340.leaveW hS (by first | exact Nat.le_refl _ | (rw [e340]; exact hk)) (v := some (.int (1 : Int32))) (fun h => by rw [Bd.returns] at h; cases h)
      refine ⟨_, _, s341 _ ?_, hrun, hended, _, _, rfl, ?_, (by show CHr Z ELs s.vm s.heap T340.vm T340.heap; rw [hh, e340]; exact CR.trans (CHv.at X340 hZ hEL CR.1)), hREW.1, hREW.2.1, hREW.2.2.1, hREW.2.2.2.mono (by decide) (by decide)⟩
      · show Steps p.tables e below (T340.setTop (mkF m 332 #[.val (.long id1), .second, .val (.long idr), .second, .val (.long qt1), .second, .val (.long qtr), .second, .val (.long att), .second, .val (.int fl), .val (.long q3), .second, .val (.int (qt1.toInt32)), .val (.int q8), .val (.int q11), .val (.int q18), .val (.int (Int32.ofNat ma)), .val (.int (Int32.ofNat mb)), .val (.int (att.toInt32)), .val (.int q32), .val (.ref b38), .val (.ref a_63), .val (.ref a_68), .val (.ref a_73), .val (.ref a_78), .val (.ref b80), .val (.ref b97), .val (.int (0 : Int32)), .val .null] [(.int (1 : Int32))])) _
        exact retN X340 hx (t := .boolean) Bd.returns (by simp) (Jvm.hb hby at_332) hr
      · show Q_rmLaw Z _ _ _ _ _ _ _ _ _ _ _ h0 n0 _ T340.heap _
        rw [e340]
        exact ⟨rfl, N340⟩
  · have s342 : ∀ t_, Steps p.tables e below (T112.setTop (mkF m 277 #[.val (.long id1), .second, .val (.long idr), .second, .val (.long qt1), .second, .val (.long qtr), .second, .val (.long att), .second, .val (.int fl), .val (.long q3), .second, .val (.int (qt1.toInt32)), .val (.int q8), .val (.int q11), .val (.int q18), .val (.int (Int32.ofNat ma)), .val (.int (Int32.ofNat mb)), .val (.int (att.toInt32)), .val (.int q32), .val (.ref b38), .val (.ref a_63), .val (.ref a_68), .val (.ref a_73), .val (.ref a_78), .val (.ref b80), .val (.ref b97), .val (.int (0 : Int32)), .val .null] [(.ref b97), (.ref b80)])) t_ → Steps p.tables e below (s₁.setTop (entryFrame m #[(.long id1), (.long idr), (.long qt1), (.long qtr), (.long att), (.int fl)] maxLocals)) t_ := fun t_ k_ => s115 t_ (by
      show Steps p.tables e below (T112.setTop (mkF m 226 #[.val (.long id1), .second, .val (.long idr), .second, .val (.long qt1), .second, .val (.long qtr), .second, .val (.long att), .second, .val (.int fl), .val (.long q3), .second, .val (.int (qt1.toInt32)), .val (.int q8), .val (.int q11), .val (.int q18), .val (.int (Int32.ofNat ma)), .val (.int (Int32.ofNat mb)), .val (.int (att.toInt32)), .val (.int q32), .val (.ref b38), .val (.ref a_63), .val (.ref a_68), .val (.ref a_73), .val (.ref a_78), .val (.ref b80), .val (.ref b97), .unset, .unset] [(.int q114)])) t_
      refine XS.ifYes X112.here hx rfl (pc0 := 226) (pc' := 267) rfl (Jvm.hb hby at_226) rfl ((if0 _ _).trans (feq h116).2) (by decide) (by decide) ?_
      show Steps p.tables e below (T112.setTop (mkF m 267 #[.val (.long id1), .second, .val (.long idr), .second, .val (.long qt1), .second, .val (.long qtr), .second, .val (.long att), .second, .val (.int fl), .val (.long q3), .second, .val (.int (qt1.toInt32)), .val (.int q8), .val (.int q11), .val (.int q18), .val (.int (Int32.ofNat ma)), .val (.int (Int32.ofNat mb)), .val (.int (att.toInt32)), .val (.int q32), .val (.ref b38), .val (.ref a_63), .val (.ref a_68), .val (.ref a_73), .val (.ref a_78), .val (.ref b80), .val (.ref b97), .unset, .unset] [])) _
      refine XS.iconst X112.here hx rfl (Jvm.hb hby at_267) ?_
      refine XS.istore X112.here hx rfl (Jvm.hb hby at_268) rfl (l' := #[.val (.long id1), .second, .val (.long idr), .second, .val (.long qt1), .second, .val (.long qtr), .second, .val (.long att), .second, .val (.int fl), .val (.long q3), .second, .val (.int (qt1.toInt32)), .val (.int q8), .val (.int q11), .val (.int q18), .val (.int (Int32.ofNat ma)), .val (.int (Int32.ofNat mb)), .val (.int (att.toInt32)), .val (.int q32), .val (.ref b38), .val (.ref a_63), .val (.ref a_68), .val (.ref a_73), .val (.ref a_78), .val (.ref b80), .val (.ref b97), .val (.int (0 : Int32)), .unset]) rfl ?_
      refine XS.aconstNull X112.here hx rfl (Jvm.hb hby at_270) ?_
      refine XS.astore X112.here hx rfl (Jvm.hb hby at_271) rfl rfl (l' := #[.val (.long id1), .second, .val (.long idr), .second, .val (.long qt1), .second, .val (.long qtr), .second, .val (.long att), .second, .val (.int fl), .val (.long q3), .second, .val (.int (qt1.toInt32)), .val (.int q8), .val (.int q11), .val (.int q18), .val (.int (Int32.ofNat ma)), .val (.int (Int32.ofNat mb)), .val (.int (att.toInt32)), .val (.int q32), .val (.ref b38), .val (.ref a_63), .val (.ref a_68), .val (.ref a_73), .val (.ref a_78), .val (.ref b80), .val (.ref b97), .val (.int (0 : Int32)), .val .null]) rfl ?_
      refine XS.aload X112.here hx rfl (Jvm.hb hby at_273) rfl rfl ?_
      refine XS.aload X112.here hx rfl (Jvm.hb hby at_275) rfl rfl ?_
      show Steps p.tables e below (T112.setTop (mkF m 277 #[.val (.long id1), .second, .val (.long idr), .second, .val (.long qt1), .second, .val (.long qtr), .second, .val (.long att), .second, .val (.int fl), .val (.long q3), .second, .val (.int (qt1.toInt32)), .val (.int q8), .val (.int q11), .val (.int q18), .val (.int (Int32.ofNat ma)), .val (.int (Int32.ofNat mb)), .val (.int (att.toInt32)), .val (.int q32), .val (.ref b38), .val (.ref a_63), .val (.ref a_68), .val (.ref a_73), .val (.ref a_78), .val (.ref b80), .val (.ref b97), .val (.int (0 : Int32)), .val .null] [(.ref b97), (.ref b80)])) _
      show Steps p.tables e below (T112.setTop (mkF m 277 #[.val (.long id1), .second, .val (.long idr), .second, .val (.long qt1), .second, .val (.long qtr), .second, .val (.long att), .second, .val (.int fl), .val (.long q3), .second, .val (.int (qt1.toInt32)), .val (.int q8), .val (.int q11), .val (.int q18), .val (.int (Int32.ofNat ma)), .val (.int (Int32.ofNat mb)), .val (.int (att.toInt32)), .val (.int q32), .val (.ref b38), .val (.ref a_63), .val (.ref a_68), .val (.ref a_73), .val (.ref a_78), .val (.ref b80), .val (.ref b97), .val (.int (0 : Int32)), .val .null] [(.ref b97), (.ref b80)])) t_
      exact k_)
    have O343 : Old Z n0 h112 := (O105.keep K112 (allS (show n0 ≤ b97 by omega) all0))
    have f344 : Exa Z h112 b80 "com/example/coyote_hill/coyotehill/ItemStatus" := ((Fq95_0.ext E97).keep K112)
    have f345 : Fld Z h112 b80 "com/example/coyote_hill/coyotehill/ItemStatus" "_id" "J" (.long id1) := ((Fq95_1.ext E97).keep K112 (ninS (show @Ne Nat b80 b97 by omega) nin0))
    have f346 : Fld Z h112 b80 "com/example/coyote_hill/coyotehill/ItemStatus" "_queue" "Ljava/lang/String;" (.ref a_63) := ((Fq95_2.ext E97).keep K112 (ninS (show @Ne Nat b80 b97 by omega) nin0))
    have f347 : Fld Z h112 b80 "com/example/coyote_hill/coyotehill/ItemStatus" "_tenant" "Ljava/lang/String;" (.ref a_68) := ((Fq95_3.ext E97).keep K112 (ninS (show @Ne Nat b80 b97 by omega) nin0))
    have f348 : Fld Z h112 b80 "com/example/coyote_hill/coyotehill/ItemStatus" "_state" "Lcom/example/coyote_hill/coyotehill/ItemState;" (.ref s1) := ((Fq95_4.ext E97).keep K112 (ninS (show @Ne Nat b80 b97 by omega) nin0))
    have f349 : Fld Z h112 b80 "com/example/coyote_hill/coyotehill/ItemStatus" "_attempt" "I" (.int (att.toInt32)) := ((Fq95_5.ext E97).keep K112 (ninS (show @Ne Nat b80 b97 by omega) nin0))
    have f350 : Exa Z h112 a_63 "java/lang/String" := (((f92.keep K95).ext E97).keep K112)
    have f351 : Fld Z h112 a_63 "java/lang/String" "value" "[B" (.ref b_63) := (((((((Fq63_1.keep K68 nin0).keep K73 nin0).keep K78 nin0).ext E80).keep K95 (ninS (show @Ne Nat a_63 b80 by omega) nin0)).ext E97).keep K112 (ninS (show @Ne Nat a_63 b97 by omega) nin0))
    have f352 : Fld Z h112 a_63 "java/lang/String" "coder" "B" (.int (own_cod (own_str (qt1.toInt32)))) := (((((((Fq63_2.keep K68 nin0).keep K73 nin0).keep K78 nin0).ext E80).keep K95 (ninS (show @Ne Nat a_63 b80 by omega) nin0)).ext E97).keep K112 (ninS (show @Ne Nat a_63 b97 by omega) nin0))
    have f353 : Arv Z h112 b_63 kb_63 .byte (Int32.ofNat (own_enl (own_str (qt1.toInt32)))) (own_enc (own_str (qt1.toInt32))) (.int (0 : Int32)) := (((((((Fq63_3.keep K68 nin0).keep K73 nin0).keep K78 nin0).ext E80).keep K95 (ninS (Ne.symm (Exa.neArv A80 ((((Fq63_3.keep K68 nin0).keep K73 nin0).keep K78 nin0).ext E80) (hw _ (List.mem_of_getElem? (i := 50) rfl)))) nin0)).ext E97).keep K112 (ninS (Ne.symm (Exa.neArv A97 ((((((Fq63_3.keep K68 nin0).keep K73 nin0).keep K78 nin0).ext E80).keep K95 (ninS (Ne.symm (Exa.neArv A80 ((((Fq63_3.keep K68 nin0).keep K73 nin0).keep K78 nin0).ext E80) (hw _ (List.mem_of_getElem? (i := 50) rfl)))) nin0)).ext E97) (hw _ (List.mem_of_getElem? (i := 50) rfl)))) nin0))
    have f354 : Exa Z h112 a_73 "java/lang/String" := (f109.keep K112)
    have f355 : Fld Z h112 a_73 "java/lang/String" "value" "[B" (.ref b_73) := (((((Fq73_1.keep K78 nin0).ext E80).keep K95 (ninS (show @Ne Nat a_73 b80 by omega) nin0)).ext E97).keep K112 (ninS (show @Ne Nat a_73 b97 by omega) nin0))
    have f356 : Fld Z h112 a_73 "java/lang/String" "coder" "B" (.int (own_cod (own_str q11))) := (((((Fq73_2.keep K78 nin0).ext E80).keep K95 (ninS (show @Ne Nat a_73 b80 by omega) nin0)).ext E97).keep K112 (ninS (show @Ne Nat a_73 b97 by omega) nin0))
    have f357 : Arv Z h112 b_73 kb_73 .byte (Int32.ofNat (own_enl (own_str q11))) (own_enc (own_str q11)) (.int (0 : Int32)) := (((((Fq73_3.keep K78 nin0).ext E80).keep K95 (ninS (Ne.symm (Exa.neArv A80 ((Fq73_3.keep K78 nin0).ext E80) (hw _ (List.mem_of_getElem? (i := 50) rfl)))) nin0)).ext E97).keep K112 (ninS (Ne.symm (Exa.neArv A97 ((((Fq73_3.keep K78 nin0).ext E80).keep K95 (ninS (Ne.symm (Exa.neArv A80 ((Fq73_3.keep K78 nin0).ext E80) (hw _ (List.mem_of_getElem? (i := 50) rfl)))) nin0)).ext E97) (hw _ (List.mem_of_getElem? (i := 50) rfl)))) nin0))
    have f358 : Exa Z h112 a_68 "java/lang/String" := (((f93.keep K95).ext E97).keep K112)
    have f359 : Fld Z h112 a_68 "java/lang/String" "value" "[B" (.ref b_68) := ((((((Fq68_1.keep K73 nin0).keep K78 nin0).ext E80).keep K95 (ninS (show @Ne Nat a_68 b80 by omega) nin0)).ext E97).keep K112 (ninS (show @Ne Nat a_68 b97 by omega) nin0))
    have f360 : Fld Z h112 a_68 "java/lang/String" "coder" "B" (.int (own_cod (own_str q8))) := ((((((Fq68_2.keep K73 nin0).keep K78 nin0).ext E80).keep K95 (ninS (show @Ne Nat a_68 b80 by omega) nin0)).ext E97).keep K112 (ninS (show @Ne Nat a_68 b97 by omega) nin0))
    have f361 : Arv Z h112 b_68 kb_68 .byte (Int32.ofNat (own_enl (own_str q8))) (own_enc (own_str q8)) (.int (0 : Int32)) := ((((((Fq68_3.keep K73 nin0).keep K78 nin0).ext E80).keep K95 (ninS (Ne.symm (Exa.neArv A80 (((Fq68_3.keep K73 nin0).keep K78 nin0).ext E80) (hw _ (List.mem_of_getElem? (i := 50) rfl)))) nin0)).ext E97).keep K112 (ninS (Ne.symm (Exa.neArv A97 (((((Fq68_3.keep K73 nin0).keep K78 nin0).ext E80).keep K95 (ninS (Ne.symm (Exa.neArv A80 (((Fq68_3.keep K73 nin0).keep K78 nin0).ext E80) (hw _ (List.mem_of_getElem? (i := 50) rfl)))) nin0)).ext E97) (hw _ (List.mem_of_getElem? (i := 50) rfl)))) nin0))
    have f362 : Exa Z h112 a_78 "java/lang/String" := (f110.keep K112)
    have f363 : Fld Z h112 a_78 "java/lang/String" "value" "[B" (.ref b_78) := ((((Fq78_1.ext E80).keep K95 (ninS (show @Ne Nat a_78 b80 by omega) nin0)).ext E97).keep K112 (ninS (show @Ne Nat a_78 b97 by omega) nin0))
    have f364 : Fld Z h112 a_78 "java/lang/String" "coder" "B" (.int (own_cod (own_str q18))) := ((((Fq78_2.ext E80).keep K95 (ninS (show @Ne Nat a_78 b80 by omega) nin0)).ext E97).keep K112 (ninS (show @Ne Nat a_78 b97 by omega) nin0))
    have f365 : Arv Z h112 b_78 kb_78 .byte (Int32.ofNat (own_enl (own_str q18))) (own_enc (own_str q18)) (.int (0 : Int32)) := ((((Fq78_3.ext E80).keep K95 (ninS (Ne.symm (Exa.neArv A80 (Fq78_3.ext E80) (hw _ (List.mem_of_getElem? (i := 50) rfl)))) nin0)).ext E97).keep K112 (ninS (Ne.symm (Exa.neArv A97 (((Fq78_3.ext E80).keep K95 (ninS (Ne.symm (Exa.neArv A80 (Fq78_3.ext E80) (hw _ (List.mem_of_getElem? (i := 50) rfl)))) nin0)).ext E97) (hw _ (List.mem_of_getElem? (i := 50) rfl)))) nin0))
    have Zc366 : n0 ≤ h112.size := by omega
    obtain ⟨cq367, kq367, q367a, q367b, q367c⟩ := isOf hZ e112 f344
    obtain ⟨_, _, ⟨T367, L367, k367, n367⟩, -, X367, ⟨Lc367, hQ367, l367, y367, z367⟩, st367⟩ := X112.virtualBack hx (y := (⟨"com/example/coyote_hill/coyotehill/ItemStatus", "equals", "(Ljava/lang/Object;)Z"⟩ : MethodName)) (z := (⟨"com/example/coyote_hill/coyotehill/ItemStatus", "equals", "(Ljava/lang/Object;)Z"⟩ : MethodName)) hown (mvT hZ (hw _ (List.mem_of_getElem? (i := 75) rfl))) (mvT hZ (hw _ (List.mem_of_getElem? (i := 76) rfl))) (notFace_of_selects (args := #[]) (mvT hZ (hw _ (List.mem_of_getElem? (i := 78) rfl)))) (mvT hZ (hw _ (List.mem_of_getElem? (i := 78) rfl))) (mvT hZ (hw _ (List.mem_of_getElem? (i := 77) rfl))) (by decide) (backOf (W := 0) (rmEqO l Z a0 hw [] b80 b97 cst id1 q3 s1 s2 (att.toInt32) q32 a_63 b_63 kb_63 (own_str (qt1.toInt32)) a_73 b_73 kb_73 (own_str q11) a_68 b_68 kb_68 (own_str q8) a_78 b_78 kb_78 (own_str q18) h112 n0 Zc366 I1 O343 (hcst : ¬ (cst = (0 : Int32))) f344 f345 f346 f347 f348 f349 Fq112_0 Fq112_1 Fq112_2 Fq112_3 Fq112_4 Fq112_5 f350 f351 f352 f353 f354 f355 f356 f357 f358 f359 f360 f361 f362 f363 f364 f365 (own_neN (by omega)) (own_neN (by omega)) (own_strchs _) (own_strchs _) (own_strchs _) (own_strchs _) (own_strl _) (own_strl _) (own_strl _) (own_strl _)) hZ (hw _ (List.mem_of_getElem? (i := 79) rfl)) (hw _ (List.mem_of_getElem? (i := 51) rfl)) (by decide) (by decide)) q367a q367c (g := (mkF m 277 #[.val (.long id1), .second, .val (.long idr), .second, .val (.long qt1), .second, .val (.long qtr), .second, .val (.long att), .second, .val (.int fl), .val (.long q3), .second, .val (.int (qt1.toInt32)), .val (.int q8), .val (.int q11), .val (.int q18), .val (.int (Int32.ofNat ma)), .val (.int (Int32.ofNat mb)), .val (.int (att.toInt32)), .val (.int q32), .val (.ref b38), .val (.ref a_63), .val (.ref a_68), .val (.ref a_73), .val (.ref a_78), .val (.ref b80), .val (.ref b97), .val (.int (0 : Int32)), .val .null] [(.ref b97), (.ref b80)])) rfl (by rw [hml]; rfl) (Steps.refl _) (argsL := [(.ref b97)]) (rest := []) (lenOf pd__Ljava_lang_Object__Z rfl) rfl (by show 2 * 0 + _ ≤ _; exact Nat.le_of_eq rfl) (Jvm.hb hby at_277) (fun _ _ => ⟨rfl, e112, (by decide : 39 + 0 ≤ _), (by decide : 226 + 0 ≤ _)⟩)
    dsimp only [Pt.U, Pt.locs, Pt.cells, Pt.slots] at X367 l367 y367 z367 st367 hQ367
    subst l367 y367 z367
    obtain ⟨rfl, N367q, e367⟩ := hQ367
    have N367 := Fr.app N112 N367q
    obtain ⟨q368, hq368⟩ : ∃ z : Int32, z = (if (lcmpW id1 q3) = (0 : Int32) then (if (own_str (qt1.toInt32)) = (own_str q11) then (if (own_str q8) = (own_str q18) then (if s1 = s2 then (if (att.toInt32) = q32 then (1 : Int32) else (0 : Int32)) else (0 : Int32)) else (0 : Int32)) else (0 : Int32)) else (0 : Int32)) := ⟨_, rfl⟩
    rw [← hq368] at st367
    have hE0 : q368 = (0 : Int32) := by rw [hq368, if_neg (fun z => h116 (hq114.trans z))]
    have s369 : ∀ t_, Steps p.tables e below (T367.setTop (mkF m 289 #[.val (.long id1), .second, .val (.long idr), .second, .val (.long qt1), .second, .val (.long qtr), .second, .val (.long att), .second, .val (.int fl), .val (.long q3), .second, .val (.int (qt1.toInt32)), .val (.int q8), .val (.int q11), .val (.int q18), .val (.int (Int32.ofNat ma)), .val (.int (Int32.ofNat mb)), .val (.int (att.toInt32)), .val (.int q32), .val (.ref b38), .val (.ref a_63), .val (.ref a_68), .val (.ref a_73), .val (.ref a_78), .val (.ref b80), .val (.ref b97), .val (.int (0 : Int32)), .val .null] [(.ref b80), (.ref b97)])) t_ → Steps p.tables e below (s₁.setTop (entryFrame m #[(.long id1), (.long idr), (.long qt1), (.long qtr), (.long att), (.int fl)] maxLocals)) t_ := fun t_ k_ => s342 t_ (by
      show Steps p.tables e below (T112.setTop (mkF m 277 #[.val (.long id1), .second, .val (.long idr), .second, .val (.long qt1), .second, .val (.long qtr), .second, .val (.long att), .second, .val (.int fl), .val (.long q3), .second, .val (.int (qt1.toInt32)), .val (.int q8), .val (.int q11), .val (.int q18), .val (.int (Int32.ofNat ma)), .val (.int (Int32.ofNat mb)), .val (.int (att.toInt32)), .val (.int q32), .val (.ref b38), .val (.ref a_63), .val (.ref a_68), .val (.ref a_73), .val (.ref a_78), .val (.ref b80), .val (.ref b97), .val (.int (0 : Int32)), .val .null] [(.ref b97), (.ref b80)])) t_
      refine st367.trans ?_
      show Steps p.tables e below (T367.setTop (mkF m 280 #[.val (.long id1), .second, .val (.long idr), .second, .val (.long qt1), .second, .val (.long qtr), .second, .val (.long att), .second, .val (.int fl), .val (.long q3), .second, .val (.int (qt1.toInt32)), .val (.int q8), .val (.int q11), .val (.int q18), .val (.int (Int32.ofNat ma)), .val (.int (Int32.ofNat mb)), .val (.int (att.toInt32)), .val (.int q32), .val (.ref b38), .val (.ref a_63), .val (.ref a_68), .val (.ref a_73), .val (.ref a_78), .val (.ref b80), .val (.ref b97), .val (.int (0 : Int32)), .val .null] [(.int q368)])) _
      refine XS.iload X367.here hx rfl (Jvm.hb hby at_280) rfl ?_
      refine XS.icmpNo X367.here hx rfl (Jvm.hb hby at_282) rfl (teq hE0).2 ?_
      show Steps p.tables e below (T367.setTop (mkF m 285 #[.val (.long id1), .second, .val (.long idr), .second, .val (.long qt1), .second, .val (.long qtr), .second, .val (.long att), .second, .val (.int fl), .val (.long q3), .second, .val (.int (qt1.toInt32)), .val (.int q8), .val (.int q11), .val (.int q18), .val (.int (Int32.ofNat ma)), .val (.int (Int32.ofNat mb)), .val (.int (att.toInt32)), .val (.int q32), .val (.ref b38), .val (.ref a_63), .val (.ref a_68), .val (.ref a_73), .val (.ref a_78), .val (.ref b80), .val (.ref b97), .val (.int (0 : Int32)), .val .null] [])) _
      refine XS.aload X367.here hx rfl (Jvm.hb hby at_285) rfl rfl ?_
      refine XS.aload X367.here hx rfl (Jvm.hb hby at_287) rfl rfl ?_
      show Steps p.tables e below (T367.setTop (mkF m 289 #[.val (.long id1), .second, .val (.long idr), .second, .val (.long qt1), .second, .val (.long qtr), .second, .val (.long att), .second, .val (.int fl), .val (.long q3), .second, .val (.int (qt1.toInt32)), .val (.int q8), .val (.int q11), .val (.int q18), .val (.int (Int32.ofNat ma)), .val (.int (Int32.ofNat mb)), .val (.int (att.toInt32)), .val (.int q32), .val (.ref b38), .val (.ref a_63), .val (.ref a_68), .val (.ref a_73), .val (.ref a_78), .val (.ref b80), .val (.ref b97), .val (.int (0 : Int32)), .val .null] [(.ref b80), (.ref b97)])) t_
      exact k_)
    have Zc370 : n0 ≤ h112.size := by omega
    obtain ⟨cq371, kq371, q371a, q371b, q371c⟩ := isOf hZ e367 Fq112_0
    obtain ⟨_, _, ⟨T371, L371, k371, n371⟩, -, X371, ⟨Lc371, hQ371, l371, y371, z371⟩, st371⟩ := X367.virtualBack hx (y := (⟨"com/example/coyote_hill/coyotehill/ItemStatus", "equals", "(Ljava/lang/Object;)Z"⟩ : MethodName)) (z := (⟨"com/example/coyote_hill/coyotehill/ItemStatus", "equals", "(Ljava/lang/Object;)Z"⟩ : MethodName)) hown (mvT hZ (hw _ (List.mem_of_getElem? (i := 75) rfl))) (mvT hZ (hw _ (List.mem_of_getElem? (i := 76) rfl))) (notFace_of_selects (args := #[]) (mvT hZ (hw _ (List.mem_of_getElem? (i := 78) rfl)))) (mvT hZ (hw _ (List.mem_of_getElem? (i := 78) rfl))) (mvT hZ (hw _ (List.mem_of_getElem? (i := 77) rfl))) (by decide) (backOf (W := 0) (rmEqO l Z a0 hw [] b97 b80 cst q3 id1 s2 s1 q32 (att.toInt32) a_73 b_73 kb_73 (own_str q11) a_63 b_63 kb_63 (own_str (qt1.toInt32)) a_78 b_78 kb_78 (own_str q18) a_68 b_68 kb_68 (own_str q8) h112 n0 Zc370 I1 O343 (hcst : ¬ (cst = (0 : Int32))) Fq112_0 Fq112_1 Fq112_2 Fq112_3 Fq112_4 Fq112_5 f344 f345 f346 f347 f348 f349 f354 f355 f356 f357 f350 f351 f352 f353 f362 f363 f364 f365 f358 f359 f360 f361 (own_neN (by omega)) (own_neN (by omega)) (own_strchs _) (own_strchs _) (own_strchs _) (own_strchs _) (own_strl _) (own_strl _) (own_strl _) (own_strl _)) hZ (hw _ (List.mem_of_getElem? (i := 79) rfl)) (hw _ (List.mem_of_getElem? (i := 51) rfl)) (by decide) (by decide)) q371a q371c (g := (mkF m 289 #[.val (.long id1), .second, .val (.long idr), .second, .val (.long qt1), .second, .val (.long qtr), .second, .val (.long att), .second, .val (.int fl), .val (.long q3), .second, .val (.int (qt1.toInt32)), .val (.int q8), .val (.int q11), .val (.int q18), .val (.int (Int32.ofNat ma)), .val (.int (Int32.ofNat mb)), .val (.int (att.toInt32)), .val (.int q32), .val (.ref b38), .val (.ref a_63), .val (.ref a_68), .val (.ref a_73), .val (.ref a_78), .val (.ref b80), .val (.ref b97), .val (.int (0 : Int32)), .val .null] [(.ref b80), (.ref b97)])) rfl (by rw [hml]; rfl) (Steps.refl _) (argsL := [(.ref b80)]) (rest := []) (lenOf pd__Ljava_lang_Object__Z rfl) rfl (by show 2 * 0 + _ ≤ _; exact Nat.le_of_eq rfl) (Jvm.hb hby at_289) (fun _ _ => ⟨rfl, e367, (by decide : 39 + 0 ≤ _), (by decide : 226 + 0 ≤ _)⟩)
    dsimp only [Pt.U, Pt.locs, Pt.cells, Pt.slots] at X371 l371 y371 z371 st371 hQ371
    subst l371 y371 z371
    obtain ⟨rfl, N371q, e371⟩ := hQ371
    have N371 := Fr.app N367 N371q
    obtain ⟨q372, hq372⟩ : ∃ z : Int32, z = (if (lcmpW q3 id1) = (0 : Int32) then (if (own_str q11) = (own_str (qt1.toInt32)) then (if (own_str q18) = (own_str q8) then (if s2 = s1 then (if q32 = (att.toInt32) then (1 : Int32) else (0 : Int32)) else (0 : Int32)) else (0 : Int32)) else (0 : Int32)) else (0 : Int32)) := ⟨_, rfl⟩
    rw [← hq372] at st371
    have hE1 : q372 = (0 : Int32) := by rw [hq372, if_neg (fun q => (fun z => h116 (hq114.trans z)) (own_lcs q))]
    have s373 : ∀ t_, Steps p.tables e below (T371.setTop (mkF m 301 #[.val (.long id1), .second, .val (.long idr), .second, .val (.long qt1), .second, .val (.long qtr), .second, .val (.long att), .second, .val (.int fl), .val (.long q3), .second, .val (.int (qt1.toInt32)), .val (.int q8), .val (.int q11), .val (.int q18), .val (.int (Int32.ofNat ma)), .val (.int (Int32.ofNat mb)), .val (.int (att.toInt32)), .val (.int q32), .val (.ref b38), .val (.ref a_63), .val (.ref a_68), .val (.ref a_73), .val (.ref a_78), .val (.ref b80), .val (.ref b97), .val (.int (0 : Int32)), .val .null] [(.ref b80), (.ref b80)])) t_ → Steps p.tables e below (s₁.setTop (entryFrame m #[(.long id1), (.long idr), (.long qt1), (.long qtr), (.long att), (.int fl)] maxLocals)) t_ := fun t_ k_ => s369 t_ (by
      show Steps p.tables e below (T367.setTop (mkF m 289 #[.val (.long id1), .second, .val (.long idr), .second, .val (.long qt1), .second, .val (.long qtr), .second, .val (.long att), .second, .val (.int fl), .val (.long q3), .second, .val (.int (qt1.toInt32)), .val (.int q8), .val (.int q11), .val (.int q18), .val (.int (Int32.ofNat ma)), .val (.int (Int32.ofNat mb)), .val (.int (att.toInt32)), .val (.int q32), .val (.ref b38), .val (.ref a_63), .val (.ref a_68), .val (.ref a_73), .val (.ref a_78), .val (.ref b80), .val (.ref b97), .val (.int (0 : Int32)), .val .null] [(.ref b80), (.ref b97)])) t_
      refine st371.trans ?_
      show Steps p.tables e below (T371.setTop (mkF m 292 #[.val (.long id1), .second, .val (.long idr), .second, .val (.long qt1), .second, .val (.long qtr), .second, .val (.long att), .second, .val (.int fl), .val (.long q3), .second, .val (.int (qt1.toInt32)), .val (.int q8), .val (.int q11), .val (.int q18), .val (.int (Int32.ofNat ma)), .val (.int (Int32.ofNat mb)), .val (.int (att.toInt32)), .val (.int q32), .val (.ref b38), .val (.ref a_63), .val (.ref a_68), .val (.ref a_73), .val (.ref a_78), .val (.ref b80), .val (.ref b97), .val (.int (0 : Int32)), .val .null] [(.int q372)])) _
      refine XS.iload X371.here hx rfl (Jvm.hb hby at_292) rfl ?_
      refine XS.icmpNo X371.here hx rfl (Jvm.hb hby at_294) rfl (teq hE1).2 ?_
      show Steps p.tables e below (T371.setTop (mkF m 297 #[.val (.long id1), .second, .val (.long idr), .second, .val (.long qt1), .second, .val (.long qtr), .second, .val (.long att), .second, .val (.int fl), .val (.long q3), .second, .val (.int (qt1.toInt32)), .val (.int q8), .val (.int q11), .val (.int q18), .val (.int (Int32.ofNat ma)), .val (.int (Int32.ofNat mb)), .val (.int (att.toInt32)), .val (.int q32), .val (.ref b38), .val (.ref a_63), .val (.ref a_68), .val (.ref a_73), .val (.ref a_78), .val (.ref b80), .val (.ref b97), .val (.int (0 : Int32)), .val .null] [])) _
      refine XS.aload X371.here hx rfl (Jvm.hb hby at_297) rfl rfl ?_
      refine XS.aload X371.here hx rfl (Jvm.hb hby at_299) rfl rfl ?_
      show Steps p.tables e below (T371.setTop (mkF m 301 #[.val (.long id1), .second, .val (.long idr), .second, .val (.long qt1), .second, .val (.long qtr), .second, .val (.long att), .second, .val (.int fl), .val (.long q3), .second, .val (.int (qt1.toInt32)), .val (.int q8), .val (.int q11), .val (.int q18), .val (.int (Int32.ofNat ma)), .val (.int (Int32.ofNat mb)), .val (.int (att.toInt32)), .val (.int q32), .val (.ref b38), .val (.ref a_63), .val (.ref a_68), .val (.ref a_73), .val (.ref a_78), .val (.ref b80), .val (.ref b97), .val (.int (0 : Int32)), .val .null] [(.ref b80), (.ref b80)])) t_
      exact k_)
    have Zc374 : n0 ≤ h112.size := by omega
    obtain ⟨cq375, kq375, q375a, q375b, q375c⟩ := isOf hZ e371 f344
    obtain ⟨_, _, ⟨T375, L375, k375, n375⟩, -, X375, ⟨Lc375, hQ375, l375, y375, z375⟩, st375⟩ := X371.virtualBack hx (y := (⟨"com/example/coyote_hill/coyotehill/ItemStatus", "equals", "(Ljava/lang/Object;)Z"⟩ : MethodName)) (z := (⟨"com/example/coyote_hill/coyotehill/ItemStatus", "equals", "(Ljava/lang/Object;)Z"⟩ : MethodName)) hown (mvT hZ (hw _ (List.mem_of_getElem? (i := 75) rfl))) (mvT hZ (hw _ (List.mem_of_getElem? (i := 76) rfl))) (notFace_of_selects (args := #[]) (mvT hZ (hw _ (List.mem_of_getElem? (i := 78) rfl)))) (mvT hZ (hw _ (List.mem_of_getElem? (i := 78) rfl))) (mvT hZ (hw _ (List.mem_of_getElem? (i := 77) rfl))) (by decide) (backOf (W := 0) (rmEqS l Z a0 hw [] b80 id1 a_63 a_68 s1 (att.toInt32) h112 n0 Zc374 f344 f345 f346 f347 f348 f349 f350 f358) hZ (hw _ (List.mem_of_getElem? (i := 79) rfl)) (hw _ (List.mem_of_getElem? (i := 51) rfl)) (by decide) (by decide)) q375a q375c (g := (mkF m 301 #[.val (.long id1), .second, .val (.long idr), .second, .val (.long qt1), .second, .val (.long qtr), .second, .val (.long att), .second, .val (.int fl), .val (.long q3), .second, .val (.int (qt1.toInt32)), .val (.int q8), .val (.int q11), .val (.int q18), .val (.int (Int32.ofNat ma)), .val (.int (Int32.ofNat mb)), .val (.int (att.toInt32)), .val (.int q32), .val (.ref b38), .val (.ref a_63), .val (.ref a_68), .val (.ref a_73), .val (.ref a_78), .val (.ref b80), .val (.ref b97), .val (.int (0 : Int32)), .val .null] [(.ref b80), (.ref b80)])) rfl (by rw [hml]; rfl) (Steps.refl _) (argsL := [(.ref b80)]) (rest := []) (lenOf pd__Ljava_lang_Object__Z rfl) rfl (by show 2 * 0 + _ ≤ _; exact Nat.le_of_eq rfl) (Jvm.hb hby at_301) (fun _ _ => ⟨rfl, e371, (by decide : 39 + 0 ≤ _), (by decide : 226 + 0 ≤ _)⟩)
    dsimp only [Pt.U, Pt.locs, Pt.cells, Pt.slots] at X375 l375 y375 z375 st375 hQ375
    subst l375 y375 z375
    obtain ⟨rfl, N375q, e375⟩ := hQ375
    have N375 := Fr.app N371 N375q
    have s376 : ∀ t_, Steps p.tables e below (T375.setTop (mkF m 311 #[.val (.long id1), .second, .val (.long idr), .second, .val (.long qt1), .second, .val (.long qtr), .second, .val (.long att), .second, .val (.int fl), .val (.long q3), .second, .val (.int (qt1.toInt32)), .val (.int q8), .val (.int q11), .val (.int q18), .val (.int (Int32.ofNat ma)), .val (.int (Int32.ofNat mb)), .val (.int (att.toInt32)), .val (.int q32), .val (.ref b38), .val (.ref a_63), .val (.ref a_68), .val (.ref a_73), .val (.ref a_78), .val (.ref b80), .val (.ref b97), .val (.int (0 : Int32)), .val .null] [.null, (.ref b80)])) t_ → Steps p.tables e below (s₁.setTop (entryFrame m #[(.long id1), (.long idr), (.long qt1), (.long qtr), (.long att), (.int fl)] maxLocals)) t_ := fun t_ k_ => s373 t_ (by
      show Steps p.tables e below (T371.setTop (mkF m 301 #[.val (.long id1), .second, .val (.long idr), .second, .val (.long qt1), .second, .val (.long qtr), .second, .val (.long att), .second, .val (.int fl), .val (.long q3), .second, .val (.int (qt1.toInt32)), .val (.int q8), .val (.int q11), .val (.int q18), .val (.int (Int32.ofNat ma)), .val (.int (Int32.ofNat mb)), .val (.int (att.toInt32)), .val (.int q32), .val (.ref b38), .val (.ref a_63), .val (.ref a_68), .val (.ref a_73), .val (.ref a_78), .val (.ref b80), .val (.ref b97), .val (.int (0 : Int32)), .val .null] [(.ref b80), (.ref b80)])) t_
      refine st375.trans ?_
      show Steps p.tables e below (T375.setTop (mkF m 304 #[.val (.long id1), .second, .val (.long idr), .second, .val (.long qt1), .second, .val (.long qtr), .second, .val (.long att), .second, .val (.int fl), .val (.long q3), .second, .val (.int (qt1.toInt32)), .val (.int q8), .val (.int q11), .val (.int q18), .val (.int (Int32.ofNat ma)), .val (.int (Int32.ofNat mb)), .val (.int (att.toInt32)), .val (.int q32), .val (.ref b38), .val (.ref a_63), .val (.ref a_68), .val (.ref a_73), .val (.ref a_78), .val (.ref b80), .val (.ref b97), .val (.int (0 : Int32)), .val .null] [(.int (1 : Int32))])) _
      refine XS.ifNo X375.here hx rfl (Jvm.hb hby at_304) rfl ((if0 _ _).trans (feq (by decide : ¬ ((1 : Int32) = (0 : Int32)))).1) ?_
      show Steps p.tables e below (T375.setTop (mkF m 307 #[.val (.long id1), .second, .val (.long idr), .second, .val (.long qt1), .second, .val (.long qtr), .second, .val (.long att), .second, .val (.int fl), .val (.long q3), .second, .val (.int (qt1.toInt32)), .val (.int q8), .val (.int q11), .val (.int q18), .val (.int (Int32.ofNat ma)), .val (.int (Int32.ofNat mb)), .val (.int (att.toInt32)), .val (.int q32), .val (.ref b38), .val (.ref a_63), .val (.ref a_68), .val (.ref a_73), .val (.ref a_78), .val (.ref b80), .val (.ref b97), .val (.int (0 : Int32)), .val .null] [])) _
      refine XS.aload X375.here hx rfl (Jvm.hb hby at_307) rfl rfl ?_
      refine XS.aload X375.here hx rfl (Jvm.hb hby at_309) rfl rfl ?_
      show Steps p.tables e below (T375.setTop (mkF m 311 #[.val (.long id1), .second, .val (.long idr), .second, .val (.long qt1), .second, .val (.long qtr), .second, .val (.long att), .second, .val (.int fl), .val (.long q3), .second, .val (.int (qt1.toInt32)), .val (.int q8), .val (.int q11), .val (.int q18), .val (.int (Int32.ofNat ma)), .val (.int (Int32.ofNat mb)), .val (.int (att.toInt32)), .val (.int q32), .val (.ref b38), .val (.ref a_63), .val (.ref a_68), .val (.ref a_73), .val (.ref a_78), .val (.ref b80), .val (.ref b97), .val (.int (0 : Int32)), .val .null] [.null, (.ref b80)])) t_
      exact k_)
    have Zc377 : n0 ≤ h112.size := by omega
    obtain ⟨cq378, kq378, q378a, q378b, q378c⟩ := isOf hZ e375 f344
    obtain ⟨_, _, ⟨T378, L378, k378, n378⟩, -, X378, ⟨Lc378, hQ378, l378, y378, z378⟩, st378⟩ := X375.virtualBack hx (y := (⟨"com/example/coyote_hill/coyotehill/ItemStatus", "equals", "(Ljava/lang/Object;)Z"⟩ : MethodName)) (z := (⟨"com/example/coyote_hill/coyotehill/ItemStatus", "equals", "(Ljava/lang/Object;)Z"⟩ : MethodName)) hown (mvT hZ (hw _ (List.mem_of_getElem? (i := 75) rfl))) (mvT hZ (hw _ (List.mem_of_getElem? (i := 76) rfl))) (notFace_of_selects (args := #[]) (mvT hZ (hw _ (List.mem_of_getElem? (i := 78) rfl)))) (mvT hZ (hw _ (List.mem_of_getElem? (i := 78) rfl))) (mvT hZ (hw _ (List.mem_of_getElem? (i := 77) rfl))) (by decide) (backOf (W := 0) (rmEqN l Z a0 hw [] b80 h112 n0 Zc377) hZ (hw _ (List.mem_of_getElem? (i := 79) rfl)) (hw _ (List.mem_of_getElem? (i := 51) rfl)) (by decide) (by decide)) q378a q378c (g := (mkF m 311 #[.val (.long id1), .second, .val (.long idr), .second, .val (.long qt1), .second, .val (.long qtr), .second, .val (.long att), .second, .val (.int fl), .val (.long q3), .second, .val (.int (qt1.toInt32)), .val (.int q8), .val (.int q11), .val (.int q18), .val (.int (Int32.ofNat ma)), .val (.int (Int32.ofNat mb)), .val (.int (att.toInt32)), .val (.int q32), .val (.ref b38), .val (.ref a_63), .val (.ref a_68), .val (.ref a_73), .val (.ref a_78), .val (.ref b80), .val (.ref b97), .val (.int (0 : Int32)), .val .null] [.null, (.ref b80)])) rfl (by rw [hml]; rfl) (Steps.refl _) (argsL := [.null]) (rest := []) (lenOf pd__Ljava_lang_Object__Z rfl) rfl (by show 2 * 0 + _ ≤ _; exact Nat.le_of_eq rfl) (Jvm.hb hby at_311) (fun _ _ => ⟨rfl, e375, (by decide : 39 + 0 ≤ _), (by decide : 226 + 0 ≤ _)⟩)
    dsimp only [Pt.U, Pt.locs, Pt.cells, Pt.slots] at X378 l378 y378 z378 st378 hQ378
    subst l378 y378 z378
    obtain ⟨rfl, N378q, e378⟩ := hQ378
    have N378 := Fr.app N375 N378q
    have s379 : ∀ t_, Steps p.tables e below (T378.setTop (mkF m 321 #[.val (.long id1), .second, .val (.long idr), .second, .val (.long qt1), .second, .val (.long qtr), .second, .val (.long att), .second, .val (.int fl), .val (.long q3), .second, .val (.int (qt1.toInt32)), .val (.int q8), .val (.int q11), .val (.int q18), .val (.int (Int32.ofNat ma)), .val (.int (Int32.ofNat mb)), .val (.int (att.toInt32)), .val (.int q32), .val (.ref b38), .val (.ref a_63), .val (.ref a_68), .val (.ref a_73), .val (.ref a_78), .val (.ref b80), .val (.ref b97), .val (.int (0 : Int32)), .val .null] [(.ref a_63), (.ref b80)])) t_ → Steps p.tables e below (s₁.setTop (entryFrame m #[(.long id1), (.long idr), (.long qt1), (.long qtr), (.long att), (.int fl)] maxLocals)) t_ := fun t_ k_ => s376 t_ (by
      show Steps p.tables e below (T375.setTop (mkF m 311 #[.val (.long id1), .second, .val (.long idr), .second, .val (.long qt1), .second, .val (.long qtr), .second, .val (.long att), .second, .val (.int fl), .val (.long q3), .second, .val (.int (qt1.toInt32)), .val (.int q8), .val (.int q11), .val (.int q18), .val (.int (Int32.ofNat ma)), .val (.int (Int32.ofNat mb)), .val (.int (att.toInt32)), .val (.int q32), .val (.ref b38), .val (.ref a_63), .val (.ref a_68), .val (.ref a_73), .val (.ref a_78), .val (.ref b80), .val (.ref b97), .val (.int (0 : Int32)), .val .null] [.null, (.ref b80)])) t_
      refine st378.trans ?_
      show Steps p.tables e below (T378.setTop (mkF m 314 #[.val (.long id1), .second, .val (.long idr), .second, .val (.long qt1), .second, .val (.long qtr), .second, .val (.long att), .second, .val (.int fl), .val (.long q3), .second, .val (.int (qt1.toInt32)), .val (.int q8), .val (.int q11), .val (.int q18), .val (.int (Int32.ofNat ma)), .val (.int (Int32.ofNat mb)), .val (.int (att.toInt32)), .val (.int q32), .val (.ref b38), .val (.ref a_63), .val (.ref a_68), .val (.ref a_73), .val (.ref a_78), .val (.ref b80), .val (.ref b97), .val (.int (0 : Int32)), .val .null] [(.int (0 : Int32))])) _
      refine XS.ifNo X378.here hx rfl (Jvm.hb hby at_314) rfl ((if0 _ _).trans (teq (rfl : (0 : Int32) = (0 : Int32))).2) ?_
      show Steps p.tables e below (T378.setTop (mkF m 317 #[.val (.long id1), .second, .val (.long idr), .second, .val (.long qt1), .second, .val (.long qtr), .second, .val (.long att), .second, .val (.int fl), .val (.long q3), .second, .val (.int (qt1.toInt32)), .val (.int q8), .val (.int q11), .val (.int q18), .val (.int (Int32.ofNat ma)), .val (.int (Int32.ofNat mb)), .val (.int (att.toInt32)), .val (.int q32), .val (.ref b38), .val (.ref a_63), .val (.ref a_68), .val (.ref a_73), .val (.ref a_78), .val (.ref b80), .val (.ref b97), .val (.int (0 : Int32)), .val .null] [])) _
      refine XS.aload X378.here hx rfl (Jvm.hb hby at_317) rfl rfl ?_
      refine XS.aload X378.here hx rfl (Jvm.hb hby at_319) rfl rfl ?_
      show Steps p.tables e below (T378.setTop (mkF m 321 #[.val (.long id1), .second, .val (.long idr), .second, .val (.long qt1), .second, .val (.long qtr), .second, .val (.long att), .second, .val (.int fl), .val (.long q3), .second, .val (.int (qt1.toInt32)), .val (.int q8), .val (.int q11), .val (.int q18), .val (.int (Int32.ofNat ma)), .val (.int (Int32.ofNat mb)), .val (.int (att.toInt32)), .val (.int q32), .val (.ref b38), .val (.ref a_63), .val (.ref a_68), .val (.ref a_73), .val (.ref a_78), .val (.ref b80), .val (.ref b97), .val (.int (0 : Int32)), .val .null] [(.ref a_63), (.ref b80)])) t_
      exact k_)
    have Zc380 : n0 ≤ h112.size := by omega
    obtain ⟨cq381, kq381, q381a, q381b, q381c⟩ := isOf hZ e378 f344
    obtain ⟨_, _, ⟨T381, L381, k381, n381⟩, -, X381, ⟨Lc381, hQ381, l381, y381, z381⟩, st381⟩ := X378.virtualBack hx (y := (⟨"com/example/coyote_hill/coyotehill/ItemStatus", "equals", "(Ljava/lang/Object;)Z"⟩ : MethodName)) (z := (⟨"com/example/coyote_hill/coyotehill/ItemStatus", "equals", "(Ljava/lang/Object;)Z"⟩ : MethodName)) hown (mvT hZ (hw _ (List.mem_of_getElem? (i := 75) rfl))) (mvT hZ (hw _ (List.mem_of_getElem? (i := 76) rfl))) (notFace_of_selects (args := #[]) (mvT hZ (hw _ (List.mem_of_getElem? (i := 78) rfl)))) (mvT hZ (hw _ (List.mem_of_getElem? (i := 78) rfl))) (mvT hZ (hw _ (List.mem_of_getElem? (i := 77) rfl))) (by decide) (backOf (W := 0) (rmEqX l Z a0 hw [] b80 a_63 h112 n0 Zc380 f350) hZ (hw _ (List.mem_of_getElem? (i := 79) rfl)) (hw _ (List.mem_of_getElem? (i := 51) rfl)) (by decide) (by decide)) q381a q381c (g := (mkF m 321 #[.val (.long id1), .second, .val (.long idr), .second, .val (.long qt1), .second, .val (.long qtr), .second, .val (.long att), .second, .val (.int fl), .val (.long q3), .second, .val (.int (qt1.toInt32)), .val (.int q8), .val (.int q11), .val (.int q18), .val (.int (Int32.ofNat ma)), .val (.int (Int32.ofNat mb)), .val (.int (att.toInt32)), .val (.int q32), .val (.ref b38), .val (.ref a_63), .val (.ref a_68), .val (.ref a_73), .val (.ref a_78), .val (.ref b80), .val (.ref b97), .val (.int (0 : Int32)), .val .null] [(.ref a_63), (.ref b80)])) rfl (by rw [hml]; rfl) (Steps.refl _) (argsL := [(.ref a_63)]) (rest := []) (lenOf pd__Ljava_lang_Object__Z rfl) rfl (by show 2 * 0 + _ ≤ _; exact Nat.le_of_eq rfl) (Jvm.hb hby at_321) (fun _ _ => ⟨rfl, e378, (by decide : 39 + 0 ≤ _), (by decide : 226 + 0 ≤ _)⟩)
    dsimp only [Pt.U, Pt.locs, Pt.cells, Pt.slots] at X381 l381 y381 z381 st381 hQ381
    subst l381 y381 z381
    obtain ⟨rfl, N381q, e381⟩ := hQ381
    have N381 := Fr.app N378 N381q
    have s382 : ∀ t_, Steps p.tables e below (T381.setTop (mkF m 332 #[.val (.long id1), .second, .val (.long idr), .second, .val (.long qt1), .second, .val (.long qtr), .second, .val (.long att), .second, .val (.int fl), .val (.long q3), .second, .val (.int (qt1.toInt32)), .val (.int q8), .val (.int q11), .val (.int q18), .val (.int (Int32.ofNat ma)), .val (.int (Int32.ofNat mb)), .val (.int (att.toInt32)), .val (.int q32), .val (.ref b38), .val (.ref a_63), .val (.ref a_68), .val (.ref a_73), .val (.ref a_78), .val (.ref b80), .val (.ref b97), .val (.int (0 : Int32)), .val .null] [(.int (1 : Int32))])) t_ → Steps p.tables e below (s₁.setTop (entryFrame m #[(.long id1), (.long idr), (.long qt1), (.long qtr), (.long att), (.int fl)] maxLocals)) t_ := fun t_ k_ => s379 t_ (by
      show Steps p.tables e below (T378.setTop (mkF m 321 #[.val (.long id1), .second, .val (.long idr), .second, .val (.long qt1), .second, .val (.long qtr), .second, .val (.long att), .second, .val (.int fl), .val (.long q3), .second, .val (.int (qt1.toInt32)), .val (.int q8), .val (.int q11), .val (.int q18), .val (.int (Int32.ofNat ma)), .val (.int (Int32.ofNat mb)), .val (.int (att.toInt32)), .val (.int q32), .val (.ref b38), .val (.ref a_63), .val (.ref a_68), .val (.ref a_73), .val (.ref a_78), .val (.ref b80), .val (.ref b97), .val (.int (0 : Int32)), .val .null] [(.ref a_63), (.ref b80)])) t_
      refine st381.trans ?_
      show Steps p.tables e below (T381.setTop (mkF m 324 #[.val (.long id1), .second, .val (.long idr), .second, .val (.long qt1), .second, .val (.long qtr), .second, .val (.long att), .second, .val (.int fl), .val (.long q3), .second, .val (.int (qt1.toInt32)), .val (.int q8), .val (.int q11), .val (.int q18), .val (.int (Int32.ofNat ma)), .val (.int (Int32.ofNat mb)), .val (.int (att.toInt32)), .val (.int q32), .val (.ref b38), .val (.ref a_63), .val (.ref a_68), .val (.ref a_73), .val (.ref a_78), .val (.ref b80), .val (.ref b97), .val (.int (0 : Int32)), .val .null] [(.int (0 : Int32))])) _
      refine XS.ifNo X381.here hx rfl (Jvm.hb hby at_324) rfl ((if0 _ _).trans (teq (rfl : (0 : Int32) = (0 : Int32))).2) ?_
      show Steps p.tables e below (T381.setTop (mkF m 327 #[.val (.long id1), .second, .val (.long idr), .second, .val (.long qt1), .second, .val (.long qtr), .second, .val (.long att), .second, .val (.int fl), .val (.long q3), .second, .val (.int (qt1.toInt32)), .val (.int q8), .val (.int q11), .val (.int q18), .val (.int (Int32.ofNat ma)), .val (.int (Int32.ofNat mb)), .val (.int (att.toInt32)), .val (.int q32), .val (.ref b38), .val (.ref a_63), .val (.ref a_68), .val (.ref a_73), .val (.ref a_78), .val (.ref b80), .val (.ref b97), .val (.int (0 : Int32)), .val .null] [])) _
      refine XS.iconst X381.here hx rfl (Jvm.hb hby at_327) ?_
      refine XS.goto X381.here hx rfl (pc0 := 328) (pc' := 332) rfl (Jvm.hb hby at_328) (by decide) (by decide) ?_
      show Steps p.tables e below (T381.setTop (mkF m 332 #[.val (.long id1), .second, .val (.long idr), .second, .val (.long qt1), .second, .val (.long qtr), .second, .val (.long att), .second, .val (.int fl), .val (.long q3), .second, .val (.int (qt1.toInt32)), .val (.int q8), .val (.int q11), .val (.int q18), .val (.int (Int32.ofNat ma)), .val (.int (Int32.ofNat mb)), .val (.int (att.toInt32)), .val (.int q32), .val (.ref b38), .val (.ref a_63), .val (.ref a_68), .val (.ref a_73), .val (.ref a_78), .val (.ref b80), .val (.ref b97), .val (.int (0 : Int32)), .val .null] [(.int (1 : Int32))])) t_
      exact k_)
    obtain ⟨fs, hr, hrun, hended, hREW⟩ := X381.leaveW hS (by first | exact Nat.le_refl _ | (rw [e381]; exact hk)) (v := some (.int (1 : Int32))) (fun h => by rw [Bd.returns] at h; cases h)
    refine ⟨_, _, s382 _ ?_, hrun, hended, _, _, rfl, ?_, (by show CHr Z ELs s.vm s.heap T381.vm T381.heap; rw [hh, e381]; exact CR.trans (CHv.at X381 hZ hEL CR.1)), hREW.1, hREW.2.1, hREW.2.2.1, hREW.2.2.2.mono (by decide) (by decide)⟩
    · show Steps p.tables e below (T381.setTop (mkF m 332 #[.val (.long id1), .second, .val (.long idr), .second, .val (.long qt1), .second, .val (.long qtr), .second, .val (.long att), .second, .val (.int fl), .val (.long q3), .second, .val (.int (qt1.toInt32)), .val (.int q8), .val (.int q11), .val (.int q18), .val (.int (Int32.ofNat ma)), .val (.int (Int32.ofNat mb)), .val (.int (att.toInt32)), .val (.int q32), .val (.ref b38), .val (.ref a_63), .val (.ref a_68), .val (.ref a_73), .val (.ref a_78), .val (.ref b80), .val (.ref b97), .val (.int (0 : Int32)), .val .null] [(.int (1 : Int32))])) _
      exact retN X381 hx (t := .boolean) Bd.returns (by simp) (Jvm.hb hby at_332) hr
    · show Q_rmLaw Z _ _ _ _ _ _ _ _ _ _ _ h0 n0 _ T381.heap _
      rw [e381]
      exact ⟨rfl, N381⟩
set_option maxRecDepth 65536 in
set_option maxHeartbeats 40000000 in
theorem comes_1 {Post : Tables → Env → Array Value → State → Outcome → State → Prop} (hpost : ∀ tb e args s v u, (limb_1_1.after args s (.returned v) u = true ∧ limb_1_2.after args s (.returned v) u = true ∧ True) → ReturnedEndW s (.returned v) u (Jvm.fieldLocs frame_1_writes args s ++ Jvm.arrayLocs frame_1_arrays args s ++ Jvm.staticLocs frame_1_statics s) 48 4288 → Post tb e args s (.returned v) u) :
    ArmFor flags0 classFile x code maxLocals ret World_1 tables_1 room_1 Calls_1 rest_1 Pre_1 Post := by
  intro l hfl _ _ p e ha hc hk s m args below hf hA hF happ hP
  obtain ⟨hcalls, hrest, hpre⟩ := hP
  obtain ⟨-, -, -, hnamed, -, -, -, hat⟩ := (Spec.applies_iff hf).mp happ
  obtain ⟨hg, hn⟩ := and_e (Cond.before_iff.mp (show (Jvm.Cond.and given_1 narrow_1).before args s = true from hpre))
  obtain ⟨ga, gr⟩ := and_e hg
  obtain ⟨g0, gr0⟩ := and_e gr
  obtain ⟨g1, gr1⟩ := and_e gr0
  obtain ⟨g2, gr2⟩ := and_e gr1
  obtain ⟨g3, gr3⟩ := and_e gr2
  obtain ⟨g4, gr4⟩ := and_e gr3
  obtain ⟨w0, w1, w2, w3, w4, w5, rfl⟩ : ∃ w0 w1 w2 w3 w4 w5 : Value, args = #[w0, w1, w2, w3, w4, w5] := by
    have hs : args.size = 6 := by simpa [Cond.value, given_1] using ga
    obtain ⟨L⟩ := args
    match L, hs with
    | [w0, w1, w2, w3, w4, w5], _ => exact ⟨w0, w1, w2, w3, w4, w5, rfl⟩
  have hw := fun d (hd : d ∈ tables_1) => atoms_spec (ws := Jvm.Cond.code x code maxLocals ret :: tables_1) hat d (List.mem_cons_of_mem _ hd)
  have hfit : Fit s := fun {y c} hc i hi => by
    obtain ⟨ha, rfl⟩ := Array.getElem?_eq_some_iff.mp hc
    have q := List.all_eq_true.mp ((Array.all_eq_true_iff_forall_mem.mp hF) _ (Array.getElem_mem ha)) i (List.mem_range.mpr hi)
    simpa [Array.getElem?_eq_getElem hi] using q
  obtain ⟨hsets, hown0⟩ := atoms_of _ (rest_1_c_eq ▸ (show rest_1_c.before _ s = true from hrest))
  have hr0 := Cond.before_iff.mp hown0
  obtain ⟨i0, ei0⟩ := isL_v g0
  obtain rfl : w0 = (.long i0) := Option.some.inj ei0
  obtain ⟨i1, ei1⟩ := isL_v g1
  obtain rfl : w1 = (.long i1) := Option.some.inj ei1
  obtain ⟨i2, ei2⟩ := isL_v g2
  obtain rfl : w2 = (.long i2) := Option.some.inj ei2
  obtain ⟨i3, ei3⟩ := isL_v g3
  obtain rfl : w3 = (.long i3) := Option.some.inj ei3
  obtain ⟨i4, ei4⟩ := isL_v g4
  obtain rfl : w4 = (.long i4) := Option.some.inj ei4
  obtain ⟨i5, ei5⟩ := is_v gr4
  obtain rfl : w5 = (.int i5) := Option.some.inj ei5
  obtain ⟨cst, ecs⟩ := is_v (Cond.before_iff.mp (hsets _ (List.mem_of_getElem? (i := 1) rfl)))
  have hcw := (hsets _ (List.mem_of_getElem? (i := 2) rfl))
  have hcst : ¬ (cst = (0 : Int32)) := fun q => by
    have h1 := not_v (Cond.before_iff.mp hcw)
    rw [Cond.eq_ints ecs (Term.int_eval 0)] at h1
    simp [q] at h1
  obtain ⟨n1, hn⟩ := and_e hn
  obtain ⟨n2, hn⟩ := and_e hn
  obtain ⟨n3, hn⟩ := and_e hn
  obtain ⟨n4, hn⟩ := and_e hn
  obtain ⟨n5, hn⟩ := and_e hn
  obtain ⟨n6, hn⟩ := and_e hn
  obtain ⟨n7, hn⟩ := and_e hn
  obtain ⟨ra, era⟩ := exa_v n1
  obtain ⟨rb, erb⟩ := exa_v n2
  obtain ⟨rc, erc⟩ := exa_v n3
  obtain ⟨rd, erd⟩ := exa_v n4
  have frc := Fld.start ((fld_at erc).symm.trans (eqv_i (Term.int_eval 2) n5))
  have fra := Fld.start ((fld_at era).symm.trans (eqv_i (Term.int_eval 0) n6))
  have frd := Fld.start ((fld_at erd).symm.trans (eqv_i (Term.int_eval 3) n7))
  have frb := Fld.start ((fld_at erb).symm.trans (eqv_i (Term.int_eval 1) hn))
  have hCH : CHv s ELs s.vm s.heap := CHv.start (own_EW hw) (fun p hp => hcalls.1 p hp) (show Jvm.Lit.compactW.before _ s = true from hcw) (hw _ (List.mem_of_getElem? (i := 35) rfl)) (hw _ (List.mem_of_getElem? (i := 18) rfl))
  obtain ⟨n, o, h1, h2, h3, _, L, rfl, ⟨rfl, N⟩, -, hq⟩ := rmLaw l s _ hw tables_1 i0 i1 i2 i3 i4 i5 cst ra rb rc rd s.heap s.heap.size (Nat.le_refl _) (Sta.start ecs (Or.inl (hsets _ (List.mem_of_getElem? (i := 0) rfl)))) (Old.start s) hcst (Sta.start era (Or.inr ⟨(hw _ (List.mem_of_getElem? (i := 3) rfl)), (hw _ (List.mem_of_getElem? (i := 4) rfl))⟩)) (Sta.start erb (Or.inr ⟨(hw _ (List.mem_of_getElem? (i := 3) rfl)), (hw _ (List.mem_of_getElem? (i := 7) rfl))⟩)) (Sta.start erc (Or.inr ⟨(hw _ (List.mem_of_getElem? (i := 3) rfl)), (hw _ (List.mem_of_getElem? (i := 9) rfl))⟩)) (Sta.start erd (Or.inr ⟨(hw _ (List.mem_of_getElem? (i := 3) rfl)), (hw _ (List.mem_of_getElem? (i := 11) rfl))⟩)) (Exa.start era n1) (Exa.start erb n2) (Exa.start erc n3) (Exa.start erd n4) (own_fldne fra frb (by decide)) (own_fldne fra frc (by decide)) (own_fldne fra frd (by decide)) (own_fldne frb frc (by decide)) (own_fldne frb frd (by decide)) (own_fldne frc frd (by decide)) p e ha hc hk s m _ below hf ((Spec.applies_iff_loose hf).mp happ).1 ⟨rfl, State.Warmed39.refl s, rfl, hCH⟩ trivial
  refine ⟨n, _, h1, h2, h3, hpost _ _ _ _ _ _ ⟨Cond.after_iff.mpr rfl, Cond.after_iff.mpr (eq_i res_at (Term.int_eval (1)) rfl), trivial⟩ ⟨hq.1, hq.2.1, hq.2.2.1, (hq.2.2.2.sift fun y hy => Or.inr (N y hy)).mono (by decide) (by decide)⟩⟩
theorem main_1_1 : Claimed_1_1 := comes_1 fun _ _ _ _ _ _ h hF => ⟨h.1, hF⟩
theorem main_1_2 : Claimed_1_2 := comes_1 fun _ _ _ _ _ _ h hF => ⟨h.2.1, hF⟩
end Jvm.Pilot.@@N@@
namespace Jvm.Pilot.@@N@@
open Jvm Jvm.ClassFile Sem Op Lib Jvm.Free Jvm.Stand Jvm.Pilot.@@N@@.Jvm.D
/-! MADE BY PROGRAM (witnessworld.py) out of the Statement's table words and the real class files: 24 classes; the members and pool entries that the words name. The judged class is class 1, her method 3. -/
namespace start1
open Jvm.ClassFile
def u (s : String) : CpInfo := .utf8 (stringToUtf16 s)
/-- a pool by its gaps: so many unusable entries, then the entry; so many at the end -/
def gap : Nat → List CpInfo → List CpInfo
  | 0, r => r
  | n + 1, r => .unusable :: gap n r
def poolList (es : List (Nat × CpInfo)) (last : Nat) : List CpInfo := es.foldr (fun e r => gap e.1 (e.2 :: r)) (gap last [])
def pool (es : List (Nat × CpInfo)) (last : Nat) : Array CpInfo := ⟨poolList es last⟩
def fileOf (pool : Array CpInfo) (this : Nat) (attrs : Array Attribute := #[]) (ms : Array MethodInfo := #[]) (fl : Nat := 33) (sup : Nat := 0) (ifs : Array Nat := #[]) (fds : Array FieldInfo := #[]) : ClassFile where
  minorVersion := 0
  majorVersion := 65
  constantPool := pool
  accessFlags := fl
  thisClass := this
  superClass := sup
  interfaces := ifs
  fields := fds
  methods := ms
  attributes := attrs
def plain (name : String) (sup : Option ClassId) : Class where
  name := name
  kind := .ordinary
  loader := none
  accessFlags := 33
  super := sup
  interfaces := #[]
  cf := none
  fields := #[]
  methods := #[]
  instanceTypes := #[]
  staticTypes := #[]
  resolved := #[]
  callSites := []
  init := .initialized
  statics := none
  mirror := none

def pool0 : Array CpInfo := pool [(5, u "<init>"), (0, u "()V"), (1, .class_ 10), (1, u "java/lang/Object")] 113

def k0c0 : Code := { maxStack := 0, maxLocals := 1, code := object_method_1_code, exceptionTable := #[], attributes := #[] }
def k0m0 : Method := { name := "<init>", desc := "()V", sig := { parameters := [], returnType := none }, accessFlags := 1, code := some k0c0 }
/-- java/lang/Object -/
def k0 : Class := { plain "java/lang/Object" none with
  accessFlags := 33
  interfaces := #[]
  cf := some (fileOf pool0 8 #[] #[{ accessFlags := 1, nameIndex := 5, descriptorIndex := 6, attributes := #[] }] 33 0 #[] #[])
  fields := #[]
  methods := #[k0m0]
  instanceTypes := #[]
  staticTypes := #[]
  resolved := Array.replicate 124 none
  statics := none }

def pool1 : Array CpInfo := pool [(2, .class_ 4), (1, u "java/lang/Object"), (0, u "<init>"), (0, u "()V"), (0, .class_ 8), (0, u "java/lang/String"), (0, .methodref 7 10), (0, .nameAndType 5 11), (0, u "([C)V"), (0, .class_ 13), (0, u "com/example/coyote_hill/coyotehill/ItemState"), (0, .fieldref 12 15), (0, .nameAndType 16 17), (0, u "READY"), (0, u "Lcom/example/coyote_hill/coyotehill/ItemState;"), (0, .fieldref 12 19), (0, .nameAndType 20 17), (0, u "LEASED"), (0, .fieldref 12 22), (0, .nameAndType 23 17), (0, u "DONE"), (0, .fieldref 12 25), (0, .nameAndType 26 17), (0, u "FAILED"), (0, .methodref 28 29), (0, .class_ 30), (0, .nameAndType 31 32), (0, u "com/example/coyote_hill/coyotehill/ItemStatusEqualsPinLaw"), (0, u "str"), (0, u "(I)Ljava/lang/String;"), (0, .class_ 34), (0, u "com/example/coyote_hill/coyotehill/ItemStatus"), (0, .methodref 33 36), (0, .nameAndType 5 37), (0, u "(JLjava/lang/String;Ljava/lang/String;Lcom/example/coyote_hill/coyotehill/ItemState;I)V"), (0, .methodref 28 39), (0, .nameAndType 40 41), (0, u "sameStr"), (0, u "(II)Z"), (0, .methodref 33 43), (0, .nameAndType 44 45), (0, u "equals"), (0, u "(Ljava/lang/Object;)Z"), (3, u "law"), (0, u "(JJJJJI)Z")] 4

def k1m0 : Method := { name := "<init>", desc := "()V", sig := { parameters := [], returnType := none }, accessFlags := 2, code := none }
def k1c1 : Code := { maxStack := 3, maxLocals := 6, code := method_2_code, exceptionTable := #[], attributes := #[] }
def k1m1 : Method := { name := "str", desc := "(I)Ljava/lang/String;", sig := { parameters := [.int], returnType := some (.object "java/lang/String") }, accessFlags := 10, code := some k1c1 }
def k1c2 : Code := { maxStack := 3, maxLocals := 4, code := method_3_code, exceptionTable := #[], attributes := #[] }
def k1m2 : Method := { name := "sameStr", desc := "(II)Z", sig := { parameters := [.int, .int], returnType := some .boolean }, accessFlags := 10, code := some k1c2 }
def k1c3 : Code := { maxStack := 8, maxLocals := 30, code := code, exceptionTable := #[], attributes := #[] }
def k1m3 : Method := { name := "law", desc := "(JJJJJI)Z", sig := { parameters := [.long, .long, .long, .long, .long, .int], returnType := some .boolean }, accessFlags := 9, code := some k1c3 }
/-- com/example/coyote_hill/coyotehill/ItemStatusEqualsPinLaw -/
def k1 : Class := { plain "com/example/coyote_hill/coyotehill/ItemStatusEqualsPinLaw" (some 0) with
  accessFlags := 49
  interfaces := #[]
  cf := some (fileOf pool1 28 #[] #[{ accessFlags := 2, nameIndex := 5, descriptorIndex := 6, attributes := #[] }, { accessFlags := 10, nameIndex := 31, descriptorIndex := 32, attributes := #[] }, { accessFlags := 10, nameIndex := 40, descriptorIndex := 41, attributes := #[] }, { accessFlags := 9, nameIndex := 49, descriptorIndex := 50, attributes := #[] }] 49 2 #[] #[])
  fields := #[]
  methods := #[k1m0, k1m1, k1m2, k1m3]
  instanceTypes := #[]
  staticTypes := #[]
  resolved := Array.replicate 55 none
  statics := none }

def pool2 : Array CpInfo := pool [(1, .class_ 2), (0, u "java/lang/constant/Constable"), (0, .class_ 4), (0, u "java/lang/Object")] 6

/-- java/lang/constant/Constable -/
def k2 : Class := { plain "java/lang/constant/Constable" (some 0) with
  accessFlags := 1537
  interfaces := #[]
  cf := some (fileOf pool2 1 #[] #[] 1537 3 #[] #[])
  fields := #[]
  methods := #[]
  instanceTypes := #[]
  staticTypes := #[]
  resolved := Array.replicate 11 none
  statics := none }

def pool3 : Array CpInfo := pool [(1, .class_ 2), (0, u "java/lang/Comparable"), (0, .class_ 4), (0, u "java/lang/Object")] 7

/-- java/lang/Comparable -/
def k3 : Class := { plain "java/lang/Comparable" (some 0) with
  accessFlags := 1537
  interfaces := #[]
  cf := some (fileOf pool3 1 #[] #[] 1537 3 #[] #[])
  fields := #[]
  methods := #[]
  instanceTypes := #[]
  staticTypes := #[]
  resolved := Array.replicate 12 none
  statics := none }

def pool4 : Array CpInfo := pool [(1, .class_ 2), (0, u "java/io/Serializable"), (0, .class_ 4), (0, u "java/lang/Object")] 2

/-- java/io/Serializable -/
def k4 : Class := { plain "java/io/Serializable" (some 0) with
  accessFlags := 1537
  interfaces := #[]
  cf := some (fileOf pool4 1 #[] #[] 1537 3 #[] #[])
  fields := #[]
  methods := #[]
  instanceTypes := #[]
  staticTypes := #[]
  resolved := Array.replicate 7 none
  statics := none }

def pool5 : Array CpInfo := pool [(2, .class_ 4), (1, u "java/lang/Enum"), (0, u "name"), (0, u "Ljava/lang/String;"), (2, u "ordinal"), (0, u "I"), (1, .class_ 14), (1, u "java/lang/Object"), (4, u "hash"), (86, .class_ 108), (1, u "java/lang/Enum$EnumDesc"), (2, .class_ 112), (0, u "java/lang/constant/Constable"), (0, .class_ 114), (0, u "java/lang/Comparable"), (0, .class_ 116), (0, u "java/io/Serializable")] 87

/-- java/lang/Enum -/
def k5 : Class := { plain "java/lang/Enum" (some 0) with
  accessFlags := 1057
  interfaces := #[2, 3, 4]
  cf := some (fileOf pool5 2 #[.nestMembers #[106]] #[] 1057 12 #[111, 113, 115] #[{ accessFlags := 18, nameIndex := 5, descriptorIndex := 6, attributes := #[] }, { accessFlags := 18, nameIndex := 9, descriptorIndex := 10, attributes := #[] }, { accessFlags := 2, nameIndex := 19, descriptorIndex := 10, attributes := #[] }])
  fields := #[{ name := "name", type := (.object "java/lang/String"), accessFlags := 18, slot := 0, constantValue := 0 }, { name := "ordinal", type := .int, accessFlags := 18, slot := 1, constantValue := 0 }, { name := "hash", type := .int, accessFlags := 2, slot := 2, constantValue := 0 }]
  methods := #[]
  instanceTypes := #[(.object "java/lang/String"), .int, .int]
  staticTypes := #[]
  resolved := Array.replicate 204 none
  statics := none }

def pool6 : Array CpInfo := pool [(1, .class_ 2), (0, u "com/example/coyote_hill/coyotehill/ItemState"), (2, u "READY"), (0, u "Lcom/example/coyote_hill/coyotehill/ItemState;"), (2, u "LEASED"), (2, u "DONE"), (2, u "FAILED"), (2, u "$VALUES"), (0, u "[Lcom/example/coyote_hill/coyotehill/ItemState;"), (6, .class_ 28), (1, u "java/lang/Enum"), (8, u "_name"), (0, u "Ljava/lang/String;")] 43

/-- com/example/coyote_hill/coyotehill/ItemState -/
def k6 : Class := { plain "com/example/coyote_hill/coyotehill/ItemState" (some 5) with
  accessFlags := 16433
  interfaces := #[]
  cf := some (fileOf pool6 1 #[] #[] 16433 26 #[] #[{ accessFlags := 16409, nameIndex := 5, descriptorIndex := 6, attributes := #[] }, { accessFlags := 16409, nameIndex := 9, descriptorIndex := 6, attributes := #[] }, { accessFlags := 16409, nameIndex := 12, descriptorIndex := 6, attributes := #[] }, { accessFlags := 16409, nameIndex := 15, descriptorIndex := 6, attributes := #[] }, { accessFlags := 18, nameIndex := 37, descriptorIndex := 38, attributes := #[] }, { accessFlags := 4122, nameIndex := 18, descriptorIndex := 19, attributes := #[] }])
  fields := #[{ name := "READY", type := (.object "com/example/coyote_hill/coyotehill/ItemState"), accessFlags := 16409, slot := 0, constantValue := 0 }, { name := "LEASED", type := (.object "com/example/coyote_hill/coyotehill/ItemState"), accessFlags := 16409, slot := 1, constantValue := 0 }, { name := "DONE", type := (.object "com/example/coyote_hill/coyotehill/ItemState"), accessFlags := 16409, slot := 2, constantValue := 0 }, { name := "FAILED", type := (.object "com/example/coyote_hill/coyotehill/ItemState"), accessFlags := 16409, slot := 3, constantValue := 0 }, { name := "_name", type := (.object "java/lang/String"), accessFlags := 18, slot := 3, constantValue := 0 }, { name := "$VALUES", type := (.array (.object "com/example/coyote_hill/coyotehill/ItemState")), accessFlags := 4122, slot := 4, constantValue := 0 }]
  methods := #[]
  instanceTypes := #[(.object "java/lang/String"), .int, .int, (.object "java/lang/String")]
  staticTypes := #[(.object "com/example/coyote_hill/coyotehill/ItemState"), (.object "com/example/coyote_hill/coyotehill/ItemState"), (.object "com/example/coyote_hill/coyotehill/ItemState"), (.object "com/example/coyote_hill/coyotehill/ItemState"), (.array (.object "com/example/coyote_hill/coyotehill/ItemState"))]
  resolved := Array.replicate 82 none
  statics := some 0 }

def pool7 : Array CpInfo := pool [(2, .class_ 4), (1, u "java/lang/CharSequence"), (42, .class_ 48), (0, u "java/lang/CharSequence$1CodePointIterator"), (10, .class_ 60), (0, u "java/lang/CharSequence$1CharIterator"), (5, .class_ 67), (0, u "java/lang/Object")] 63

/-- java/lang/CharSequence -/
def k7 : Class := { plain "java/lang/CharSequence" (some 0) with
  accessFlags := 1537
  interfaces := #[]
  cf := some (fileOf pool7 2 #[.nestMembers #[47, 59]] #[] 1537 66 #[] #[])
  fields := #[]
  methods := #[]
  instanceTypes := #[]
  staticTypes := #[]
  resolved := Array.replicate 131 none
  statics := none }

def pool8 : Array CpInfo := pool [(1, .class_ 2), (0, u "java/lang/constant/ConstantDesc"), (0, .class_ 4), (0, u "java/lang/Object")] 32

/-- java/lang/constant/ConstantDesc -/
def k8 : Class := { plain "java/lang/constant/ConstantDesc" (some 0) with
  accessFlags := 1537
  interfaces := #[]
  cf := some (fileOf pool8 1 #[] #[] 1537 3 #[] #[])
  fields := #[]
  methods := #[]
  instanceTypes := #[]
  staticTypes := #[]
  resolved := Array.replicate 37 none
  statics := none }

def pool9 : Array CpInfo := pool [(1, .methodref 2 3), (0, .class_ 4), (0, .nameAndType 5 6), (0, u "java/lang/Object"), (0, u "<init>"), (0, u "()V"), (0, .string 8), (0, u ""), (0, .fieldref 10 11), (0, .class_ 12), (0, .nameAndType 13 14), (0, u "java/lang/String"), (0, u "value"), (0, u "[B"), (0, .fieldref 10 16), (0, .nameAndType 17 18), (0, u "coder"), (0, u "B"), (2, u "hash"), (0, u "I"), (2, u "hashIsZero"), (0, u "Z"), (0, .methodref 10 28), (0, .nameAndType 5 29), (0, u "([CIILjava/lang/Void;)V"), (8, .fieldref 10 39), (0, .nameAndType 40 26), (0, u "COMPACT_STRINGS"), (1, .class_ 44), (1, u "java/lang/StringUTF16"), (0, u "compress"), (1, .methodref 42 48), (0, .nameAndType 49 50), (0, u "coderFromArrayLen"), (0, u "([BI)B"), (56, .class_ 109), (1, u "java/lang/StringLatin1"), (67, .methodref 42 178), (0, .nameAndType 45 179), (0, u "([CII)[B"), (361, .methodref 107 542), (0, .nameAndType 543 544), (0, u "equals"), (0, u "([B[B)Z"), (28, u "(Ljava/lang/Object;)Z"), (1, .class_ 576), (0, u "java/lang/CharSequence"), (22, u "CASE_INSENSITIVE_ORDER"), (0, u "Ljava/util/Comparator;"), (409, u "([C)V"), (90, u "serialPersistentFields"), (0, u "[Ljava/io/ObjectStreamField;"), (0, .class_ 1104), (0, u "java/lang/String$CaseInsensitiveComparator"), (1, .class_ 1107), (0, u "java/io/Serializable"), (0, .class_ 1109), (0, u "java/lang/Comparable"), (0, .class_ 1111), (0, u "java/lang/constant/Constable"), (0, .class_ 1113), (0, u "java/lang/constant/ConstantDesc"), (2, u "serialVersionUID"), (0, u "J"), (3, u "REPL"), (0, u "C"), (2, u "LATIN1"), (1, u "UTF16")] 323

def k9m0 : Method := { name := "<init>", desc := "()V", sig := { parameters := [], returnType := none }, accessFlags := 1, code := none }
def k9c1 : Code := { maxStack := 5, maxLocals := 2, code := jdk_42_method_3_code, exceptionTable := #[], attributes := #[] }
def k9m1 : Method := { name := "<init>", desc := "([C)V", sig := { parameters := [(.array .char)], returnType := none }, accessFlags := 1, code := some k9c1 }
def k9c2 : Code := { maxStack := 2, maxLocals := 3, code := jdk_42_method_66_code, exceptionTable := #[], attributes := #[] }
def k9m2 : Method := { name := "equals", desc := "(Ljava/lang/Object;)Z", sig := { parameters := [(.object "java/lang/Object")], returnType := some .boolean }, accessFlags := 1, code := some k9c2 }
def k9c3 : Code := { maxStack := 4, maxLocals := 6, code := jdk_42_method_149_code, exceptionTable := #[], attributes := #[] }
def k9m3 : Method := { name := "<init>", desc := "([CIILjava/lang/Void;)V", sig := { parameters := [(.array .char), .int, .int, (.object "java/lang/Void")], returnType := none }, accessFlags := 2, code := some k9c3 }
/-- java/lang/String -/
def k9 : Class := { plain "java/lang/String" (some 0) with
  accessFlags := 49
  interfaces := #[4, 3, 7, 2, 8]
  cf := some (fileOf pool9 10 #[.nestMembers #[1103]] #[{ accessFlags := 1, nameIndex := 5, descriptorIndex := 6, attributes := #[] }, { accessFlags := 1, nameIndex := 5, descriptorIndex := 1010, attributes := #[] }, { accessFlags := 1, nameIndex := 543, descriptorIndex := 573, attributes := #[] }, { accessFlags := 2, nameIndex := 5, descriptorIndex := 29, attributes := #[] }] 49 2 #[1106, 1108, 575, 1110, 1112] #[{ accessFlags := 18, nameIndex := 13, descriptorIndex := 14, attributes := #[] }, { accessFlags := 18, nameIndex := 17, descriptorIndex := 18, attributes := #[] }, { accessFlags := 2, nameIndex := 21, descriptorIndex := 22, attributes := #[] }, { accessFlags := 2, nameIndex := 25, descriptorIndex := 26, attributes := #[] }, { accessFlags := 26, nameIndex := 1116, descriptorIndex := 1117, attributes := #[] }, { accessFlags := 24, nameIndex := 40, descriptorIndex := 26, attributes := #[] }, { accessFlags := 26, nameIndex := 1101, descriptorIndex := 1102, attributes := #[] }, { accessFlags := 26, nameIndex := 1121, descriptorIndex := 1122, attributes := #[] }, { accessFlags := 25, nameIndex := 599, descriptorIndex := 600, attributes := #[] }, { accessFlags := 24, nameIndex := 1125, descriptorIndex := 18, attributes := #[] }, { accessFlags := 24, nameIndex := 1127, descriptorIndex := 18, attributes := #[] }])
  fields := #[{ name := "value", type := (.array .byte), accessFlags := 18, slot := 0, constantValue := 0 }, { name := "coder", type := .byte, accessFlags := 18, slot := 1, constantValue := 0 }, { name := "hash", type := .int, accessFlags := 2, slot := 2, constantValue := 0 }, { name := "hashIsZero", type := .boolean, accessFlags := 2, slot := 3, constantValue := 0 }, { name := "serialVersionUID", type := .long, accessFlags := 26, slot := 0, constantValue := 0 }, { name := "COMPACT_STRINGS", type := .boolean, accessFlags := 24, slot := 1, constantValue := 0 }, { name := "serialPersistentFields", type := (.array (.object "java/io/ObjectStreamField")), accessFlags := 26, slot := 2, constantValue := 0 }, { name := "REPL", type := .char, accessFlags := 26, slot := 3, constantValue := 0 }, { name := "CASE_INSENSITIVE_ORDER", type := (.object "java/util/Comparator"), accessFlags := 25, slot := 4, constantValue := 0 }, { name := "LATIN1", type := .byte, accessFlags := 24, slot := 5, constantValue := 0 }, { name := "UTF16", type := .byte, accessFlags := 24, slot := 6, constantValue := 0 }]
  methods := #[k9m0, k9m1, k9m2, k9m3]
  instanceTypes := #[(.array .byte), .byte, .int, .boolean]
  staticTypes := #[.long, .boolean, (.array (.object "java/io/ObjectStreamField")), .char, (.object "java/util/Comparator"), .byte, .byte]
  resolved := Array.replicate 1451 none
  statics := some 1 }

def pool10 : Array CpInfo := pool [(6, .class_ 8), (1, u "java/lang/Object"), (0, u "<init>"), (0, u "()V"), (1, .class_ 14), (1, u "java/lang/StringUTF16"), (31, u "$assertionsDisabled"), (0, u "Z"), (13, u "HI_BYTE_SHIFT"), (0, u "I"), (2, u "LO_BYTE_SHIFT"), (49, .methodref 12 116), (0, .nameAndType 117 118), (0, u "compress"), (0, u "([CI[BII)I"), (3, u "([CII)[B"), (138, u "coderFromArrayLen"), (0, u "([BI)B"), (106, .class_ 371), (1, u "java/lang/StringUTF16$LinesSpliterator"), (58, u "MAX_LENGTH"), (196, .class_ 628), (0, u "java/lang/StringUTF16$CodePointsSpliterator"), (0, .class_ 630), (0, u "java/lang/StringUTF16$CharsSpliterator")] 4

def k10m0 : Method := { name := "<init>", desc := "()V", sig := { parameters := [], returnType := none }, accessFlags := 0, code := none }
def k10c1 : Code := { maxStack := 2, maxLocals := 2, code := jdk_52_method_15_code, exceptionTable := #[], attributes := #[] }
def k10m1 : Method := { name := "coderFromArrayLen", desc := "([BI)B", sig := { parameters := [(.array .byte), .int], returnType := some .byte }, accessFlags := 8, code := some k10c1 }
def k10c2 : Code := { maxStack := 5, maxLocals := 6, code := jdk_52_method_16_code, exceptionTable := #[], attributes := #[] }
def k10m2 : Method := { name := "compress", desc := "([CII)[B", sig := { parameters := [(.array .char), .int, .int], returnType := some (.array .byte) }, accessFlags := 9, code := some k10c2 }
def k10c3 : Code := { maxStack := 3, maxLocals := 7, code := jdk_52_method_21_code, exceptionTable := #[], attributes := #[] }
def k10m3 : Method := { name := "compress", desc := "([CI[BII)I", sig := { parameters := [(.array .char), .int, (.array .byte), .int, .int], returnType := some .int }, accessFlags := 9, code := some k10c3 }
/-- java/lang/StringUTF16 -/
def k10 : Class := { plain "java/lang/StringUTF16" (some 0) with
  accessFlags := 48
  interfaces := #[]
  cf := some (fileOf pool10 12 #[.nestMembers #[627, 629, 369]] #[{ accessFlags := 0, nameIndex := 9, descriptorIndex := 10, attributes := #[] }, { accessFlags := 8, nameIndex := 261, descriptorIndex := 262, attributes := #[] }, { accessFlags := 9, nameIndex := 117, descriptorIndex := 122, attributes := #[] }, { accessFlags := 9, nameIndex := 117, descriptorIndex := 118, attributes := #[] }] 48 6 #[] #[{ accessFlags := 26, nameIndex := 61, descriptorIndex := 62, attributes := #[] }, { accessFlags := 26, nameIndex := 65, descriptorIndex := 62, attributes := #[] }, { accessFlags := 24, nameIndex := 430, descriptorIndex := 62, attributes := #[] }, { accessFlags := 4120, nameIndex := 46, descriptorIndex := 47, attributes := #[] }])
  fields := #[{ name := "HI_BYTE_SHIFT", type := .int, accessFlags := 26, slot := 0, constantValue := 0 }, { name := "LO_BYTE_SHIFT", type := .int, accessFlags := 26, slot := 1, constantValue := 0 }, { name := "MAX_LENGTH", type := .int, accessFlags := 24, slot := 2, constantValue := 0 }, { name := "$assertionsDisabled", type := .boolean, accessFlags := 4120, slot := 3, constantValue := 0 }]
  methods := #[k10m0, k10m1, k10m2, k10m3]
  instanceTypes := #[]
  staticTypes := #[.int, .int, .int, .boolean]
  resolved := Array.replicate 635 none
  statics := none }

def pool11 : Array CpInfo := pool [(1, .methodref 2 3), (0, .class_ 4), (0, .nameAndType 5 6), (0, u "java/lang/Object"), (0, u "<init>"), (0, u "()V"), (0, .fieldref 8 9), (0, .class_ 10), (0, .nameAndType 11 12), (0, u "com/example/coyote_hill/coyotehill/ItemStatus"), (0, u "_id"), (0, u "J"), (0, .string 14), (0, u "queue"), (0, .methodref 16 17), (0, .class_ 18), (0, .nameAndType 19 20), (0, u "java/util/Objects"), (0, u "requireNonNull"), (0, u "(Ljava/lang/Object;Ljava/lang/String;)Ljava/lang/Object;"), (0, .class_ 22), (0, u "java/lang/String"), (0, .fieldref 8 24), (0, .nameAndType 25 26), (0, u "_queue"), (0, u "Ljava/lang/String;"), (0, .string 28), (0, u "tenant"), (0, .fieldref 8 30), (0, .nameAndType 31 26), (0, u "_tenant"), (0, .string 33), (0, u "state"), (0, .class_ 35), (0, u "com/example/coyote_hill/coyotehill/ItemState"), (0, .fieldref 8 37), (0, .nameAndType 38 39), (0, u "_state"), (0, u "Lcom/example/coyote_hill/coyotehill/ItemState;"), (0, .fieldref 8 41), (0, .nameAndType 42 43), (0, u "_attempt"), (0, u "I"), (0, .methodref 21 45), (0, .nameAndType 46 47), (0, u "equals"), (0, u "(Ljava/lang/Object;)Z"), (23, u "(JLjava/lang/String;Ljava/lang/String;Lcom/example/coyote_hill/coyotehill/ItemState;I)V")] 30

def k11c0 : Code := { maxStack := 3, maxLocals := 7, code := prog_7_method_1_code, exceptionTable := #[], attributes := #[] }
def k11m0 : Method := { name := "<init>", desc := "(JLjava/lang/String;Ljava/lang/String;Lcom/example/coyote_hill/coyotehill/ItemState;I)V", sig := { parameters := [.long, (.object "java/lang/String"), (.object "java/lang/String"), (.object "com/example/coyote_hill/coyotehill/ItemState"), .int], returnType := none }, accessFlags := 1, code := some k11c0 }
def k11c1 : Code := { maxStack := 4, maxLocals := 3, code := prog_7_method_7_code, exceptionTable := #[], attributes := #[] }
def k11m1 : Method := { name := "equals", desc := "(Ljava/lang/Object;)Z", sig := { parameters := [(.object "java/lang/Object")], returnType := some .boolean }, accessFlags := 1, code := some k11c1 }
/-- com/example/coyote_hill/coyotehill/ItemStatus -/
def k11 : Class := { plain "com/example/coyote_hill/coyotehill/ItemStatus" (some 0) with
  accessFlags := 49
  interfaces := #[]
  cf := some (fileOf pool11 8 #[] #[{ accessFlags := 1, nameIndex := 5, descriptorIndex := 71, attributes := #[] }, { accessFlags := 1, nameIndex := 46, descriptorIndex := 47, attributes := #[] }] 49 2 #[] #[{ accessFlags := 18, nameIndex := 11, descriptorIndex := 12, attributes := #[] }, { accessFlags := 18, nameIndex := 25, descriptorIndex := 26, attributes := #[] }, { accessFlags := 18, nameIndex := 31, descriptorIndex := 26, attributes := #[] }, { accessFlags := 18, nameIndex := 38, descriptorIndex := 39, attributes := #[] }, { accessFlags := 18, nameIndex := 42, descriptorIndex := 43, attributes := #[] }])
  fields := #[{ name := "_id", type := .long, accessFlags := 18, slot := 0, constantValue := 0 }, { name := "_queue", type := (.object "java/lang/String"), accessFlags := 18, slot := 1, constantValue := 0 }, { name := "_tenant", type := (.object "java/lang/String"), accessFlags := 18, slot := 2, constantValue := 0 }, { name := "_state", type := (.object "com/example/coyote_hill/coyotehill/ItemState"), accessFlags := 18, slot := 3, constantValue := 0 }, { name := "_attempt", type := .int, accessFlags := 18, slot := 4, constantValue := 0 }]
  methods := #[k11m0, k11m1]
  instanceTypes := #[.long, (.object "java/lang/String"), (.object "java/lang/String"), (.object "com/example/coyote_hill/coyotehill/ItemState"), .int]
  staticTypes := #[]
  resolved := Array.replicate 102 none
  statics := none }

def pool12 : Array CpInfo := pool [(2, .class_ 4), (1, u "java/lang/Object"), (0, u "<init>"), (0, u "()V"), (35, .class_ 44), (1, u "java/util/Objects"), (0, u "requireNonNull"), (48, u "(Ljava/lang/Object;Ljava/lang/String;)Ljava/lang/Object;")] 89

def k12m0 : Method := { name := "<init>", desc := "()V", sig := { parameters := [], returnType := none }, accessFlags := 2, code := none }
def k12c1 : Code := { maxStack := 3, maxLocals := 2, code := jdk_31_method_11_code, exceptionTable := #[], attributes := #[] }
def k12m1 : Method := { name := "requireNonNull", desc := "(Ljava/lang/Object;Ljava/lang/String;)Ljava/lang/Object;", sig := { parameters := [(.object "java/lang/Object"), (.object "java/lang/String")], returnType := some (.object "java/lang/Object") }, accessFlags := 9, code := some k12c1 }
/-- java/util/Objects -/
def k12 : Class := { plain "java/util/Objects" (some 0) with
  accessFlags := 49
  interfaces := #[]
  cf := some (fileOf pool12 42 #[] #[{ accessFlags := 2, nameIndex := 5, descriptorIndex := 6, attributes := #[] }, { accessFlags := 9, nameIndex := 45, descriptorIndex := 94, attributes := #[] }] 49 2 #[] #[])
  fields := #[]
  methods := #[k12m0, k12m1]
  instanceTypes := #[]
  staticTypes := #[]
  resolved := Array.replicate 184 none
  statics := none }

def pool13 : Array CpInfo := pool [(4, .class_ 6), (1, u "java/lang/Object"), (0, u "<init>"), (0, u "()V"), (5, .class_ 16), (1, u "java/lang/StringLatin1"), (104, u "$assertionsDisabled"), (0, u "Z"), (98, .class_ 223), (1, u "java/lang/StringLatin1$LinesSpliterator"), (57, u "equals"), (0, u "([B[B)Z"), (107, .class_ 391), (0, u "java/lang/StringLatin1$CharsSpliterator")] 3

def k13m0 : Method := { name := "<init>", desc := "()V", sig := { parameters := [], returnType := none }, accessFlags := 0, code := none }
def k13c1 : Code := { maxStack := 3, maxLocals := 3, code := jdk_43_method_13_code, exceptionTable := #[], attributes := #[] }
def k13m1 : Method := { name := "equals", desc := "([B[B)Z", sig := { parameters := [(.array .byte), (.array .byte)], returnType := some .boolean }, accessFlags := 9, code := some k13c1 }
/-- java/lang/StringLatin1 -/
def k13 : Class := { plain "java/lang/StringLatin1" (some 0) with
  accessFlags := 48
  interfaces := #[]
  cf := some (fileOf pool13 14 #[.nestMembers #[390, 221]] #[{ accessFlags := 0, nameIndex := 7, descriptorIndex := 8, attributes := #[] }, { accessFlags := 9, nameIndex := 281, descriptorIndex := 282, attributes := #[] }] 48 4 #[] #[{ accessFlags := 4120, nameIndex := 121, descriptorIndex := 122, attributes := #[] }])
  fields := #[{ name := "$assertionsDisabled", type := .boolean, accessFlags := 4120, slot := 0, constantValue := 0 }]
  methods := #[k13m0, k13m1]
  instanceTypes := #[]
  staticTypes := #[.boolean]
  resolved := Array.replicate 395 none
  statics := none }

def pool14 : Array CpInfo := pool [(2, .class_ 4), (1, u "java/lang/Object"), (0, u "<init>"), (0, u "()V"), (17, .class_ 26), (1, u "jdk/internal/util/Preconditions"), (28, .class_ 56), (0, u "jdk/internal/util/Preconditions$4"), (57, .class_ 115), (0, u "jdk/internal/util/Preconditions$1"), (7, u "SIOOBE_FORMATTER"), (0, u "Ljava/util/function/BiFunction;"), (0, .class_ 126), (0, u "jdk/internal/util/Preconditions$2"), (3, u "AIOOBE_FORMATTER"), (0, .class_ 132), (0, u "jdk/internal/util/Preconditions$3"), (3, u "IOOBE_FORMATTER")] 57

def k14m0 : Method := { name := "<init>", desc := "()V", sig := { parameters := [], returnType := none }, accessFlags := 1, code := none }
/-- jdk/internal/util/Preconditions -/
def k14 : Class := { plain "jdk/internal/util/Preconditions" (some 0) with
  accessFlags := 33
  interfaces := #[]
  cf := some (fileOf pool14 24 #[.nestMembers #[55, 131, 125, 114]] #[{ accessFlags := 1, nameIndex := 5, descriptorIndex := 6, attributes := #[] }] 33 2 #[] #[{ accessFlags := 25, nameIndex := 123, descriptorIndex := 124, attributes := #[] }, { accessFlags := 25, nameIndex := 130, descriptorIndex := 124, attributes := #[] }, { accessFlags := 25, nameIndex := 136, descriptorIndex := 124, attributes := #[] }])
  fields := #[{ name := "SIOOBE_FORMATTER", type := (.object "java/util/function/BiFunction"), accessFlags := 25, slot := 0, constantValue := 0 }, { name := "AIOOBE_FORMATTER", type := (.object "java/util/function/BiFunction"), accessFlags := 25, slot := 1, constantValue := 0 }, { name := "IOOBE_FORMATTER", type := (.object "java/util/function/BiFunction"), accessFlags := 25, slot := 2, constantValue := 0 }]
  methods := #[k14m0]
  instanceTypes := #[]
  staticTypes := #[(.object "java/util/function/BiFunction"), (.object "java/util/function/BiFunction"), (.object "java/util/function/BiFunction")]
  resolved := Array.replicate 194 none
  statics := some 2 }

def pool15 : Array CpInfo := pool [(9, u "<init>"), (6, .class_ 18), (1, u "java/lang/Object"), (0, u "()V"), (1, .class_ 23), (1, u "jdk/internal/util/ArraysSupport"), (0, u "LOG2_ARRAY_LONG_INDEX_SCALE"), (0, u "I"), (2, u "U"), (0, u "Ljdk/internal/misc/Unsafe;"), (8, u "BIG_ENDIAN"), (0, u "Z"), (8, u "LOG2_BYTE_BIT_SIZE"), (4, u "LOG2_ARRAY_INT_INDEX_SCALE"), (54, u "JLA"), (0, u "Ljdk/internal/access/JavaLangAccess;"), (11, u "LOG2_ARRAY_BOOLEAN_INDEX_SCALE"), (9, u "LOG2_ARRAY_BYTE_INDEX_SCALE"), (5, u "LOG2_ARRAY_CHAR_INDEX_SCALE"), (5, u "LOG2_ARRAY_SHORT_INDEX_SCALE"), (18, u "LOG2_ARRAY_FLOAT_INDEX_SCALE"), (24, u "LOG2_ARRAY_DOUBLE_INDEX_SCALE"), (89, u "T_BOOLEAN"), (2, u "T_CHAR"), (1, u "T_FLOAT"), (1, u "T_DOUBLE"), (1, u "T_BYTE"), (1, u "T_SHORT"), (1, u "T_INT"), (1, u "T_LONG"), (1, u "SOFT_MAX_ARRAY_LENGTH")] 83

def k15m0 : Method := { name := "<init>", desc := "()V", sig := { parameters := [], returnType := none }, accessFlags := 2, code := none }
/-- jdk/internal/util/ArraysSupport -/
def k15 : Class := { plain "jdk/internal/util/ArraysSupport" (some 0) with
  accessFlags := 33
  interfaces := #[]
  cf := some (fileOf pool15 21 #[] #[{ accessFlags := 2, nameIndex := 9, descriptorIndex := 19, attributes := #[] }] 33 16 #[] #[{ accessFlags := 24, nameIndex := 28, descriptorIndex := 29, attributes := #[] }, { accessFlags := 26, nameIndex := 38, descriptorIndex := 39, attributes := #[] }, { accessFlags := 25, nameIndex := 121, descriptorIndex := 25, attributes := #[] }, { accessFlags := 25, nameIndex := 131, descriptorIndex := 25, attributes := #[] }, { accessFlags := 25, nameIndex := 137, descriptorIndex := 25, attributes := #[] }, { accessFlags := 25, nameIndex := 143, descriptorIndex := 25, attributes := #[] }, { accessFlags := 25, nameIndex := 53, descriptorIndex := 25, attributes := #[] }, { accessFlags := 25, nameIndex := 24, descriptorIndex := 25, attributes := #[] }, { accessFlags := 25, nameIndex := 162, descriptorIndex := 25, attributes := #[] }, { accessFlags := 25, nameIndex := 187, descriptorIndex := 25, attributes := #[] }, { accessFlags := 26, nameIndex := 48, descriptorIndex := 25, attributes := #[] }, { accessFlags := 25, nameIndex := 277, descriptorIndex := 25, attributes := #[] }, { accessFlags := 25, nameIndex := 280, descriptorIndex := 25, attributes := #[] }, { accessFlags := 25, nameIndex := 282, descriptorIndex := 25, attributes := #[] }, { accessFlags := 25, nameIndex := 284, descriptorIndex := 25, attributes := #[] }, { accessFlags := 25, nameIndex := 286, descriptorIndex := 25, attributes := #[] }, { accessFlags := 25, nameIndex := 288, descriptorIndex := 25, attributes := #[] }, { accessFlags := 25, nameIndex := 290, descriptorIndex := 25, attributes := #[] }, { accessFlags := 25, nameIndex := 292, descriptorIndex := 25, attributes := #[] }, { accessFlags := 26, nameIndex := 108, descriptorIndex := 109, attributes := #[] }, { accessFlags := 25, nameIndex := 294, descriptorIndex := 25, attributes := #[] }])
  fields := #[{ name := "U", type := (.object "jdk/internal/misc/Unsafe"), accessFlags := 24, slot := 0, constantValue := 0 }, { name := "BIG_ENDIAN", type := .boolean, accessFlags := 26, slot := 1, constantValue := 0 }, { name := "LOG2_ARRAY_BOOLEAN_INDEX_SCALE", type := .int, accessFlags := 25, slot := 2, constantValue := 0 }, { name := "LOG2_ARRAY_BYTE_INDEX_SCALE", type := .int, accessFlags := 25, slot := 3, constantValue := 0 }, { name := "LOG2_ARRAY_CHAR_INDEX_SCALE", type := .int, accessFlags := 25, slot := 4, constantValue := 0 }, { name := "LOG2_ARRAY_SHORT_INDEX_SCALE", type := .int, accessFlags := 25, slot := 5, constantValue := 0 }, { name := "LOG2_ARRAY_INT_INDEX_SCALE", type := .int, accessFlags := 25, slot := 6, constantValue := 0 }, { name := "LOG2_ARRAY_LONG_INDEX_SCALE", type := .int, accessFlags := 25, slot := 7, constantValue := 0 }, { name := "LOG2_ARRAY_FLOAT_INDEX_SCALE", type := .int, accessFlags := 25, slot := 8, constantValue := 0 }, { name := "LOG2_ARRAY_DOUBLE_INDEX_SCALE", type := .int, accessFlags := 25, slot := 9, constantValue := 0 }, { name := "LOG2_BYTE_BIT_SIZE", type := .int, accessFlags := 26, slot := 10, constantValue := 0 }, { name := "T_BOOLEAN", type := .int, accessFlags := 25, slot := 11, constantValue := 0 }, { name := "T_CHAR", type := .int, accessFlags := 25, slot := 12, constantValue := 0 }, { name := "T_FLOAT", type := .int, accessFlags := 25, slot := 13, constantValue := 0 }, { name := "T_DOUBLE", type := .int, accessFlags := 25, slot := 14, constantValue := 0 }, { name := "T_BYTE", type := .int, accessFlags := 25, slot := 15, constantValue := 0 }, { name := "T_SHORT", type := .int, accessFlags := 25, slot := 16, constantValue := 0 }, { name := "T_INT", type := .int, accessFlags := 25, slot := 17, constantValue := 0 }, { name := "T_LONG", type := .int, accessFlags := 25, slot := 18, constantValue := 0 }, { name := "JLA", type := (.object "jdk/internal/access/JavaLangAccess"), accessFlags := 26, slot := 19, constantValue := 0 }, { name := "SOFT_MAX_ARRAY_LENGTH", type := .int, accessFlags := 25, slot := 20, constantValue := 0 }]
  methods := #[k15m0]
  instanceTypes := #[]
  staticTypes := #[(.object "jdk/internal/misc/Unsafe"), .boolean, .int, .int, .int, .int, .int, .int, .int, .int, .int, .int, .int, .int, .int, .int, .int, .int, .int, (.object "jdk/internal/access/JavaLangAccess"), .int]
  resolved := Array.replicate 378 none
  statics := none }

def pool16 : Array CpInfo := pool [(1, u "java/lang/Cloneable"), (0, .class_ 1), (0, u "java/lang/Object"), (0, .class_ 3)] 3

/-- java/lang/Cloneable -/
def k16 : Class := { plain "java/lang/Cloneable" (some 0) with
  accessFlags := 1537
  interfaces := #[]
  cf := some (fileOf pool16 2 #[] #[] 1537 4 #[] #[])
  fields := #[]
  methods := #[]
  instanceTypes := #[]
  staticTypes := #[]
  resolved := Array.replicate 8 none
  statics := none }

/-- the primitive byte -/
def k17 : Class := { plain "byte" none with kind := .primitive 'B', accessFlags := 0x411 }
/-- [B -/
def k18 : Class := { plain "[B" (some 0) with kind := .array 17 .byte, interfaces := #[16, 4], accessFlags := 1041 }

/-- the primitive char -/
def k19 : Class := { plain "char" none with kind := .primitive 'C', accessFlags := 0x411 }
/-- [C -/
def k20 : Class := { plain "[C" (some 0) with kind := .array 19 .char, interfaces := #[16, 4], accessFlags := 1041 }

/-- the primitive int -/
def k21 : Class := { plain "int" none with kind := .primitive 'I', accessFlags := 0x411 }
/-- [I -/
def k22 : Class := { plain "[I" (some 0) with kind := .array 21 .int, interfaces := #[16, 4], accessFlags := 1041 }

/-- [Lcom/example/coyote_hill/coyotehill/ItemState; -/
def k23 : Class := { plain "[Lcom/example/coyote_hill/coyotehill/ItemState;" (some 0) with kind := .array 6 (.object "com/example/coyote_hill/coyotehill/ItemState"), interfaces := #[16, 4], accessFlags := 1041 }

def heap : Heap := #[{ cls := 6, slots := #[.ref 3, .ref 4, .ref 5, .ref 6, .null], vm := .statics 6 },
  { cls := 9, slots := #[.long 0, .int 1, .null, .int 0, .null, .int 0, .int 0], vm := .statics 9 },
  { cls := 14, slots := #[.null, .null, .null], vm := .statics 14 },
  { cls := 6, slots := #[.null, .int 0, .int 0, .null], vm := .none },
  { cls := 6, slots := #[.null, .int 1, .int 0, .null], vm := .none },
  { cls := 6, slots := #[.null, .int 2, .int 0, .null], vm := .none },
  { cls := 6, slots := #[.null, .int 3, .int 0, .null], vm := .none }]
def classes : Array Class := #[k0, k1, k2, k3, k4, k5, k6, k7, k8, k9, k10, k11, k12, k13, k14, k15, k16, k17, k18, k19, k20, k21, k22, k23]
def interned : List (Array UInt16 × Addr) := []
def slotsUsed : Nat := 31
def theMethod : MethodId := ⟨1, 3⟩
def args0 : Array Value := #[.long 5, .long 5, .long 5, .long 5, .long 5, .int 5]
def aboutOver (below : List Frame) : State where
  vm := { classes := classes, interned := interned.toArray }
  heap := heap
  slotsUsed := slotsUsed
  threads := #[{ frames := .invoking theMethod args0 :: below }]
def below0 : List Frame := [.native { method := ⟨0, 0⟩, args := #[] }]
def about1 : State := aboutOver below0
def p0 : Program := .bare "" "" ""
def e0 : Env := launch0.env 0 0 0
theorem w_frames : about1.frames = Frame.invoking theMethod args0 :: below0 := rfl
set_option maxRecDepth 65536 in
theorem w_args : argsFit about1.vm theMethod args0 = true := by decide +kernel
set_option maxRecDepth 65536 in
theorem w_heap : heapFits about1 = true := by decide +kernel
set_option maxRecDepth 65536 in
theorem w_runnable : about1.curStatus? = some .runnable := by decide +kernel
set_option maxRecDepth 65536 in
theorem w_alone : about1.alone = true := by decide +kernel
set_option maxRecDepth 65536 in
theorem w_named : about1.methodNamed? x = some theMethod := by decide +kernel
set_option maxRecDepth 65536 in
theorem w_hears : about1.hears theMethod below0 = true := by decide +kernel
set_option maxRecDepth 65536 in
theorem w_ripe : about1.ripe theMethod args0 below0 = true := by decide +kernel
theorem w_running : about1.status = .running := rfl
set_option maxRecDepth 65536 in
theorem w_room : about1.hasRoom e0.platform room_1 = true :=
  launch0.hasRoom_least _ room_1 (by decide +kernel) (by decide +kernel) (by decide +kernel) (by decide +kernel) (by decide +kernel) (by decide +kernel)
theorem allAtoms_all (ts : List Jvm.Cond) (a : Array Jvm.Value) (st : Jvm.State) : (allAtoms ts).before a st = ts.all (fun c => c.before a st) := by
  induction ts with
  | nil => rfl
  | cons c t ih =>
    show (Jvm.Cond.and c (allAtoms t)).before a st = _
    rw [Jvm.Cond.before_and, ih, List.all_cons]
def words1 : List Jvm.Cond := Jvm.Cond.code x code maxLocals ret :: tables_1
/-- a 'code' word, met by the world's own term for the bytes: nothing is compared byte by byte -/
theorem code_word {y : MethodName} {bytes : ByteArray} {mx : Nat} {rt : Option FieldType} {a : Array Value} {s : State} {m : MethodId} {meth : Method} {c : Code} (h1 : s.methodNamed? y = some m) (h2 : s.vm.method? m = some meth) (h3 : meth.code = some c) (h4 : c.code = bytes)
    (h5 : (c.maxLocals == mx && c.exceptionTable.isEmpty && decide (c.maxStack ≤ mostOperands) && decide (meth.sig.returnType = rt) && !meth.locks && decide (parseMethodDescriptor y.desc = some meth.sig)) = true) : (Jvm.Cond.code y bytes mx rt).before a s = true := by
  simp only [Bool.and_eq_true, beq_iff_eq, Bool.not_eq_true', decide_eq_true_eq] at h5
  obtain ⟨⟨⟨⟨⟨g1, g2⟩, g3⟩, g4⟩, g5⟩, g6⟩ := h5
  simp [Cond.before, Cond.holds, Cond.value, h1, h2, h3, h4, g1, g2, g3, g4, g5, g6]
def isCode : Jvm.Cond → Bool
  | .code _ _ _ _ => true
  | _ => false
theorem all_split {L : List Jvm.Cond} {P : Jvm.Cond → Bool} (h1 : L.all (fun c => isCode c || P c) = true) (h2 : ∀ c ∈ L.filter isCode, P c = true) : L.all P = true := by
  refine List.all_eq_true.mpr fun c hc => ?_
  have h := List.all_eq_true.mp h1 c hc
  rcases Bool.eq_false_or_eq_true (isCode c) with hi | hi
  · exact h2 c (List.mem_filter.mpr ⟨hc, hi⟩)
  · simpa [hi] using h
set_option maxRecDepth 65536 in
theorem w_c0 : (Jvm.Cond.code x code maxLocals ret).before args0 about1 = true := code_word (m := ⟨1, 3⟩) (meth := k1m3) (c := k1c3) (by decide +kernel) rfl rfl rfl (by decide +kernel)
set_option maxRecDepth 65536 in
theorem w_c1 : (Jvm.Cond.code ({ cls := "com/example/coyote_hill/coyotehill/ItemStatusEqualsPinLaw", name := "str", desc := "(I)Ljava/lang/String;" } : Jvm.MethodName) method_2_code (6 : Nat) (Option.some (Jvm.ClassFile.FieldType.object "java/lang/String"))).before args0 about1 = true := code_word (m := ⟨1, 1⟩) (meth := k1m1) (c := k1c1) (by decide +kernel) rfl rfl rfl (by decide +kernel)
set_option maxRecDepth 65536 in
theorem w_c2 : (Jvm.Cond.code ({ cls := "java/lang/String", name := "<init>", desc := "([C)V" } : Jvm.MethodName) jdk_42_method_3_code (2 : Nat) (Option.none : Option Jvm.ClassFile.FieldType)).before args0 about1 = true := code_word (m := ⟨9, 1⟩) (meth := k9m1) (c := k9c1) (by decide +kernel) rfl rfl rfl (by decide +kernel)
set_option maxRecDepth 65536 in
theorem w_c3 : (Jvm.Cond.code ({ cls := "java/lang/String", name := "<init>", desc := "([CIILjava/lang/Void;)V" } : Jvm.MethodName) jdk_42_method_149_code (6 : Nat) (Option.none : Option Jvm.ClassFile.FieldType)).before args0 about1 = true := code_word (m := ⟨9, 3⟩) (meth := k9m3) (c := k9c3) (by decide +kernel) rfl rfl rfl (by decide +kernel)
set_option maxRecDepth 65536 in
theorem w_c4 : (Jvm.Cond.code ({ cls := "java/lang/Object", name := "<init>", desc := "()V" } : Jvm.MethodName) object_method_1_code (1 : Nat) (Option.none : Option Jvm.ClassFile.FieldType)).before args0 about1 = true := code_word (m := ⟨0, 0⟩) (meth := k0m0) (c := k0c0) (by decide +kernel) rfl rfl rfl (by decide +kernel)
set_option maxRecDepth 65536 in
theorem w_c5 : (Jvm.Cond.code ({ cls := "java/lang/StringUTF16", name := "compress", desc := "([CII)[B" } : Jvm.MethodName) jdk_52_method_16_code (6 : Nat) (Option.some (Jvm.ClassFile.FieldType.array Jvm.ClassFile.FieldType.byte))).before args0 about1 = true := code_word (m := ⟨10, 2⟩) (meth := k10m2) (c := k10c2) (by decide +kernel) rfl rfl rfl (by decide +kernel)
set_option maxRecDepth 65536 in
theorem w_c6 : (Jvm.Cond.code ({ cls := "java/lang/StringUTF16", name := "compress", desc := "([CI[BII)I" } : Jvm.MethodName) jdk_52_method_21_code (7 : Nat) (Option.some Jvm.ClassFile.FieldType.int)).before args0 about1 = true := code_word (m := ⟨10, 3⟩) (meth := k10m3) (c := k10c3) (by decide +kernel) rfl rfl rfl (by decide +kernel)
set_option maxRecDepth 65536 in
theorem w_c7 : (Jvm.Cond.code ({ cls := "java/lang/StringUTF16", name := "coderFromArrayLen", desc := "([BI)B" } : Jvm.MethodName) jdk_52_method_15_code (2 : Nat) (Option.some Jvm.ClassFile.FieldType.byte)).before args0 about1 = true := code_word (m := ⟨10, 1⟩) (meth := k10m1) (c := k10c1) (by decide +kernel) rfl rfl rfl (by decide +kernel)
set_option maxRecDepth 65536 in
theorem w_c8 : (Jvm.Cond.code ({ cls := "com/example/coyote_hill/coyotehill/ItemStatus", name := "<init>", desc := "(JLjava/lang/String;Ljava/lang/String;Lcom/example/coyote_hill/coyotehill/ItemState;I)V" } : Jvm.MethodName) prog_7_method_1_code (7 : Nat) (Option.none : Option Jvm.ClassFile.FieldType)).before args0 about1 = true := code_word (m := ⟨11, 0⟩) (meth := k11m0) (c := k11c0) (by decide +kernel) rfl rfl rfl (by decide +kernel)
set_option maxRecDepth 65536 in
theorem w_c9 : (Jvm.Cond.code ({ cls := "java/util/Objects", name := "requireNonNull", desc := "(Ljava/lang/Object;Ljava/lang/String;)Ljava/lang/Object;" } : Jvm.MethodName) jdk_31_method_11_code (2 : Nat) (Option.some (Jvm.ClassFile.FieldType.object "java/lang/Object"))).before args0 about1 = true := code_word (m := ⟨12, 1⟩) (meth := k12m1) (c := k12c1) (by decide +kernel) rfl rfl rfl (by decide +kernel)
set_option maxRecDepth 65536 in
theorem w_c10 : (Jvm.Cond.code ({ cls := "com/example/coyote_hill/coyotehill/ItemStatus", name := "equals", desc := "(Ljava/lang/Object;)Z" } : Jvm.MethodName) prog_7_method_7_code (3 : Nat) (Option.some Jvm.ClassFile.FieldType.boolean)).before args0 about1 = true := code_word (m := ⟨11, 1⟩) (meth := k11m1) (c := k11c1) (by decide +kernel) rfl rfl rfl (by decide +kernel)
set_option maxRecDepth 65536 in
theorem w_c11 : (Jvm.Cond.code ({ cls := "java/lang/String", name := "equals", desc := "(Ljava/lang/Object;)Z" } : Jvm.MethodName) jdk_42_method_66_code (3 : Nat) (Option.some Jvm.ClassFile.FieldType.boolean)).before args0 about1 = true := code_word (m := ⟨9, 2⟩) (meth := k9m2) (c := k9c2) (by decide +kernel) rfl rfl rfl (by decide +kernel)
set_option maxRecDepth 65536 in
theorem w_c12 : (Jvm.Cond.code ({ cls := "com/example/coyote_hill/coyotehill/ItemStatusEqualsPinLaw", name := "sameStr", desc := "(II)Z" } : Jvm.MethodName) method_3_code (4 : Nat) (Option.some Jvm.ClassFile.FieldType.boolean)).before args0 about1 = true := code_word (m := ⟨1, 2⟩) (meth := k1m2) (c := k1c2) (by decide +kernel) rfl rfl rfl (by decide +kernel)
set_option maxRecDepth 65536 in
theorem w_c13 : (Jvm.Cond.code ({ cls := "java/lang/StringLatin1", name := "equals", desc := "([B[B)Z" } : Jvm.MethodName) jdk_43_method_13_code (3 : Nat) (Option.some Jvm.ClassFile.FieldType.boolean)).before args0 about1 = true := code_word (m := ⟨13, 1⟩) (meth := k13m1) (c := k13c1) (by decide +kernel) rfl rfl rfl (by decide +kernel)
def codes1 : List Jvm.Cond := [Jvm.Cond.code x code maxLocals ret, Jvm.Cond.code ({ cls := "com/example/coyote_hill/coyotehill/ItemStatusEqualsPinLaw", name := "str", desc := "(I)Ljava/lang/String;" } : Jvm.MethodName) method_2_code (6 : Nat) (Option.some (Jvm.ClassFile.FieldType.object "java/lang/String")), Jvm.Cond.code ({ cls := "java/lang/String", name := "<init>", desc := "([C)V" } : Jvm.MethodName) jdk_42_method_3_code (2 : Nat) (Option.none : Option Jvm.ClassFile.FieldType), Jvm.Cond.code ({ cls := "java/lang/String", name := "<init>", desc := "([CIILjava/lang/Void;)V" } : Jvm.MethodName) jdk_42_method_149_code (6 : Nat) (Option.none : Option Jvm.ClassFile.FieldType), Jvm.Cond.code ({ cls := "java/lang/Object", name := "<init>", desc := "()V" } : Jvm.MethodName) object_method_1_code (1 : Nat) (Option.none : Option Jvm.ClassFile.FieldType), Jvm.Cond.code ({ cls := "java/lang/StringUTF16", name := "compress", desc := "([CII)[B" } : Jvm.MethodName) jdk_52_method_16_code (6 : Nat) (Option.some (Jvm.ClassFile.FieldType.array Jvm.ClassFile.FieldType.byte)), Jvm.Cond.code ({ cls := "java/lang/StringUTF16", name := "compress", desc := "([CI[BII)I" } : Jvm.MethodName) jdk_52_method_21_code (7 : Nat) (Option.some Jvm.ClassFile.FieldType.int), Jvm.Cond.code ({ cls := "java/lang/StringUTF16", name := "coderFromArrayLen", desc := "([BI)B" } : Jvm.MethodName) jdk_52_method_15_code (2 : Nat) (Option.some Jvm.ClassFile.FieldType.byte), Jvm.Cond.code ({ cls := "com/example/coyote_hill/coyotehill/ItemStatus", name := "<init>", desc := "(JLjava/lang/String;Ljava/lang/String;Lcom/example/coyote_hill/coyotehill/ItemState;I)V" } : Jvm.MethodName) prog_7_method_1_code (7 : Nat) (Option.none : Option Jvm.ClassFile.FieldType), Jvm.Cond.code ({ cls := "java/util/Objects", name := "requireNonNull", desc := "(Ljava/lang/Object;Ljava/lang/String;)Ljava/lang/Object;" } : Jvm.MethodName) jdk_31_method_11_code (2 : Nat) (Option.some (Jvm.ClassFile.FieldType.object "java/lang/Object")), Jvm.Cond.code ({ cls := "com/example/coyote_hill/coyotehill/ItemStatus", name := "equals", desc := "(Ljava/lang/Object;)Z" } : Jvm.MethodName) prog_7_method_7_code (3 : Nat) (Option.some Jvm.ClassFile.FieldType.boolean), Jvm.Cond.code ({ cls := "java/lang/String", name := "equals", desc := "(Ljava/lang/Object;)Z" } : Jvm.MethodName) jdk_42_method_66_code (3 : Nat) (Option.some Jvm.ClassFile.FieldType.boolean), Jvm.Cond.code ({ cls := "com/example/coyote_hill/coyotehill/ItemStatusEqualsPinLaw", name := "sameStr", desc := "(II)Z" } : Jvm.MethodName) method_3_code (4 : Nat) (Option.some Jvm.ClassFile.FieldType.boolean), Jvm.Cond.code ({ cls := "java/lang/StringLatin1", name := "equals", desc := "([B[B)Z" } : Jvm.MethodName) jdk_43_method_13_code (3 : Nat) (Option.some Jvm.ClassFile.FieldType.boolean)]
set_option maxRecDepth 65536 in
theorem codes_eq : words1.filter isCode = codes1 := rfl
theorem w_codes : ∀ c ∈ words1.filter isCode, c.before args0 about1 = true := by
  rw [codes_eq]
  intro c hc
  simp only [codes1, List.mem_cons, List.not_mem_nil, or_false] at hc
  rcases hc with rfl | rfl | rfl | rfl | rfl | rfl | rfl | rfl | rfl | rfl | rfl | rfl | rfl | rfl
  · exact w_c0
  · exact w_c1
  · exact w_c2
  · exact w_c3
  · exact w_c4
  · exact w_c5
  · exact w_c6
  · exact w_c7
  · exact w_c8
  · exact w_c9
  · exact w_c10
  · exact w_c11
  · exact w_c12
  · exact w_c13
set_option maxRecDepth 65536 in
theorem w_t1 : (words1.take 24).all (fun c => isCode c || c.before args0 about1) = true := by decide +kernel
set_option maxRecDepth 65536 in
theorem w_t2 : ((words1.drop 24).take 24).all (fun c => isCode c || c.before args0 about1) = true := by decide +kernel
set_option maxRecDepth 65536 in
theorem w_t3 : (((words1.drop 24).drop 24).take 24).all (fun c => isCode c || c.before args0 about1) = true := by decide +kernel
set_option maxRecDepth 65536 in
theorem w_t4 : ((((words1.drop 24).drop 24).drop 24).take 24).all (fun c => isCode c || c.before args0 about1) = true := by decide +kernel
set_option maxRecDepth 65536 in
theorem w_t5 : ((((words1.drop 24).drop 24).drop 24).drop 24).all (fun c => isCode c || c.before args0 about1) = true := by decide +kernel
theorem w_tables : (allAtoms (Jvm.Cond.code x code maxLocals ret :: tables_1)).before args0 about1 = true := by
  rw [allAtoms_all]
  show words1.all (fun c => c.before args0 about1) = true
  refine all_split ?_ w_codes
  rw [← List.take_append_drop 24 words1, List.all_append, w_t1, ← List.take_append_drop 24 (words1.drop 24), List.all_append, w_t2, ← List.take_append_drop 24 ((words1.drop 24).drop 24), List.all_append, w_t3, ← List.take_append_drop 24 (((words1.drop 24).drop 24).drop 24), List.all_append, w_t4, w_t5]
  rfl
set_option maxRecDepth 65536 in
theorem w_rest : rest_1_c.before args0 about1 = true := by decide +kernel
set_option maxRecDepth 65536 in
theorem w_case : (Jvm.Cond.and given_1 narrow_1).before args0 about1 = true := by decide +kernel
set_option maxRecDepth 65536 in
theorem w_consts : constsHeld consts_1 about1 := Jvm.Lit.constsHeldB_iff.mp (by decide +kernel)
theorem w_applies : (headSpec (Jvm.Cond.code x code maxLocals ret :: tables_1) room_1).applies x e0.platform about1 = true :=
  (Spec.applies_iff w_frames).mpr ⟨w_running, w_runnable, w_alone, w_named, w_hears, w_ripe, w_room, w_tables⟩
theorem atStart : AtStart classFile x code maxLocals ret World_1 tables_1 room_1 Calls_1 rest_1 Pre_1 launch0 p0 e0 about1 theMethod args0 below0 :=
  ⟨lists_1, trivial, launch0.admits_env _ _ _, launch0.least_env, fairChoices_fair.cas, fairChoices_fair.clock, w_frames, w_args, w_heap, w_applies, ⟨w_consts, trivial⟩, w_rest, w_case⟩
end start1
theorem witness_1 : WitnessClaimed_1 := ⟨start1.p0, start1.e0, start1.about1, start1.theMethod, start1.args0, start1.below0, start1.atStart⟩
end Jvm.Pilot.@@N@@
