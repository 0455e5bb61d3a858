import JvmDerived
import JvmDerived.Pilot.@@N@@Statement
import JvmDerived.Pilot.@@N@@Code
set_option linter.unusedVariables false
set_option linter.unusedSimpArgs false
namespace Jvm.RoadKit
open Sem ClassFile Op Lib Jvm.Stand Jvm.Free Jvm.LawKit
section New
variable {p : Program} {l : Launch} {e : Env} {R : Room} {s : State} {m : MethodId} {args : Array Value} {below : List Frame} {meth : Method} {c : Code} {T : State} {locs : List Loc} {cells slots : Nat}
theorem retI (X : Stand p l e R s m args below meth c T locs cells slots) (hx : p.tables.exec = Jvm.exec) {pc : Nat} {Ls : Array Slot} {z : Int32} {rest : List Value} (hret : meth.sig.returnType = some .int) (hd : decode c.code pc = .ok (.ireturn, 1)) {fs : List Frame}
    (hl : ∀ (f : JFrame) (acts : List Action), f.method = m → f.locked = none → f.entered = [] → (doReturn e (T.setTop f) acts (some (.int z))).1 = T.setFrames fs) : Steps p.tables e below (T.setTop (mkF m pc Ls (.int z :: rest))) (T.setFrames fs) := by
  have hm' : T.vm.method? m = some meth := X.method'
  have hn : narrow .int (.int z) = .int z := rfl
  show Steps p.tables e below (T.setTop { method := m, pc := pc, locals := Ls, stack := _ :: rest, locked := none }) _
  jvm_step X.here [X.here.top, hx, hd, hm', hret, hn]
  first | (intro acts; rw [hl _ acts rfl rfl rfl]) | rw [hl _ _ rfl rfl rfl]
  exact Steps.refl _
theorem seg (X : Stand p l e R s m args below meth c T locs cells slots) (P : State → Prop) (h : ∃ T', Stand p l e R s m args below meth c T' locs cells slots ∧ P T') : ∃ T', Stand p l e R s m args below meth c T' locs cells slots ∧ P T' := h
/-- int to char -/
def i2c (x : Int32) : Int32 := x.toUInt32.toUInt16.toUInt32.toInt32
/-- int to byte -/
def own_lo (x : Int32) : Int32 := x.toInt8.toInt32
/-- the unsigned shift of an int -/
def ushr (x y : Int32) : Int32 := (x.toUInt32 >>> (y &&& 31).toUInt32).toInt32
/-- the unsigned shift of a long -/
def ushrJ (x : Int64) (y : Int32) : Int64 := (x.toUInt64 >>> (y &&& 0x3f).toInt64.toUInt64).toInt64
end New
end Jvm.RoadKit
namespace Jvm.Pilot.@@N@@
open Jvm Jvm.ClassFile Sem Op Lib Jvm.Free Jvm.Stand Jvm.LawKit Jvm.RoadKit Bundle Jvm.Pilot.@@N@@.Jvm.D
theorem own_neN {a b : Addr} (h : @Ne Nat a b) : ¬ (a = b) := h
theorem own_narb {q : Prop} [Decidable q] : nar .boolean (if q then (1 : Int32) else (0 : Int32)) = (if q then (1 : Int32) else (0 : Int32)) := by split <;> rfl
theorem own_declares {Z : State} {a0 : Array Value} {y : MethodName} {bytes : ByteArray} {mx : Nat} {r : Option FieldType} (w1 : (Jvm.Cond.instanceMethod y).before a0 Z = true) (w2 : (Jvm.Cond.code y bytes mx r).before a0 Z = true) : (Jvm.Cond.declares y).before a0 Z = true := by
  obtain ⟨mk, meth, h1, h2, h3, -⟩ := Cond.instanceMethod_spec w1
  obtain ⟨meth', c, q1, -, -, -, -, -, -, q2⟩ := Cond.code_spec h1 w2
  cases h2.symm.trans q1
  simp [Cond.before, Cond.holds, Cond.value, h1, h2, h3, q2]
/-- the class of a method that an object selects is no interface -/
theorem own_nf {Z : State} {a0 : Array Value} {y z : MethodName} {C : String} (hz : z.cls = y.cls) (w : (Jvm.Cond.selects C z z).before a0 Z = true) : ∀ r, Z.methodNamed? y = some r → ∃ k, Z.vm.classes[r.cls]? = some k ∧ k.isInterface = false := fun r hr => by
  obtain ⟨c, r2, m2, -, -, q3, -, kP, hkP, hkPi⟩ := Cond.selects_spec w
  have h1 := findClass_of_methodNamed q3
  have h2 := findClass_of_methodNamed hr
  rw [hz, h2] at h1
  rw [Option.some.inj h1]
  exact ⟨kP, hkP, hkPi⟩
/-- a method that its class declares itself is the one that the look-up finds -/
theorem own_same {Z : State} {a0 : Array Value} {y : MethodName} (w1 : (Jvm.Cond.instanceMethod y).before a0 Z = true) (w2 : ∀ r, Z.methodNamed? y = some r → ∃ k, Z.vm.classes[r.cls]? = some k ∧ k.isInterface = false) (hy : y.cls ≠ "java/lang/invoke/MethodHandle" ∧ y.cls ≠ "java/lang/invoke/VarHandle") : (Jvm.Cond.sameMethod y.cls y.cls y.name y.desc).before a0 Z = true := by
  obtain ⟨mk, meth, h1, -⟩ := Cond.instanceMethod_spec w1
  have hc := findClass_of_methodNamed h1
  obtain ⟨k, hk, hi⟩ := w2 mk h1
  have hf := State.methodFound?_of_named h1 hy
  have hk' : Z.vm.classes[mk.cls]? = some k := hk
  simp [Cond.before, Cond.holds, Cond.value, hc, hf, h1, hk', hi]
theorem own_ti {n : Nat} (h : n ≤ 8000) : (Int32.ofNat n).toInt = n := Int32.toInt_ofNat_of_lt (by omega)
theorem own_tn {n : Nat} (h : n ≤ 8000) : (Int32.ofNat n).toNatClampNeg = n := by
  rw [Int32.toNatClampNeg, own_ti h]; omega
theorem own_lt {i n : Nat} (h : i < n) (hn : n ≤ 8000) : (Int32.ofNat i) < (Int32.ofNat n) := by
  rw [Int32.lt_iff_toInt_lt, own_ti (by omega), own_ti hn]; omega
theorem own_nlt {i n : Nat} (h : n ≤ i) (hn : i ≤ 8000) : ¬ ((Int32.ofNat i) < (Int32.ofNat n)) := by
  rw [Int32.lt_iff_toInt_lt, own_ti hn, own_ti (by omega : n ≤ 8000)]; omega
theorem own_nn {n : Nat} (h : n ≤ 8000) : ¬ ((Int32.ofNat n) < (0 : Int32)) := by
  rw [Int32.lt_iff_toInt_lt, own_ti h]
  show ¬ ((n : Int) < 0)
  omega
theorem own_inj {i n : Nat} (h : i ≤ 8000) (hn : n ≤ 8000) (e : Int32.ofNat i = Int32.ofNat n) : i = n := by
  have := congrArg Int32.toInt e
  rw [own_ti h, own_ti hn] at this; omega
theorem own_up (k : Nat) : Int32.ofNat (k + 1) = Int32.ofNat k + (1 : Int32) := Int32.ofNat_add k 1
theorem own_in {i n : Nat} (h : i < n) (hn : n ≤ 8000) : ¬ (Int32.ofNat i) < 0 ∧ (Int32.ofNat i) < (Int32.ofNat n) := ⟨own_nn (by omega), own_lt h hn⟩
theorem own_eqI {z w : Int32} (h : z.toInt = w.toInt) : z = w := Int32.toInt_inj.mp h
theorem own_shl1 {n : Nat} (h : n ≤ 4000) : (Int32.ofNat n) <<< ((1 : Int32) &&& 31) = Int32.ofNat (2 * n) := by
  apply own_eqI
  have h1 := c_ishl (Int32.ofNat n) 1 1 (by decide)
  rw [own_ti (by omega)] at h1
  rw [own_ti (by omega : 2 * n ≤ 8000)]
  have := rng32 ((Int32.ofNat n) <<< ((1 : Int32) &&& 31))
  omega
theorem own_shr1 {n : Nat} (h : n ≤ 4000) : (Int32.ofNat (2 * n)) >>> ((1 : Int32) &&& 31) = Int32.ofNat n := by
  apply own_eqI
  rw [c_ishr (Int32.ofNat (2 * n)) 1 1 (by decide), own_ti (by omega : 2 * n ≤ 8000), own_ti (by omega)]
  omega
theorem own_shr0 (z : Int32) : z >>> ((0 : Int32) &&& 31) = z := by
  apply own_eqI
  rw [c_ishr z 0 0 (by decide)]; simp
def own_mix {α : Type} (ys vs : List α) (j : Nat) : List α := ys.take j ++ vs.drop j
theorem own_mix0 {α : Type} (ys vs : List α) : own_mix ys vs 0 = vs := by simp [own_mix]
theorem own_mixn {α : Type} (ys vs : List α) (n : Nat) (h : ys.length = n) (h2 : vs.length = n) : own_mix ys vs n = ys := by
  simp [own_mix, ← h, ← h2]
  omega
theorem own_mixl {α : Type} (ys vs : List α) (j : Nat) (h : ys.length = vs.length) : (own_mix ys vs j).length = vs.length := by simp [own_mix]; omega
theorem own_mixs {α : Type} (ys vs : List α) (d : α) (j : Nat) (h : ys.length = vs.length) (hj : j < vs.length) : (own_mix ys vs j).set j (ys.getD j d) = own_mix ys vs (j + 1) := by
  have hj' : j < ys.length := by omega
  apply List.ext_getElem?
  intro i
  simp only [own_mix, List.getElem?_set, List.length_append, List.length_take, List.length_drop, List.getElem?_append, List.getElem?_take, List.getElem?_drop, List.getD_eq_getElem?_getD, List.getElem?_eq_getElem hj', Option.getD_some]
  by_cases h1 : j = i
  · subst h1
    rw [if_pos rfl, if_pos (by omega), if_pos (by omega), if_pos (by omega), List.getElem?_eq_getElem hj']
  · rw [if_neg h1]
    by_cases h2 : i < j
    · rw [if_pos (by omega), if_pos (by omega), if_pos (by omega), if_pos (by omega)]
    · rw [if_neg (by omega), if_neg (by omega)]
      congr 1
      omega
/-- every char lies below 256 -/
abbrev own_lat (cs : List Int32) : Prop := ∀ c ∈ cs, ¬ ((255 : Int32) < c)
/-- every one is a char -/
abbrev own_chs (cs : List Int32) : Prop := ∀ c ∈ cs, ¬ (c < (0 : Int32)) ∧ ¬ ((65535 : Int32) < c)
def own_low (cs : List Int32) : List Value := cs.map fun c => .int (own_lo c)
def own_wide : List Int32 → List Value
  | [] => []
  | c :: r => .int (own_lo (c >>> ((0 : Int32) &&& 31))) :: .int (own_lo (c >>> ((8 : Int32) &&& 31))) :: own_wide r
def own_cod (cs : List Int32) : Int32 := if own_lat cs then 0 else 1
def own_enc (cs : List Int32) : List Value := if own_lat cs then own_low cs else own_wide cs
def own_enl (cs : List Int32) : Nat := if own_lat cs then cs.length else 2 * cs.length
theorem own_lowl (cs : List Int32) : (own_low cs).length = cs.length := by simp [own_low]
theorem own_widel : ∀ cs : List Int32, (own_wide cs).length = 2 * cs.length
  | [] => rfl
  | c :: r => by simp only [own_wide, List.length_cons, own_widel r]; omega
theorem own_getc (cs : List Int32) (j : Nat) (d : Value) (hj : j < cs.length) (hb : cs.length ≤ 8000) : (cs.map Value.int).getD (Int32.ofNat j).toNatClampNeg d = .int (cs.getD j 0) := by
  rw [own_tn (by omega)]
  simp [List.getD_eq_getElem?_getD, List.getElem?_map, List.getElem?_eq_getElem hj]
theorem own_getl (cs : List Int32) (j : Nat) (d : Value) (hj : j < cs.length) (hb : cs.length ≤ 8000) : (own_low cs).getD (Int32.ofNat j).toNatClampNeg d = .int (own_lo (cs.getD j 0)) := by
  rw [own_tn (by omega)]
  simp [own_low, List.getD_eq_getElem?_getD, List.getElem?_map, List.getElem?_eq_getElem hj]
theorem own_mem (cs : List Int32) (j : Nat) (hj : j < cs.length) : cs.getD j 0 ∈ cs := by
  simp [List.getD_eq_getElem?_getD, List.getElem?_eq_getElem hj]
theorem own_lolo (c : Int32) : nar .byte (own_lo c) = own_lo c := by
  show (own_lo c).toInt8.toInt32 = own_lo c
  simp [own_lo]
theorem own_mixc (cs : List Int32) (vs : List Value) (j : Nat) (h : cs.length = vs.length) (hj : j < vs.length) : (own_mix (own_low cs) vs j).set j (.int (nar .byte (own_lo (cs.getD j 0)))) = own_mix (own_low cs) vs (j + 1) := by
  have e : Value.int (own_lo (cs.getD j 0)) = (own_low cs).getD j (.int 0) := by
    simp [own_low, List.getD_eq_getElem?_getD, List.getElem?_map, List.getElem?_eq_getElem (by omega : j < cs.length)]
  rw [own_lolo, e]
  exact own_mixs _ _ _ _ (by rw [own_lowl]; exact h) hj
theorem own_wide0 (d : Value) : ∀ (cs : List Int32) (j : Nat), j < cs.length → (own_wide cs).getD (2 * j) d = .int (own_lo ((cs.getD j 0) >>> ((0 : Int32) &&& 31)))
  | [], _, h => nomatch h
  | c :: r, 0, _ => rfl
  | c :: r, j + 1, h => by
    have := own_wide0 d r j (by simpa using h)
    show (own_wide (c :: r)).getD (2 * j + 2) d = _
    simpa [own_wide] using this
theorem own_wide1 (d : Value) : ∀ (cs : List Int32) (j : Nat), j < cs.length → (own_wide cs).getD (2 * j + 1) d = .int (own_lo ((cs.getD j 0) >>> ((8 : Int32) &&& 31)))
  | [], _, h => nomatch h
  | c :: r, 0, _ => rfl
  | c :: r, j + 1, h => by
    have := own_wide1 d r j (by simpa using h)
    show (own_wide (c :: r)).getD (2 * j + 1 + 2) d = _
    simpa [own_wide] using this
theorem own_mixw (cs : List Int32) (vs : List Value) (j : Nat) (h : 2 * cs.length = vs.length) (hj : j < cs.length) :
    ((own_mix (own_wide cs) vs (2 * j)).set (2 * j) (.int (own_lo ((cs.getD j 0) >>> ((0 : Int32) &&& 31))))).set (2 * j + 1) (.int (own_lo ((cs.getD j 0) >>> ((8 : Int32) &&& 31)))) = own_mix (own_wide cs) vs (2 * (j + 1)) := by
  have hl : (own_wide cs).length = vs.length := by rw [own_widel]; exact h
  rw [← own_wide0 (.int 0) cs j hj, own_mixs _ _ _ _ hl (by omega), ← own_wide1 (.int 0) cs j hj, own_mixs _ _ _ _ hl (by omega)]
  rfl
/-- two bytes make the char again -/
theorem own_pair {c : Int32} (h0 : ¬ (c < (0 : Int32))) (h1 : ¬ ((65535 : Int32) < c)) :
    i2c (((own_lo (c >>> ((0 : Int32) &&& 31)) &&& (255 : Int32)) <<< ((0 : Int32) &&& 31)) ||| ((own_lo (c >>> ((8 : Int32) &&& 31)) &&& (255 : Int32)) <<< ((8 : Int32) &&& 31))) = c := by
  have b0 : 0 ≤ c.toInt ∧ c.toInt ≤ 65535 := by
    rw [Int32.lt_iff_toInt_lt] at h0 h1
    have : (0 : Int32).toInt = 0 := rfl
    have : (65535 : Int32).toInt = 65535 := rfl
    omega
  rw [own_shr0]
  have e8 : (c >>> ((8 : Int32) &&& 31)).toInt = c.toInt / 256 := c_ishr c 8 8 (by decide)
  have a1 := c_i2b c
  have a2 := c_i2b (c >>> ((8 : Int32) &&& 31))
  have m1 : (own_lo c &&& (255 : Int32)).toInt = (own_lo c).toInt % 256 := c_mask (own_lo c) 255 8 (by decide) (by decide)
  have m2 : (own_lo (c >>> ((8 : Int32) &&& 31)) &&& (255 : Int32)).toInt = (own_lo (c >>> ((8 : Int32) &&& 31))).toInt % 256 := c_mask (own_lo (c >>> ((8 : Int32) &&& 31))) 255 8 (by decide) (by decide)
  change ((own_lo c).toInt - c.toInt) % 256 = 0 ∧ _ at a1
  change ((own_lo (c >>> ((8 : Int32) &&& 31))).toInt - (c >>> ((8 : Int32) &&& 31)).toInt) % 256 = 0 ∧ _ at a2
  generalize own_lo c = u at *
  generalize own_lo (c >>> ((8 : Int32) &&& 31)) = w at *
  have s1 : ((u &&& (255 : Int32)) <<< ((0 : Int32) &&& 31)) = (u &&& (255 : Int32)) := by
    apply own_eqI
    have := c_ishl (u &&& (255 : Int32)) 0 0 (by decide)
    have := rng32 ((u &&& (255 : Int32)) <<< ((0 : Int32) &&& 31))
    omega
  have s2 := c_ishl (w &&& (255 : Int32)) 8 8 (by decide)
  have r2 := rng32 ((w &&& (255 : Int32)) <<< ((8 : Int32) &&& 31))
  rw [s1]
  generalize (w &&& (255 : Int32)) <<< ((8 : Int32) &&& 31) = y at *
  generalize u &&& (255 : Int32) = z at *
  have o := c_or' z y 8 (by decide) 256 rfl (by omega) (by omega) (by omega)
  have i := c_i2c (z ||| y)
  have r3 := rng32 (z ||| y)
  apply own_eqI
  show ((z ||| y).toUInt32.toUInt16.toUInt32.toInt32).toInt = _
  omega
theorem own_lo_inj {c d : Int32} (h0 : ¬ (c < (0 : Int32))) (h1 : ¬ ((255 : Int32) < c)) (g0 : ¬ (d < (0 : Int32))) (g1 : ¬ ((255 : Int32) < d)) (e : own_lo c = own_lo d) : c = d := by
  apply own_eqI
  have a1 := c_i2b c
  have a2 := c_i2b d
  have e' : c.toInt8.toInt32.toInt = d.toInt8.toInt32.toInt := congrArg Int32.toInt e
  rw [Int32.lt_iff_toInt_lt] at h0 h1 g0 g1
  have : (0 : Int32).toInt = 0 := rfl
  have : (255 : Int32).toInt = 255 := rfl
  omega
theorem own_ltbig {n : Nat} (h : n ≤ 8000) : (Int32.ofNat n) < (1073741823 : Int32) := by
  rw [Int32.lt_iff_toInt_lt, own_ti h]
  show (n : Int) < 1073741823
  omega
theorem own_narc {c : Int32} (h0 : ¬ (c < (0 : Int32))) (h1 : ¬ ((65535 : Int32) < c)) : nar .char c = c := by
  apply own_eqI
  have i := c_i2c c
  show (c.toUInt32.toUInt16.toUInt32.toInt32).toInt = _
  rw [Int32.lt_iff_toInt_lt] at h0 h1
  have : (0 : Int32).toInt = 0 := rfl
  have : (65535 : Int32).toInt = 65535 := rfl
  omega
theorem own_first {cs : List Int32} (h : ¬ own_lat cs) : ∃ i, i < cs.length ∧ (255 : Int32) < (cs.getD i 0) ∧ ∀ j, j < i → ¬ ((255 : Int32) < cs.getD j 0) := by
  induction cs with
  | nil => exact absurd (fun c hc => nomatch hc) h
  | cons c r ih =>
    by_cases hc : (255 : Int32) < c
    · exact ⟨0, by simp, hc, fun j hj => absurd hj (Nat.not_lt_zero j)⟩
    · have : ¬ own_lat r := fun hr => h fun d hd => by
        rcases List.mem_cons.mp hd with rfl | hd
        · exact hc
        · exact hr d hd
      obtain ⟨i, h1, h2, h3⟩ := ih this
      refine ⟨i + 1, by simpa using h1, by simpa using h2, fun j hj => ?_⟩
      cases j with
      | zero => simpa using hc
      | succ j => simpa using h3 j (by omega)
theorem own_fixL {Z : State} {hh : Heap} {b : Addr} {kb : ClassId} {cs : List Int32} {n : Nat} {vs : List Value} {d : Value} (h : own_lat cs) (F : Arv Z hh b kb .byte (Int32.ofNat n) (own_mix (own_low cs) vs n) d) (hn : cs.length = n) (hv : vs.length = n) : Arv Z hh b kb .byte (Int32.ofNat (own_enl cs)) (own_enc cs) d := by
  rw [own_mixn _ _ n (by rw [own_lowl]; exact hn) hv] at F
  rw [own_enl, own_enc, if_pos h, if_pos h, hn]; exact F
theorem own_fixW {Z : State} {hh : Heap} {b : Addr} {kb : ClassId} {cs : List Int32} {n : Nat} {d : Value} (h : ¬ own_lat cs) (F : Arv Z hh b kb .byte (Int32.ofNat (2 * n)) (own_wide cs) d) (hn : cs.length = n) : Arv Z hh b kb .byte (Int32.ofNat (own_enl cs)) (own_enc cs) d := by
  rw [own_enl, own_enc, if_neg h, if_neg h, hn]; exact F
theorem own_ne0 {n : Nat} (h : 0 < n) (hb : n ≤ 8000) : ¬ ((Int32.ofNat n) = (0 : Int32)) := fun e => by
  have := own_inj (n := 0) hb (by omega) e
  omega
theorem own_codl {cs : List Int32} {n : Nat} (hn : cs.length = n) (hp : 0 < n) (hb : n ≤ 4000) : nar .byte (own_lo (ushr ((Int32.ofNat n) - (Int32.ofNat (own_enl cs))) (31 : Int32))) = own_cod cs := by
  rw [own_lolo, own_enl, own_cod]
  by_cases h : own_lat cs
  · rw [if_pos h, if_pos h, hn, Int32.sub_self]; rfl
  · rw [if_neg h, if_neg h, hn]
    have e : ushr ((Int32.ofNat n) - (Int32.ofNat (2 * n))) (31 : Int32) = 1 := by
      apply own_eqI
      have a := c_isub (Int32.ofNat n) (Int32.ofNat (2 * n))
      rw [own_ti (by omega), own_ti (by omega : 2 * n ≤ 8000)] at a
      have r := rng32 ((Int32.ofNat n) - (Int32.ofNat (2 * n)))
      have s := c_iushr ((Int32.ofNat n) - (Int32.ofNat (2 * n))) 31 31 (by decide) (by decide)
      show (((Int32.ofNat n) - (Int32.ofNat (2 * n))).toUInt32 >>> ((31 : Int32) &&& 31).toUInt32).toInt32.toInt = 1
      rw [s]
      omega
    rw [e]; rfl
theorem own_c01 (cs : List Int32) : own_cod cs = 0 ∨ own_cod cs = 1 := by
  unfold own_cod; split
  · exact Or.inl rfl
  · exact Or.inr rfl
theorem own_cnar (cs : List Int32) : narrow .byte (.int (own_cod cs)) = .int (own_cod cs) := by rcases own_c01 cs with h | h <;> rw [h] <;> rfl
theorem own_cnarb (cs : List Int32) : nar .byte (own_cod cs) = own_cod cs := by rcases own_c01 cs with h | h <;> rw [h] <;> rfl
theorem own_cfit (cs : List Int32) : fits .byte (.int (own_cod cs)) = true := by rcases own_c01 cs with h | h <;> rw [h] <;> rfl
theorem own_lenq (cs : List Int32) (hb : cs.length ≤ 4000) : (Int32.ofNat (own_enl cs)) >>> ((own_cod cs) &&& 31) = Int32.ofNat cs.length := by
  rw [own_enl, own_cod]
  by_cases h : own_lat cs
  · rw [if_pos h, if_pos h]; exact own_shr0 _
  · rw [if_neg h, if_neg h]; exact own_shr1 hb
/-- one more than the place of the first ch among k chars from j on; 0: none -/
def own_ix (cs : List Int32) (ch : Int32) : Nat → Nat → Nat
  | _, 0 => 0
  | j, k + 1 => if cs.getD j 0 = ch then j + 1 else own_ix cs ch (j + 1) k
theorem own_ixle (cs : List Int32) (ch : Int32) : ∀ (k j : Nat), own_ix cs ch j k ≤ j + k
  | 0, j => by simp [own_ix]
  | k + 1, j => by
    unfold own_ix; split
    · omega
    · have := own_ixle cs ch k (j + 1); omega
theorem own_ix0 (cs : List Int32) (ch : Int32) (h : ∀ c ∈ cs, c ≠ ch) : ∀ (k j : Nat), j + k ≤ cs.length → own_ix cs ch j k = 0
  | 0, j, _ => rfl
  | k + 1, j, hj => by
    unfold own_ix
    rw [if_neg (h _ (own_mem cs j (by omega)))]
    exact own_ix0 cs ch h k (j + 1) (by omega)
theorem own_minT {i j : Nat} (hi : i ≤ 8000) (hj : j ≤ 8000) (h : ¬ ((Int32.ofNat j) < (Int32.ofNat i))) : Int32.ofNat i = Int32.ofNat (min i j) := by
  by_cases q : i ≤ j
  · rw [Nat.min_eq_left q]
  · exact absurd (own_lt (by omega) hi) h
theorem own_minF {i j : Nat} (hi : i ≤ 8000) (hj : j ≤ 8000) (h : (Int32.ofNat j) < (Int32.ofNat i)) : Int32.ofNat j = Int32.ofNat (min i j) := by
  by_cases q : i ≤ j
  · exact absurd h (own_nlt q hj)
  · rw [Nat.min_eq_right (by omega)]
theorem own_maxT {i j : Nat} (hi : i ≤ 8000) (hj : j ≤ 8000) (h : (Int32.ofNat i) < (Int32.ofNat j)) : Int32.ofNat j = Int32.ofNat (max i j) := by
  by_cases q : j ≤ i
  · exact absurd h (own_nlt q hi)
  · rw [Nat.max_eq_right (by omega)]
theorem own_maxF {i j : Nat} (hi : i ≤ 8000) (hj : j ≤ 8000) (h : ¬ ((Int32.ofNat i) < (Int32.ofNat j))) : Int32.ofNat i = Int32.ofNat (max i j) := by
  by_cases q : j ≤ i
  · rw [Nat.max_eq_left q]
  · exact absurd (own_lt (by omega) hj) h
theorem own_found (j : Nat) : Int32.ofNat j = Int32.ofNat (j + 1) - (1 : Int32) := by rw [own_up, Int32.add_sub_cancel]
theorem own_geth (cs : List Int32) (j : Nat) (d : Value) (hl : own_lat cs) (hj : j < cs.length) (hb : cs.length ≤ 8000) : (own_enc cs).getD (Int32.ofNat j).toNatClampNeg d = .int (own_lo (cs.getD j 0)) := by
  rw [own_enc, if_pos hl]; exact own_getl cs j d hj hb
theorem own_nari2c (z : Int32) : nar .char (i2c z) = i2c z := by
  have i := c_i2c z
  have k := c_i2c (z.toUInt32.toUInt16.toUInt32.toInt32)
  apply own_eqI
  show (z.toUInt32.toUInt16.toUInt32.toInt32).toUInt32.toUInt16.toUInt32.toInt32.toInt = z.toUInt32.toUInt16.toUInt32.toInt32.toInt
  omega
theorem own_rng {q z : Int32} (h : q = i2c z) : ¬ (q < (0 : Int32)) ∧ ¬ ((65535 : Int32) < q) := by
  have i := c_i2c z
  have e : q.toInt = z.toUInt32.toUInt16.toUInt32.toInt32.toInt := congrArg Int32.toInt h
  rw [Int32.lt_iff_toInt_lt, Int32.lt_iff_toInt_lt]
  have : (0 : Int32).toInt = 0 := rfl
  have : (65535 : Int32).toInt = 65535 := rfl
  omega
theorem own_chs0 : own_chs [] := fun _ h => nomatch h
theorem own_chsS {c : Int32} {r : List Int32} (h : ¬ (c < (0 : Int32)) ∧ ¬ ((65535 : Int32) < c)) (g : own_chs r) : own_chs (c :: r) := fun d hd => by
  rcases List.mem_cons.mp hd with rfl | hd
  · exact h
  · exact g d hd
theorem own_lat0 : own_lat [] := fun _ h => nomatch h
theorem own_latS {c : Int32} {r : List Int32} (h : ¬ ((255 : Int32) < c)) (g : own_lat r) : own_lat (c :: r) := fun d hd => by
  rcases List.mem_cons.mp hd with rfl | hd
  · exact h
  · exact g d hd
theorem own_int (z : Int32) (n : Nat) (h : z.toInt = n) : z = Int32.ofNat n := by
  apply Int32.toInt_inj.mp
  rw [h]
  have := z.toInt_lt
  have := z.le_toInt
  rw [Int32.toInt_ofNat_of_lt]
  omega
theorem own_and3 (z : Int32) : ∃ n : Nat, (z &&& (3 : Int32)) = Int32.ofNat n ∧ n < 4 := by
  have h := c_mask z 3 2 (by decide) (by decide)
  refine ⟨(z.toInt % 4).toNat, own_int _ _ ?_, by omega⟩
  rw [h]; omega
theorem own_modn (z : Int32) (d : Int32) (k : Nat) (hd : d.toInt = k) (hk : 0 < k) (hk2 : k ≤ 100) : ∃ n : Nat, ((z &&& (2147483647 : Int32)) % d) = Int32.ofNat n ∧ n < k := by
  have h := c_mask z 2147483647 31 (by decide) (by decide)
  have h2 := (c_irem (z &&& (2147483647 : Int32)) d k hd).1 (by rw [h]; omega)
  have h3 : 0 ≤ (z &&& (2147483647 : Int32)).toInt := by rw [h]; omega
  have h4 := Int.emod_nonneg (z &&& (2147483647 : Int32)).toInt (show (k : Int) ≠ 0 by omega)
  have h5 := Int.emod_lt_of_pos (z &&& (2147483647 : Int32)).toInt (show (0 : Int) < k by omega)
  refine ⟨((z &&& (2147483647 : Int32)).toInt % k).toNat, own_int _ _ ?_, by omega⟩
  rw [h2]; omega
theorem own_lt16 {c : Int32} (h : ¬ ((65535 : Int32) < c)) : c < (65536 : Int32) := by
  rw [Int32.lt_iff_toInt_lt] at *
  have : (65535 : Int32).toInt = 65535 := rfl
  have : (65536 : Int32).toInt = 65536 := rfl
  omega
theorem own_sub0 {i n : Nat} (h : ¬ ((Int32.ofNat i) < (Int32.ofNat n))) (hn : n ≤ 8000) : n - i = 0 := by
  by_cases q : i < n
  · exact absurd (own_lt q hn) h
  · omega
theorem own_cod0 {cs : List Int32} (h : own_lat cs) : own_cod cs = (0 : Int32) := if_pos h
theorem own_cod1 {cs : List Int32} (h : ¬ own_lat cs) : ¬ (own_cod cs = (0 : Int32)) := by rw [own_cod, if_neg h]; decide
/-- which chars are slashes -/
def own_sl (cs : List Int32) : List Bool := cs.map fun c => decide (c = (47 : Int32))
def own_one (bl : List Bool) (i fr to_ : Nat) : Nat := if fr ≤ i ∧ i < to_ ∧ bl.getD i false = true then 1 else 0
def own_cnt (bl : List Bool) (fr to_ : Nat) : Nat := own_one bl 0 fr to_ + own_one bl 1 fr to_ + own_one bl 2 fr to_ + own_one bl 3 fr to_ + own_one bl 4 fr to_ + own_one bl 5 fr to_
def own_ib (bl : List Bool) : Nat → Nat → Nat
  | _, 0 => 0
  | j, k + 1 => if bl.getD j false = true then j + 1 else own_ib bl (j + 1) k
def own_seg (bl : List Bool) : Nat → Nat → Nat
  | p, 0 => p
  | p, k + 1 => own_seg bl (own_ib bl p (bl.length - p)) k
theorem own_slat (cs : List Int32) (i : Nat) (h : i < cs.length) : (own_sl cs).getD i false = decide (cs.getD i 0 = (47 : Int32)) := by
  simp [own_sl, List.getD_eq_getElem?_getD, List.getElem?_map, List.getElem?_eq_getElem h]
theorem own_sll (cs : List Int32) : (own_sl cs).length = cs.length := by simp [own_sl]
theorem own_ixB (cs : List Int32) : ∀ (k j : Nat), j + k ≤ cs.length → own_ix cs (47 : Int32) j k = own_ib (own_sl cs) j k
  | 0, _, _ => rfl
  | k + 1, j, h => by
    rw [own_ix, own_ib, own_slat cs j (by omega), own_ixB cs k (j + 1) (by omega)]
    simp
theorem own_ltiff {i n : Nat} (hi : i ≤ 8000) (hn : n ≤ 8000) : (Int32.ofNat i) < (Int32.ofNat n) ↔ i < n := by
  rw [Int32.lt_iff_toInt_lt, own_ti hi, own_ti hn]; omega
theorem own_le64k {c : Int32} (h : ¬ ((255 : Int32) < c)) : ¬ ((65535 : Int32) < c) := by
  rw [Int32.lt_iff_toInt_lt] at *
  have : (65535 : Int32).toInt = 65535 := rfl
  have : (255 : Int32).toInt = 255 := rfl
  omega
theorem own_d255 (z : Int64) : ¬ (nar .char (i2c ((z &&& (255 : Int64)).toInt32)) < (0 : Int32)) ∧ ¬ ((255 : Int32) < nar .char (i2c ((z &&& (255 : Int64)).toInt32))) := by
  rw [own_nari2c]
  have m := c_maskL z 255 8 (by decide) (by decide)
  have l := c_l2i (z &&& (255 : Int64))
  have i := c_i2c ((z &&& (255 : Int64)).toInt32)
  have r := rng32 ((z &&& (255 : Int64)).toInt32)
  rw [Int32.lt_iff_toInt_lt, Int32.lt_iff_toInt_lt]
  have : (0 : Int32).toInt = 0 := rfl
  have : (255 : Int32).toInt = 255 := rfl
  show ¬ ((((z &&& (255 : Int64)).toInt32).toUInt32.toUInt16.toUInt32.toInt32).toInt < (0 : Int32).toInt) ∧ ¬ ((255 : Int32).toInt < (((z &&& (255 : Int64)).toInt32).toUInt32.toUInt16.toUInt32.toInt32).toInt)
  omega
theorem own_pos {n : Nat} (h : ¬ ((Int32.ofNat n) = (0 : Int32))) : 1 ≤ n := by
  cases n with
  | zero => exact absurd rfl h
  | succ n => omega
theorem own_dn {n : Nat} (h : 1 ≤ n) : (Int32.ofNat n) - (1 : Int32) = Int32.ofNat (n - 1) := by
  obtain ⟨k, rfl⟩ : ∃ k, n = k + 1 := ⟨n - 1, by omega⟩
  rw [own_up, Int32.add_sub_cancel]; rfl
theorem own_cntle (bl : List Bool) (a b : Nat) : own_cnt bl a b ≤ 6 := by
  have : ∀ i, own_one bl i a b ≤ 1 := fun i => by unfold own_one; split <;> omega
  have h0 := this 0; have h1 := this 1; have h2 := this 2; have h3 := this 3; have h4 := this 4; have h5 := this 5
  unfold own_cnt; omega
def own_okb (bl : List Bool) (st n : Nat) : Bool := !(decide (1 ≤ n) && decide (n ≤ own_cnt bl st 6)) || (decide (st + 1 ≤ own_seg bl st n) && (decide (own_seg bl st n ≤ 6) && (bl.getD (own_seg bl st n - 1) false && decide (own_cnt bl st (own_seg bl st n - 1) = n - 1))))
def own_two (ls : List (List Bool)) : List (List Bool) := ls.map (false :: ·) ++ ls.map (true :: ·)
def own_bs : List (List Bool) := own_two (own_two (own_two (own_two (own_two (own_two [[]])))))
theorem own_okall : (own_bs.all fun bl => (List.range 7).all fun st => (List.range 7).all fun n => own_okb bl st n) = true := by decide +kernel
theorem own_twom {ls : List (List Bool)} {l : List Bool} (b : Bool) (h : l ∈ ls) : (b :: l) ∈ own_two ls := by
  cases b
  · exact List.mem_append_left _ (List.mem_map.mpr ⟨l, h, rfl⟩)
  · exact List.mem_append_right _ (List.mem_map.mpr ⟨l, h, rfl⟩)
theorem own_law0 (b0 b1 b2 b3 b4 b5 : Bool) (st : Nat) (hs : st < 7) (n : Nat) (hn : n < 7) (h1 : 1 ≤ n) (h2 : n ≤ own_cnt [b0, b1, b2, b3, b4, b5] st 6) :
    st + 1 ≤ own_seg [b0, b1, b2, b3, b4, b5] st n ∧ own_seg [b0, b1, b2, b3, b4, b5] st n ≤ 6 ∧ [b0, b1, b2, b3, b4, b5].getD (own_seg [b0, b1, b2, b3, b4, b5] st n - 1) false = true ∧ own_cnt [b0, b1, b2, b3, b4, b5] st (own_seg [b0, b1, b2, b3, b4, b5] st n - 1) = n - 1 := by
  have hm : [b0, b1, b2, b3, b4, b5] ∈ own_bs := own_twom _ (own_twom _ (own_twom _ (own_twom _ (own_twom _ (own_twom _ (List.mem_singleton.mpr rfl))))))
  have h := List.all_eq_true.mp (List.all_eq_true.mp (List.all_eq_true.mp own_okall _ hm) st (List.mem_range.mpr hs)) n (List.mem_range.mpr hn)
  rw [own_okb, decide_eq_true h1, decide_eq_true h2] at h
  simpa using h
theorem own_law (a b c d e f : Int32) (st n : Nat) (hs : st < 7) (hn : n < 7) (h1 : 1 ≤ n) (h2 : n ≤ own_cnt (own_sl [a, b, c, d, e, f]) st 6) :
    st + 1 ≤ own_seg (own_sl [a, b, c, d, e, f]) st n ∧ own_seg (own_sl [a, b, c, d, e, f]) st n ≤ 6 ∧ (own_sl [a, b, c, d, e, f]).getD (own_seg (own_sl [a, b, c, d, e, f]) st n - 1) false = true ∧ own_cnt (own_sl [a, b, c, d, e, f]) st (own_seg (own_sl [a, b, c, d, e, f]) st n - 1) = n - 1 :=
  own_law0 _ _ _ _ _ _ st hs n hn h1 h2
theorem pn_java_lang_StringUTF16 : plainName "java/lang/StringUTF16" = true := by first | (simp [plainName, overriddenIn]; done) | decide +kernel
theorem d_jdk_52_method_21_0 : decode jdk_52_method_21_code 0 = .ok (.iconst 0, 1) := by decide +kernel
theorem d_jdk_52_method_21_1 : decode jdk_52_method_21_code 1 = .ok (.istore 5, 2) := by decide +kernel
theorem d_jdk_52_method_21_3 : decode jdk_52_method_21_code 3 = .ok (.iload 5, 2) := by decide +kernel
theorem d_jdk_52_method_21_5 : decode jdk_52_method_21_code 5 = .ok (.iload 4, 2) := by decide +kernel
theorem d_jdk_52_method_21_7 : decode jdk_52_method_21_code 7 = .ok (.if_icmp .ge 37, 3) := by decide +kernel
theorem d_jdk_52_method_21_10 : decode jdk_52_method_21_code 10 = .ok (.aload_n 0, 1) := by decide +kernel
theorem d_jdk_52_method_21_11 : decode jdk_52_method_21_code 11 = .ok (.iload_n 1, 1) := by decide +kernel
theorem d_jdk_52_method_21_12 : decode jdk_52_method_21_code 12 = .ok (.caload, 1) := by decide +kernel
theorem os_rmCmpL_13 {z0 : Value} {z1 : Value} {z2 : Value} {z3 : Value} {z4 : Value} {z5 : Value} {s6 : Slot} {v : Int32} (h : One s6) : storeLocals #[.val z0, .val z1, .val z2, .val z3, .val z4, .val z5, s6] 6 (.int v) = some #[.val z0, .val z1, .val z2, .val z3, .val z4, .val z5, .val (.int v)] := by
  rcases h with rfl | ⟨w, rfl, hw⟩
  · rfl
  · cases w <;> first | rfl | (simp [Value.category] at hw)
theorem d_jdk_52_method_21_13 : decode jdk_52_method_21_code 13 = .ok (.istore 6, 2) := by decide +kernel
theorem d_jdk_52_method_21_15 : decode jdk_52_method_21_code 15 = .ok (.iload 6, 2) := by decide +kernel
theorem d_jdk_52_method_21_17 : decode jdk_52_method_21_code 17 = .ok (.sipush 255, 3) := by decide +kernel
theorem d_jdk_52_method_21_20 : decode jdk_52_method_21_code 20 = .ok (.if_icmp .le 6, 3) := by decide +kernel
theorem d_jdk_52_method_21_26 : decode jdk_52_method_21_code 26 = .ok (.aload_n 2, 1) := by decide +kernel
theorem d_jdk_52_method_21_27 : decode jdk_52_method_21_code 27 = .ok (.iload_n 3, 1) := by decide +kernel
theorem d_jdk_52_method_21_28 : decode jdk_52_method_21_code 28 = .ok (.iload 6, 2) := by decide +kernel
theorem d_jdk_52_method_21_30 : decode jdk_52_method_21_code 30 = .ok (.i2b, 1) := by decide +kernel
theorem d_jdk_52_method_21_31 : decode jdk_52_method_21_code 31 = .ok (.bastore, 1) := by decide +kernel
theorem d_jdk_52_method_21_32 : decode jdk_52_method_21_code 32 = .ok (.iinc 1 1, 3) := by decide +kernel
theorem d_jdk_52_method_21_35 : decode jdk_52_method_21_code 35 = .ok (.iinc 3 1, 3) := by decide +kernel
theorem d_jdk_52_method_21_38 : decode jdk_52_method_21_code 38 = .ok (.iinc 5 1, 3) := by decide +kernel
theorem d_jdk_52_method_21_41 : decode jdk_52_method_21_code 41 = .ok (.goto (-38), 3) := by decide +kernel
theorem d_jdk_52_method_21_44 : decode jdk_52_method_21_code 44 = .ok (.iload 4, 2) := by decide +kernel
theorem d_jdk_52_method_21_46 : decode jdk_52_method_21_code 46 = .ok (.ireturn, 1) := by decide +kernel
theorem ef_rmCmpL (m : MethodId) (x0 : Addr) (x1 : Int32) (x2 : Addr) (x3 : Int32) (x4 : Int32) : entryFrame m #[(.ref x0), (.int x1), (.ref x2), (.int x3), (.int x4)] 7 = mkF m 0 #[.val (.ref x0), .val (.int x1), .val (.ref x2), .val (.int x3), .val (.int x4), .unset, .unset] [] := by first | (simp [entryFrame, mkF, argsToLocals, Value.category]; done) | rfl
def Q_rmCmpL (Z : State) (ca : Addr) (ba : Addr) (cs : List Int32) (kc : ClassId) (n : Nat) (kb : ClassId) (vs : List Value) (h0 : Heap) (n0 : Nat) (v : Option Value) (h : Heap) (L : List Loc) : Prop := (v = some (.int (Int32.ofNat n))) ∧ (Fr n0 L) ∧ (Keep h0 h [ba]) ∧ (Arv Z h ba kb .byte (Int32.ofNat n) (own_mix (own_low cs) vs n) (.int (0 : Int32)))
set_option maxRecDepth 65536 in
set_option maxHeartbeats 40000000 in
theorem rmCmpL (l : Launch) (Z : State) (a0 : Array Value) (hw : ∀ d ∈ tables_1, d.before a0 Z = true) (ws : List Jvm.Cond) (ca : Addr) (ba : Addr) (cs : List Int32) (kc : ClassId) (n : Nat) (kb : ClassId) (vs : List Value) (h0 : Heap) (n0 : Nat) (Z0 : n0 ≤ h0.size) (I1 : Arv Z h0 ca kc .char (Int32.ofNat n) (cs.map Value.int) (.int (0 : Int32))) (I2 : Arv Z h0 ba kb .byte (Int32.ofNat n) vs (.int (0 : Int32))) (hn : cs.length = n) (hb : n ≤ 6) (hvs : vs.length = n) (gb : n0 ≤ ba) (hne : @Ne Nat ca ba) (hlat : own_lat cs) :
    MetFree l (⟨"java/lang/StringUTF16", "compress", "([CI[BII)I"⟩ : MethodName) (head1 (Jvm.Cond.code (⟨"java/lang/StringUTF16", "compress", "([CI[BII)I"⟩ : MethodName) jdk_52_method_21_code 7 (some .int) :: ws) ({ frames := 0, cells := 0, slots := 0, locals := 0 } : Room)) (fun ar_ U => ar_ = #[(.ref ca), (.int (0 : Int32)), (.ref ba), (.int (0 : Int32)), (.int (Int32.ofNat n))] ∧ Z.Warmed39 U.vm ∧ U.heap = h0) (fun _ _ _ _ _ => True) (fun _ U o U' => ∃ v L, o = .returned v ∧ Q_rmCmpL Z ca ba cs kc n kb vs h0 n0 v U'.heap L ∧ FrameEnd U o U' L ({ frames := 0, cells := 0, slots := 0, locals := 0 } : Room).cells ({ frames := 0, cells := 0, slots := 0, locals := 0 } : Room).slots) := by
  refine MetFree.of_bodySF (plainFor_of_name pn_java_lang_StringUTF16) hisR ?_
  intro p e s m args below meth c s₁ Bd hml0 hP hK
  obtain ⟨rfl, hZ, hh⟩ := hP
  have hx := Bd.exec
  have hby := Bd.bytes
  have hml : c.maxLocals = 7 := hml0
  have hown : s.vm.findClass "java/lang/StringUTF16" = some m.cls := findClass_of_methodNamed Bd.named
  have hnm := (name_of_methodNamed Bd.named Bd.method).1
  have X0 : Stand p l e ({ frames := 0, cells := 0, slots := 0, locals := 0 } : Room) s m #[(.ref ca), (.int (0 : Int32)), (.ref ba), (.int (0 : Int32)), (.int (Int32.ofNat n))] below meth c s₁ [] 0 0 := Stand.of_body Bd
  have e0 : s₁.heap = h0 := by rw [← hh, Bd.state]; rfl
  have N0 := Fr.nil n0
  have pre0 : ∀ t_, Steps p.tables e below (s₁.setTop (mkF m 0 #[.val (.ref ca), .val (.int (0 : Int32)), .val (.ref ba), .val (.int (0 : Int32)), .val (.int (Int32.ofNat n)), .unset, .unset] [])) t_ → Steps p.tables e below (s₁.setTop (entryFrame m #[(.ref ca), (.int (0 : Int32)), (.ref ba), (.int (0 : Int32)), (.int (Int32.ofNat n))] 7)) t_ := fun t_ k_ => castTop (ef_rmCmpL m ca (0 : Int32) ba (0 : Int32) (Int32.ofNat n)) k_
  have lt_I1 : @LT.lt Nat _ ca h0.size := I1.lt
  have lt_I2 : @LT.lt Nat _ ba h0.size := I2.lt
  have s1 : ∀ t_, Steps p.tables e below (s₁.setTop (mkF m 3 #[.val (.ref ca), .val (.int (0 : Int32)), .val (.ref ba), .val (.int (0 : Int32)), .val (.int (Int32.ofNat n)), .val (.int (0 : Int32)), .unset] [])) t_ → Steps p.tables e below (s₁.setTop (entryFrame m #[(.ref ca), (.int (0 : Int32)), (.ref ba), (.int (0 : Int32)), (.int (Int32.ofNat n))] 7)) t_ := fun t_ k_ => pre0 t_ (by
    show Steps p.tables e below (s₁.setTop (mkF m 0 #[.val (.ref ca), .val (.int (0 : Int32)), .val (.ref ba), .val (.int (0 : Int32)), .val (.int (Int32.ofNat n)), .unset, .unset] [])) t_
    refine XS.iconst X0.here hx rfl (Jvm.hb hby d_jdk_52_method_21_0) ?_
    show Steps p.tables e below (s₁.setTop (mkF m 1 #[.val (.ref ca), .val (.int (0 : Int32)), .val (.ref ba), .val (.int (0 : Int32)), .val (.int (Int32.ofNat n)), .unset, .unset] [(.int (0 : Int32))])) _
    refine XS.istore X0.here hx rfl (Jvm.hb hby d_jdk_52_method_21_1) rfl (l' := #[.val (.ref ca), .val (.int (0 : Int32)), .val (.ref ba), .val (.int (0 : Int32)), .val (.int (Int32.ofNat n)), .val (.int (0 : Int32)), .unset]) rfl ?_
    show Steps p.tables e below (s₁.setTop (mkF m 3 #[.val (.ref ca), .val (.int (0 : Int32)), .val (.ref ba), .val (.int (0 : Int32)), .val (.int (Int32.ofNat n)), .val (.int (0 : Int32)), .unset] [])) _
    show Steps p.tables e below (s₁.setTop (mkF m 3 #[.val (.ref ca), .val (.int (0 : Int32)), .val (.ref ba), .val (.int (0 : Int32)), .val (.int (Int32.ofNat n)), .val (.int (0 : Int32)), .unset] [])) t_
    exact k_)
  have lp2 : ∀ (k_ : Nat) (j : Nat) (s6 : Slot) (T_ : State) (lo_ : List Loc) (hh2 : Heap), j + k_ = n → Stand p l e ({ frames := 0, cells := 0, slots := 0, locals := 0 } : Room) s m #[(.ref ca), (.int (0 : Int32)), (.ref ba), (.int (0 : Int32)), (.int (Int32.ofNat n))] below meth c T_ lo_ 0 0 → T_.heap = hh2 → Fr n0 lo_ → Keep h0 hh2 [ba] → Arv Z hh2 ba kb .byte (Int32.ofNat n) (own_mix (own_low cs) vs j) (.int (0 : Int32)) → (One s6) → ∃ (T' : State) (lo' : List Loc) (hx_ : Heap) (fe_ : JFrame), Stand p l e ({ frames := 0, cells := 0, slots := 0, locals := 0 } : Room) s m #[(.ref ca), (.int (0 : Int32)), (.ref ba), (.int (0 : Int32)), (.int (Int32.ofNat n))] below meth c T' lo' 0 0 ∧ T'.heap = hx_ ∧ Fr n0 lo' ∧ Keep h0 hx_ [ba] ∧ ((∃ (s6 : Slot), fe_ = (mkF m 44 #[.val (.ref ca), .val (.int (Int32.ofNat n)), .val (.ref ba), .val (.int (Int32.ofNat n)), .val (.int (Int32.ofNat n)), .val (.int (Int32.ofNat n)), s6] []) ∧ Arv Z hx_ ba kb .byte (Int32.ofNat n) (own_mix (own_low cs) vs n) (.int (0 : Int32)))) ∧ ∀ t_, Steps p.tables e below (T'.setTop fe_) t_ → Steps p.tables e below (T_.setTop (mkF m 3 #[.val (.ref ca), .val (.int (Int32.ofNat j)), .val (.ref ba), .val (.int (Int32.ofNat j)), .val (.int (Int32.ofNat n)), .val (.int (Int32.ofNat j)), s6] [])) t_ := by
    intro k_
    induction k_ with
    | zero => 
      intro j s6 T_ lo_ hh2 hm_ X_ e_ N_ K_ F_0 hs6
      have zk_ : h0.size ≤ hh2.size := K_.1
      have s3 : ∀ t_, Steps p.tables e below (T_.setTop (mkF m 44 #[.val (.ref ca), .val (.int (Int32.ofNat j)), .val (.ref ba), .val (.int (Int32.ofNat j)), .val (.int (Int32.ofNat n)), .val (.int (Int32.ofNat j)), s6] [])) t_ → Steps p.tables e below (T_.setTop (mkF m 3 #[.val (.ref ca), .val (.int (Int32.ofNat j)), .val (.ref ba), .val (.int (Int32.ofNat j)), .val (.int (Int32.ofNat n)), .val (.int (Int32.ofNat j)), s6] [])) t_ := fun t_ k_ => (fun _ k_ => k_) t_ (by
        show Steps p.tables e below (T_.setTop (mkF m 3 #[.val (.ref ca), .val (.int (Int32.ofNat j)), .val (.ref ba), .val (.int (Int32.ofNat j)), .val (.int (Int32.ofNat n)), .val (.int (Int32.ofNat j)), s6] [])) t_
        refine XS.iload X_.here hx rfl (Jvm.hb hby d_jdk_52_method_21_3) rfl ?_
        show Steps p.tables e below (T_.setTop (mkF m 5 #[.val (.ref ca), .val (.int (Int32.ofNat j)), .val (.ref ba), .val (.int (Int32.ofNat j)), .val (.int (Int32.ofNat n)), .val (.int (Int32.ofNat j)), s6] [(.int (Int32.ofNat j))])) _
        refine XS.iload X_.here hx rfl (Jvm.hb hby d_jdk_52_method_21_5) rfl ?_
        show Steps p.tables e below (T_.setTop (mkF m 7 #[.val (.ref ca), .val (.int (Int32.ofNat j)), .val (.ref ba), .val (.int (Int32.ofNat j)), .val (.int (Int32.ofNat n)), .val (.int (Int32.ofNat j)), s6] [(.int (Int32.ofNat n)), (.int (Int32.ofNat j))])) _
        refine XS.icmpYes X_.here hx rfl (pc0 := 7) (pc' := 44) rfl (Jvm.hb hby d_jdk_52_method_21_7) rfl (flt (own_nlt (by omega) (by omega))).2.1 (by decide) (by decide) ?_
        show Steps p.tables e below (T_.setTop (mkF m 44 #[.val (.ref ca), .val (.int (Int32.ofNat j)), .val (.ref ba), .val (.int (Int32.ofNat j)), .val (.int (Int32.ofNat n)), .val (.int (Int32.ofNat j)), s6] [])) _
        show Steps p.tables e below (T_.setTop (mkF m 44 #[.val (.ref ca), .val (.int (Int32.ofNat j)), .val (.ref ba), .val (.int (Int32.ofNat j)), .val (.int (Int32.ofNat n)), .val (.int (Int32.ofNat j)), s6] [])) t_
        exact k_)
      exact ⟨T_, _, _, _, X_, e_, N_, ((Keep.refl h0 [ba]).trans K_ (allS (Or.inl (by simp)) all0)), ⟨s6, (by rw [show j = n by omega]), (by obtain rfl : j = n := (by omega); exact F_0)⟩, s3⟩
    | succ k_ ih => 
      intro j s6 T_ lo_ hh2 hm_ X_ e_ N_ K_ F_0 hs6
      have zk_ : h0.size ≤ hh2.size := K_.1
      have f4 : Arv Z hh2 ca kc .char (Int32.ofNat n) (cs.map Value.int) (.int (0 : Int32)) := (I1.keep K_ (ninS (show @Ne Nat ca ba by omega) nin0))
      obtain ⟨cl5, Ar5, -, S5, M5, H5, -⟩ := id f4
      have hin5 : ¬ ((Int32.ofNat j) < 0 ∨ cl5.slots.size ≤ ((Int32.ofNat j)).toNatClampNeg) := inb_of S5 (own_in (by omega) (by omega))
      have hat5 : cl5.slots[((Int32.ofNat j)).toNatClampNeg]? = some (.int (cs.getD j 0)) := H5.at hin5 (own_getc cs j _ (by omega) (by omega))
      obtain ⟨cl6, Ar6, q6, S6, M6, H6, G6⟩ := id F_0
      have hin6 : ¬ ((Int32.ofNat j) < 0 ∨ cl6.slots.size ≤ ((Int32.ofNat j)).toNatClampNeg) := inb_of S6 (own_in (by omega) (by omega))
      obtain ⟨T7, h7, X7, e7, W7, st7⟩ := stB X_ hx hZ e_ Ar6 (j := (Int32.ofNat j)) hin6 (g := (mkF m 31 #[.val (.ref ca), .val (.int (Int32.ofNat j)), .val (.ref ba), .val (.int (Int32.ofNat j)), .val (.int (Int32.ofNat n)), .val (.int (Int32.ofNat j)), .val (.int (cs.getD j 0))] [(.int (own_lo (cs.getD j 0))), (.int (Int32.ofNat j)), (.ref ba)])) rfl rfl (Jvm.hb hby d_jdk_52_method_21_31)
      have z8 : hh2.size ≤ h7.size := Nat.le_of_eq W7.size.symm
      have V7 : Arv Z h7 ba kb .byte (Int32.ofNat n) (own_mix (own_low cs) vs (j + 1)) (.int (0 : Int32)) := by
        have q : Arv Z h7 ba kb .byte (Int32.ofNat n) ((own_mix (own_low cs) vs j).set j (.int (nar .byte (own_lo (cs.getD j 0))))) (.int (0 : Int32)) := Arv.set Ar6 q6 S6 M6 H6 G6 (fits_nar_byte _) W7 j (own_tn (by omega)) (by rw [own_mixl _ _ _ (by rw [own_lowl]; omega)]; omega)
        rw [own_mixc cs vs j (by omega) (by omega)] at q
        exact q
      have N7 := Fr.snoc X7 N_ (show n0 ≤ ba by omega)
      have s9 : ∀ t_, Steps p.tables e below (T7.setTop (mkF m 3 #[.val (.ref ca), .val (.int ((Int32.ofNat j) + (1 : Int32))), .val (.ref ba), .val (.int ((Int32.ofNat j) + (1 : Int32))), .val (.int (Int32.ofNat n)), .val (.int ((Int32.ofNat j) + (1 : Int32))), .val (.int (cs.getD j 0))] [])) t_ → Steps p.tables e below (T_.setTop (mkF m 3 #[.val (.ref ca), .val (.int (Int32.ofNat j)), .val (.ref ba), .val (.int (Int32.ofNat j)), .val (.int (Int32.ofNat n)), .val (.int (Int32.ofNat j)), s6] [])) t_ := fun t_ k_ => (fun _ k_ => k_) t_ (by
        show Steps p.tables e below (T_.setTop (mkF m 3 #[.val (.ref ca), .val (.int (Int32.ofNat j)), .val (.ref ba), .val (.int (Int32.ofNat j)), .val (.int (Int32.ofNat n)), .val (.int (Int32.ofNat j)), s6] [])) t_
        refine XS.iload X_.here hx rfl (Jvm.hb hby d_jdk_52_method_21_3) rfl ?_
        show Steps p.tables e below (T_.setTop (mkF m 5 #[.val (.ref ca), .val (.int (Int32.ofNat j)), .val (.ref ba), .val (.int (Int32.ofNat j)), .val (.int (Int32.ofNat n)), .val (.int (Int32.ofNat j)), s6] [(.int (Int32.ofNat j))])) _
        refine XS.iload X_.here hx rfl (Jvm.hb hby d_jdk_52_method_21_5) rfl ?_
        show Steps p.tables e below (T_.setTop (mkF m 7 #[.val (.ref ca), .val (.int (Int32.ofNat j)), .val (.ref ba), .val (.int (Int32.ofNat j)), .val (.int (Int32.ofNat n)), .val (.int (Int32.ofNat j)), s6] [(.int (Int32.ofNat n)), (.int (Int32.ofNat j))])) _
        refine XS.icmpNo X_.here hx rfl (Jvm.hb hby d_jdk_52_method_21_7) rfl (tlt (own_lt (by omega) (by omega))).2.1 ?_
        show Steps p.tables e below (T_.setTop (mkF m 10 #[.val (.ref ca), .val (.int (Int32.ofNat j)), .val (.ref ba), .val (.int (Int32.ofNat j)), .val (.int (Int32.ofNat n)), .val (.int (Int32.ofNat j)), s6] [])) _
        refine XS.aloadN X_.here hx rfl (Jvm.hb hby d_jdk_52_method_21_10) rfl rfl ?_
        show Steps p.tables e below (T_.setTop (mkF m 11 #[.val (.ref ca), .val (.int (Int32.ofNat j)), .val (.ref ba), .val (.int (Int32.ofNat j)), .val (.int (Int32.ofNat n)), .val (.int (Int32.ofNat j)), s6] [(.ref ca)])) _
        refine XS.iloadN X_.here hx rfl (Jvm.hb hby d_jdk_52_method_21_11) rfl ?_
        show Steps p.tables e below (T_.setTop (mkF m 12 #[.val (.ref ca), .val (.int (Int32.ofNat j)), .val (.ref ba), .val (.int (Int32.ofNat j)), .val (.int (Int32.ofNat n)), .val (.int (Int32.ofNat j)), s6] [(.int (Int32.ofNat j)), (.ref ca)])) _
        refine X_.caload hx (j := (Int32.ofNat j)) (v := (.int (cs.getD j 0))) (by rw [e_]; exact Ar5.1) (State.isArrayOf_alike hZ.alike Ar5.2.1) Ar5.2.2 hin5 hat5 (g := (mkF m 12 #[.val (.ref ca), .val (.int (Int32.ofNat j)), .val (.ref ba), .val (.int (Int32.ofNat j)), .val (.int (Int32.ofNat n)), .val (.int (Int32.ofNat j)), s6] [(.int (Int32.ofNat j)), (.ref ca)])) rfl rfl (Jvm.hb hby d_jdk_52_method_21_12) _ ?_
        show Steps p.tables e below (T_.setTop (mkF m 13 #[.val (.ref ca), .val (.int (Int32.ofNat j)), .val (.ref ba), .val (.int (Int32.ofNat j)), .val (.int (Int32.ofNat n)), .val (.int (Int32.ofNat j)), s6] [(.int (cs.getD j 0))])) _
        refine XS.istore X_.here hx rfl (Jvm.hb hby d_jdk_52_method_21_13) rfl (l' := #[.val (.ref ca), .val (.int (Int32.ofNat j)), .val (.ref ba), .val (.int (Int32.ofNat j)), .val (.int (Int32.ofNat n)), .val (.int (Int32.ofNat j)), .val (.int (cs.getD j 0))]) (os_rmCmpL_13 hs6) ?_
        show Steps p.tables e below (T_.setTop (mkF m 15 #[.val (.ref ca), .val (.int (Int32.ofNat j)), .val (.ref ba), .val (.int (Int32.ofNat j)), .val (.int (Int32.ofNat n)), .val (.int (Int32.ofNat j)), .val (.int (cs.getD j 0))] [])) _
        refine XS.iload X_.here hx rfl (Jvm.hb hby d_jdk_52_method_21_15) rfl ?_
        show Steps p.tables e below (T_.setTop (mkF m 17 #[.val (.ref ca), .val (.int (Int32.ofNat j)), .val (.ref ba), .val (.int (Int32.ofNat j)), .val (.int (Int32.ofNat n)), .val (.int (Int32.ofNat j)), .val (.int (cs.getD j 0))] [(.int (cs.getD j 0))])) _
        refine XS.sipush X_.here hx rfl (Jvm.hb hby d_jdk_52_method_21_17) ?_
        show Steps p.tables e below (T_.setTop (mkF m 20 #[.val (.ref ca), .val (.int (Int32.ofNat j)), .val (.ref ba), .val (.int (Int32.ofNat j)), .val (.int (Int32.ofNat n)), .val (.int (Int32.ofNat j)), .val (.int (cs.getD j 0))] [(.int (255 : Int32)), (.int (cs.getD j 0))])) _
        refine XS.icmpYes X_.here hx rfl (pc0 := 20) (pc' := 26) rfl (Jvm.hb hby d_jdk_52_method_21_20) rfl (flt (hlat _ (own_mem cs j (by omega)))).2.2.2 (by decide) (by decide) ?_
        show Steps p.tables e below (T_.setTop (mkF m 26 #[.val (.ref ca), .val (.int (Int32.ofNat j)), .val (.ref ba), .val (.int (Int32.ofNat j)), .val (.int (Int32.ofNat n)), .val (.int (Int32.ofNat j)), .val (.int (cs.getD j 0))] [])) _
        refine XS.aloadN X_.here hx rfl (Jvm.hb hby d_jdk_52_method_21_26) rfl rfl ?_
        show Steps p.tables e below (T_.setTop (mkF m 27 #[.val (.ref ca), .val (.int (Int32.ofNat j)), .val (.ref ba), .val (.int (Int32.ofNat j)), .val (.int (Int32.ofNat n)), .val (.int (Int32.ofNat j)), .val (.int (cs.getD j 0))] [(.ref ba)])) _
        refine XS.iloadN X_.here hx rfl (Jvm.hb hby d_jdk_52_method_21_27) rfl ?_
        show Steps p.tables e below (T_.setTop (mkF m 28 #[.val (.ref ca), .val (.int (Int32.ofNat j)), .val (.ref ba), .val (.int (Int32.ofNat j)), .val (.int (Int32.ofNat n)), .val (.int (Int32.ofNat j)), .val (.int (cs.getD j 0))] [(.int (Int32.ofNat j)), (.ref ba)])) _
        refine XS.iload X_.here hx rfl (Jvm.hb hby d_jdk_52_method_21_28) rfl ?_
        show Steps p.tables e below (T_.setTop (mkF m 30 #[.val (.ref ca), .val (.int (Int32.ofNat j)), .val (.ref ba), .val (.int (Int32.ofNat j)), .val (.int (Int32.ofNat n)), .val (.int (Int32.ofNat j)), .val (.int (cs.getD j 0))] [(.int (cs.getD j 0)), (.int (Int32.ofNat j)), (.ref ba)])) _
        refine XS.i2b X_.here hx rfl (Jvm.hb hby d_jdk_52_method_21_30) rfl ?_
        show Steps p.tables e below (T_.setTop (mkF m 31 #[.val (.ref ca), .val (.int (Int32.ofNat j)), .val (.ref ba), .val (.int (Int32.ofNat j)), .val (.int (Int32.ofNat n)), .val (.int (Int32.ofNat j)), .val (.int (cs.getD j 0))] [(.int (own_lo (cs.getD j 0))), (.int (Int32.ofNat j)), (.ref ba)])) _
        refine st7 _ ?_
        show Steps p.tables e below (T7.setTop (mkF m 32 #[.val (.ref ca), .val (.int (Int32.ofNat j)), .val (.ref ba), .val (.int (Int32.ofNat j)), .val (.int (Int32.ofNat n)), .val (.int (Int32.ofNat j)), .val (.int (cs.getD j 0))] [])) _
        refine XS.iinc X7.here hx rfl (Jvm.hb hby d_jdk_52_method_21_32) rfl (l' := #[.val (.ref ca), .val (.int ((Int32.ofNat j) + (1 : Int32))), .val (.ref ba), .val (.int (Int32.ofNat j)), .val (.int (Int32.ofNat n)), .val (.int (Int32.ofNat j)), .val (.int (cs.getD j 0))]) rfl ?_
        show Steps p.tables e below (T7.setTop (mkF m 35 #[.val (.ref ca), .val (.int ((Int32.ofNat j) + (1 : Int32))), .val (.ref ba), .val (.int (Int32.ofNat j)), .val (.int (Int32.ofNat n)), .val (.int (Int32.ofNat j)), .val (.int (cs.getD j 0))] [])) _
        refine XS.iinc X7.here hx rfl (Jvm.hb hby d_jdk_52_method_21_35) rfl (l' := #[.val (.ref ca), .val (.int ((Int32.ofNat j) + (1 : Int32))), .val (.ref ba), .val (.int ((Int32.ofNat j) + (1 : Int32))), .val (.int (Int32.ofNat n)), .val (.int (Int32.ofNat j)), .val (.int (cs.getD j 0))]) rfl ?_
        show Steps p.tables e below (T7.setTop (mkF m 38 #[.val (.ref ca), .val (.int ((Int32.ofNat j) + (1 : Int32))), .val (.ref ba), .val (.int ((Int32.ofNat j) + (1 : Int32))), .val (.int (Int32.ofNat n)), .val (.int (Int32.ofNat j)), .val (.int (cs.getD j 0))] [])) _
        refine XS.iinc X7.here hx rfl (Jvm.hb hby d_jdk_52_method_21_38) rfl (l' := #[.val (.ref ca), .val (.int ((Int32.ofNat j) + (1 : Int32))), .val (.ref ba), .val (.int ((Int32.ofNat j) + (1 : Int32))), .val (.int (Int32.ofNat n)), .val (.int ((Int32.ofNat j) + (1 : Int32))), .val (.int (cs.getD j 0))]) rfl ?_
        show Steps p.tables e below (T7.setTop (mkF m 41 #[.val (.ref ca), .val (.int ((Int32.ofNat j) + (1 : Int32))), .val (.ref ba), .val (.int ((Int32.ofNat j) + (1 : Int32))), .val (.int (Int32.ofNat n)), .val (.int ((Int32.ofNat j) + (1 : Int32))), .val (.int (cs.getD j 0))] [])) _
        refine XS.goto X7.here hx rfl (pc0 := 41) (pc' := 3) rfl (Jvm.hb hby d_jdk_52_method_21_41) (by decide) (by decide) ?_
        show Steps p.tables e below (T7.setTop (mkF m 3 #[.val (.ref ca), .val (.int ((Int32.ofNat j) + (1 : Int32))), .val (.ref ba), .val (.int ((Int32.ofNat j) + (1 : Int32))), .val (.int (Int32.ofNat n)), .val (.int ((Int32.ofNat j) + (1 : Int32))), .val (.int (cs.getD j 0))] [])) _
        show Steps p.tables e below (T7.setTop (mkF m 3 #[.val (.ref ca), .val (.int ((Int32.ofNat j) + (1 : Int32))), .val (.ref ba), .val (.int ((Int32.ofNat j) + (1 : Int32))), .val (.int (Int32.ofNat n)), .val (.int ((Int32.ofNat j) + (1 : Int32))), .val (.int (cs.getD j 0))] [])) t_
        exact k_)
      obtain ⟨T10, lo10, h10, fe10, X10, e10, N10, K10, A10, st10⟩ := ih (j + 1) (.val (.int (cs.getD j 0))) T7 _ h7 (by omega) X7 e7 N7 (((Keep.refl h0 [ba]).trans K_ (allS (Or.inl (by simp)) all0)).wr W7 (Or.inl (by simp))) V7 (One.val rfl)
      exact ⟨T10, lo10, h10, fe10, X10, e10, N10, K10, A10, fun t_ k_ => s9 t_ (castTop (by rw [own_up]) (st10 t_ k_))⟩
  obtain ⟨T11, lo11, h11, fe11, X11, e11, N11, K11, A11, st11⟩ := lp2 n 0 .unset s₁ _ h0 (by omega) X0 e0 N0 (Keep.refl _ _) (by rw [own_mix0]; exact I2) One.u
  have z12 : h0.size ≤ h11.size := K11.1
  obtain ⟨s6_11, rfl, G11_0⟩ := A11
  have s13 : ∀ t_, Steps p.tables e below (T11.setTop (mkF m 44 #[.val (.ref ca), .val (.int (Int32.ofNat n)), .val (.ref ba), .val (.int (Int32.ofNat n)), .val (.int (Int32.ofNat n)), .val (.int (Int32.ofNat n)), s6_11] [])) t_ → Steps p.tables e below (s₁.setTop (entryFrame m #[(.ref ca), (.int (0 : Int32)), (.ref ba), (.int (0 : Int32)), (.int (Int32.ofNat n))] 7)) t_ := fun t_ k_ => s1 t_ (st11 t_ k_)
  have s14 : ∀ t_, Steps p.tables e below (T11.setTop (mkF m 46 #[.val (.ref ca), .val (.int (Int32.ofNat n)), .val (.ref ba), .val (.int (Int32.ofNat n)), .val (.int (Int32.ofNat n)), .val (.int (Int32.ofNat n)), s6_11] [(.int (Int32.ofNat n))])) t_ → Steps p.tables e below (s₁.setTop (entryFrame m #[(.ref ca), (.int (0 : Int32)), (.ref ba), (.int (0 : Int32)), (.int (Int32.ofNat n))] 7)) t_ := fun t_ k_ => s13 t_ (by
    show Steps p.tables e below (T11.setTop (mkF m 44 #[.val (.ref ca), .val (.int (Int32.ofNat n)), .val (.ref ba), .val (.int (Int32.ofNat n)), .val (.int (Int32.ofNat n)), .val (.int (Int32.ofNat n)), s6_11] [])) t_
    refine XS.iload X11.here hx rfl (Jvm.hb hby d_jdk_52_method_21_44) rfl ?_
    show Steps p.tables e below (T11.setTop (mkF m 46 #[.val (.ref ca), .val (.int (Int32.ofNat n)), .val (.ref ba), .val (.int (Int32.ofNat n)), .val (.int (Int32.ofNat n)), .val (.int (Int32.ofNat n)), s6_11] [(.int (Int32.ofNat n))])) _
    show Steps p.tables e below (T11.setTop (mkF m 46 #[.val (.ref ca), .val (.int (Int32.ofNat n)), .val (.ref ba), .val (.int (Int32.ofNat n)), .val (.int (Int32.ofNat n)), .val (.int (Int32.ofNat n)), s6_11] [(.int (Int32.ofNat n))])) t_
    exact k_)
  obtain ⟨fs, hr, hrun, hended, hW, hsame⟩ := X11.leave (v := some (.int (Int32.ofNat n))) (fun h => by rw [Bd.returns] at h; cases h)
  refine ⟨_, _, s14 _ ?_, hrun, hended, _, _, rfl, ?_, ⟨_, rfl⟩, hW, hsame.mono (by decide) (by decide)⟩
  · show Steps p.tables e below (T11.setTop (mkF m 46 #[.val (.ref ca), .val (.int (Int32.ofNat n)), .val (.ref ba), .val (.int (Int32.ofNat n)), .val (.int (Int32.ofNat n)), .val (.int (Int32.ofNat n)), s6_11] [(.int (Int32.ofNat n))])) _
    exact retI X11 hx Bd.returns (Jvm.hb hby d_jdk_52_method_21_46) hr
  · show Q_rmCmpL Z _ _ _ _ _ _ _ h0 n0 _ T11.heap _
    rw [e11]
    exact ⟨rfl, N11, ((Keep.refl h0 [ba]).trans K11 (allS (Or.inl (by simp)) all0)), G11_0⟩
theorem d_jdk_52_method_15_0 : decode jdk_52_method_15_code 0 = .ok (.iload_n 1, 1) := by decide +kernel
theorem d_jdk_52_method_15_1 : decode jdk_52_method_15_code 1 = .ok (.aload_n 0, 1) := by decide +kernel
theorem d_jdk_52_method_15_2 : decode jdk_52_method_15_code 2 = .ok (.arraylength, 1) := by decide +kernel
theorem d_jdk_52_method_15_3 : decode jdk_52_method_15_code 3 = .ok (.isub, 1) := by decide +kernel
theorem d_jdk_52_method_15_4 : decode jdk_52_method_15_code 4 = .ok (.bipush 31, 2) := by decide +kernel
theorem d_jdk_52_method_15_6 : decode jdk_52_method_15_code 6 = .ok (.iushr, 1) := by decide +kernel
theorem d_jdk_52_method_15_7 : decode jdk_52_method_15_code 7 = .ok (.i2b, 1) := by decide +kernel
theorem d_jdk_52_method_15_8 : decode jdk_52_method_15_code 8 = .ok (.ireturn, 1) := by decide +kernel
theorem ef_rmCod (m : MethodId) (x0 : Addr) (x1 : Int32) : entryFrame m #[(.ref x0), (.int x1)] 2 = mkF m 0 #[.val (.ref x0), .val (.int x1)] [] := by first | (simp [entryFrame, mkF, argsToLocals, Value.category]; done) | rfl
def Q_rmCod (Z : State) (ba : Addr) (nn : Int32) (kb : ClassId) (zz : Int32) (vs : List Value) (h0 : Heap) (n0 : Nat) (v : Option Value) (h : Heap) (L : List Loc) : Prop := (v = some (.int (nar .byte (own_lo (ushr (nn - zz) (31 : Int32)))))) ∧ (Fr n0 L) ∧ (h = h0)
set_option maxRecDepth 65536 in
set_option maxHeartbeats 40000000 in
theorem rmCod (l : Launch) (Z : State) (a0 : Array Value) (hw : ∀ d ∈ tables_1, d.before a0 Z = true) (ws : List Jvm.Cond) (ba : Addr) (nn : Int32) (kb : ClassId) (zz : Int32) (vs : List Value) (h0 : Heap) (n0 : Nat) (Z0 : n0 ≤ h0.size) (I1 : Arv Z h0 ba kb .byte zz vs (.int (0 : Int32))) :
    MetFree l (⟨"java/lang/StringUTF16", "coderFromArrayLen", "([BI)B"⟩ : MethodName) (head1 (Jvm.Cond.code (⟨"java/lang/StringUTF16", "coderFromArrayLen", "([BI)B"⟩ : MethodName) jdk_52_method_15_code 2 (some .byte) :: ws) ({ frames := 0, cells := 0, slots := 0, locals := 0 } : Room)) (fun ar_ U => ar_ = #[(.ref ba), (.int nn)] ∧ Z.Warmed39 U.vm ∧ U.heap = h0) (fun _ _ _ _ _ => True) (fun _ U o U' => ∃ v L, o = .returned v ∧ Q_rmCod Z ba nn kb zz vs h0 n0 v U'.heap L ∧ FrameEnd U o U' L ({ frames := 0, cells := 0, slots := 0, locals := 0 } : Room).cells ({ frames := 0, cells := 0, slots := 0, locals := 0 } : Room).slots) := by
  refine MetFree.of_bodySF (plainFor_of_name pn_java_lang_StringUTF16) hisR ?_
  intro p e s m args below meth c s₁ Bd hml0 hP hK
  obtain ⟨rfl, hZ, hh⟩ := hP
  have hx := Bd.exec
  have hby := Bd.bytes
  have hml : c.maxLocals = 2 := hml0
  have hown : s.vm.findClass "java/lang/StringUTF16" = some m.cls := findClass_of_methodNamed Bd.named
  have hnm := (name_of_methodNamed Bd.named Bd.method).1
  have X0 : Stand p l e ({ frames := 0, cells := 0, slots := 0, locals := 0 } : Room) s m #[(.ref ba), (.int nn)] below meth c s₁ [] 0 0 := Stand.of_body Bd
  have e0 : s₁.heap = h0 := by rw [← hh, Bd.state]; rfl
  have N0 := Fr.nil n0
  have pre0 : ∀ t_, Steps p.tables e below (s₁.setTop (mkF m 0 #[.val (.ref ba), .val (.int nn)] [])) t_ → Steps p.tables e below (s₁.setTop (entryFrame m #[(.ref ba), (.int nn)] 2)) t_ := fun t_ k_ => castTop (ef_rmCod m ba nn) k_
  have lt_I1 : @LT.lt Nat _ ba h0.size := I1.lt
  obtain ⟨cl1, Ar1, -, S1, M1, -, -⟩ := id I1
  have s2 : ∀ t_, Steps p.tables e below (s₁.setTop (mkF m 8 #[.val (.ref ba), .val (.int nn)] [(.int (own_lo (ushr (nn - zz) (31 : Int32))))])) t_ → Steps p.tables e below (s₁.setTop (entryFrame m #[(.ref ba), (.int nn)] 2)) t_ := fun t_ k_ => pre0 t_ (by
    show Steps p.tables e below (s₁.setTop (mkF m 0 #[.val (.ref ba), .val (.int nn)] [])) t_
    refine XS.iloadN X0.here hx rfl (Jvm.hb hby d_jdk_52_method_15_0) rfl ?_
    show Steps p.tables e below (s₁.setTop (mkF m 1 #[.val (.ref ba), .val (.int nn)] [(.int nn)])) _
    refine XS.aloadN X0.here hx rfl (Jvm.hb hby d_jdk_52_method_15_1) rfl rfl ?_
    show Steps p.tables e below (s₁.setTop (mkF m 2 #[.val (.ref ba), .val (.int nn)] [(.ref ba), (.int nn)])) _
    refine X0.arraylength hx (by rw [e0]; exact Ar1.1) (State.isArrayOf_alike hZ.alike Ar1.2.1) (g := (mkF m 2 #[.val (.ref ba), .val (.int nn)] [(.ref ba), (.int nn)])) rfl rfl (Jvm.hb hby d_jdk_52_method_15_2) _ ?_
    rw [len_of S1 M1]
    show Steps p.tables e below (s₁.setTop (mkF m 3 #[.val (.ref ba), .val (.int nn)] [(.int zz), (.int nn)])) _
    refine XS.isub X0.here hx rfl (Jvm.hb hby d_jdk_52_method_15_3) rfl ?_
    show Steps p.tables e below (s₁.setTop (mkF m 4 #[.val (.ref ba), .val (.int nn)] [(.int (nn - zz))])) _
    refine XS.bipush X0.here hx rfl (Jvm.hb hby d_jdk_52_method_15_4) ?_
    show Steps p.tables e below (s₁.setTop (mkF m 6 #[.val (.ref ba), .val (.int nn)] [(.int (31 : Int32)), (.int (nn - zz))])) _
    refine XS.iushr X0.here hx rfl (Jvm.hb hby d_jdk_52_method_15_6) rfl ?_
    show Steps p.tables e below (s₁.setTop (mkF m 7 #[.val (.ref ba), .val (.int nn)] [(.int (ushr (nn - zz) (31 : Int32)))])) _
    refine XS.i2b X0.here hx rfl (Jvm.hb hby d_jdk_52_method_15_7) rfl ?_
    show Steps p.tables e below (s₁.setTop (mkF m 8 #[.val (.ref ba), .val (.int nn)] [(.int (own_lo (ushr (nn - zz) (31 : Int32))))])) _
    show Steps p.tables e below (s₁.setTop (mkF m 8 #[.val (.ref ba), .val (.int nn)] [(.int (own_lo (ushr (nn - zz) (31 : Int32))))])) t_
    exact k_)
  obtain ⟨fs, hr, hrun, hended, hW, hsame⟩ := X0.leave (v := some (.int (nar .byte (own_lo (ushr (nn - zz) (31 : Int32)))))) (fun h => by rw [Bd.returns] at h; cases h)
  refine ⟨_, _, s2 _ ?_, hrun, hended, _, _, rfl, ?_, ⟨_, rfl⟩, hW, hsame.mono (by decide) (by decide)⟩
  · show Steps p.tables e below (s₁.setTop (mkF m 8 #[.val (.ref ba), .val (.int nn)] [(.int (own_lo (ushr (nn - zz) (31 : Int32))))])) _
    exact retN X0 hx (t := .byte) Bd.returns (by simp) (Jvm.hb hby d_jdk_52_method_15_8) hr
  · show Q_rmCod Z _ _ _ _ _ h0 n0 _ s₁.heap _
    rw [e0]
    exact ⟨rfl, N0, rfl⟩
theorem d_jdk_52_method_16_0 : decode jdk_52_method_16_code 0 = .ok (.iload_n 2, 1) := by decide +kernel
theorem d_jdk_52_method_16_1 : decode jdk_52_method_16_code 1 = .ok (.newarray .byte, 2) := by decide +kernel
theorem d_jdk_52_method_16_3 : decode jdk_52_method_16_code 3 = .ok (.astore_n 3, 1) := by decide +kernel
theorem d_jdk_52_method_16_4 : decode jdk_52_method_16_code 4 = .ok (.aload_n 0, 1) := by decide +kernel
theorem d_jdk_52_method_16_5 : decode jdk_52_method_16_code 5 = .ok (.iload_n 1, 1) := by decide +kernel
theorem d_jdk_52_method_16_6 : decode jdk_52_method_16_code 6 = .ok (.aload_n 3, 1) := by decide +kernel
theorem d_jdk_52_method_16_7 : decode jdk_52_method_16_code 7 = .ok (.iconst 0, 1) := by decide +kernel
theorem d_jdk_52_method_16_8 : decode jdk_52_method_16_code 8 = .ok (.iload_n 2, 1) := by decide +kernel
theorem pd___CI_BII_I : parseMethodDescriptor "([CI[BII)I" = some ⟨[(.array .char), .int, (.array .byte), .int, .int], some .int⟩ := by decide +kernel
theorem d_jdk_52_method_16_9 : decode jdk_52_method_16_code 9 = .ok (.invokestatic 115, 3) := by decide +kernel
theorem d_jdk_52_method_16_12 : decode jdk_52_method_16_code 12 = .ok (.istore 4, 2) := by decide +kernel
theorem d_jdk_52_method_16_14 : decode jdk_52_method_16_code 14 = .ok (.iload 4, 2) := by decide +kernel
theorem d_jdk_52_method_16_16 : decode jdk_52_method_16_code 16 = .ok (.iload_n 2, 1) := by decide +kernel
theorem d_jdk_52_method_16_17 : decode jdk_52_method_16_code 17 = .ok (.if_icmp .eq 40, 3) := by decide +kernel
theorem d_jdk_52_method_16_57 : decode jdk_52_method_16_code 57 = .ok (.aload_n 3, 1) := by decide +kernel
theorem d_jdk_52_method_16_58 : decode jdk_52_method_16_code 58 = .ok (.areturn, 1) := by decide +kernel
theorem ef_rmComp (m : MethodId) (x0 : Addr) (x1 : Int32) (x2 : Int32) : entryFrame m #[(.ref x0), (.int x1), (.int x2)] 6 = mkF m 0 #[.val (.ref x0), .val (.int x1), .val (.int x2), .unset, .unset, .unset] [] := by first | (simp [entryFrame, mkF, argsToLocals, Value.category]; done) | rfl
def Q_rmComp (Z : State) (ca : Addr) (cs : List Int32) (kc : ClassId) (n : Nat) (h0 : Heap) (n0 : Nat) (v : Option Value) (h : Heap) (L : List Loc) : Prop := ∃ (b : Addr), ∃ (kb : ClassId), (v = some (.ref b)) ∧ (Fr n0 L) ∧ (Keep h0 h []) ∧ (Arv Z h b kb .byte (Int32.ofNat (own_enl cs)) (own_enc cs) (.int (0 : Int32))) ∧ (h0.size ≤ b)
set_option maxRecDepth 65536 in
set_option maxHeartbeats 40000000 in
theorem rmComp (l : Launch) (Z : State) (a0 : Array Value) (hw : ∀ d ∈ tables_1, d.before a0 Z = true) (ws : List Jvm.Cond) (ca : Addr) (cs : List Int32) (kc : ClassId) (n : Nat) (h0 : Heap) (n0 : Nat) (Z0 : n0 ≤ h0.size) (I1 : Arv Z h0 ca kc .char (Int32.ofNat n) (cs.map Value.int) (.int (0 : Int32))) (hn : cs.length = n) (hb : n ≤ 6) (hlat : own_lat cs) :
    MetFree l (⟨"java/lang/StringUTF16", "compress", "([CII)[B"⟩ : MethodName) (head1 (Jvm.Cond.code (⟨"java/lang/StringUTF16", "compress", "([CII)[B"⟩ : MethodName) jdk_52_method_16_code 6 (some (.array .byte)) :: ws) ({ frames := 1, cells := 1, slots := 6, locals := 18 } : Room)) (fun ar_ U => ar_ = #[(.ref ca), (.int (0 : Int32)), (.int (Int32.ofNat n))] ∧ Z.Warmed39 U.vm ∧ U.heap = h0) (fun _ _ _ _ _ => True) (fun _ U o U' => ∃ v L, o = .returned v ∧ Q_rmComp Z ca cs kc n h0 n0 v U'.heap L ∧ FrameEnd U o U' L ({ frames := 1, cells := 1, slots := 6, locals := 18 } : Room).cells ({ frames := 1, cells := 1, slots := 6, locals := 18 } : Room).slots) := by
  refine MetFree.of_bodySF (plainFor_of_name pn_java_lang_StringUTF16) hisR ?_
  intro p e s m args below meth c s₁ Bd hml0 hP hK
  obtain ⟨rfl, hZ, hh⟩ := hP
  have hx := Bd.exec
  have hby := Bd.bytes
  have hml : c.maxLocals = 6 := hml0
  have hown : s.vm.findClass "java/lang/StringUTF16" = some m.cls := findClass_of_methodNamed Bd.named
  have hnm := (name_of_methodNamed Bd.named Bd.method).1
  have X0 : Stand p l e ({ frames := 1, cells := 1, slots := 6, locals := 18 } : Room) s m #[(.ref ca), (.int (0 : Int32)), (.int (Int32.ofNat n))] below meth c s₁ [] 0 0 := Stand.of_body Bd
  have e0 : s₁.heap = h0 := by rw [← hh, Bd.state]; rfl
  have N0 := Fr.nil n0
  have pre0 : ∀ t_, Steps p.tables e below (s₁.setTop (mkF m 0 #[.val (.ref ca), .val (.int (0 : Int32)), .val (.int (Int32.ofNat n)), .unset, .unset, .unset] [])) t_ → Steps p.tables e below (s₁.setTop (entryFrame m #[(.ref ca), (.int (0 : Int32)), (.int (Int32.ofNat n))] 6)) t_ := fun t_ k_ => castTop (ef_rmComp m ca (0 : Int32) (Int32.ofNat n)) k_
  have lt_I1 : @LT.lt Nat _ ca h0.size := I1.lt
  obtain ⟨T1, h1, k1, X1, e1, E1, A1, st1⟩ := newP X0 hx hZ (hw _ (List.mem_of_getElem? (i := 24) rfl)) e0 (g := (mkF m 1 #[.val (.ref ca), .val (.int (0 : Int32)), .val (.int (Int32.ofNat n)), .unset, .unset, .unset] [(.int (Int32.ofNat n))])) rfl (Jvm.hb hby d_jdk_52_method_16_1) rfl (own_nn (by omega)) (cap := 6) (by rw [own_tn (by omega)]; omega) (by decide) (by decide) (by decide)
  obtain ⟨b1, g1⟩ : ∃ z, z = h0.size := ⟨_, rfl⟩
  rw [← g1] at A1 st1
  have z2 : h0.size ≤ h1.size := E1.1
  have l1 : b1 < h1.size := A1.lt
  have V1 : Arv Z h1 b1 k1 .byte (Int32.ofNat n) (List.replicate n (.int (0 : Int32))) (.int (0 : Int32)) := (Arv.new A1 (own_nn (by omega))).pad (pad_rep [] _ n)
  have f3 : Arv Z h1 ca kc .char (Int32.ofNat n) (cs.map Value.int) (.int (0 : Int32)) := (I1.ext E1)
  have Zc4 : n0 ≤ h1.size := by omega
  obtain ⟨_, _, ⟨T5, L5, k5, n5⟩, -, X5, ⟨Lc5, hQ5, l5, y5, z5⟩, st5⟩ := Jvm.LawKit.callS X1 hx (y := (⟨"java/lang/StringUTF16", "compress", "([CI[BII)I"⟩ : MethodName)) hown (mvT hZ (hw _ (List.mem_of_getElem? (i := 25) rfl))) (mvT hZ (hw _ (List.mem_of_getElem? (i := 26) rfl))) (mvT hZ (hw _ (List.mem_of_getElem? (i := 22) rfl))) (mvT hZ (hw _ (List.mem_of_getElem? (i := 27) rfl))) (by decide) (backOf (W := 0) (rmCmpL l Z a0 hw [] ca b1 cs kc n k1 (List.replicate n (.int (0 : Int32))) h1 n0 Zc4 f3 V1 (hn : cs.length = n) (hb : n ≤ 6) (by simp) (by first | assumption | rfl | decide | omega : n0 ≤ b1) (by first | assumption | rfl | decide | omega : @Ne Nat ca b1) (hlat : own_lat cs)) hZ (hw _ (List.mem_of_getElem? (i := 27) rfl)) (hw _ (List.mem_of_getElem? (i := 22) rfl)) (by decide) (by decide)) (g := (mkF m 9 #[.val (.ref ca), .val (.int (0 : Int32)), .val (.int (Int32.ofNat n)), .val (.ref b1), .unset, .unset] [(.int (Int32.ofNat n)), (.int (0 : Int32)), (.ref b1), (.int (0 : Int32)), (.ref ca)])) rfl (by rw [hml]; rfl) (argsL := [(.ref ca), (.int (0 : Int32)), (.ref b1), (.int (0 : Int32)), (.int (Int32.ofNat n))]) (rest := []) (lenOf pd___CI_BII_I rfl) rfl (by show 2 * 0 + _ ≤ _; exact Nat.le_of_eq rfl) (Jvm.hb hby d_jdk_52_method_16_9) (fun _ _ => ⟨rfl, e1, (by decide : 1 + 0 ≤ _), (by decide : 6 + 0 ≤ _)⟩)
  dsimp only [Pt.U, Pt.locs, Pt.cells, Pt.slots] at X5 l5 y5 z5 st5 hQ5
  subst l5 y5 z5
  obtain ⟨rfl, N5q, K5, Fq5_0⟩ := hQ5
  have N5 := Fr.app N0 N5q
  obtain ⟨h5, e5⟩ : ∃ z, T5.heap = z := ⟨_, rfl⟩
  rw [e5] at K5 Fq5_0
  have z6 : h1.size ≤ h5.size := K5.1
  have lt5_0 : @LT.lt Nat _ b1 h5.size := Fq5_0.lt
  have s7 : ∀ t_, Steps p.tables e below (T5.setTop (mkF m 58 #[.val (.ref ca), .val (.int (0 : Int32)), .val (.int (Int32.ofNat n)), .val (.ref b1), .val (.int (Int32.ofNat n)), .unset] [(.ref b1)])) t_ → Steps p.tables e below (s₁.setTop (entryFrame m #[(.ref ca), (.int (0 : Int32)), (.int (Int32.ofNat n))] 6)) t_ := fun t_ k_ => pre0 t_ (by
    show Steps p.tables e below (s₁.setTop (mkF m 0 #[.val (.ref ca), .val (.int (0 : Int32)), .val (.int (Int32.ofNat n)), .unset, .unset, .unset] [])) t_
    refine XS.iloadN X0.here hx rfl (Jvm.hb hby d_jdk_52_method_16_0) rfl ?_
    show Steps p.tables e below (s₁.setTop (mkF m 1 #[.val (.ref ca), .val (.int (0 : Int32)), .val (.int (Int32.ofNat n)), .unset, .unset, .unset] [(.int (Int32.ofNat n))])) _
    refine st1 _ ?_
    show Steps p.tables e below (T1.setTop (mkF m 3 #[.val (.ref ca), .val (.int (0 : Int32)), .val (.int (Int32.ofNat n)), .unset, .unset, .unset] [(.ref b1)])) _
    refine XS.astoreN X1.here hx rfl (Jvm.hb hby d_jdk_52_method_16_3) rfl rfl (l' := #[.val (.ref ca), .val (.int (0 : Int32)), .val (.int (Int32.ofNat n)), .val (.ref b1), .unset, .unset]) rfl ?_
    show Steps p.tables e below (T1.setTop (mkF m 4 #[.val (.ref ca), .val (.int (0 : Int32)), .val (.int (Int32.ofNat n)), .val (.ref b1), .unset, .unset] [])) _
    refine XS.aloadN X1.here hx rfl (Jvm.hb hby d_jdk_52_method_16_4) rfl rfl ?_
    show Steps p.tables e below (T1.setTop (mkF m 5 #[.val (.ref ca), .val (.int (0 : Int32)), .val (.int (Int32.ofNat n)), .val (.ref b1), .unset, .unset] [(.ref ca)])) _
    refine XS.iloadN X1.here hx rfl (Jvm.hb hby d_jdk_52_method_16_5) rfl ?_
    show Steps p.tables e below (T1.setTop (mkF m 6 #[.val (.ref ca), .val (.int (0 : Int32)), .val (.int (Int32.ofNat n)), .val (.ref b1), .unset, .unset] [(.int (0 : Int32)), (.ref ca)])) _
    refine XS.aloadN X1.here hx rfl (Jvm.hb hby d_jdk_52_method_16_6) rfl rfl ?_
    show Steps p.tables e below (T1.setTop (mkF m 7 #[.val (.ref ca), .val (.int (0 : Int32)), .val (.int (Int32.ofNat n)), .val (.ref b1), .unset, .unset] [(.ref b1), (.int (0 : Int32)), (.ref ca)])) _
    refine XS.iconst X1.here hx rfl (Jvm.hb hby d_jdk_52_method_16_7) ?_
    show Steps p.tables e below (T1.setTop (mkF m 8 #[.val (.ref ca), .val (.int (0 : Int32)), .val (.int (Int32.ofNat n)), .val (.ref b1), .unset, .unset] [(.int (0 : Int32)), (.ref b1), (.int (0 : Int32)), (.ref ca)])) _
    refine XS.iloadN X1.here hx rfl (Jvm.hb hby d_jdk_52_method_16_8) rfl ?_
    show Steps p.tables e below (T1.setTop (mkF m 9 #[.val (.ref ca), .val (.int (0 : Int32)), .val (.int (Int32.ofNat n)), .val (.ref b1), .unset, .unset] [(.int (Int32.ofNat n)), (.int (0 : Int32)), (.ref b1), (.int (0 : Int32)), (.ref ca)])) _
    refine st5 _ ?_
    show Steps p.tables e below (T5.setTop (mkF m 12 #[.val (.ref ca), .val (.int (0 : Int32)), .val (.int (Int32.ofNat n)), .val (.ref b1), .unset, .unset] [(.int (Int32.ofNat n))])) _
    refine XS.istore X5.here hx rfl (Jvm.hb hby d_jdk_52_method_16_12) rfl (l' := #[.val (.ref ca), .val (.int (0 : Int32)), .val (.int (Int32.ofNat n)), .val (.ref b1), .val (.int (Int32.ofNat n)), .unset]) rfl ?_
    show Steps p.tables e below (T5.setTop (mkF m 14 #[.val (.ref ca), .val (.int (0 : Int32)), .val (.int (Int32.ofNat n)), .val (.ref b1), .val (.int (Int32.ofNat n)), .unset] [])) _
    refine XS.iload X5.here hx rfl (Jvm.hb hby d_jdk_52_method_16_14) rfl ?_
    show Steps p.tables e below (T5.setTop (mkF m 16 #[.val (.ref ca), .val (.int (0 : Int32)), .val (.int (Int32.ofNat n)), .val (.ref b1), .val (.int (Int32.ofNat n)), .unset] [(.int (Int32.ofNat n))])) _
    refine XS.iloadN X5.here hx rfl (Jvm.hb hby d_jdk_52_method_16_16) rfl ?_
    show Steps p.tables e below (T5.setTop (mkF m 17 #[.val (.ref ca), .val (.int (0 : Int32)), .val (.int (Int32.ofNat n)), .val (.ref b1), .val (.int (Int32.ofNat n)), .unset] [(.int (Int32.ofNat n)), (.int (Int32.ofNat n))])) _
    refine XS.icmpYes X5.here hx rfl (pc0 := 17) (pc' := 57) rfl (Jvm.hb hby d_jdk_52_method_16_17) rfl (teq rfl).1 (by decide) (by decide) ?_
    show Steps p.tables e below (T5.setTop (mkF m 57 #[.val (.ref ca), .val (.int (0 : Int32)), .val (.int (Int32.ofNat n)), .val (.ref b1), .val (.int (Int32.ofNat n)), .unset] [])) _
    refine XS.aloadN X5.here hx rfl (Jvm.hb hby d_jdk_52_method_16_57) rfl rfl ?_
    show Steps p.tables e below (T5.setTop (mkF m 58 #[.val (.ref ca), .val (.int (0 : Int32)), .val (.int (Int32.ofNat n)), .val (.ref b1), .val (.int (Int32.ofNat n)), .unset] [(.ref b1)])) _
    show Steps p.tables e below (T5.setTop (mkF m 58 #[.val (.ref ca), .val (.int (0 : Int32)), .val (.int (Int32.ofNat n)), .val (.ref b1), .val (.int (Int32.ofNat n)), .unset] [(.ref b1)])) t_
    exact k_)
  obtain ⟨fs, hr, hrun, hended, hW, hsame⟩ := X5.leave (v := some (.ref b1)) (fun h => by rw [Bd.returns] at h; cases h)
  refine ⟨_, _, s7 _ ?_, hrun, hended, _, _, rfl, ?_, ⟨_, rfl⟩, hW, hsame.mono (by decide) (by decide)⟩
  · show Steps p.tables e below (T5.setTop (mkF m 58 #[.val (.ref ca), .val (.int (0 : Int32)), .val (.int (Int32.ofNat n)), .val (.ref b1), .val (.int (Int32.ofNat n)), .unset] [(.ref b1)])) _
    jvm_step X5.here [X5.here.top, hx, (Jvm.hb hby d_jdk_52_method_16_58), X5.method', Bd.returns, Value.isRef, FieldType.isReference]
    first | (intro acts; rw [hr _ acts rfl rfl rfl]) | rw [hr _ _ rfl rfl rfl]
    exact Steps.refl _
  · show Q_rmComp Z _ _ _ _ h0 n0 _ T5.heap _
    rw [e5]
    exact ⟨b1, k1, rfl, N5, (((Keep.refl h0 []).ext E1).trans K5 (allS (Or.inr (show h0.size ≤ b1 by omega)) all0)), (own_fixL hlat Fq5_0 hn (by simp)), by omega⟩
theorem pn_java_lang_String : plainName "java/lang/String" = true := by first | (simp [plainName, overriddenIn]; done) | decide +kernel
theorem d_jdk_42_method_149_0 : decode jdk_42_method_149_code 0 = .ok (.aload_n 0, 1) := by decide +kernel
theorem d_jdk_42_method_149_1 : decode jdk_42_method_149_code 1 = .ok (.invokespecial 1, 3) := by decide +kernel
theorem d_jdk_42_method_149_4 : decode jdk_42_method_149_code 4 = .ok (.iload_n 3, 1) := by decide +kernel
theorem d_jdk_42_method_149_5 : decode jdk_42_method_149_code 5 = .ok (.ifCond .ne 22, 3) := by decide +kernel
theorem d_jdk_42_method_149_27 : decode jdk_42_method_149_code 27 = .ok (.getstatic 38, 3) := by decide +kernel
theorem d_jdk_42_method_149_30 : decode jdk_42_method_149_code 30 = .ok (.ifCond .eq 28, 3) := by decide +kernel
theorem d_jdk_42_method_149_33 : decode jdk_42_method_149_code 33 = .ok (.aload_n 1, 1) := by decide +kernel
theorem d_jdk_42_method_149_34 : decode jdk_42_method_149_code 34 = .ok (.iload_n 2, 1) := by decide +kernel
theorem d_jdk_42_method_149_35 : decode jdk_42_method_149_code 35 = .ok (.iload_n 3, 1) := by decide +kernel
theorem pd___CII__B : parseMethodDescriptor "([CII)[B" = some ⟨[(.array .char), .int, .int], some (.array .byte)⟩ := by decide +kernel
theorem d_jdk_42_method_149_36 : decode jdk_42_method_149_code 36 = .ok (.invokestatic 177, 3) := by decide +kernel
theorem d_jdk_42_method_149_39 : decode jdk_42_method_149_code 39 = .ok (.astore 5, 2) := by decide +kernel
theorem d_jdk_42_method_149_41 : decode jdk_42_method_149_code 41 = .ok (.aload_n 0, 1) := by decide +kernel
theorem d_jdk_42_method_149_42 : decode jdk_42_method_149_code 42 = .ok (.aload 5, 2) := by decide +kernel
theorem d_jdk_42_method_149_44 : decode jdk_42_method_149_code 44 = .ok (.iload_n 3, 1) := by decide +kernel
theorem pd___BI_B : parseMethodDescriptor "([BI)B" = some ⟨[(.array .byte), .int], some .byte⟩ := by decide +kernel
theorem d_jdk_42_method_149_45 : decode jdk_42_method_149_code 45 = .ok (.invokestatic 47, 3) := by decide +kernel
theorem d_jdk_42_method_149_48 : decode jdk_42_method_149_code 48 = .ok (.putfield 15, 3) := by decide +kernel
theorem d_jdk_42_method_149_51 : decode jdk_42_method_149_code 51 = .ok (.aload_n 0, 1) := by decide +kernel
theorem d_jdk_42_method_149_52 : decode jdk_42_method_149_code 52 = .ok (.aload 5, 2) := by decide +kernel
theorem d_jdk_42_method_149_54 : decode jdk_42_method_149_code 54 = .ok (.putfield 9, 3) := by decide +kernel
theorem d_jdk_42_method_149_57 : decode jdk_42_method_149_code 57 = .ok (.return_, 1) := by decide +kernel
theorem ef_rmIni4 (m : MethodId) (x0 : Addr) (x1 : Addr) (x2 : Int32) (x3 : Int32) : entryFrame m #[(.ref x0), (.ref x1), (.int x2), (.int x3), .null] 6 = mkF m 0 #[.val (.ref x0), .val (.ref x1), .val (.int x2), .val (.int x3), .val .null, .unset] [] := by first | (simp [entryFrame, mkF, argsToLocals, Value.category]; done) | rfl
def Q_rmIni4 (Z : State) (a : Addr) (ca : Addr) (cst : Int32) (cs : List Int32) (kc : ClassId) (n : Nat) (h0 : Heap) (n0 : Nat) (v : Option Value) (h : Heap) (L : List Loc) : Prop := ∃ (b : Addr), ∃ (kb : ClassId), (v = none) ∧ (Fr n0 L) ∧ (Keep h0 h [a]) ∧ (Exa Z h a "java/lang/String") ∧ (Fld Z h a "java/lang/String" "value" "[B" (.ref b)) ∧ (Fld Z h a "java/lang/String" "coder" "B" (.int (own_cod cs))) ∧ (Arv Z h b kb .byte (Int32.ofNat (own_enl cs)) (own_enc cs) (.int (0 : Int32))) ∧ (h0.size ≤ b)
set_option maxRecDepth 65536 in
set_option maxHeartbeats 40000000 in
theorem rmIni4 (l : Launch) (Z : State) (a0 : Array Value) (hw : ∀ d ∈ tables_1, d.before a0 Z = true) (ws : List Jvm.Cond) (a : Addr) (ca : Addr) (cst : Int32) (cs : List Int32) (kc : ClassId) (n : Nat) (h0 : Heap) (n0 : Nat) (Z0 : n0 ≤ h0.size) (I1 : Sta Z Z.heap "java/lang/String" "COMPACT_STRINGS" "Z" (.int cst)) (OX : Old Z n0 h0) (hcst : ¬ (cst = (0 : Int32))) (I2 : Exa Z h0 a "java/lang/String") (I3 : Fld Z h0 a "java/lang/String" "value" "[B" .null) (I4 : Fld Z h0 a "java/lang/String" "coder" "B" (.int (0 : Int32))) (I5 : Arv Z h0 ca kc .char (Int32.ofNat n) (cs.map Value.int) (.int (0 : Int32))) (hn : cs.length = n) (hb : n ≤ 6) (hpos : 0 < n) (hlat : own_lat cs) (ga : n0 ≤ a) (hac : @Ne Nat a ca) :
    MetFree l (⟨"java/lang/String", "<init>", "([CIILjava/lang/Void;)V"⟩ : MethodName) (head1 (Jvm.Cond.code (⟨"java/lang/String", "<init>", "([CIILjava/lang/Void;)V"⟩ : MethodName) jdk_42_method_149_code 6 none :: ws) ({ frames := 2, cells := 1, slots := 6, locals := 35 } : Room)) (fun ar_ U => ar_ = #[(.ref a), (.ref ca), (.int (0 : Int32)), (.int (Int32.ofNat n)), .null] ∧ Z.Warmed39 U.vm ∧ U.heap = h0) (fun _ _ _ _ _ => True) (fun _ U o U' => ∃ v L, o = .returned v ∧ Q_rmIni4 Z a ca cst cs kc n h0 n0 v U'.heap L ∧ FrameEnd U o U' L ({ frames := 2, cells := 1, slots := 6, locals := 35 } : Room).cells ({ frames := 2, cells := 1, slots := 6, locals := 35 } : Room).slots) := by
  refine MetFree.of_bodySF (plainFor_of_name pn_java_lang_String) hisR ?_
  intro p e s m args below meth c s₁ Bd hml0 hP hK
  obtain ⟨rfl, hZ, hh⟩ := hP
  have hx := Bd.exec
  have hby := Bd.bytes
  have hml : c.maxLocals = 6 := hml0
  have hown : s.vm.findClass "java/lang/String" = some m.cls := findClass_of_methodNamed Bd.named
  have hnm := (name_of_methodNamed Bd.named Bd.method).1
  have X0 : Stand p l e ({ frames := 2, cells := 1, slots := 6, locals := 35 } : Room) s m #[(.ref a), (.ref ca), (.int (0 : Int32)), (.int (Int32.ofNat n)), .null] below meth c s₁ [] 0 0 := Stand.of_body Bd
  have e0 : s₁.heap = h0 := by rw [← hh, Bd.state]; rfl
  have N0 := Fr.nil n0
  have pre0 : ∀ t_, Steps p.tables e below (s₁.setTop (mkF m 0 #[.val (.ref a), .val (.ref ca), .val (.int (0 : Int32)), .val (.int (Int32.ofNat n)), .val .null, .unset] [])) t_ → Steps p.tables e below (s₁.setTop (entryFrame m #[(.ref a), (.ref ca), (.int (0 : Int32)), (.int (Int32.ofNat n)), .null] 6)) t_ := fun t_ k_ => castTop (ef_rmIni4 m a ca (0 : Int32) (Int32.ofNat n)) k_
  have lt_I2 : @LT.lt Nat _ a h0.size := I2.lt
  have lt_I3 : @LT.lt Nat _ a h0.size := I3.lt
  have lt_I4 : @LT.lt Nat _ a h0.size := I4.lt
  have lt_I5 : @LT.lt Nat _ ca h0.size := I5.lt
  obtain ⟨T1, X1, e1, st1⟩ := initO X0 hx hZ hown (hw _ (List.mem_of_getElem? (i := 16) rfl)) (hw _ (List.mem_of_getElem? (i := 17) rfl)) (hw _ (List.mem_of_getElem? (i := 18) rfl)) e0 (g := (mkF m 1 #[.val (.ref a), .val (.ref ca), .val (.int (0 : Int32)), .val (.int (Int32.ofNat n)), .val .null, .unset] [(.ref a)])) rfl (by rw [hml]; rfl) rfl (Jvm.hb hby d_jdk_42_method_149_1) (by decide) (W := 0) (by show 2 * 0 + _ ≤ _; exact Nat.le_of_eq rfl) (by decide)
  obtain ⟨T2, X2, e2, st2⟩ := getS2 X1 hx hZ hown (host := "") (Or.inl (hw _ (List.mem_of_getElem? (i := 19) rfl))) Via.refl e1 (I1.ext OX.2) (g := (mkF m 27 #[.val (.ref a), .val (.ref ca), .val (.int (0 : Int32)), .val (.int (Int32.ofNat n)), .val .null, .unset] [])) rfl (Jvm.hb hby d_jdk_42_method_149_27)
  have Zc3 : n0 ≤ h0.size := by omega
  obtain ⟨_, _, ⟨T4, L4, k4, n4⟩, -, X4, ⟨Lc4, hQ4, l4, y4, z4⟩, st4⟩ := Jvm.LawKit.callS X2 hx (y := (⟨"java/lang/StringUTF16", "compress", "([CII)[B"⟩ : MethodName)) hown (mvT hZ (hw _ (List.mem_of_getElem? (i := 20) rfl))) (mvT hZ (hw _ (List.mem_of_getElem? (i := 21) rfl))) (mvT hZ (hw _ (List.mem_of_getElem? (i := 22) rfl))) (mvT hZ (hw _ (List.mem_of_getElem? (i := 23) rfl))) (by decide) (backOf (W := 0) (rmComp l Z a0 hw [] ca cs kc n h0 n0 Zc3 I5 (hn : cs.length = n) (hb : n ≤ 6) (hlat : own_lat cs)) hZ (hw _ (List.mem_of_getElem? (i := 23) rfl)) (hw _ (List.mem_of_getElem? (i := 22) rfl)) (by decide) (by decide)) (g := (mkF m 36 #[.val (.ref a), .val (.ref ca), .val (.int (0 : Int32)), .val (.int (Int32.ofNat n)), .val .null, .unset] [(.int (Int32.ofNat n)), (.int (0 : Int32)), (.ref ca)])) rfl (by rw [hml]; rfl) (argsL := [(.ref ca), (.int (0 : Int32)), (.int (Int32.ofNat n))]) (rest := []) (lenOf pd___CII__B rfl) rfl (by show 2 * 0 + _ ≤ _; exact Nat.le_of_eq rfl) (Jvm.hb hby d_jdk_42_method_149_36) (fun _ _ => ⟨rfl, e2, (by decide : 0 + 1 ≤ _), (by decide : 0 + 6 ≤ _)⟩)
  dsimp only [Pt.U, Pt.locs, Pt.cells, Pt.slots] at X4 l4 y4 z4 st4 hQ4
  subst l4 y4 z4
  obtain ⟨b_4, kb_4, rfl, N4q, K4, Fq4_0, P4_0⟩ := hQ4
  have N4 := Fr.app N0 N4q
  obtain ⟨h4, e4⟩ : ∃ z, T4.heap = z := ⟨_, rfl⟩
  rw [e4] at K4 Fq4_0
  have z5 : h0.size ≤ h4.size := K4.1
  have lt4_0 : @LT.lt Nat _ b_4 h4.size := Fq4_0.lt
  have Zc6 : n0 ≤ h4.size := by omega
  obtain ⟨_, _, ⟨T7, L7, k7, n7⟩, -, X7, ⟨Lc7, hQ7, l7, y7, z7⟩, st7⟩ := Jvm.LawKit.callS X4 hx (y := (⟨"java/lang/StringUTF16", "coderFromArrayLen", "([BI)B"⟩ : MethodName)) hown (mvT hZ (hw _ (List.mem_of_getElem? (i := 28) rfl))) (mvT hZ (hw _ (List.mem_of_getElem? (i := 29) rfl))) (mvT hZ (hw _ (List.mem_of_getElem? (i := 22) rfl))) (mvT hZ (hw _ (List.mem_of_getElem? (i := 30) rfl))) (by decide) (backOf (W := 1) (rmCod l Z a0 hw [] b_4 (Int32.ofNat n) kb_4 (Int32.ofNat (own_enl cs)) (own_enc cs) h4 n0 Zc6 Fq4_0) hZ (hw _ (List.mem_of_getElem? (i := 30) rfl)) (hw _ (List.mem_of_getElem? (i := 22) rfl)) (by decide) (by decide)) (g := (mkF m 45 #[.val (.ref a), .val (.ref ca), .val (.int (0 : Int32)), .val (.int (Int32.ofNat n)), .val .null, .val (.ref b_4)] [(.int (Int32.ofNat n)), (.ref b_4), (.ref a)])) rfl (by rw [hml]; rfl) (argsL := [(.ref b_4), (.int (Int32.ofNat n))]) (rest := [(.ref a)]) (lenOf pd___BI_B rfl) rfl (by show 2 * 0 + _ ≤ _; exact Nat.le_of_eq rfl) (Jvm.hb hby d_jdk_42_method_149_45) (fun _ _ => ⟨rfl, e4, (by decide : 1 + 0 ≤ _), (by decide : 6 + 0 ≤ _)⟩)
  dsimp only [Pt.U, Pt.locs, Pt.cells, Pt.slots] at X7 l7 y7 z7 st7 hQ7
  subst l7 y7 z7
  obtain ⟨rfl, N7q, e7⟩ := hQ7
  have N7 := Fr.app N4 N7q
  have f8 : Exa Z h4 a "java/lang/String" := (I2.keep K4)
  have f9 : Fld Z h4 a "java/lang/String" "coder" "B" (.int (0 : Int32)) := (I4.keep K4 nin0)
  obtain ⟨T10, h10, X10, e10, W10, st10⟩ := putFN X7 hx hZ hown (hw _ (List.mem_of_getElem? (i := 31) rfl)) Via.refl e7 f9 f8 (Or.inr ⟨(hw _ (List.mem_of_getElem? (i := 32) rfl)), rfl, hnm⟩) (hw _ (List.mem_of_getElem? (i := 7) rfl)) (ty := .byte) (v' := (.int (own_cod cs))) (by decide) (own_cnar cs) (own_cfit cs) (g := (mkF m 48 #[.val (.ref a), .val (.ref ca), .val (.int (0 : Int32)), .val (.int (Int32.ofNat n)), .val .null, .val (.ref b_4)] [(.int (own_cod cs)), (.ref a)])) rfl rfl (Jvm.hb hby d_jdk_42_method_149_48)
  have z11 : h4.size ≤ h10.size := Nat.le_of_eq W10.size.symm
  have F10 : Fld Z h10 a "java/lang/String" "coder" "B" (.int (own_cod cs)) := f9.same W10
  have N10 := Fr.snoc X10 N7 (show n0 ≤ a by omega)
  have f12 : Exa Z h10 a "java/lang/String" := (f8.wr W10)
  have f13 : Fld Z h10 a "java/lang/String" "value" "[B" .null := ((I3.keep K4 nin0).other W10 (Or.inr (slot_ne (Or.inr (hw _ (List.mem_of_getElem? (i := 34) rfl))) (Or.inr (hw _ (List.mem_of_getElem? (i := 32) rfl))) (by decide) (t := (.array .byte)) (t' := .byte) (by decide) (by decide))))
  obtain ⟨T14, h14, X14, e14, W14, st14⟩ := putF X10 hx hZ hown (host := "") (Or.inl (hw _ (List.mem_of_getElem? (i := 33) rfl))) Via.refl e10 f13 f12 (Or.inr ⟨(hw _ (List.mem_of_getElem? (i := 34) rfl)), rfl, hnm⟩) (hw _ (List.mem_of_getElem? (i := 7) rfl)) (ty := (.array .byte)) (by decide) rfl rfl (g := (mkF m 54 #[.val (.ref a), .val (.ref ca), .val (.int (0 : Int32)), .val (.int (Int32.ofNat n)), .val .null, .val (.ref b_4)] [(.ref b_4), (.ref a)])) rfl rfl (Jvm.hb hby d_jdk_42_method_149_54)
  have z15 : h10.size ≤ h14.size := Nat.le_of_eq W14.size.symm
  have F14 : Fld Z h14 a "java/lang/String" "value" "[B" (.ref b_4) := f13.same W14
  have N14 := Fr.snoc X14 N10 (show n0 ≤ a by omega)
  have s16 : ∀ t_, Steps p.tables e below (T14.setTop (mkF m 57 #[.val (.ref a), .val (.ref ca), .val (.int (0 : Int32)), .val (.int (Int32.ofNat n)), .val .null, .val (.ref b_4)] [])) t_ → Steps p.tables e below (s₁.setTop (entryFrame m #[(.ref a), (.ref ca), (.int (0 : Int32)), (.int (Int32.ofNat n)), .null] 6)) t_ := fun t_ k_ => pre0 t_ (by
    show Steps p.tables e below (s₁.setTop (mkF m 0 #[.val (.ref a), .val (.ref ca), .val (.int (0 : Int32)), .val (.int (Int32.ofNat n)), .val .null, .unset] [])) t_
    refine XS.aloadN X0.here hx rfl (Jvm.hb hby d_jdk_42_method_149_0) rfl rfl ?_
    show Steps p.tables e below (s₁.setTop (mkF m 1 #[.val (.ref a), .val (.ref ca), .val (.int (0 : Int32)), .val (.int (Int32.ofNat n)), .val .null, .unset] [(.ref a)])) _
    refine st1 _ ?_
    show Steps p.tables e below (T1.setTop (mkF m 4 #[.val (.ref a), .val (.ref ca), .val (.int (0 : Int32)), .val (.int (Int32.ofNat n)), .val .null, .unset] [])) _
    refine XS.iloadN X1.here hx rfl (Jvm.hb hby d_jdk_42_method_149_4) rfl ?_
    show Steps p.tables e below (T1.setTop (mkF m 5 #[.val (.ref a), .val (.ref ca), .val (.int (0 : Int32)), .val (.int (Int32.ofNat n)), .val .null, .unset] [(.int (Int32.ofNat n))])) _
    refine XS.ifYes X1.here hx rfl (pc0 := 5) (pc' := 27) rfl (Jvm.hb hby d_jdk_42_method_149_5) rfl ((if0 _ _).trans (feq (own_ne0 hpos (by omega))).2) (by decide) (by decide) ?_
    show Steps p.tables e below (T1.setTop (mkF m 27 #[.val (.ref a), .val (.ref ca), .val (.int (0 : Int32)), .val (.int (Int32.ofNat n)), .val .null, .unset] [])) _
    refine st2 _ ?_
    show Steps p.tables e below (T2.setTop (mkF m 30 #[.val (.ref a), .val (.ref ca), .val (.int (0 : Int32)), .val (.int (Int32.ofNat n)), .val .null, .unset] [(.int cst)])) _
    refine XS.ifNo X2.here hx rfl (Jvm.hb hby d_jdk_42_method_149_30) rfl ((if0 _ _).trans (feq hcst).1) ?_
    show Steps p.tables e below (T2.setTop (mkF m 33 #[.val (.ref a), .val (.ref ca), .val (.int (0 : Int32)), .val (.int (Int32.ofNat n)), .val .null, .unset] [])) _
    refine XS.aloadN X2.here hx rfl (Jvm.hb hby d_jdk_42_method_149_33) rfl rfl ?_
    show Steps p.tables e below (T2.setTop (mkF m 34 #[.val (.ref a), .val (.ref ca), .val (.int (0 : Int32)), .val (.int (Int32.ofNat n)), .val .null, .unset] [(.ref ca)])) _
    refine XS.iloadN X2.here hx rfl (Jvm.hb hby d_jdk_42_method_149_34) rfl ?_
    show Steps p.tables e below (T2.setTop (mkF m 35 #[.val (.ref a), .val (.ref ca), .val (.int (0 : Int32)), .val (.int (Int32.ofNat n)), .val .null, .unset] [(.int (0 : Int32)), (.ref ca)])) _
    refine XS.iloadN X2.here hx rfl (Jvm.hb hby d_jdk_42_method_149_35) rfl ?_
    show Steps p.tables e below (T2.setTop (mkF m 36 #[.val (.ref a), .val (.ref ca), .val (.int (0 : Int32)), .val (.int (Int32.ofNat n)), .val .null, .unset] [(.int (Int32.ofNat n)), (.int (0 : Int32)), (.ref ca)])) _
    refine st4 _ ?_
    show Steps p.tables e below (T4.setTop (mkF m 39 #[.val (.ref a), .val (.ref ca), .val (.int (0 : Int32)), .val (.int (Int32.ofNat n)), .val .null, .unset] [(.ref b_4)])) _
    refine XS.astore X4.here hx rfl (Jvm.hb hby d_jdk_42_method_149_39) rfl rfl (l' := #[.val (.ref a), .val (.ref ca), .val (.int (0 : Int32)), .val (.int (Int32.ofNat n)), .val .null, .val (.ref b_4)]) rfl ?_
    show Steps p.tables e below (T4.setTop (mkF m 41 #[.val (.ref a), .val (.ref ca), .val (.int (0 : Int32)), .val (.int (Int32.ofNat n)), .val .null, .val (.ref b_4)] [])) _
    refine XS.aloadN X4.here hx rfl (Jvm.hb hby d_jdk_42_method_149_41) rfl rfl ?_
    show Steps p.tables e below (T4.setTop (mkF m 42 #[.val (.ref a), .val (.ref ca), .val (.int (0 : Int32)), .val (.int (Int32.ofNat n)), .val .null, .val (.ref b_4)] [(.ref a)])) _
    refine XS.aload X4.here hx rfl (Jvm.hb hby d_jdk_42_method_149_42) rfl rfl ?_
    show Steps p.tables e below (T4.setTop (mkF m 44 #[.val (.ref a), .val (.ref ca), .val (.int (0 : Int32)), .val (.int (Int32.ofNat n)), .val .null, .val (.ref b_4)] [(.ref b_4), (.ref a)])) _
    refine XS.iloadN X4.here hx rfl (Jvm.hb hby d_jdk_42_method_149_44) rfl ?_
    show Steps p.tables e below (T4.setTop (mkF m 45 #[.val (.ref a), .val (.ref ca), .val (.int (0 : Int32)), .val (.int (Int32.ofNat n)), .val .null, .val (.ref b_4)] [(.int (Int32.ofNat n)), (.ref b_4), (.ref a)])) _
    refine st7 _ ?_
    show Steps p.tables e below (T7.setTop (mkF m 48 #[.val (.ref a), .val (.ref ca), .val (.int (0 : Int32)), .val (.int (Int32.ofNat n)), .val .null, .val (.ref b_4)] [(.int (nar .byte (own_lo (ushr ((Int32.ofNat n) - (Int32.ofNat (own_enl cs))) (31 : Int32))))), (.ref a)])) _
    refine castTop (g' := (mkF m 48 #[.val (.ref a), .val (.ref ca), .val (.int (0 : Int32)), .val (.int (Int32.ofNat n)), .val .null, .val (.ref b_4)] [(.int (own_cod cs)), (.ref a)])) (by rw [own_codl hn hpos (by omega)]) ?_
    show Steps p.tables e below (T7.setTop (mkF m 48 #[.val (.ref a), .val (.ref ca), .val (.int (0 : Int32)), .val (.int (Int32.ofNat n)), .val .null, .val (.ref b_4)] [(.int (own_cod cs)), (.ref a)])) _
    refine st10 _ ?_
    show Steps p.tables e below (T10.setTop (mkF m 51 #[.val (.ref a), .val (.ref ca), .val (.int (0 : Int32)), .val (.int (Int32.ofNat n)), .val .null, .val (.ref b_4)] [])) _
    refine XS.aloadN X10.here hx rfl (Jvm.hb hby d_jdk_42_method_149_51) rfl rfl ?_
    show Steps p.tables e below (T10.setTop (mkF m 52 #[.val (.ref a), .val (.ref ca), .val (.int (0 : Int32)), .val (.int (Int32.ofNat n)), .val .null, .val (.ref b_4)] [(.ref a)])) _
    refine XS.aload X10.here hx rfl (Jvm.hb hby d_jdk_42_method_149_52) rfl rfl ?_
    show Steps p.tables e below (T10.setTop (mkF m 54 #[.val (.ref a), .val (.ref ca), .val (.int (0 : Int32)), .val (.int (Int32.ofNat n)), .val .null, .val (.ref b_4)] [(.ref b_4), (.ref a)])) _
    refine st14 _ ?_
    show Steps p.tables e below (T14.setTop (mkF m 57 #[.val (.ref a), .val (.ref ca), .val (.int (0 : Int32)), .val (.int (Int32.ofNat n)), .val .null, .val (.ref b_4)] [])) _
    show Steps p.tables e below (T14.setTop (mkF m 57 #[.val (.ref a), .val (.ref ca), .val (.int (0 : Int32)), .val (.int (Int32.ofNat n)), .val .null, .val (.ref b_4)] [])) t_
    exact k_)
  obtain ⟨fs, hr, hrun, hended, hW, hsame⟩ := X14.leave (v := none) (fun _ => rfl)
  have f17 : Arv Z h14 b_4 kb_4 .byte (Int32.ofNat (own_enl cs)) (own_enc cs) (.int (0 : Int32)) := ((Fq4_0.other W10 (show @Ne Nat b_4 a by omega)).other W14 (show @Ne Nat b_4 a by omega))
  have f18 : Exa Z h14 a "java/lang/String" := (f12.wr W14)
  have f19 : Fld Z h14 a "java/lang/String" "coder" "B" (.int (own_cod cs)) := (F10.other W14 (Or.inr (slot_ne (Or.inr (hw _ (List.mem_of_getElem? (i := 32) rfl))) (Or.inr (hw _ (List.mem_of_getElem? (i := 34) rfl))) (by decide) (t := .byte) (t' := (.array .byte)) (by decide) (by decide))))
  refine ⟨_, _, s16 _ ?_, hrun, hended, _, _, rfl, ?_, ⟨_, rfl⟩, hW, hsame.mono (by decide) (by decide)⟩
  · show Steps p.tables e below (T14.setTop (mkF m 57 #[.val (.ref a), .val (.ref ca), .val (.int (0 : Int32)), .val (.int (Int32.ofNat n)), .val .null, .val (.ref b_4)] [])) _
    exact X14.returnOut hx Bd.returns (Jvm.hb hby d_jdk_42_method_149_57) hr
  · show Q_rmIni4 Z _ _ _ _ _ _ h0 n0 _ T14.heap _
    rw [e14]
    exact ⟨b_4, kb_4, rfl, N14, ((((Keep.refl h0 [a]).trans K4 all0).wr W10 (Or.inl (by simp))).wr W14 (Or.inl (by simp))), f18, F14, f19, f17, by omega⟩
theorem d_jdk_42_method_3_0 : decode jdk_42_method_3_code 0 = .ok (.aload_n 0, 1) := by decide +kernel
theorem d_jdk_42_method_3_1 : decode jdk_42_method_3_code 1 = .ok (.aload_n 1, 1) := by decide +kernel
theorem d_jdk_42_method_3_2 : decode jdk_42_method_3_code 2 = .ok (.iconst 0, 1) := by decide +kernel
theorem d_jdk_42_method_3_3 : decode jdk_42_method_3_code 3 = .ok (.aload_n 1, 1) := by decide +kernel
theorem d_jdk_42_method_3_4 : decode jdk_42_method_3_code 4 = .ok (.arraylength, 1) := by decide +kernel
theorem d_jdk_42_method_3_5 : decode jdk_42_method_3_code 5 = .ok (.aconst_null, 1) := by decide +kernel
theorem pd___CIILjava_lang_Void__V : parseMethodDescriptor "([CIILjava/lang/Void;)V" = some ⟨[(.array .char), .int, .int, (.object "java/lang/Void")], none⟩ := by decide +kernel
theorem d_jdk_42_method_3_6 : decode jdk_42_method_3_code 6 = .ok (.invokespecial 27, 3) := by decide +kernel
theorem d_jdk_42_method_3_9 : decode jdk_42_method_3_code 9 = .ok (.return_, 1) := by decide +kernel
theorem ef_rmIni1 (m : MethodId) (x0 : Addr) (x1 : Addr) : entryFrame m #[(.ref x0), (.ref x1)] 2 = mkF m 0 #[.val (.ref x0), .val (.ref x1)] [] := by first | (simp [entryFrame, mkF, argsToLocals, Value.category]; done) | rfl
def Q_rmIni1 (Z : State) (a : Addr) (ca : Addr) (cst : Int32) (cs : List Int32) (kc : ClassId) (n : Nat) (h0 : Heap) (n0 : Nat) (v : Option Value) (h : Heap) (L : List Loc) : Prop := ∃ (b : Addr), ∃ (kb : ClassId), (v = none) ∧ (Fr n0 L) ∧ (Keep h0 h [a]) ∧ (Exa Z h a "java/lang/String") ∧ (Fld Z h a "java/lang/String" "value" "[B" (.ref b)) ∧ (Fld Z h a "java/lang/String" "coder" "B" (.int (own_cod cs))) ∧ (Arv Z h b kb .byte (Int32.ofNat (own_enl cs)) (own_enc cs) (.int (0 : Int32))) ∧ (h0.size ≤ b)
set_option maxRecDepth 65536 in
set_option maxHeartbeats 40000000 in
theorem rmIni1 (l : Launch) (Z : State) (a0 : Array Value) (hw : ∀ d ∈ tables_1, d.before a0 Z = true) (ws : List Jvm.Cond) (a : Addr) (ca : Addr) (cst : Int32) (cs : List Int32) (kc : ClassId) (n : Nat) (h0 : Heap) (n0 : Nat) (Z0 : n0 ≤ h0.size) (I1 : Sta Z Z.heap "java/lang/String" "COMPACT_STRINGS" "Z" (.int cst)) (OX : Old Z n0 h0) (hcst : ¬ (cst = (0 : Int32))) (I2 : Exa Z h0 a "java/lang/String") (I3 : Fld Z h0 a "java/lang/String" "value" "[B" .null) (I4 : Fld Z h0 a "java/lang/String" "coder" "B" (.int (0 : Int32))) (I5 : Arv Z h0 ca kc .char (Int32.ofNat n) (cs.map Value.int) (.int (0 : Int32))) (hn : cs.length = n) (hb : n ≤ 6) (hpos : 0 < n) (hlat : own_lat cs) (ga : n0 ≤ a) (hac : @Ne Nat a ca) :
    MetFree l (⟨"java/lang/String", "<init>", "([C)V"⟩ : MethodName) (head1 (Jvm.Cond.code (⟨"java/lang/String", "<init>", "([C)V"⟩ : MethodName) jdk_42_method_3_code 2 none :: ws) ({ frames := 3, cells := 1, slots := 6, locals := 52 } : Room)) (fun ar_ U => ar_ = #[(.ref a), (.ref ca)] ∧ Z.Warmed39 U.vm ∧ U.heap = h0) (fun _ _ _ _ _ => True) (fun _ U o U' => ∃ v L, o = .returned v ∧ Q_rmIni1 Z a ca cst cs kc n h0 n0 v U'.heap L ∧ FrameEnd U o U' L ({ frames := 3, cells := 1, slots := 6, locals := 52 } : Room).cells ({ frames := 3, cells := 1, slots := 6, locals := 52 } : Room).slots) := by
  refine MetFree.of_bodySF (plainFor_of_name pn_java_lang_String) hisR ?_
  intro p e s m args below meth c s₁ Bd hml0 hP hK
  obtain ⟨rfl, hZ, hh⟩ := hP
  have hx := Bd.exec
  have hby := Bd.bytes
  have hml : c.maxLocals = 2 := hml0
  have hown : s.vm.findClass "java/lang/String" = some m.cls := findClass_of_methodNamed Bd.named
  have hnm := (name_of_methodNamed Bd.named Bd.method).1
  have X0 : Stand p l e ({ frames := 3, cells := 1, slots := 6, locals := 52 } : Room) s m #[(.ref a), (.ref ca)] below meth c s₁ [] 0 0 := Stand.of_body Bd
  have e0 : s₁.heap = h0 := by rw [← hh, Bd.state]; rfl
  have N0 := Fr.nil n0
  have pre0 : ∀ t_, Steps p.tables e below (s₁.setTop (mkF m 0 #[.val (.ref a), .val (.ref ca)] [])) t_ → Steps p.tables e below (s₁.setTop (entryFrame m #[(.ref a), (.ref ca)] 2)) t_ := fun t_ k_ => castTop (ef_rmIni1 m a ca) k_
  have lt_I2 : @LT.lt Nat _ a h0.size := I2.lt
  have lt_I3 : @LT.lt Nat _ a h0.size := I3.lt
  have lt_I4 : @LT.lt Nat _ a h0.size := I4.lt
  have lt_I5 : @LT.lt Nat _ ca h0.size := I5.lt
  obtain ⟨cl1, Ar1, -, S1, M1, -, -⟩ := id I5
  have Zc2 : n0 ≤ h0.size := by omega
  obtain ⟨_, _, ⟨T3, L3, k3, n3⟩, -, X3, ⟨Lc3, hQ3, l3, y3, z3⟩, st3⟩ := X0.specialBack hx (y := (⟨"java/lang/String", "<init>", "([CIILjava/lang/Void;)V"⟩ : MethodName)) rfl hown (mvT hZ (hw _ (List.mem_of_getElem? (i := 12) rfl))) (mvT hZ (hw _ (List.mem_of_getElem? (i := 13) rfl))) (mvT hZ (hw _ (List.mem_of_getElem? (i := 15) rfl))) (by decide) (backOf (W := 0) (rmIni4 l Z a0 hw [] a ca cst cs kc n h0 n0 Zc2 I1 OX (hcst : ¬ (cst = (0 : Int32))) I2 I3 I4 I5 (hn : cs.length = n) (hb : n ≤ 6) (hpos : 0 < n) (hlat : own_lat cs) (ga : n0 ≤ a) (hac : @Ne Nat a ca)) hZ (hw _ (List.mem_of_getElem? (i := 15) rfl)) (hw _ (List.mem_of_getElem? (i := 8) rfl)) (by decide) (by decide)) (g := (mkF m 6 #[.val (.ref a), .val (.ref ca)] [.null, (.int (Int32.ofNat n)), (.int (0 : Int32)), (.ref ca), (.ref a)])) rfl (by rw [hml]; rfl) (Steps.refl _) (a := a) (argsL := [(.ref ca), (.int (0 : Int32)), (.int (Int32.ofNat n)), .null]) (rest := []) (lenOf pd___CIILjava_lang_Void__V rfl) rfl (by show 2 * 0 + _ ≤ _; exact Nat.le_of_eq rfl) (Jvm.hb hby d_jdk_42_method_3_6) (fun _ _ => ⟨rfl, e0, (by decide : 0 + 1 ≤ _), (by decide : 0 + 6 ≤ _)⟩)
  dsimp only [Pt.U, Pt.locs, Pt.cells, Pt.slots] at X3 l3 y3 z3 st3 hQ3
  subst l3 y3 z3
  obtain ⟨b_3, kb_3, rfl, N3q, K3, Fq3_0, Fq3_1, Fq3_2, Fq3_3, P3_0⟩ := hQ3
  have N3 := Fr.app N0 N3q
  obtain ⟨h3, e3⟩ : ∃ z, T3.heap = z := ⟨_, rfl⟩
  rw [e3] at K3 Fq3_0 Fq3_1 Fq3_2 Fq3_3
  have z4 : h0.size ≤ h3.size := K3.1
  have lt3_0 : @LT.lt Nat _ a h3.size := Fq3_0.lt
  have lt3_3 : @LT.lt Nat _ b_3 h3.size := Fq3_3.lt
  have s5 : ∀ t_, Steps p.tables e below (T3.setTop (mkF m 9 #[.val (.ref a), .val (.ref ca)] [])) t_ → Steps p.tables e below (s₁.setTop (entryFrame m #[(.ref a), (.ref ca)] 2)) t_ := fun t_ k_ => pre0 t_ (by
    show Steps p.tables e below (s₁.setTop (mkF m 0 #[.val (.ref a), .val (.ref ca)] [])) t_
    refine XS.aloadN X0.here hx rfl (Jvm.hb hby d_jdk_42_method_3_0) rfl rfl ?_
    show Steps p.tables e below (s₁.setTop (mkF m 1 #[.val (.ref a), .val (.ref ca)] [(.ref a)])) _
    refine XS.aloadN X0.here hx rfl (Jvm.hb hby d_jdk_42_method_3_1) rfl rfl ?_
    show Steps p.tables e below (s₁.setTop (mkF m 2 #[.val (.ref a), .val (.ref ca)] [(.ref ca), (.ref a)])) _
    refine XS.iconst X0.here hx rfl (Jvm.hb hby d_jdk_42_method_3_2) ?_
    show Steps p.tables e below (s₁.setTop (mkF m 3 #[.val (.ref a), .val (.ref ca)] [(.int (0 : Int32)), (.ref ca), (.ref a)])) _
    refine XS.aloadN X0.here hx rfl (Jvm.hb hby d_jdk_42_method_3_3) rfl rfl ?_
    show Steps p.tables e below (s₁.setTop (mkF m 4 #[.val (.ref a), .val (.ref ca)] [(.ref ca), (.int (0 : Int32)), (.ref ca), (.ref a)])) _
    refine X0.arraylength hx (by rw [e0]; exact Ar1.1) (State.isArrayOf_alike hZ.alike Ar1.2.1) (g := (mkF m 4 #[.val (.ref a), .val (.ref ca)] [(.ref ca), (.int (0 : Int32)), (.ref ca), (.ref a)])) rfl rfl (Jvm.hb hby d_jdk_42_method_3_4) _ ?_
    rw [len_of S1 M1]
    show Steps p.tables e below (s₁.setTop (mkF m 5 #[.val (.ref a), .val (.ref ca)] [(.int (Int32.ofNat n)), (.int (0 : Int32)), (.ref ca), (.ref a)])) _
    refine XS.aconstNull X0.here hx rfl (Jvm.hb hby d_jdk_42_method_3_5) ?_
    show Steps p.tables e below (s₁.setTop (mkF m 6 #[.val (.ref a), .val (.ref ca)] [.null, (.int (Int32.ofNat n)), (.int (0 : Int32)), (.ref ca), (.ref a)])) _
    refine st3.trans ?_
    show Steps p.tables e below (T3.setTop (mkF m 9 #[.val (.ref a), .val (.ref ca)] [])) _
    show Steps p.tables e below (T3.setTop (mkF m 9 #[.val (.ref a), .val (.ref ca)] [])) t_
    exact k_)
  obtain ⟨fs, hr, hrun, hended, hW, hsame⟩ := X3.leave (v := none) (fun _ => rfl)
  refine ⟨_, _, s5 _ ?_, hrun, hended, _, _, rfl, ?_, ⟨_, rfl⟩, hW, hsame.mono (by decide) (by decide)⟩
  · show Steps p.tables e below (T3.setTop (mkF m 9 #[.val (.ref a), .val (.ref ca)] [])) _
    exact X3.returnOut hx Bd.returns (Jvm.hb hby d_jdk_42_method_3_9) hr
  · show Q_rmIni1 Z _ _ _ _ _ _ h0 n0 _ T3.heap _
    rw [e3]
    exact ⟨b_3, kb_3, rfl, N3, ((Keep.refl h0 [a]).trans K3 (allS (Or.inl (by simp)) all0)), Fq3_0, Fq3_1, Fq3_2, Fq3_3, by omega⟩
theorem d_jdk_42_method_152_0 : decode jdk_42_method_152_code 0 = .ok (.getstatic 38, 3) := by decide +kernel
theorem d_jdk_42_method_152_3 : decode jdk_42_method_152_code 3 = .ok (.ifCond .eq 10, 3) := by decide +kernel
theorem d_jdk_42_method_152_6 : decode jdk_42_method_152_code 6 = .ok (.aload_n 0, 1) := by decide +kernel
theorem d_jdk_42_method_152_7 : decode jdk_42_method_152_code 7 = .ok (.getfield 15, 3) := by decide +kernel
theorem d_jdk_42_method_152_10 : decode jdk_42_method_152_code 10 = .ok (.goto 4, 3) := by decide +kernel
theorem d_jdk_42_method_152_14 : decode jdk_42_method_152_code 14 = .ok (.ireturn, 1) := by decide +kernel
theorem ef_rmCdr (m : MethodId) (x0 : Addr) : entryFrame m #[(.ref x0)] 1 = mkF m 0 #[.val (.ref x0)] [] := by first | (simp [entryFrame, mkF, argsToLocals, Value.category]; done) | rfl
def Q_rmCdr (Z : State) (a : Addr) (cst : Int32) (cs : List Int32) (h0 : Heap) (n0 : Nat) (v : Option Value) (h : Heap) (L : List Loc) : Prop := (v = some (.int (own_cod cs))) ∧ (Fr n0 L) ∧ (h = h0)
set_option maxRecDepth 65536 in
set_option maxHeartbeats 40000000 in
theorem rmCdr (l : Launch) (Z : State) (a0 : Array Value) (hw : ∀ d ∈ tables_1, d.before a0 Z = true) (ws : List Jvm.Cond) (a : Addr) (cst : Int32) (cs : List Int32) (h0 : Heap) (n0 : Nat) (Z0 : n0 ≤ h0.size) (I1 : Sta Z Z.heap "java/lang/String" "COMPACT_STRINGS" "Z" (.int cst)) (OX : Old Z n0 h0) (hcst : ¬ (cst = (0 : Int32))) (I2 : Fld Z h0 a "java/lang/String" "coder" "B" (.int (own_cod cs))) :
    MetFree l (⟨"java/lang/String", "coder", "()B"⟩ : MethodName) (head1 (Jvm.Cond.code (⟨"java/lang/String", "coder", "()B"⟩ : MethodName) jdk_42_method_152_code 1 (some .byte) :: ws) ({ frames := 0, cells := 0, slots := 0, locals := 0 } : Room)) (fun ar_ U => ar_ = #[(.ref a)] ∧ Z.Warmed39 U.vm ∧ U.heap = h0) (fun _ _ _ _ _ => True) (fun _ U o U' => ∃ v L, o = .returned v ∧ Q_rmCdr Z a cst cs h0 n0 v U'.heap L ∧ FrameEnd U o U' L ({ frames := 0, cells := 0, slots := 0, locals := 0 } : Room).cells ({ frames := 0, cells := 0, slots := 0, locals := 0 } : Room).slots) := by
  refine MetFree.of_bodySF (plainFor_of_name pn_java_lang_String) hisR ?_
  intro p e s m args below meth c s₁ Bd hml0 hP hK
  obtain ⟨rfl, hZ, hh⟩ := hP
  have hx := Bd.exec
  have hby := Bd.bytes
  have hml : c.maxLocals = 1 := hml0
  have hown : s.vm.findClass "java/lang/String" = some m.cls := findClass_of_methodNamed Bd.named
  have hnm := (name_of_methodNamed Bd.named Bd.method).1
  have X0 : Stand p l e ({ frames := 0, cells := 0, slots := 0, locals := 0 } : Room) s m #[(.ref a)] below meth c s₁ [] 0 0 := Stand.of_body Bd
  have e0 : s₁.heap = h0 := by rw [← hh, Bd.state]; rfl
  have N0 := Fr.nil n0
  have pre0 : ∀ t_, Steps p.tables e below (s₁.setTop (mkF m 0 #[.val (.ref a)] [])) t_ → Steps p.tables e below (s₁.setTop (entryFrame m #[(.ref a)] 1)) t_ := fun t_ k_ => castTop (ef_rmCdr m a) k_
  have lt_I2 : @LT.lt Nat _ a h0.size := I2.lt
  obtain ⟨T1, X1, e1, st1⟩ := getS2 X0 hx hZ hown (host := "") (Or.inl (hw _ (List.mem_of_getElem? (i := 19) rfl))) Via.refl e0 (I1.ext OX.2) (g := (mkF m 0 #[.val (.ref a)] [])) rfl (Jvm.hb hby d_jdk_42_method_152_0)
  obtain ⟨T2, X2, e2, st2⟩ := getF X1 hx hZ hown (host := "") (Or.inl (hw _ (List.mem_of_getElem? (i := 31) rfl))) Via.refl e1 I2 (g := (mkF m 7 #[.val (.ref a)] [(.ref a)])) rfl rfl (Jvm.hb hby d_jdk_42_method_152_7)
  have s3 : ∀ t_, Steps p.tables e below (T2.setTop (mkF m 14 #[.val (.ref a)] [(.int (own_cod cs))])) t_ → Steps p.tables e below (s₁.setTop (entryFrame m #[(.ref a)] 1)) t_ := fun t_ k_ => pre0 t_ (by
    show Steps p.tables e below (s₁.setTop (mkF m 0 #[.val (.ref a)] [])) t_
    refine st1 _ ?_
    show Steps p.tables e below (T1.setTop (mkF m 3 #[.val (.ref a)] [(.int cst)])) _
    refine XS.ifNo X1.here hx rfl (Jvm.hb hby d_jdk_42_method_152_3) rfl ((if0 _ _).trans (feq hcst).1) ?_
    show Steps p.tables e below (T1.setTop (mkF m 6 #[.val (.ref a)] [])) _
    refine XS.aloadN X1.here hx rfl (Jvm.hb hby d_jdk_42_method_152_6) rfl rfl ?_
    show Steps p.tables e below (T1.setTop (mkF m 7 #[.val (.ref a)] [(.ref a)])) _
    refine st2 _ ?_
    show Steps p.tables e below (T2.setTop (mkF m 10 #[.val (.ref a)] [(.int (own_cod cs))])) _
    refine XS.goto X2.here hx rfl (pc0 := 10) (pc' := 14) rfl (Jvm.hb hby d_jdk_42_method_152_10) (by decide) (by decide) ?_
    show Steps p.tables e below (T2.setTop (mkF m 14 #[.val (.ref a)] [(.int (own_cod cs))])) _
    show Steps p.tables e below (T2.setTop (mkF m 14 #[.val (.ref a)] [(.int (own_cod cs))])) t_
    exact k_)
  obtain ⟨fs, hr, hrun, hended, hW, hsame⟩ := X2.leave (v := some (.int (nar .byte (own_cod cs)))) (fun h => by rw [Bd.returns] at h; cases h)
  refine ⟨_, _, s3 _ ?_, hrun, hended, _, _, rfl, ?_, ⟨_, rfl⟩, hW, hsame.mono (by decide) (by decide)⟩
  · show Steps p.tables e below (T2.setTop (mkF m 14 #[.val (.ref a)] [(.int (own_cod cs))])) _
    exact retN X2 hx (t := .byte) Bd.returns (by simp) (Jvm.hb hby d_jdk_42_method_152_14) hr
  · show Q_rmCdr Z _ _ _ h0 n0 _ T2.heap _
    rw [e2]
    exact ⟨(by rw [own_cnarb]), N0, rfl⟩
theorem d_jdk_42_method_54_0 : decode jdk_42_method_54_code 0 = .ok (.aload_n 0, 1) := by decide +kernel
theorem d_jdk_42_method_54_1 : decode jdk_42_method_54_code 1 = .ok (.getfield 9, 3) := by decide +kernel
theorem d_jdk_42_method_54_4 : decode jdk_42_method_54_code 4 = .ok (.arraylength, 1) := by decide +kernel
theorem d_jdk_42_method_54_5 : decode jdk_42_method_54_code 5 = .ok (.aload_n 0, 1) := by decide +kernel
theorem pd___B : parseMethodDescriptor "()B" = some ⟨[], some .byte⟩ := by decide +kernel
theorem d_jdk_42_method_54_6 : decode jdk_42_method_54_code 6 = .ok (.invokevirtual 335, 3) := by decide +kernel
theorem d_jdk_42_method_54_9 : decode jdk_42_method_54_code 9 = .ok (.ishr, 1) := by decide +kernel
theorem d_jdk_42_method_54_10 : decode jdk_42_method_54_code 10 = .ok (.ireturn, 1) := by decide +kernel
theorem ef_rmLen (m : MethodId) (x0 : Addr) : entryFrame m #[(.ref x0)] 1 = mkF m 0 #[.val (.ref x0)] [] := by first | (simp [entryFrame, mkF, argsToLocals, Value.category]; done) | rfl
def Q_rmLen (Z : State) (a : Addr) (cst : Int32) (b : Addr) (kb : ClassId) (cs : List Int32) (h0 : Heap) (n0 : Nat) (v : Option Value) (h : Heap) (L : List Loc) : Prop := (v = some (.int (Int32.ofNat cs.length))) ∧ (Fr n0 L) ∧ (h = h0)
set_option maxRecDepth 65536 in
set_option maxHeartbeats 40000000 in
theorem rmLen (l : Launch) (Z : State) (a0 : Array Value) (hw : ∀ d ∈ tables_1, d.before a0 Z = true) (ws : List Jvm.Cond) (a : Addr) (cst : Int32) (b : Addr) (kb : ClassId) (cs : List Int32) (h0 : Heap) (n0 : Nat) (Z0 : n0 ≤ h0.size) (I1 : Sta Z Z.heap "java/lang/String" "COMPACT_STRINGS" "Z" (.int cst)) (OX : Old Z n0 h0) (hcst : ¬ (cst = (0 : Int32))) (I2 : Exa Z h0 a "java/lang/String") (I3 : Fld Z h0 a "java/lang/String" "value" "[B" (.ref b)) (I4 : Fld Z h0 a "java/lang/String" "coder" "B" (.int (own_cod cs))) (I5 : Arv Z h0 b kb .byte (Int32.ofNat (own_enl cs)) (own_enc cs) (.int (0 : Int32))) (hb : cs.length ≤ 6) :
    MetFree l (⟨"java/lang/String", "length", "()I"⟩ : MethodName) (head1 (Jvm.Cond.code (⟨"java/lang/String", "length", "()I"⟩ : MethodName) jdk_42_method_54_code 1 (some .int) :: ws) ({ frames := 1, cells := 0, slots := 0, locals := 13 } : Room)) (fun ar_ U => ar_ = #[(.ref a)] ∧ Z.Warmed39 U.vm ∧ U.heap = h0) (fun _ _ _ _ _ => True) (fun _ U o U' => ∃ v L, o = .returned v ∧ Q_rmLen Z a cst b kb cs h0 n0 v U'.heap L ∧ FrameEnd U o U' L ({ frames := 1, cells := 0, slots := 0, locals := 13 } : Room).cells ({ frames := 1, cells := 0, slots := 0, locals := 13 } : Room).slots) := by
  refine MetFree.of_bodySF (plainFor_of_name pn_java_lang_String) hisR ?_
  intro p e s m args below meth c s₁ Bd hml0 hP hK
  obtain ⟨rfl, hZ, hh⟩ := hP
  have hx := Bd.exec
  have hby := Bd.bytes
  have hml : c.maxLocals = 1 := hml0
  have hown : s.vm.findClass "java/lang/String" = some m.cls := findClass_of_methodNamed Bd.named
  have hnm := (name_of_methodNamed Bd.named Bd.method).1
  have X0 : Stand p l e ({ frames := 1, cells := 0, slots := 0, locals := 13 } : Room) s m #[(.ref a)] below meth c s₁ [] 0 0 := Stand.of_body Bd
  have e0 : s₁.heap = h0 := by rw [← hh, Bd.state]; rfl
  have N0 := Fr.nil n0
  have pre0 : ∀ t_, Steps p.tables e below (s₁.setTop (mkF m 0 #[.val (.ref a)] [])) t_ → Steps p.tables e below (s₁.setTop (entryFrame m #[(.ref a)] 1)) t_ := fun t_ k_ => castTop (ef_rmLen m a) k_
  have lt_I2 : @LT.lt Nat _ a h0.size := I2.lt
  have lt_I3 : @LT.lt Nat _ a h0.size := I3.lt
  have lt_I4 : @LT.lt Nat _ a h0.size := I4.lt
  have lt_I5 : @LT.lt Nat _ b h0.size := I5.lt
  obtain ⟨T1, X1, e1, st1⟩ := getF X0 hx hZ hown (host := "") (Or.inl (hw _ (List.mem_of_getElem? (i := 33) rfl))) Via.refl e0 I3 (g := (mkF m 1 #[.val (.ref a)] [(.ref a)])) rfl rfl (Jvm.hb hby d_jdk_42_method_54_1)
  obtain ⟨cl2, Ar2, -, S2, M2, -, -⟩ := id I5
  have Zc3 : n0 ≤ h0.size := by omega
  obtain ⟨cq4, kq4, q4a, q4b, q4c⟩ := isOf hZ e1 I2
  obtain ⟨_, _, ⟨T4, L4, k4, n4⟩, -, X4, ⟨Lc4, hQ4, l4, y4, z4⟩, st4⟩ := X1.virtualBack hx (y := (⟨"java/lang/String", "coder", "()B"⟩ : MethodName)) (z := (⟨"java/lang/String", "coder", "()B"⟩ : MethodName)) hown (mvT hZ (hw _ (List.mem_of_getElem? (i := 61) rfl))) (mvT hZ (hw _ (List.mem_of_getElem? (i := 62) rfl))) (notFace_of_selects (args := #[]) (mvT hZ (hw _ (List.mem_of_getElem? (i := 64) rfl)))) (mvT hZ (hw _ (List.mem_of_getElem? (i := 64) rfl))) (mvT hZ (hw _ (List.mem_of_getElem? (i := 63) rfl))) (by decide) (backOf (W := 1) (rmCdr l Z a0 hw [] a cst cs h0 n0 Zc3 I1 OX (hcst : ¬ (cst = (0 : Int32))) I4) hZ (hw _ (List.mem_of_getElem? (i := 65) rfl)) (hw _ (List.mem_of_getElem? (i := 8) rfl)) (by decide) (by decide)) q4a q4c (g := (mkF m 6 #[.val (.ref a)] [(.ref a), (.int (Int32.ofNat (own_enl cs)))])) rfl (by rw [hml]; rfl) (Steps.refl _) (argsL := []) (rest := [(.int (Int32.ofNat (own_enl cs)))]) (lenOf pd___B rfl) rfl (by show 2 * 0 + _ ≤ _; exact Nat.le_of_eq rfl) (Jvm.hb hby d_jdk_42_method_54_6) (fun _ _ => ⟨rfl, e1, (by decide : 0 + 0 ≤ _), (by decide : 0 + 0 ≤ _)⟩)
  dsimp only [Pt.U, Pt.locs, Pt.cells, Pt.slots] at X4 l4 y4 z4 st4 hQ4
  subst l4 y4 z4
  obtain ⟨rfl, N4q, e4⟩ := hQ4
  have N4 := Fr.app N0 N4q
  have s5 : ∀ t_, Steps p.tables e below (T4.setTop (mkF m 10 #[.val (.ref a)] [(.int ((Int32.ofNat (own_enl cs)) >>> ((own_cod cs) &&& 31)))])) t_ → Steps p.tables e below (s₁.setTop (entryFrame m #[(.ref a)] 1)) t_ := fun t_ k_ => pre0 t_ (by
    show Steps p.tables e below (s₁.setTop (mkF m 0 #[.val (.ref a)] [])) t_
    refine XS.aloadN X0.here hx rfl (Jvm.hb hby d_jdk_42_method_54_0) rfl rfl ?_
    show Steps p.tables e below (s₁.setTop (mkF m 1 #[.val (.ref a)] [(.ref a)])) _
    refine st1 _ ?_
    show Steps p.tables e below (T1.setTop (mkF m 4 #[.val (.ref a)] [(.ref b)])) _
    refine X1.arraylength hx (by rw [e1]; exact Ar2.1) (State.isArrayOf_alike hZ.alike Ar2.2.1) (g := (mkF m 4 #[.val (.ref a)] [(.ref b)])) rfl rfl (Jvm.hb hby d_jdk_42_method_54_4) _ ?_
    rw [len_of S2 M2]
    show Steps p.tables e below (T1.setTop (mkF m 5 #[.val (.ref a)] [(.int (Int32.ofNat (own_enl cs)))])) _
    refine XS.aloadN X1.here hx rfl (Jvm.hb hby d_jdk_42_method_54_5) rfl rfl ?_
    show Steps p.tables e below (T1.setTop (mkF m 6 #[.val (.ref a)] [(.ref a), (.int (Int32.ofNat (own_enl cs)))])) _
    refine st4.trans ?_
    show Steps p.tables e below (T4.setTop (mkF m 9 #[.val (.ref a)] [(.int (own_cod cs)), (.int (Int32.ofNat (own_enl cs)))])) _
    refine XS.ishr X4.here hx rfl (Jvm.hb hby d_jdk_42_method_54_9) rfl ?_
    show Steps p.tables e below (T4.setTop (mkF m 10 #[.val (.ref a)] [(.int ((Int32.ofNat (own_enl cs)) >>> ((own_cod cs) &&& 31)))])) _
    show Steps p.tables e below (T4.setTop (mkF m 10 #[.val (.ref a)] [(.int ((Int32.ofNat (own_enl cs)) >>> ((own_cod cs) &&& 31)))])) t_
    exact k_)
  obtain ⟨fs, hr, hrun, hended, hW, hsame⟩ := X4.leave (v := some (.int ((Int32.ofNat (own_enl cs)) >>> ((own_cod cs) &&& 31)))) (fun h => by rw [Bd.returns] at h; cases h)
  refine ⟨_, _, s5 _ ?_, hrun, hended, _, _, rfl, ?_, ⟨_, rfl⟩, hW, hsame.mono (by decide) (by decide)⟩
  · show Steps p.tables e below (T4.setTop (mkF m 10 #[.val (.ref a)] [(.int ((Int32.ofNat (own_enl cs)) >>> ((own_cod cs) &&& 31)))])) _
    exact retI X4 hx Bd.returns (Jvm.hb hby d_jdk_42_method_54_10) hr
  · show Q_rmLen Z _ _ _ _ _ h0 n0 _ T4.heap _
    rw [e4]
    exact ⟨(by rw [own_lenq cs (by omega)]), N4, rfl⟩
theorem d_jdk_42_method_154_0 : decode jdk_42_method_154_code 0 = .ok (.getstatic 38, 3) := by decide +kernel
theorem d_jdk_42_method_154_3 : decode jdk_42_method_154_code 3 = .ok (.ifCond .eq 14, 3) := by decide +kernel
theorem d_jdk_42_method_154_6 : decode jdk_42_method_154_code 6 = .ok (.aload_n 0, 1) := by decide +kernel
theorem d_jdk_42_method_154_7 : decode jdk_42_method_154_code 7 = .ok (.getfield 15, 3) := by decide +kernel
theorem d_jdk_42_method_154_10 : decode jdk_42_method_154_code 10 = .ok (.ifCond .ne 7, 3) := by decide +kernel
theorem d_jdk_42_method_154_13 : decode jdk_42_method_154_code 13 = .ok (.iconst 1, 1) := by decide +kernel
theorem d_jdk_42_method_154_14 : decode jdk_42_method_154_code 14 = .ok (.goto 4, 3) := by decide +kernel
theorem d_jdk_42_method_154_18 : decode jdk_42_method_154_code 18 = .ok (.ireturn, 1) := by decide +kernel
theorem d_jdk_42_method_154_17 : decode jdk_42_method_154_code 17 = .ok (.iconst 0, 1) := by decide +kernel
theorem ef_rmIsL (m : MethodId) (x0 : Addr) : entryFrame m #[(.ref x0)] 1 = mkF m 0 #[.val (.ref x0)] [] := by first | (simp [entryFrame, mkF, argsToLocals, Value.category]; done) | rfl
def Q_rmIsL (Z : State) (a : Addr) (cst : Int32) (cs : List Int32) (h0 : Heap) (n0 : Nat) (v : Option Value) (h : Heap) (L : List Loc) : Prop := (v = some (.int (if own_cod cs = (0 : Int32) then (1 : Int32) else (0 : Int32)))) ∧ (Fr n0 L) ∧ (h = h0)
set_option maxRecDepth 65536 in
set_option maxHeartbeats 40000000 in
theorem rmIsL (l : Launch) (Z : State) (a0 : Array Value) (hw : ∀ d ∈ tables_1, d.before a0 Z = true) (ws : List Jvm.Cond) (a : Addr) (cst : Int32) (cs : List Int32) (h0 : Heap) (n0 : Nat) (Z0 : n0 ≤ h0.size) (I1 : Sta Z Z.heap "java/lang/String" "COMPACT_STRINGS" "Z" (.int cst)) (OX : Old Z n0 h0) (hcst : ¬ (cst = (0 : Int32))) (I2 : Fld Z h0 a "java/lang/String" "coder" "B" (.int (own_cod cs))) :
    MetFree l (⟨"java/lang/String", "isLatin1", "()Z"⟩ : MethodName) (head1 (Jvm.Cond.code (⟨"java/lang/String", "isLatin1", "()Z"⟩ : MethodName) jdk_42_method_154_code 1 (some .boolean) :: ws) ({ frames := 0, cells := 0, slots := 0, locals := 0 } : Room)) (fun ar_ U => ar_ = #[(.ref a)] ∧ Z.Warmed39 U.vm ∧ U.heap = h0) (fun _ _ _ _ _ => True) (fun _ U o U' => ∃ v L, o = .returned v ∧ Q_rmIsL Z a cst cs h0 n0 v U'.heap L ∧ FrameEnd U o U' L ({ frames := 0, cells := 0, slots := 0, locals := 0 } : Room).cells ({ frames := 0, cells := 0, slots := 0, locals := 0 } : Room).slots) := by
  refine MetFree.of_bodySF (plainFor_of_name pn_java_lang_String) hisR ?_
  intro p e s m args below meth c s₁ Bd hml0 hP hK
  obtain ⟨rfl, hZ, hh⟩ := hP
  have hx := Bd.exec
  have hby := Bd.bytes
  have hml : c.maxLocals = 1 := hml0
  have hown : s.vm.findClass "java/lang/String" = some m.cls := findClass_of_methodNamed Bd.named
  have hnm := (name_of_methodNamed Bd.named Bd.method).1
  have X0 : Stand p l e ({ frames := 0, cells := 0, slots := 0, locals := 0 } : Room) s m #[(.ref a)] below meth c s₁ [] 0 0 := Stand.of_body Bd
  have e0 : s₁.heap = h0 := by rw [← hh, Bd.state]; rfl
  have N0 := Fr.nil n0
  have pre0 : ∀ t_, Steps p.tables e below (s₁.setTop (mkF m 0 #[.val (.ref a)] [])) t_ → Steps p.tables e below (s₁.setTop (entryFrame m #[(.ref a)] 1)) t_ := fun t_ k_ => castTop (ef_rmIsL m a) k_
  have lt_I2 : @LT.lt Nat _ a h0.size := I2.lt
  obtain ⟨T1, X1, e1, st1⟩ := getS2 X0 hx hZ hown (host := "") (Or.inl (hw _ (List.mem_of_getElem? (i := 19) rfl))) Via.refl e0 (I1.ext OX.2) (g := (mkF m 0 #[.val (.ref a)] [])) rfl (Jvm.hb hby d_jdk_42_method_154_0)
  obtain ⟨T2, X2, e2, st2⟩ := getF X1 hx hZ hown (host := "") (Or.inl (hw _ (List.mem_of_getElem? (i := 31) rfl))) Via.refl e1 I2 (g := (mkF m 7 #[.val (.ref a)] [(.ref a)])) rfl rfl (Jvm.hb hby d_jdk_42_method_154_7)
  have s3 : ∀ t_, Steps p.tables e below (T2.setTop (mkF m 10 #[.val (.ref a)] [(.int (own_cod cs))])) t_ → Steps p.tables e below (s₁.setTop (entryFrame m #[(.ref a)] 1)) t_ := fun t_ k_ => pre0 t_ (by
    show Steps p.tables e below (s₁.setTop (mkF m 0 #[.val (.ref a)] [])) t_
    refine st1 _ ?_
    show Steps p.tables e below (T1.setTop (mkF m 3 #[.val (.ref a)] [(.int cst)])) _
    refine XS.ifNo X1.here hx rfl (Jvm.hb hby d_jdk_42_method_154_3) rfl ((if0 _ _).trans (feq hcst).1) ?_
    show Steps p.tables e below (T1.setTop (mkF m 6 #[.val (.ref a)] [])) _
    refine XS.aloadN X1.here hx rfl (Jvm.hb hby d_jdk_42_method_154_6) rfl rfl ?_
    show Steps p.tables e below (T1.setTop (mkF m 7 #[.val (.ref a)] [(.ref a)])) _
    refine st2 _ ?_
    show Steps p.tables e below (T2.setTop (mkF m 10 #[.val (.ref a)] [(.int (own_cod cs))])) _
    show Steps p.tables e below (T2.setTop (mkF m 10 #[.val (.ref a)] [(.int (own_cod cs))])) t_
    exact k_)
  by_cases h4 : (own_cod cs) = (0 : Int32)
  · have s5 : ∀ t_, Steps p.tables e below (T2.setTop (mkF m 18 #[.val (.ref a)] [(.int (1 : Int32))])) t_ → Steps p.tables e below (s₁.setTop (entryFrame m #[(.ref a)] 1)) t_ := fun t_ k_ => s3 t_ (by
      show Steps p.tables e below (T2.setTop (mkF m 10 #[.val (.ref a)] [(.int (own_cod cs))])) t_
      refine XS.ifNo X2.here hx rfl (Jvm.hb hby d_jdk_42_method_154_10) rfl ((if0 _ _).trans (teq h4).2) ?_
      show Steps p.tables e below (T2.setTop (mkF m 13 #[.val (.ref a)] [])) _
      refine XS.iconst X2.here hx rfl (Jvm.hb hby d_jdk_42_method_154_13) ?_
      show Steps p.tables e below (T2.setTop (mkF m 14 #[.val (.ref a)] [(.int (1 : Int32))])) _
      refine XS.goto X2.here hx rfl (pc0 := 14) (pc' := 18) rfl (Jvm.hb hby d_jdk_42_method_154_14) (by decide) (by decide) ?_
      show Steps p.tables e below (T2.setTop (mkF m 18 #[.val (.ref a)] [(.int (1 : Int32))])) _
      show Steps p.tables e below (T2.setTop (mkF m 18 #[.val (.ref a)] [(.int (1 : Int32))])) t_
      exact k_)
    obtain ⟨fs, hr, hrun, hended, hW, hsame⟩ := X2.leave (v := some (.int (1 : Int32))) (fun h => by rw [Bd.returns] at h; cases h)
    refine ⟨_, _, s5 _ ?_, hrun, hended, _, _, rfl, ?_, ⟨_, rfl⟩, hW, hsame.mono (by decide) (by decide)⟩
    · show Steps p.tables e below (T2.setTop (mkF m 18 #[.val (.ref a)] [(.int (1 : Int32))])) _
      exact retN X2 hx (t := .boolean) Bd.returns (by simp) (Jvm.hb hby d_jdk_42_method_154_18) hr
    · show Q_rmIsL Z _ _ _ h0 n0 _ T2.heap _
      rw [e2]
      exact ⟨(by first | rfl | (simp only [if_pos h4]; done) | (simp only [if_pos h4]; rfl) | (simp only [if_pos h4, own_narb]; done)), N0, rfl⟩
  · have s6 : ∀ t_, Steps p.tables e below (T2.setTop (mkF m 18 #[.val (.ref a)] [(.int (0 : Int32))])) t_ → Steps p.tables e below (s₁.setTop (entryFrame m #[(.ref a)] 1)) t_ := fun t_ k_ => s3 t_ (by
      show Steps p.tables e below (T2.setTop (mkF m 10 #[.val (.ref a)] [(.int (own_cod cs))])) t_
      refine XS.ifYes X2.here hx rfl (pc0 := 10) (pc' := 17) rfl (Jvm.hb hby d_jdk_42_method_154_10) rfl ((if0 _ _).trans (feq h4).2) (by decide) (by decide) ?_
      show Steps p.tables e below (T2.setTop (mkF m 17 #[.val (.ref a)] [])) _
      refine XS.iconst X2.here hx rfl (Jvm.hb hby d_jdk_42_method_154_17) ?_
      show Steps p.tables e below (T2.setTop (mkF m 18 #[.val (.ref a)] [(.int (0 : Int32))])) _
      show Steps p.tables e below (T2.setTop (mkF m 18 #[.val (.ref a)] [(.int (0 : Int32))])) t_
      exact k_)
    obtain ⟨fs, hr, hrun, hended, hW, hsame⟩ := X2.leave (v := some (.int (0 : Int32))) (fun h => by rw [Bd.returns] at h; cases h)
    refine ⟨_, _, s6 _ ?_, hrun, hended, _, _, rfl, ?_, ⟨_, rfl⟩, hW, hsame.mono (by decide) (by decide)⟩
    · show Steps p.tables e below (T2.setTop (mkF m 18 #[.val (.ref a)] [(.int (0 : Int32))])) _
      exact retN X2 hx (t := .boolean) Bd.returns (by simp) (Jvm.hb hby d_jdk_42_method_154_18) hr
    · show Q_rmIsL Z _ _ _ h0 n0 _ T2.heap _
      rw [e2]
      exact ⟨(by first | rfl | (simp only [if_neg h4]; done) | (simp only [if_neg h4]; rfl) | (simp only [if_neg h4, own_narb]; done)), N0, rfl⟩
theorem d_jdk_29_method_69_0 : decode jdk_29_method_69_code 0 = .ok (.iload_n 0, 1) := by decide +kernel
theorem d_jdk_29_method_69_1 : decode jdk_29_method_69_code 1 = .ok (.iload_n 1, 1) := by decide +kernel
theorem d_jdk_29_method_69_2 : decode jdk_29_method_69_code 2 = .ok (.if_icmp .gt 7, 3) := by decide +kernel
theorem d_jdk_29_method_69_9 : decode jdk_29_method_69_code 9 = .ok (.iload_n 1, 1) := by decide +kernel
theorem d_jdk_29_method_69_10 : decode jdk_29_method_69_code 10 = .ok (.ireturn, 1) := by decide +kernel
theorem d_jdk_29_method_69_5 : decode jdk_29_method_69_code 5 = .ok (.iload_n 0, 1) := by decide +kernel
theorem d_jdk_29_method_69_6 : decode jdk_29_method_69_code 6 = .ok (.goto 4, 3) := by decide +kernel
theorem ef_rmMin (m : MethodId) (x0 : Int32) (x1 : Int32) : entryFrame m #[(.int x0), (.int x1)] 2 = mkF m 0 #[.val (.int x0), .val (.int x1)] [] := by first | (simp [entryFrame, mkF, argsToLocals, Value.category]; done) | rfl
def Q_rmMin (Z : State) (i : Nat) (j : Nat) (h0 : Heap) (n0 : Nat) (v : Option Value) (h : Heap) (L : List Loc) : Prop := (v = some (.int (Int32.ofNat (min i j)))) ∧ (Fr n0 L) ∧ (h = h0)
set_option maxRecDepth 65536 in
set_option maxHeartbeats 40000000 in
theorem rmMin (l : Launch) (Z : State) (a0 : Array Value) (hw : ∀ d ∈ tables_1, d.before a0 Z = true) (ws : List Jvm.Cond) (i : Nat) (j : Nat) (h0 : Heap) (n0 : Nat) (Z0 : n0 ≤ h0.size) (hi : i ≤ 8000) (hj : j ≤ 8000) :
    MetFree l (⟨"java/lang/Math", "min", "(II)I"⟩ : MethodName) (head1 (Jvm.Cond.code (⟨"java/lang/Math", "min", "(II)I"⟩ : MethodName) jdk_29_method_69_code 2 (some .int) :: ws) ({ frames := 0, cells := 0, slots := 0, locals := 0 } : Room)) (fun ar_ U => ar_ = #[(.int (Int32.ofNat i)), (.int (Int32.ofNat j))] ∧ Z.Warmed39 U.vm ∧ U.heap = h0) (fun _ _ _ _ _ => True) (fun _ U o U' => ∃ v L, o = .returned v ∧ Q_rmMin Z i j h0 n0 v U'.heap L ∧ FrameEnd U o U' L ({ frames := 0, cells := 0, slots := 0, locals := 0 } : Room).cells ({ frames := 0, cells := 0, slots := 0, locals := 0 } : Room).slots) := by
  refine MetFree.of_bodySF (Jvm.Free.JP.mathPlain rfl (by decide +kernel)) hisR ?_
  intro p e s m args below meth c s₁ Bd hml0 hP hK
  obtain ⟨rfl, hZ, hh⟩ := hP
  have hx := Bd.exec
  have hby := Bd.bytes
  have hml : c.maxLocals = 2 := hml0
  have hown : s.vm.findClass "java/lang/Math" = some m.cls := findClass_of_methodNamed Bd.named
  have hnm := (name_of_methodNamed Bd.named Bd.method).1
  have X0 : Stand p l e ({ frames := 0, cells := 0, slots := 0, locals := 0 } : Room) s m #[(.int (Int32.ofNat i)), (.int (Int32.ofNat j))] below meth c s₁ [] 0 0 := Stand.of_body Bd
  have e0 : s₁.heap = h0 := by rw [← hh, Bd.state]; rfl
  have N0 := Fr.nil n0
  have pre0 : ∀ t_, Steps p.tables e below (s₁.setTop (mkF m 0 #[.val (.int (Int32.ofNat i)), .val (.int (Int32.ofNat j))] [])) t_ → Steps p.tables e below (s₁.setTop (entryFrame m #[(.int (Int32.ofNat i)), (.int (Int32.ofNat j))] 2)) t_ := fun t_ k_ => castTop (ef_rmMin m (Int32.ofNat i) (Int32.ofNat j)) k_
  have s1 : ∀ t_, Steps p.tables e below (s₁.setTop (mkF m 2 #[.val (.int (Int32.ofNat i)), .val (.int (Int32.ofNat j))] [(.int (Int32.ofNat j)), (.int (Int32.ofNat i))])) t_ → Steps p.tables e below (s₁.setTop (entryFrame m #[(.int (Int32.ofNat i)), (.int (Int32.ofNat j))] 2)) t_ := fun t_ k_ => pre0 t_ (by
    show Steps p.tables e below (s₁.setTop (mkF m 0 #[.val (.int (Int32.ofNat i)), .val (.int (Int32.ofNat j))] [])) t_
    refine XS.iloadN X0.here hx rfl (Jvm.hb hby d_jdk_29_method_69_0) rfl ?_
    show Steps p.tables e below (s₁.setTop (mkF m 1 #[.val (.int (Int32.ofNat i)), .val (.int (Int32.ofNat j))] [(.int (Int32.ofNat i))])) _
    refine XS.iloadN X0.here hx rfl (Jvm.hb hby d_jdk_29_method_69_1) rfl ?_
    show Steps p.tables e below (s₁.setTop (mkF m 2 #[.val (.int (Int32.ofNat i)), .val (.int (Int32.ofNat j))] [(.int (Int32.ofNat j)), (.int (Int32.ofNat i))])) _
    show Steps p.tables e below (s₁.setTop (mkF m 2 #[.val (.int (Int32.ofNat i)), .val (.int (Int32.ofNat j))] [(.int (Int32.ofNat j)), (.int (Int32.ofNat i))])) t_
    exact k_)
  by_cases h2 : (Int32.ofNat j) < (Int32.ofNat i)
  · have s3 : ∀ t_, Steps p.tables e below (s₁.setTop (mkF m 10 #[.val (.int (Int32.ofNat i)), .val (.int (Int32.ofNat j))] [(.int (Int32.ofNat j))])) t_ → Steps p.tables e below (s₁.setTop (entryFrame m #[(.int (Int32.ofNat i)), (.int (Int32.ofNat j))] 2)) t_ := fun t_ k_ => s1 t_ (by
      show Steps p.tables e below (s₁.setTop (mkF m 2 #[.val (.int (Int32.ofNat i)), .val (.int (Int32.ofNat j))] [(.int (Int32.ofNat j)), (.int (Int32.ofNat i))])) t_
      refine XS.icmpYes X0.here hx rfl (pc0 := 2) (pc' := 9) rfl (Jvm.hb hby d_jdk_29_method_69_2) rfl (tlt h2).2.2.1 (by decide) (by decide) ?_
      show Steps p.tables e below (s₁.setTop (mkF m 9 #[.val (.int (Int32.ofNat i)), .val (.int (Int32.ofNat j))] [])) _
      refine XS.iloadN X0.here hx rfl (Jvm.hb hby d_jdk_29_method_69_9) rfl ?_
      show Steps p.tables e below (s₁.setTop (mkF m 10 #[.val (.int (Int32.ofNat i)), .val (.int (Int32.ofNat j))] [(.int (Int32.ofNat j))])) _
      show Steps p.tables e below (s₁.setTop (mkF m 10 #[.val (.int (Int32.ofNat i)), .val (.int (Int32.ofNat j))] [(.int (Int32.ofNat j))])) t_
      exact k_)
    obtain ⟨fs, hr, hrun, hended, hW, hsame⟩ := X0.leave (v := some (.int (Int32.ofNat j))) (fun h => by rw [Bd.returns] at h; cases h)
    refine ⟨_, _, s3 _ ?_, hrun, hended, _, _, rfl, ?_, ⟨_, rfl⟩, hW, hsame.mono (by decide) (by decide)⟩
    · show Steps p.tables e below (s₁.setTop (mkF m 10 #[.val (.int (Int32.ofNat i)), .val (.int (Int32.ofNat j))] [(.int (Int32.ofNat j))])) _
      exact retI X0 hx Bd.returns (Jvm.hb hby d_jdk_29_method_69_10) hr
    · show Q_rmMin Z _ _ h0 n0 _ s₁.heap _
      rw [e0]
      exact ⟨(by rw [own_minF hi hj h2]), N0, rfl⟩
  · have s4 : ∀ t_, Steps p.tables e below (s₁.setTop (mkF m 10 #[.val (.int (Int32.ofNat i)), .val (.int (Int32.ofNat j))] [(.int (Int32.ofNat i))])) t_ → Steps p.tables e below (s₁.setTop (entryFrame m #[(.int (Int32.ofNat i)), (.int (Int32.ofNat j))] 2)) t_ := fun t_ k_ => s1 t_ (by
      show Steps p.tables e below (s₁.setTop (mkF m 2 #[.val (.int (Int32.ofNat i)), .val (.int (Int32.ofNat j))] [(.int (Int32.ofNat j)), (.int (Int32.ofNat i))])) t_
      refine XS.icmpNo X0.here hx rfl (Jvm.hb hby d_jdk_29_method_69_2) rfl (flt h2).2.2.1 ?_
      show Steps p.tables e below (s₁.setTop (mkF m 5 #[.val (.int (Int32.ofNat i)), .val (.int (Int32.ofNat j))] [])) _
      refine XS.iloadN X0.here hx rfl (Jvm.hb hby d_jdk_29_method_69_5) rfl ?_
      show Steps p.tables e below (s₁.setTop (mkF m 6 #[.val (.int (Int32.ofNat i)), .val (.int (Int32.ofNat j))] [(.int (Int32.ofNat i))])) _
      refine XS.goto X0.here hx rfl (pc0 := 6) (pc' := 10) rfl (Jvm.hb hby d_jdk_29_method_69_6) (by decide) (by decide) ?_
      show Steps p.tables e below (s₁.setTop (mkF m 10 #[.val (.int (Int32.ofNat i)), .val (.int (Int32.ofNat j))] [(.int (Int32.ofNat i))])) _
      show Steps p.tables e below (s₁.setTop (mkF m 10 #[.val (.int (Int32.ofNat i)), .val (.int (Int32.ofNat j))] [(.int (Int32.ofNat i))])) t_
      exact k_)
    obtain ⟨fs, hr, hrun, hended, hW, hsame⟩ := X0.leave (v := some (.int (Int32.ofNat i))) (fun h => by rw [Bd.returns] at h; cases h)
    refine ⟨_, _, s4 _ ?_, hrun, hended, _, _, rfl, ?_, ⟨_, rfl⟩, hW, hsame.mono (by decide) (by decide)⟩
    · show Steps p.tables e below (s₁.setTop (mkF m 10 #[.val (.int (Int32.ofNat i)), .val (.int (Int32.ofNat j))] [(.int (Int32.ofNat i))])) _
      exact retI X0 hx Bd.returns (Jvm.hb hby d_jdk_29_method_69_10) hr
    · show Q_rmMin Z _ _ h0 n0 _ s₁.heap _
      rw [e0]
      exact ⟨(by rw [own_minT hi hj h2]), N0, rfl⟩
theorem d_jdk_29_method_65_0 : decode jdk_29_method_65_code 0 = .ok (.iload_n 0, 1) := by decide +kernel
theorem d_jdk_29_method_65_1 : decode jdk_29_method_65_code 1 = .ok (.iload_n 1, 1) := by decide +kernel
theorem d_jdk_29_method_65_2 : decode jdk_29_method_65_code 2 = .ok (.if_icmp .lt 7, 3) := by decide +kernel
theorem d_jdk_29_method_65_9 : decode jdk_29_method_65_code 9 = .ok (.iload_n 1, 1) := by decide +kernel
theorem d_jdk_29_method_65_10 : decode jdk_29_method_65_code 10 = .ok (.ireturn, 1) := by decide +kernel
theorem d_jdk_29_method_65_5 : decode jdk_29_method_65_code 5 = .ok (.iload_n 0, 1) := by decide +kernel
theorem d_jdk_29_method_65_6 : decode jdk_29_method_65_code 6 = .ok (.goto 4, 3) := by decide +kernel
theorem ef_rmMax (m : MethodId) (x0 : Int32) (x1 : Int32) : entryFrame m #[(.int x0), (.int x1)] 2 = mkF m 0 #[.val (.int x0), .val (.int x1)] [] := by first | (simp [entryFrame, mkF, argsToLocals, Value.category]; done) | rfl
def Q_rmMax (Z : State) (i : Nat) (j : Nat) (h0 : Heap) (n0 : Nat) (v : Option Value) (h : Heap) (L : List Loc) : Prop := (v = some (.int (Int32.ofNat (max i j)))) ∧ (Fr n0 L) ∧ (h = h0)
set_option maxRecDepth 65536 in
set_option maxHeartbeats 40000000 in
theorem rmMax (l : Launch) (Z : State) (a0 : Array Value) (hw : ∀ d ∈ tables_1, d.before a0 Z = true) (ws : List Jvm.Cond) (i : Nat) (j : Nat) (h0 : Heap) (n0 : Nat) (Z0 : n0 ≤ h0.size) (hi : i ≤ 8000) (hj : j ≤ 8000) :
    MetFree l (⟨"java/lang/Math", "max", "(II)I"⟩ : MethodName) (head1 (Jvm.Cond.code (⟨"java/lang/Math", "max", "(II)I"⟩ : MethodName) jdk_29_method_65_code 2 (some .int) :: ws) ({ frames := 0, cells := 0, slots := 0, locals := 0 } : Room)) (fun ar_ U => ar_ = #[(.int (Int32.ofNat i)), (.int (Int32.ofNat j))] ∧ Z.Warmed39 U.vm ∧ U.heap = h0) (fun _ _ _ _ _ => True) (fun _ U o U' => ∃ v L, o = .returned v ∧ Q_rmMax Z i j h0 n0 v U'.heap L ∧ FrameEnd U o U' L ({ frames := 0, cells := 0, slots := 0, locals := 0 } : Room).cells ({ frames := 0, cells := 0, slots := 0, locals := 0 } : Room).slots) := by
  refine MetFree.of_bodySF (Jvm.Free.JP.mathPlain rfl (by decide +kernel)) hisR ?_
  intro p e s m args below meth c s₁ Bd hml0 hP hK
  obtain ⟨rfl, hZ, hh⟩ := hP
  have hx := Bd.exec
  have hby := Bd.bytes
  have hml : c.maxLocals = 2 := hml0
  have hown : s.vm.findClass "java/lang/Math" = some m.cls := findClass_of_methodNamed Bd.named
  have hnm := (name_of_methodNamed Bd.named Bd.method).1
  have X0 : Stand p l e ({ frames := 0, cells := 0, slots := 0, locals := 0 } : Room) s m #[(.int (Int32.ofNat i)), (.int (Int32.ofNat j))] below meth c s₁ [] 0 0 := Stand.of_body Bd
  have e0 : s₁.heap = h0 := by rw [← hh, Bd.state]; rfl
  have N0 := Fr.nil n0
  have pre0 : ∀ t_, Steps p.tables e below (s₁.setTop (mkF m 0 #[.val (.int (Int32.ofNat i)), .val (.int (Int32.ofNat j))] [])) t_ → Steps p.tables e below (s₁.setTop (entryFrame m #[(.int (Int32.ofNat i)), (.int (Int32.ofNat j))] 2)) t_ := fun t_ k_ => castTop (ef_rmMax m (Int32.ofNat i) (Int32.ofNat j)) k_
  have s1 : ∀ t_, Steps p.tables e below (s₁.setTop (mkF m 2 #[.val (.int (Int32.ofNat i)), .val (.int (Int32.ofNat j))] [(.int (Int32.ofNat j)), (.int (Int32.ofNat i))])) t_ → Steps p.tables e below (s₁.setTop (entryFrame m #[(.int (Int32.ofNat i)), (.int (Int32.ofNat j))] 2)) t_ := fun t_ k_ => pre0 t_ (by
    show Steps p.tables e below (s₁.setTop (mkF m 0 #[.val (.int (Int32.ofNat i)), .val (.int (Int32.ofNat j))] [])) t_
    refine XS.iloadN X0.here hx rfl (Jvm.hb hby d_jdk_29_method_65_0) rfl ?_
    show Steps p.tables e below (s₁.setTop (mkF m 1 #[.val (.int (Int32.ofNat i)), .val (.int (Int32.ofNat j))] [(.int (Int32.ofNat i))])) _
    refine XS.iloadN X0.here hx rfl (Jvm.hb hby d_jdk_29_method_65_1) rfl ?_
    show Steps p.tables e below (s₁.setTop (mkF m 2 #[.val (.int (Int32.ofNat i)), .val (.int (Int32.ofNat j))] [(.int (Int32.ofNat j)), (.int (Int32.ofNat i))])) _
    show Steps p.tables e below (s₁.setTop (mkF m 2 #[.val (.int (Int32.ofNat i)), .val (.int (Int32.ofNat j))] [(.int (Int32.ofNat j)), (.int (Int32.ofNat i))])) t_
    exact k_)
  by_cases h2 : (Int32.ofNat i) < (Int32.ofNat j)
  · have s3 : ∀ t_, Steps p.tables e below (s₁.setTop (mkF m 10 #[.val (.int (Int32.ofNat i)), .val (.int (Int32.ofNat j))] [(.int (Int32.ofNat j))])) t_ → Steps p.tables e below (s₁.setTop (entryFrame m #[(.int (Int32.ofNat i)), (.int (Int32.ofNat j))] 2)) t_ := fun t_ k_ => s1 t_ (by
      show Steps p.tables e below (s₁.setTop (mkF m 2 #[.val (.int (Int32.ofNat i)), .val (.int (Int32.ofNat j))] [(.int (Int32.ofNat j)), (.int (Int32.ofNat i))])) t_
      refine XS.icmpYes X0.here hx rfl (pc0 := 2) (pc' := 9) rfl (Jvm.hb hby d_jdk_29_method_65_2) rfl (tlt h2).1 (by decide) (by decide) ?_
      show Steps p.tables e below (s₁.setTop (mkF m 9 #[.val (.int (Int32.ofNat i)), .val (.int (Int32.ofNat j))] [])) _
      refine XS.iloadN X0.here hx rfl (Jvm.hb hby d_jdk_29_method_65_9) rfl ?_
      show Steps p.tables e below (s₁.setTop (mkF m 10 #[.val (.int (Int32.ofNat i)), .val (.int (Int32.ofNat j))] [(.int (Int32.ofNat j))])) _
      show Steps p.tables e below (s₁.setTop (mkF m 10 #[.val (.int (Int32.ofNat i)), .val (.int (Int32.ofNat j))] [(.int (Int32.ofNat j))])) t_
      exact k_)
    obtain ⟨fs, hr, hrun, hended, hW, hsame⟩ := X0.leave (v := some (.int (Int32.ofNat j))) (fun h => by rw [Bd.returns] at h; cases h)
    refine ⟨_, _, s3 _ ?_, hrun, hended, _, _, rfl, ?_, ⟨_, rfl⟩, hW, hsame.mono (by decide) (by decide)⟩
    · show Steps p.tables e below (s₁.setTop (mkF m 10 #[.val (.int (Int32.ofNat i)), .val (.int (Int32.ofNat j))] [(.int (Int32.ofNat j))])) _
      exact retI X0 hx Bd.returns (Jvm.hb hby d_jdk_29_method_65_10) hr
    · show Q_rmMax Z _ _ h0 n0 _ s₁.heap _
      rw [e0]
      exact ⟨(by rw [own_maxT hi hj h2]), N0, rfl⟩
  · have s4 : ∀ t_, Steps p.tables e below (s₁.setTop (mkF m 10 #[.val (.int (Int32.ofNat i)), .val (.int (Int32.ofNat j))] [(.int (Int32.ofNat i))])) t_ → Steps p.tables e below (s₁.setTop (entryFrame m #[(.int (Int32.ofNat i)), (.int (Int32.ofNat j))] 2)) t_ := fun t_ k_ => s1 t_ (by
      show Steps p.tables e below (s₁.setTop (mkF m 2 #[.val (.int (Int32.ofNat i)), .val (.int (Int32.ofNat j))] [(.int (Int32.ofNat j)), (.int (Int32.ofNat i))])) t_
      refine XS.icmpNo X0.here hx rfl (Jvm.hb hby d_jdk_29_method_65_2) rfl (flt h2).1 ?_
      show Steps p.tables e below (s₁.setTop (mkF m 5 #[.val (.int (Int32.ofNat i)), .val (.int (Int32.ofNat j))] [])) _
      refine XS.iloadN X0.here hx rfl (Jvm.hb hby d_jdk_29_method_65_5) rfl ?_
      show Steps p.tables e below (s₁.setTop (mkF m 6 #[.val (.int (Int32.ofNat i)), .val (.int (Int32.ofNat j))] [(.int (Int32.ofNat i))])) _
      refine XS.goto X0.here hx rfl (pc0 := 6) (pc' := 10) rfl (Jvm.hb hby d_jdk_29_method_65_6) (by decide) (by decide) ?_
      show Steps p.tables e below (s₁.setTop (mkF m 10 #[.val (.int (Int32.ofNat i)), .val (.int (Int32.ofNat j))] [(.int (Int32.ofNat i))])) _
      show Steps p.tables e below (s₁.setTop (mkF m 10 #[.val (.int (Int32.ofNat i)), .val (.int (Int32.ofNat j))] [(.int (Int32.ofNat i))])) t_
      exact k_)
    obtain ⟨fs, hr, hrun, hended, hW, hsame⟩ := X0.leave (v := some (.int (Int32.ofNat i))) (fun h => by rw [Bd.returns] at h; cases h)
    refine ⟨_, _, s4 _ ?_, hrun, hended, _, _, rfl, ?_, ⟨_, rfl⟩, hW, hsame.mono (by decide) (by decide)⟩
    · show Steps p.tables e below (s₁.setTop (mkF m 10 #[.val (.int (Int32.ofNat i)), .val (.int (Int32.ofNat j))] [(.int (Int32.ofNat i))])) _
      exact retI X0 hx Bd.returns (Jvm.hb hby d_jdk_29_method_65_10) hr
    · show Q_rmMax Z _ _ h0 n0 _ s₁.heap _
      rw [e0]
      exact ⟨(by rw [own_maxF hi hj h2]), N0, rfl⟩
theorem pn_java_lang_StringLatin1 : plainName "java/lang/StringLatin1" = true := by first | (simp [plainName, overriddenIn]; done) | decide +kernel
theorem d_jdk_43_method_4_0 : decode jdk_43_method_4_code 0 = .ok (.iload_n 0, 1) := by decide +kernel
theorem d_jdk_43_method_4_1 : decode jdk_43_method_4_code 1 = .ok (.ifCond .lt 14, 3) := by decide +kernel
theorem d_jdk_43_method_4_4 : decode jdk_43_method_4_code 4 = .ok (.iload_n 0, 1) := by decide +kernel
theorem d_jdk_43_method_4_5 : decode jdk_43_method_4_code 5 = .ok (.sipush 255, 3) := by decide +kernel
theorem d_jdk_43_method_4_8 : decode jdk_43_method_4_code 8 = .ok (.if_icmp .gt 7, 3) := by decide +kernel
theorem d_jdk_43_method_4_15 : decode jdk_43_method_4_code 15 = .ok (.iconst 0, 1) := by decide +kernel
theorem d_jdk_43_method_4_16 : decode jdk_43_method_4_code 16 = .ok (.ireturn, 1) := by decide +kernel
theorem d_jdk_43_method_4_11 : decode jdk_43_method_4_code 11 = .ok (.iconst 1, 1) := by decide +kernel
theorem d_jdk_43_method_4_12 : decode jdk_43_method_4_code 12 = .ok (.goto 4, 3) := by decide +kernel
theorem ef_rmCanI (m : MethodId) (x0 : Int32) : entryFrame m #[(.int x0)] 1 = mkF m 0 #[.val (.int x0)] [] := by first | (simp [entryFrame, mkF, argsToLocals, Value.category]; done) | rfl
def Q_rmCanI (Z : State) (ch : Int32) (h0 : Heap) (n0 : Nat) (v : Option Value) (h : Heap) (L : List Loc) : Prop := (v = some (.int (if (255 : Int32) < ch then (0 : Int32) else (1 : Int32)))) ∧ (Fr n0 L) ∧ (h = h0)
set_option maxRecDepth 65536 in
set_option maxHeartbeats 40000000 in
theorem rmCanI (l : Launch) (Z : State) (a0 : Array Value) (hw : ∀ d ∈ tables_1, d.before a0 Z = true) (ws : List Jvm.Cond) (ch : Int32) (h0 : Heap) (n0 : Nat) (Z0 : n0 ≤ h0.size) (hc0 : ¬ (ch < (0 : Int32))) :
    MetFree l (⟨"java/lang/StringLatin1", "canEncode", "(I)Z"⟩ : MethodName) (head1 (Jvm.Cond.code (⟨"java/lang/StringLatin1", "canEncode", "(I)Z"⟩ : MethodName) jdk_43_method_4_code 1 (some .boolean) :: ws) ({ frames := 0, cells := 0, slots := 0, locals := 0 } : Room)) (fun ar_ U => ar_ = #[(.int ch)] ∧ Z.Warmed39 U.vm ∧ U.heap = h0) (fun _ _ _ _ _ => True) (fun _ U o U' => ∃ v L, o = .returned v ∧ Q_rmCanI Z ch h0 n0 v U'.heap L ∧ FrameEnd U o U' L ({ frames := 0, cells := 0, slots := 0, locals := 0 } : Room).cells ({ frames := 0, cells := 0, slots := 0, locals := 0 } : Room).slots) := by
  refine MetFree.of_bodySF (plainFor_of_name pn_java_lang_StringLatin1) hisR ?_
  intro p e s m args below meth c s₁ Bd hml0 hP hK
  obtain ⟨rfl, hZ, hh⟩ := hP
  have hx := Bd.exec
  have hby := Bd.bytes
  have hml : c.maxLocals = 1 := hml0
  have hown : s.vm.findClass "java/lang/StringLatin1" = some m.cls := findClass_of_methodNamed Bd.named
  have hnm := (name_of_methodNamed Bd.named Bd.method).1
  have X0 : Stand p l e ({ frames := 0, cells := 0, slots := 0, locals := 0 } : Room) s m #[(.int ch)] below meth c s₁ [] 0 0 := Stand.of_body Bd
  have e0 : s₁.heap = h0 := by rw [← hh, Bd.state]; rfl
  have N0 := Fr.nil n0
  have pre0 : ∀ t_, Steps p.tables e below (s₁.setTop (mkF m 0 #[.val (.int ch)] [])) t_ → Steps p.tables e below (s₁.setTop (entryFrame m #[(.int ch)] 1)) t_ := fun t_ k_ => castTop (ef_rmCanI m ch) k_
  have s1 : ∀ t_, Steps p.tables e below (s₁.setTop (mkF m 8 #[.val (.int ch)] [(.int (255 : Int32)), (.int ch)])) t_ → Steps p.tables e below (s₁.setTop (entryFrame m #[(.int ch)] 1)) t_ := fun t_ k_ => pre0 t_ (by
    show Steps p.tables e below (s₁.setTop (mkF m 0 #[.val (.int ch)] [])) t_
    refine XS.iloadN X0.here hx rfl (Jvm.hb hby d_jdk_43_method_4_0) rfl ?_
    show Steps p.tables e below (s₁.setTop (mkF m 1 #[.val (.int ch)] [(.int ch)])) _
    refine XS.ifNo X0.here hx rfl (Jvm.hb hby d_jdk_43_method_4_1) rfl ((if0 _ _).trans (flt hc0).1) ?_
    show Steps p.tables e below (s₁.setTop (mkF m 4 #[.val (.int ch)] [])) _
    refine XS.iloadN X0.here hx rfl (Jvm.hb hby d_jdk_43_method_4_4) rfl ?_
    show Steps p.tables e below (s₁.setTop (mkF m 5 #[.val (.int ch)] [(.int ch)])) _
    refine XS.sipush X0.here hx rfl (Jvm.hb hby d_jdk_43_method_4_5) ?_
    show Steps p.tables e below (s₁.setTop (mkF m 8 #[.val (.int ch)] [(.int (255 : Int32)), (.int ch)])) _
    show Steps p.tables e below (s₁.setTop (mkF m 8 #[.val (.int ch)] [(.int (255 : Int32)), (.int ch)])) t_
    exact k_)
  by_cases h2 : (255 : Int32) < ch
  · have s3 : ∀ t_, Steps p.tables e below (s₁.setTop (mkF m 16 #[.val (.int ch)] [(.int (0 : Int32))])) t_ → Steps p.tables e below (s₁.setTop (entryFrame m #[(.int ch)] 1)) t_ := fun t_ k_ => s1 t_ (by
      show Steps p.tables e below (s₁.setTop (mkF m 8 #[.val (.int ch)] [(.int (255 : Int32)), (.int ch)])) t_
      refine XS.icmpYes X0.here hx rfl (pc0 := 8) (pc' := 15) rfl (Jvm.hb hby d_jdk_43_method_4_8) rfl (tlt h2).2.2.1 (by decide) (by decide) ?_
      show Steps p.tables e below (s₁.setTop (mkF m 15 #[.val (.int ch)] [])) _
      refine XS.iconst X0.here hx rfl (Jvm.hb hby d_jdk_43_method_4_15) ?_
      show Steps p.tables e below (s₁.setTop (mkF m 16 #[.val (.int ch)] [(.int (0 : Int32))])) _
      show Steps p.tables e below (s₁.setTop (mkF m 16 #[.val (.int ch)] [(.int (0 : Int32))])) t_
      exact k_)
    obtain ⟨fs, hr, hrun, hended, hW, hsame⟩ := X0.leave (v := some (.int (0 : Int32))) (fun h => by rw [Bd.returns] at h; cases h)
    refine ⟨_, _, s3 _ ?_, hrun, hended, _, _, rfl, ?_, ⟨_, rfl⟩, hW, hsame.mono (by decide) (by decide)⟩
    · show Steps p.tables e below (s₁.setTop (mkF m 16 #[.val (.int ch)] [(.int (0 : Int32))])) _
      exact retN X0 hx (t := .boolean) Bd.returns (by simp) (Jvm.hb hby d_jdk_43_method_4_16) hr
    · show Q_rmCanI Z _ h0 n0 _ s₁.heap _
      rw [e0]
      exact ⟨(by first | rfl | (simp only [if_pos h2]; done) | (simp only [if_pos h2]; rfl) | (simp only [if_pos h2, own_narb]; done)), N0, rfl⟩
  · have s4 : ∀ t_, Steps p.tables e below (s₁.setTop (mkF m 16 #[.val (.int ch)] [(.int (1 : Int32))])) t_ → Steps p.tables e below (s₁.setTop (entryFrame m #[(.int ch)] 1)) t_ := fun t_ k_ => s1 t_ (by
      show Steps p.tables e below (s₁.setTop (mkF m 8 #[.val (.int ch)] [(.int (255 : Int32)), (.int ch)])) t_
      refine XS.icmpNo X0.here hx rfl (Jvm.hb hby d_jdk_43_method_4_8) rfl (flt h2).2.2.1 ?_
      show Steps p.tables e below (s₁.setTop (mkF m 11 #[.val (.int ch)] [])) _
      refine XS.iconst X0.here hx rfl (Jvm.hb hby d_jdk_43_method_4_11) ?_
      show Steps p.tables e below (s₁.setTop (mkF m 12 #[.val (.int ch)] [(.int (1 : Int32))])) _
      refine XS.goto X0.here hx rfl (pc0 := 12) (pc' := 16) rfl (Jvm.hb hby d_jdk_43_method_4_12) (by decide) (by decide) ?_
      show Steps p.tables e below (s₁.setTop (mkF m 16 #[.val (.int ch)] [(.int (1 : Int32))])) _
      show Steps p.tables e below (s₁.setTop (mkF m 16 #[.val (.int ch)] [(.int (1 : Int32))])) t_
      exact k_)
    obtain ⟨fs, hr, hrun, hended, hW, hsame⟩ := X0.leave (v := some (.int (1 : Int32))) (fun h => by rw [Bd.returns] at h; cases h)
    refine ⟨_, _, s4 _ ?_, hrun, hended, _, _, rfl, ?_, ⟨_, rfl⟩, hW, hsame.mono (by decide) (by decide)⟩
    · show Steps p.tables e below (s₁.setTop (mkF m 16 #[.val (.int ch)] [(.int (1 : Int32))])) _
      exact retN X0 hx (t := .boolean) Bd.returns (by simp) (Jvm.hb hby d_jdk_43_method_4_16) hr
    · show Q_rmCanI Z _ h0 n0 _ s₁.heap _
      rw [e0]
      exact ⟨(by first | rfl | (simp only [if_neg h2]; done) | (simp only [if_neg h2]; rfl) | (simp only [if_neg h2, own_narb]; done)), N0, rfl⟩
theorem d_jdk_43_method_23_0 : decode jdk_43_method_23_code 0 = .ok (.iload_n 1, 1) := by decide +kernel
theorem d_jdk_43_method_23_1 : decode jdk_43_method_23_code 1 = .ok (.i2b, 1) := by decide +kernel
theorem d_jdk_43_method_23_2 : decode jdk_43_method_23_code 2 = .ok (.istore 4, 2) := by decide +kernel
theorem d_jdk_43_method_23_4 : decode jdk_43_method_23_code 4 = .ok (.iload_n 2, 1) := by decide +kernel
theorem d_jdk_43_method_23_5 : decode jdk_43_method_23_code 5 = .ok (.istore 5, 2) := by decide +kernel
theorem d_jdk_43_method_23_7 : decode jdk_43_method_23_code 7 = .ok (.iload 5, 2) := by decide +kernel
theorem d_jdk_43_method_23_9 : decode jdk_43_method_23_code 9 = .ok (.iload_n 3, 1) := by decide +kernel
theorem d_jdk_43_method_23_10 : decode jdk_43_method_23_code 10 = .ok (.if_icmp .ge 21, 3) := by decide +kernel
theorem d_jdk_43_method_23_13 : decode jdk_43_method_23_code 13 = .ok (.aload_n 0, 1) := by decide +kernel
theorem d_jdk_43_method_23_14 : decode jdk_43_method_23_code 14 = .ok (.iload 5, 2) := by decide +kernel
theorem d_jdk_43_method_23_16 : decode jdk_43_method_23_code 16 = .ok (.baload, 1) := by decide +kernel
theorem d_jdk_43_method_23_17 : decode jdk_43_method_23_code 17 = .ok (.iload 4, 2) := by decide +kernel
theorem d_jdk_43_method_23_19 : decode jdk_43_method_23_code 19 = .ok (.if_icmp .ne 6, 3) := by decide +kernel
theorem d_jdk_43_method_23_25 : decode jdk_43_method_23_code 25 = .ok (.iinc 5 1, 3) := by decide +kernel
theorem d_jdk_43_method_23_28 : decode jdk_43_method_23_code 28 = .ok (.goto (-21), 3) := by decide +kernel
theorem d_jdk_43_method_23_31 : decode jdk_43_method_23_code 31 = .ok (.iconst (-1), 1) := by decide +kernel
theorem d_jdk_43_method_23_32 : decode jdk_43_method_23_code 32 = .ok (.ireturn, 1) := by decide +kernel
theorem d_jdk_43_method_23_22 : decode jdk_43_method_23_code 22 = .ok (.iload 5, 2) := by decide +kernel
theorem d_jdk_43_method_23_24 : decode jdk_43_method_23_code 24 = .ok (.ireturn, 1) := by decide +kernel
theorem ef_rmIxC (m : MethodId) (x0 : Addr) (x1 : Int32) (x2 : Int32) (x3 : Int32) : entryFrame m #[(.ref x0), (.int x1), (.int x2), (.int x3)] 6 = mkF m 0 #[.val (.ref x0), .val (.int x1), .val (.int x2), .val (.int x3), .unset, .unset] [] := by first | (simp [entryFrame, mkF, argsToLocals, Value.category]; done) | rfl
def Q_rmIxC (Z : State) (b : Addr) (ch : Int32) (kb : ClassId) (cs : List Int32) (j0 : Nat) (h0 : Heap) (n0 : Nat) (v : Option Value) (h : Heap) (L : List Loc) : Prop := (v = some (.int ((Int32.ofNat (own_ix cs ch j0 (cs.length - j0))) - (1 : Int32)))) ∧ (Fr n0 L) ∧ (h = h0)
set_option maxRecDepth 65536 in
set_option maxHeartbeats 40000000 in
theorem rmIxC (l : Launch) (Z : State) (a0 : Array Value) (hw : ∀ d ∈ tables_1, d.before a0 Z = true) (ws : List Jvm.Cond) (b : Addr) (ch : Int32) (kb : ClassId) (cs : List Int32) (j0 : Nat) (h0 : Heap) (n0 : Nat) (Z0 : n0 ≤ h0.size) (I1 : Arv Z h0 b kb .byte (Int32.ofNat cs.length) (own_enc cs) (.int (0 : Int32))) (hb : cs.length ≤ 6) (hj0 : j0 ≤ cs.length) (hlat : own_lat cs) (hchs : own_chs cs) (hc0 : ¬ (ch < (0 : Int32))) (hc1 : ¬ ((255 : Int32) < ch)) :
    MetFree l (⟨"java/lang/StringLatin1", "indexOfChar", "([BIII)I"⟩ : MethodName) (head1 (Jvm.Cond.code (⟨"java/lang/StringLatin1", "indexOfChar", "([BIII)I"⟩ : MethodName) jdk_43_method_23_code 6 (some .int) :: ws) ({ frames := 0, cells := 0, slots := 0, locals := 0 } : Room)) (fun ar_ U => ar_ = #[(.ref b), (.int ch), (.int (Int32.ofNat j0)), (.int (Int32.ofNat cs.length))] ∧ Z.Warmed39 U.vm ∧ U.heap = h0) (fun _ _ _ _ _ => True) (fun _ U o U' => ∃ v L, o = .returned v ∧ Q_rmIxC Z b ch kb cs j0 h0 n0 v U'.heap L ∧ FrameEnd U o U' L ({ frames := 0, cells := 0, slots := 0, locals := 0 } : Room).cells ({ frames := 0, cells := 0, slots := 0, locals := 0 } : Room).slots) := by
  refine MetFree.of_bodySF (plainFor_of_name pn_java_lang_StringLatin1) hisR ?_
  intro p e s m args below meth c s₁ Bd hml0 hP hK
  obtain ⟨rfl, hZ, hh⟩ := hP
  have hx := Bd.exec
  have hby := Bd.bytes
  have hml : c.maxLocals = 6 := hml0
  have hown : s.vm.findClass "java/lang/StringLatin1" = some m.cls := findClass_of_methodNamed Bd.named
  have hnm := (name_of_methodNamed Bd.named Bd.method).1
  have X0 : Stand p l e ({ frames := 0, cells := 0, slots := 0, locals := 0 } : Room) s m #[(.ref b), (.int ch), (.int (Int32.ofNat j0)), (.int (Int32.ofNat cs.length))] below meth c s₁ [] 0 0 := Stand.of_body Bd
  have e0 : s₁.heap = h0 := by rw [← hh, Bd.state]; rfl
  have N0 := Fr.nil n0
  have pre0 : ∀ t_, Steps p.tables e below (s₁.setTop (mkF m 0 #[.val (.ref b), .val (.int ch), .val (.int (Int32.ofNat j0)), .val (.int (Int32.ofNat cs.length)), .unset, .unset] [])) t_ → Steps p.tables e below (s₁.setTop (entryFrame m #[(.ref b), (.int ch), (.int (Int32.ofNat j0)), (.int (Int32.ofNat cs.length))] 6)) t_ := fun t_ k_ => castTop (ef_rmIxC m b ch (Int32.ofNat j0) (Int32.ofNat cs.length)) k_
  have lt_I1 : @LT.lt Nat _ b h0.size := I1.lt
  have s1 : ∀ t_, Steps p.tables e below (s₁.setTop (mkF m 7 #[.val (.ref b), .val (.int ch), .val (.int (Int32.ofNat j0)), .val (.int (Int32.ofNat cs.length)), .val (.int (own_lo ch)), .val (.int (Int32.ofNat j0))] [])) t_ → Steps p.tables e below (s₁.setTop (entryFrame m #[(.ref b), (.int ch), (.int (Int32.ofNat j0)), (.int (Int32.ofNat cs.length))] 6)) t_ := fun t_ k_ => pre0 t_ (by
    show Steps p.tables e below (s₁.setTop (mkF m 0 #[.val (.ref b), .val (.int ch), .val (.int (Int32.ofNat j0)), .val (.int (Int32.ofNat cs.length)), .unset, .unset] [])) t_
    refine XS.iloadN X0.here hx rfl (Jvm.hb hby d_jdk_43_method_23_0) rfl ?_
    show Steps p.tables e below (s₁.setTop (mkF m 1 #[.val (.ref b), .val (.int ch), .val (.int (Int32.ofNat j0)), .val (.int (Int32.ofNat cs.length)), .unset, .unset] [(.int ch)])) _
    refine XS.i2b X0.here hx rfl (Jvm.hb hby d_jdk_43_method_23_1) rfl ?_
    show Steps p.tables e below (s₁.setTop (mkF m 2 #[.val (.ref b), .val (.int ch), .val (.int (Int32.ofNat j0)), .val (.int (Int32.ofNat cs.length)), .unset, .unset] [(.int (own_lo ch))])) _
    refine XS.istore X0.here hx rfl (Jvm.hb hby d_jdk_43_method_23_2) rfl (l' := #[.val (.ref b), .val (.int ch), .val (.int (Int32.ofNat j0)), .val (.int (Int32.ofNat cs.length)), .val (.int (own_lo ch)), .unset]) rfl ?_
    show Steps p.tables e below (s₁.setTop (mkF m 4 #[.val (.ref b), .val (.int ch), .val (.int (Int32.ofNat j0)), .val (.int (Int32.ofNat cs.length)), .val (.int (own_lo ch)), .unset] [])) _
    refine XS.iloadN X0.here hx rfl (Jvm.hb hby d_jdk_43_method_23_4) rfl ?_
    show Steps p.tables e below (s₁.setTop (mkF m 5 #[.val (.ref b), .val (.int ch), .val (.int (Int32.ofNat j0)), .val (.int (Int32.ofNat cs.length)), .val (.int (own_lo ch)), .unset] [(.int (Int32.ofNat j0))])) _
    refine XS.istore X0.here hx rfl (Jvm.hb hby d_jdk_43_method_23_5) rfl (l' := #[.val (.ref b), .val (.int ch), .val (.int (Int32.ofNat j0)), .val (.int (Int32.ofNat cs.length)), .val (.int (own_lo ch)), .val (.int (Int32.ofNat j0))]) rfl ?_
    show Steps p.tables e below (s₁.setTop (mkF m 7 #[.val (.ref b), .val (.int ch), .val (.int (Int32.ofNat j0)), .val (.int (Int32.ofNat cs.length)), .val (.int (own_lo ch)), .val (.int (Int32.ofNat j0))] [])) _
    show Steps p.tables e below (s₁.setTop (mkF m 7 #[.val (.ref b), .val (.int ch), .val (.int (Int32.ofNat j0)), .val (.int (Int32.ofNat cs.length)), .val (.int (own_lo ch)), .val (.int (Int32.ofNat j0))] [])) t_
    exact k_)
  have lp2 : ∀ (k_ : Nat) (j : Nat) (T_ : State) (lo_ : List Loc), j + k_ = cs.length → Stand p l e ({ frames := 0, cells := 0, slots := 0, locals := 0 } : Room) s m #[(.ref b), (.int ch), (.int (Int32.ofNat j0)), (.int (Int32.ofNat cs.length))] below meth c T_ lo_ 0 0 → T_.heap = h0 → Fr n0 lo_ → (own_ix cs ch j k_ = own_ix cs ch j0 (cs.length - j0)) → ∃ (T' : State) (lo' : List Loc) (fe_ : JFrame), Stand p l e ({ frames := 0, cells := 0, slots := 0, locals := 0 } : Room) s m #[(.ref b), (.int ch), (.int (Int32.ofNat j0)), (.int (Int32.ofNat cs.length))] below meth c T' lo' 0 0 ∧ T'.heap = h0 ∧ Fr n0 lo' ∧ ((fe_ = (mkF m 31 #[.val (.ref b), .val (.int ch), .val (.int (Int32.ofNat j0)), .val (.int (Int32.ofNat cs.length)), .val (.int (own_lo ch)), .val (.int (Int32.ofNat cs.length))] []) ∧ (own_ix cs ch j0 (cs.length - j0) = 0)) ∨ (∃ (jj : Nat), fe_ = (mkF m 22 #[.val (.ref b), .val (.int ch), .val (.int (Int32.ofNat j0)), .val (.int (Int32.ofNat cs.length)), .val (.int (own_lo ch)), .val (.int (Int32.ofNat jj))] []) ∧ (own_ix cs ch j0 (cs.length - j0) = jj + 1))) ∧ ∀ t_, Steps p.tables e below (T'.setTop fe_) t_ → Steps p.tables e below (T_.setTop (mkF m 7 #[.val (.ref b), .val (.int ch), .val (.int (Int32.ofNat j0)), .val (.int (Int32.ofNat cs.length)), .val (.int (own_lo ch)), .val (.int (Int32.ofNat j))] [])) t_ := by
    intro k_
    induction k_ with
    | zero => 
      intro j T_ lo_ hm_ X_ e_ N_ hr
      have s3 : ∀ t_, Steps p.tables e below (T_.setTop (mkF m 31 #[.val (.ref b), .val (.int ch), .val (.int (Int32.ofNat j0)), .val (.int (Int32.ofNat cs.length)), .val (.int (own_lo ch)), .val (.int (Int32.ofNat j))] [])) t_ → Steps p.tables e below (T_.setTop (mkF m 7 #[.val (.ref b), .val (.int ch), .val (.int (Int32.ofNat j0)), .val (.int (Int32.ofNat cs.length)), .val (.int (own_lo ch)), .val (.int (Int32.ofNat j))] [])) t_ := fun t_ k_ => (fun _ k_ => k_) t_ (by
        show Steps p.tables e below (T_.setTop (mkF m 7 #[.val (.ref b), .val (.int ch), .val (.int (Int32.ofNat j0)), .val (.int (Int32.ofNat cs.length)), .val (.int (own_lo ch)), .val (.int (Int32.ofNat j))] [])) t_
        refine XS.iload X_.here hx rfl (Jvm.hb hby d_jdk_43_method_23_7) rfl ?_
        show Steps p.tables e below (T_.setTop (mkF m 9 #[.val (.ref b), .val (.int ch), .val (.int (Int32.ofNat j0)), .val (.int (Int32.ofNat cs.length)), .val (.int (own_lo ch)), .val (.int (Int32.ofNat j))] [(.int (Int32.ofNat j))])) _
        refine XS.iloadN X_.here hx rfl (Jvm.hb hby d_jdk_43_method_23_9) rfl ?_
        show Steps p.tables e below (T_.setTop (mkF m 10 #[.val (.ref b), .val (.int ch), .val (.int (Int32.ofNat j0)), .val (.int (Int32.ofNat cs.length)), .val (.int (own_lo ch)), .val (.int (Int32.ofNat j))] [(.int (Int32.ofNat cs.length)), (.int (Int32.ofNat j))])) _
        refine XS.icmpYes X_.here hx rfl (pc0 := 10) (pc' := 31) rfl (Jvm.hb hby d_jdk_43_method_23_10) rfl (flt (own_nlt (by omega) (by omega))).2.1 (by decide) (by decide) ?_
        show Steps p.tables e below (T_.setTop (mkF m 31 #[.val (.ref b), .val (.int ch), .val (.int (Int32.ofNat j0)), .val (.int (Int32.ofNat cs.length)), .val (.int (own_lo ch)), .val (.int (Int32.ofNat j))] [])) _
        show Steps p.tables e below (T_.setTop (mkF m 31 #[.val (.ref b), .val (.int ch), .val (.int (Int32.ofNat j0)), .val (.int (Int32.ofNat cs.length)), .val (.int (own_lo ch)), .val (.int (Int32.ofNat j))] [])) t_
        exact k_)
      exact ⟨T_, _, _, X_, e_, N_, (Or.inl ⟨(by rw [show j = cs.length by omega]), hr.symm⟩), s3⟩
    | succ k_ ih => 
      intro j T_ lo_ hm_ X_ e_ N_ hr
      obtain ⟨cl4, Ar4, -, S4, M4, H4, -⟩ := id I1
      have hin4 : ¬ ((Int32.ofNat j) < 0 ∨ cl4.slots.size ≤ ((Int32.ofNat j)).toNatClampNeg) := inb_of S4 (own_in (by omega) (by omega))
      have hat4 : cl4.slots[((Int32.ofNat j)).toNatClampNeg]? = some (.int (own_lo (cs.getD j 0))) := H4.at hin4 (own_geth cs j _ hlat (by omega) (by omega))
      have s5 : ∀ t_, Steps p.tables e below (T_.setTop (mkF m 19 #[.val (.ref b), .val (.int ch), .val (.int (Int32.ofNat j0)), .val (.int (Int32.ofNat cs.length)), .val (.int (own_lo ch)), .val (.int (Int32.ofNat j))] [(.int (own_lo ch)), (.int (own_lo (cs.getD j 0)))])) t_ → Steps p.tables e below (T_.setTop (mkF m 7 #[.val (.ref b), .val (.int ch), .val (.int (Int32.ofNat j0)), .val (.int (Int32.ofNat cs.length)), .val (.int (own_lo ch)), .val (.int (Int32.ofNat j))] [])) t_ := fun t_ k_ => (fun _ k_ => k_) t_ (by
        show Steps p.tables e below (T_.setTop (mkF m 7 #[.val (.ref b), .val (.int ch), .val (.int (Int32.ofNat j0)), .val (.int (Int32.ofNat cs.length)), .val (.int (own_lo ch)), .val (.int (Int32.ofNat j))] [])) t_
        refine XS.iload X_.here hx rfl (Jvm.hb hby d_jdk_43_method_23_7) rfl ?_
        show Steps p.tables e below (T_.setTop (mkF m 9 #[.val (.ref b), .val (.int ch), .val (.int (Int32.ofNat j0)), .val (.int (Int32.ofNat cs.length)), .val (.int (own_lo ch)), .val (.int (Int32.ofNat j))] [(.int (Int32.ofNat j))])) _
        refine XS.iloadN X_.here hx rfl (Jvm.hb hby d_jdk_43_method_23_9) rfl ?_
        show Steps p.tables e below (T_.setTop (mkF m 10 #[.val (.ref b), .val (.int ch), .val (.int (Int32.ofNat j0)), .val (.int (Int32.ofNat cs.length)), .val (.int (own_lo ch)), .val (.int (Int32.ofNat j))] [(.int (Int32.ofNat cs.length)), (.int (Int32.ofNat j))])) _
        refine XS.icmpNo X_.here hx rfl (Jvm.hb hby d_jdk_43_method_23_10) rfl (tlt (own_lt (by omega) (by omega))).2.1 ?_
        show Steps p.tables e below (T_.setTop (mkF m 13 #[.val (.ref b), .val (.int ch), .val (.int (Int32.ofNat j0)), .val (.int (Int32.ofNat cs.length)), .val (.int (own_lo ch)), .val (.int (Int32.ofNat j))] [])) _
        refine XS.aloadN X_.here hx rfl (Jvm.hb hby d_jdk_43_method_23_13) rfl rfl ?_
        show Steps p.tables e below (T_.setTop (mkF m 14 #[.val (.ref b), .val (.int ch), .val (.int (Int32.ofNat j0)), .val (.int (Int32.ofNat cs.length)), .val (.int (own_lo ch)), .val (.int (Int32.ofNat j))] [(.ref b)])) _
        refine XS.iload X_.here hx rfl (Jvm.hb hby d_jdk_43_method_23_14) rfl ?_
        show Steps p.tables e below (T_.setTop (mkF m 16 #[.val (.ref b), .val (.int ch), .val (.int (Int32.ofNat j0)), .val (.int (Int32.ofNat cs.length)), .val (.int (own_lo ch)), .val (.int (Int32.ofNat j))] [(.int (Int32.ofNat j)), (.ref b)])) _
        refine X_.baloadBytes hx (j := (Int32.ofNat j)) (v := (.int (own_lo (cs.getD j 0)))) (by rw [e_]; exact Ar4.1) (State.isArrayOf_alike hZ.alike Ar4.2.1) Ar4.2.2 hin4 hat4 (g := (mkF m 16 #[.val (.ref b), .val (.int ch), .val (.int (Int32.ofNat j0)), .val (.int (Int32.ofNat cs.length)), .val (.int (own_lo ch)), .val (.int (Int32.ofNat j))] [(.int (Int32.ofNat j)), (.ref b)])) rfl rfl (Jvm.hb hby d_jdk_43_method_23_16) _ ?_
        show Steps p.tables e below (T_.setTop (mkF m 17 #[.val (.ref b), .val (.int ch), .val (.int (Int32.ofNat j0)), .val (.int (Int32.ofNat cs.length)), .val (.int (own_lo ch)), .val (.int (Int32.ofNat j))] [(.int (own_lo (cs.getD j 0)))])) _
        refine XS.iload X_.here hx rfl (Jvm.hb hby d_jdk_43_method_23_17) rfl ?_
        show Steps p.tables e below (T_.setTop (mkF m 19 #[.val (.ref b), .val (.int ch), .val (.int (Int32.ofNat j0)), .val (.int (Int32.ofNat cs.length)), .val (.int (own_lo ch)), .val (.int (Int32.ofNat j))] [(.int (own_lo ch)), (.int (own_lo (cs.getD j 0)))])) _
        show Steps p.tables e below (T_.setTop (mkF m 19 #[.val (.ref b), .val (.int ch), .val (.int (Int32.ofNat j0)), .val (.int (Int32.ofNat cs.length)), .val (.int (own_lo ch)), .val (.int (Int32.ofNat j))] [(.int (own_lo ch)), (.int (own_lo (cs.getD j 0)))])) t_
        exact k_)
      by_cases h6 : (own_lo (cs.getD j 0)) = (own_lo ch)
      · have s7 : ∀ t_, Steps p.tables e below (T_.setTop (mkF m 22 #[.val (.ref b), .val (.int ch), .val (.int (Int32.ofNat j0)), .val (.int (Int32.ofNat cs.length)), .val (.int (own_lo ch)), .val (.int (Int32.ofNat j))] [])) t_ → Steps p.tables e below (T_.setTop (mkF m 7 #[.val (.ref b), .val (.int ch), .val (.int (Int32.ofNat j0)), .val (.int (Int32.ofNat cs.length)), .val (.int (own_lo ch)), .val (.int (Int32.ofNat j))] [])) t_ := fun t_ k_ => s5 t_ (by
          show Steps p.tables e below (T_.setTop (mkF m 19 #[.val (.ref b), .val (.int ch), .val (.int (Int32.ofNat j0)), .val (.int (Int32.ofNat cs.length)), .val (.int (own_lo ch)), .val (.int (Int32.ofNat j))] [(.int (own_lo ch)), (.int (own_lo (cs.getD j 0)))])) t_
          refine XS.icmpNo X_.here hx rfl (Jvm.hb hby d_jdk_43_method_23_19) rfl (teq h6).2 ?_
          show Steps p.tables e below (T_.setTop (mkF m 22 #[.val (.ref b), .val (.int ch), .val (.int (Int32.ofNat j0)), .val (.int (Int32.ofNat cs.length)), .val (.int (own_lo ch)), .val (.int (Int32.ofNat j))] [])) _
          show Steps p.tables e below (T_.setTop (mkF m 22 #[.val (.ref b), .val (.int ch), .val (.int (Int32.ofNat j0)), .val (.int (Int32.ofNat cs.length)), .val (.int (own_lo ch)), .val (.int (Int32.ofNat j))] [])) t_
          exact k_)
        exact ⟨T_, _, _, X_, e_, N_, (Or.inr ⟨j, rfl, (by rw [← hr, own_ix, if_pos (own_lo_inj (hchs _ (own_mem cs j (by omega))).1 (hlat _ (own_mem cs j (by omega))) hc0 hc1 h6)])⟩), s7⟩
      · have s8 : ∀ t_, Steps p.tables e below (T_.setTop (mkF m 7 #[.val (.ref b), .val (.int ch), .val (.int (Int32.ofNat j0)), .val (.int (Int32.ofNat cs.length)), .val (.int (own_lo ch)), .val (.int ((Int32.ofNat j) + (1 : Int32)))] [])) t_ → Steps p.tables e below (T_.setTop (mkF m 7 #[.val (.ref b), .val (.int ch), .val (.int (Int32.ofNat j0)), .val (.int (Int32.ofNat cs.length)), .val (.int (own_lo ch)), .val (.int (Int32.ofNat j))] [])) t_ := fun t_ k_ => s5 t_ (by
          show Steps p.tables e below (T_.setTop (mkF m 19 #[.val (.ref b), .val (.int ch), .val (.int (Int32.ofNat j0)), .val (.int (Int32.ofNat cs.length)), .val (.int (own_lo ch)), .val (.int (Int32.ofNat j))] [(.int (own_lo ch)), (.int (own_lo (cs.getD j 0)))])) t_
          refine XS.icmpYes X_.here hx rfl (pc0 := 19) (pc' := 25) rfl (Jvm.hb hby d_jdk_43_method_23_19) rfl (feq h6).2 (by decide) (by decide) ?_
          show Steps p.tables e below (T_.setTop (mkF m 25 #[.val (.ref b), .val (.int ch), .val (.int (Int32.ofNat j0)), .val (.int (Int32.ofNat cs.length)), .val (.int (own_lo ch)), .val (.int (Int32.ofNat j))] [])) _
          refine XS.iinc X_.here hx rfl (Jvm.hb hby d_jdk_43_method_23_25) rfl (l' := #[.val (.ref b), .val (.int ch), .val (.int (Int32.ofNat j0)), .val (.int (Int32.ofNat cs.length)), .val (.int (own_lo ch)), .val (.int ((Int32.ofNat j) + (1 : Int32)))]) rfl ?_
          show Steps p.tables e below (T_.setTop (mkF m 28 #[.val (.ref b), .val (.int ch), .val (.int (Int32.ofNat j0)), .val (.int (Int32.ofNat cs.length)), .val (.int (own_lo ch)), .val (.int ((Int32.ofNat j) + (1 : Int32)))] [])) _
          refine XS.goto X_.here hx rfl (pc0 := 28) (pc' := 7) rfl (Jvm.hb hby d_jdk_43_method_23_28) (by decide) (by decide) ?_
          show Steps p.tables e below (T_.setTop (mkF m 7 #[.val (.ref b), .val (.int ch), .val (.int (Int32.ofNat j0)), .val (.int (Int32.ofNat cs.length)), .val (.int (own_lo ch)), .val (.int ((Int32.ofNat j) + (1 : Int32)))] [])) _
          show Steps p.tables e below (T_.setTop (mkF m 7 #[.val (.ref b), .val (.int ch), .val (.int (Int32.ofNat j0)), .val (.int (Int32.ofNat cs.length)), .val (.int (own_lo ch)), .val (.int ((Int32.ofNat j) + (1 : Int32)))] [])) t_
          exact k_)
        obtain ⟨T9, lo9, fe9, X9, e9, N9, A9, st9⟩ := ih (j + 1) T_ _  (by omega) X_ e_ N_   (by rw [own_ix, if_neg (fun q => h6 (by rw [q]))] at hr; exact hr)
        exact ⟨T9, lo9, fe9, X9, e9, N9, A9, fun t_ k_ => s8 t_ (castTop (by rw [own_up]) (st9 t_ k_))⟩
  obtain ⟨T10, lo10, fe10, X10, e10, N10, A10, st10⟩ := lp2 (cs.length - j0) j0 s₁ _  (by omega) X0 e0 N0   rfl
  rcases A10 with ⟨rfl, J10_0⟩ | ⟨jj_10, rfl, J10_0⟩
  · have s11 : ∀ t_, Steps p.tables e below (T10.setTop (mkF m 31 #[.val (.ref b), .val (.int ch), .val (.int (Int32.ofNat j0)), .val (.int (Int32.ofNat cs.length)), .val (.int (own_lo ch)), .val (.int (Int32.ofNat cs.length))] [])) t_ → Steps p.tables e below (s₁.setTop (entryFrame m #[(.ref b), (.int ch), (.int (Int32.ofNat j0)), (.int (Int32.ofNat cs.length))] 6)) t_ := fun t_ k_ => s1 t_ (st10 t_ k_)
    have s12 : ∀ t_, Steps p.tables e below (T10.setTop (mkF m 32 #[.val (.ref b), .val (.int ch), .val (.int (Int32.ofNat j0)), .val (.int (Int32.ofNat cs.length)), .val (.int (own_lo ch)), .val (.int (Int32.ofNat cs.length))] [(.int (-1 : Int32))])) t_ → Steps p.tables e below (s₁.setTop (entryFrame m #[(.ref b), (.int ch), (.int (Int32.ofNat j0)), (.int (Int32.ofNat cs.length))] 6)) t_ := fun t_ k_ => s11 t_ (by
      show Steps p.tables e below (T10.setTop (mkF m 31 #[.val (.ref b), .val (.int ch), .val (.int (Int32.ofNat j0)), .val (.int (Int32.ofNat cs.length)), .val (.int (own_lo ch)), .val (.int (Int32.ofNat cs.length))] [])) t_
      refine XS.iconst X10.here hx rfl (Jvm.hb hby d_jdk_43_method_23_31) ?_
      show Steps p.tables e below (T10.setTop (mkF m 32 #[.val (.ref b), .val (.int ch), .val (.int (Int32.ofNat j0)), .val (.int (Int32.ofNat cs.length)), .val (.int (own_lo ch)), .val (.int (Int32.ofNat cs.length))] [(.int (-1 : Int32))])) _
      show Steps p.tables e below (T10.setTop (mkF m 32 #[.val (.ref b), .val (.int ch), .val (.int (Int32.ofNat j0)), .val (.int (Int32.ofNat cs.length)), .val (.int (own_lo ch)), .val (.int (Int32.ofNat cs.length))] [(.int (-1 : Int32))])) t_
      exact k_)
    obtain ⟨fs, hr, hrun, hended, hW, hsame⟩ := X10.leave (v := some (.int (-1 : Int32))) (fun h => by rw [Bd.returns] at h; cases h)
    refine ⟨_, _, s12 _ ?_, hrun, hended, _, _, rfl, ?_, ⟨_, rfl⟩, hW, hsame.mono (by decide) (by decide)⟩
    · show Steps p.tables e below (T10.setTop (mkF m 32 #[.val (.ref b), .val (.int ch), .val (.int (Int32.ofNat j0)), .val (.int (Int32.ofNat cs.length)), .val (.int (own_lo ch)), .val (.int (Int32.ofNat cs.length))] [(.int (-1 : Int32))])) _
      exact retI X10 hx Bd.returns (Jvm.hb hby d_jdk_43_method_23_32) hr
    · show Q_rmIxC Z _ _ _ _ _ h0 n0 _ T10.heap _
      rw [e10]
      exact ⟨(by rw [J10_0]; rfl), N10, rfl⟩
  · have s13 : ∀ t_, Steps p.tables e below (T10.setTop (mkF m 22 #[.val (.ref b), .val (.int ch), .val (.int (Int32.ofNat j0)), .val (.int (Int32.ofNat cs.length)), .val (.int (own_lo ch)), .val (.int (Int32.ofNat jj_10))] [])) t_ → Steps p.tables e below (s₁.setTop (entryFrame m #[(.ref b), (.int ch), (.int (Int32.ofNat j0)), (.int (Int32.ofNat cs.length))] 6)) t_ := fun t_ k_ => s1 t_ (st10 t_ k_)
    have s14 : ∀ t_, Steps p.tables e below (T10.setTop (mkF m 24 #[.val (.ref b), .val (.int ch), .val (.int (Int32.ofNat j0)), .val (.int (Int32.ofNat cs.length)), .val (.int (own_lo ch)), .val (.int (Int32.ofNat jj_10))] [(.int (Int32.ofNat jj_10))])) t_ → Steps p.tables e below (s₁.setTop (entryFrame m #[(.ref b), (.int ch), (.int (Int32.ofNat j0)), (.int (Int32.ofNat cs.length))] 6)) t_ := fun t_ k_ => s13 t_ (by
      show Steps p.tables e below (T10.setTop (mkF m 22 #[.val (.ref b), .val (.int ch), .val (.int (Int32.ofNat j0)), .val (.int (Int32.ofNat cs.length)), .val (.int (own_lo ch)), .val (.int (Int32.ofNat jj_10))] [])) t_
      refine XS.iload X10.here hx rfl (Jvm.hb hby d_jdk_43_method_23_22) rfl ?_
      show Steps p.tables e below (T10.setTop (mkF m 24 #[.val (.ref b), .val (.int ch), .val (.int (Int32.ofNat j0)), .val (.int (Int32.ofNat cs.length)), .val (.int (own_lo ch)), .val (.int (Int32.ofNat jj_10))] [(.int (Int32.ofNat jj_10))])) _
      show Steps p.tables e below (T10.setTop (mkF m 24 #[.val (.ref b), .val (.int ch), .val (.int (Int32.ofNat j0)), .val (.int (Int32.ofNat cs.length)), .val (.int (own_lo ch)), .val (.int (Int32.ofNat jj_10))] [(.int (Int32.ofNat jj_10))])) t_
      exact k_)
    obtain ⟨fs, hr, hrun, hended, hW, hsame⟩ := X10.leave (v := some (.int (Int32.ofNat jj_10))) (fun h => by rw [Bd.returns] at h; cases h)
    refine ⟨_, _, s14 _ ?_, hrun, hended, _, _, rfl, ?_, ⟨_, rfl⟩, hW, hsame.mono (by decide) (by decide)⟩
    · show Steps p.tables e below (T10.setTop (mkF m 24 #[.val (.ref b), .val (.int ch), .val (.int (Int32.ofNat j0)), .val (.int (Int32.ofNat cs.length)), .val (.int (own_lo ch)), .val (.int (Int32.ofNat jj_10))] [(.int (Int32.ofNat jj_10))])) _
      exact retI X10 hx Bd.returns (Jvm.hb hby d_jdk_43_method_23_24) hr
    · show Q_rmIxC Z _ _ _ _ _ h0 n0 _ T10.heap _
      rw [e10]
      exact ⟨(by rw [J10_0, ← own_found]), N10, rfl⟩
theorem d_jdk_43_method_22_0 : decode jdk_43_method_22_code 0 = .ok (.iload_n 1, 1) := by decide +kernel
theorem pd__I_Z : parseMethodDescriptor "(I)Z" = some ⟨[.int], some .boolean⟩ := by decide +kernel
theorem d_jdk_43_method_22_1 : decode jdk_43_method_22_code 1 = .ok (.invokestatic 88, 3) := by decide +kernel
theorem d_jdk_43_method_22_4 : decode jdk_43_method_22_code 4 = .ok (.ifCond .ne 5, 3) := by decide +kernel
theorem d_jdk_43_method_22_7 : decode jdk_43_method_22_code 7 = .ok (.iconst (-1), 1) := by decide +kernel
theorem d_jdk_43_method_22_8 : decode jdk_43_method_22_code 8 = .ok (.ireturn, 1) := by decide +kernel
theorem d_jdk_43_method_22_9 : decode jdk_43_method_22_code 9 = .ok (.iload_n 2, 1) := by decide +kernel
theorem d_jdk_43_method_22_10 : decode jdk_43_method_22_code 10 = .ok (.iconst 0, 1) := by decide +kernel
theorem pd__II_I : parseMethodDescriptor "(II)I" = some ⟨[.int, .int], some .int⟩ := by decide +kernel
theorem d_jdk_43_method_22_11 : decode jdk_43_method_22_code 11 = .ok (.invokestatic 92, 3) := by decide +kernel
theorem d_jdk_43_method_22_14 : decode jdk_43_method_22_code 14 = .ok (.istore_n 2, 1) := by decide +kernel
theorem d_jdk_43_method_22_15 : decode jdk_43_method_22_code 15 = .ok (.iload_n 3, 1) := by decide +kernel
theorem d_jdk_43_method_22_16 : decode jdk_43_method_22_code 16 = .ok (.aload_n 0, 1) := by decide +kernel
theorem d_jdk_43_method_22_17 : decode jdk_43_method_22_code 17 = .ok (.arraylength, 1) := by decide +kernel
theorem d_jdk_43_method_22_18 : decode jdk_43_method_22_code 18 = .ok (.invokestatic 38, 3) := by decide +kernel
theorem d_jdk_43_method_22_21 : decode jdk_43_method_22_code 21 = .ok (.istore_n 3, 1) := by decide +kernel
theorem d_jdk_43_method_22_22 : decode jdk_43_method_22_code 22 = .ok (.iload_n 2, 1) := by decide +kernel
theorem d_jdk_43_method_22_23 : decode jdk_43_method_22_code 23 = .ok (.iload_n 3, 1) := by decide +kernel
theorem d_jdk_43_method_22_24 : decode jdk_43_method_22_code 24 = .ok (.if_icmp .lt 5, 3) := by decide +kernel
theorem d_jdk_43_method_22_29 : decode jdk_43_method_22_code 29 = .ok (.aload_n 0, 1) := by decide +kernel
theorem d_jdk_43_method_22_30 : decode jdk_43_method_22_code 30 = .ok (.iload_n 1, 1) := by decide +kernel
theorem d_jdk_43_method_22_31 : decode jdk_43_method_22_code 31 = .ok (.iload_n 2, 1) := by decide +kernel
theorem d_jdk_43_method_22_32 : decode jdk_43_method_22_code 32 = .ok (.iload_n 3, 1) := by decide +kernel
theorem pd___BIII_I : parseMethodDescriptor "([BIII)I" = some ⟨[(.array .byte), .int, .int, .int], some .int⟩ := by decide +kernel
theorem d_jdk_43_method_22_33 : decode jdk_43_method_22_code 33 = .ok (.invokestatic 95, 3) := by decide +kernel
theorem d_jdk_43_method_22_36 : decode jdk_43_method_22_code 36 = .ok (.ireturn, 1) := by decide +kernel
theorem d_jdk_43_method_22_27 : decode jdk_43_method_22_code 27 = .ok (.iconst (-1), 1) := by decide +kernel
theorem d_jdk_43_method_22_28 : decode jdk_43_method_22_code 28 = .ok (.ireturn, 1) := by decide +kernel
theorem ef_rmIxL (m : MethodId) (x0 : Addr) (x1 : Int32) (x2 : Int32) (x3 : Int32) : entryFrame m #[(.ref x0), (.int x1), (.int x2), (.int x3)] 4 = mkF m 0 #[.val (.ref x0), .val (.int x1), .val (.int x2), .val (.int x3)] [] := by first | (simp [entryFrame, mkF, argsToLocals, Value.category]; done) | rfl
def Q_rmIxL (Z : State) (b : Addr) (ch : Int32) (kb : ClassId) (cs : List Int32) (j0 : Nat) (h0 : Heap) (n0 : Nat) (v : Option Value) (h : Heap) (L : List Loc) : Prop := (v = some (.int ((Int32.ofNat (own_ix cs ch j0 (cs.length - j0))) - (1 : Int32)))) ∧ (Fr n0 L) ∧ (h = h0)
set_option maxRecDepth 65536 in
set_option maxHeartbeats 40000000 in
theorem rmIxL (l : Launch) (Z : State) (a0 : Array Value) (hw : ∀ d ∈ tables_1, d.before a0 Z = true) (ws : List Jvm.Cond) (b : Addr) (ch : Int32) (kb : ClassId) (cs : List Int32) (j0 : Nat) (h0 : Heap) (n0 : Nat) (Z0 : n0 ≤ h0.size) (I1 : Arv Z h0 b kb .byte (Int32.ofNat cs.length) (own_enc cs) (.int (0 : Int32))) (hb : cs.length ≤ 6) (hj0 : j0 ≤ cs.length) (hlat : own_lat cs) (hchs : own_chs cs) (hc0 : ¬ (ch < (0 : Int32))) (hc1 : ¬ ((65535 : Int32) < ch)) :
    MetFree l (⟨"java/lang/StringLatin1", "indexOf", "([BIII)I"⟩ : MethodName) (head1 (Jvm.Cond.code (⟨"java/lang/StringLatin1", "indexOf", "([BIII)I"⟩ : MethodName) jdk_43_method_22_code 4 (some .int) :: ws) ({ frames := 1, cells := 0, slots := 0, locals := 17 } : Room)) (fun ar_ U => ar_ = #[(.ref b), (.int ch), (.int (Int32.ofNat j0)), (.int (Int32.ofNat cs.length))] ∧ Z.Warmed39 U.vm ∧ U.heap = h0) (fun _ _ _ _ _ => True) (fun _ U o U' => ∃ v L, o = .returned v ∧ Q_rmIxL Z b ch kb cs j0 h0 n0 v U'.heap L ∧ FrameEnd U o U' L ({ frames := 1, cells := 0, slots := 0, locals := 17 } : Room).cells ({ frames := 1, cells := 0, slots := 0, locals := 17 } : Room).slots) := by
  refine MetFree.of_bodySF (plainFor_of_name pn_java_lang_StringLatin1) hisR ?_
  intro p e s m args below meth c s₁ Bd hml0 hP hK
  obtain ⟨rfl, hZ, hh⟩ := hP
  have hx := Bd.exec
  have hby := Bd.bytes
  have hml : c.maxLocals = 4 := hml0
  have hown : s.vm.findClass "java/lang/StringLatin1" = some m.cls := findClass_of_methodNamed Bd.named
  have hnm := (name_of_methodNamed Bd.named Bd.method).1
  have X0 : Stand p l e ({ frames := 1, cells := 0, slots := 0, locals := 17 } : Room) s m #[(.ref b), (.int ch), (.int (Int32.ofNat j0)), (.int (Int32.ofNat cs.length))] below meth c s₁ [] 0 0 := Stand.of_body Bd
  have e0 : s₁.heap = h0 := by rw [← hh, Bd.state]; rfl
  have N0 := Fr.nil n0
  have pre0 : ∀ t_, Steps p.tables e below (s₁.setTop (mkF m 0 #[.val (.ref b), .val (.int ch), .val (.int (Int32.ofNat j0)), .val (.int (Int32.ofNat cs.length))] [])) t_ → Steps p.tables e below (s₁.setTop (entryFrame m #[(.ref b), (.int ch), (.int (Int32.ofNat j0)), (.int (Int32.ofNat cs.length))] 4)) t_ := fun t_ k_ => castTop (ef_rmIxL m b ch (Int32.ofNat j0) (Int32.ofNat cs.length)) k_
  have lt_I1 : @LT.lt Nat _ b h0.size := I1.lt
  have Zc1 : n0 ≤ h0.size := by omega
  obtain ⟨_, _, ⟨T2, L2, k2, n2⟩, -, X2, ⟨Lc2, hQ2, l2, y2, z2⟩, st2⟩ := Jvm.LawKit.callS X0 hx (y := (⟨"java/lang/StringLatin1", "canEncode", "(I)Z"⟩ : MethodName)) hown (mvT hZ (hw _ (List.mem_of_getElem? (i := 70) rfl))) (mvT hZ (hw _ (List.mem_of_getElem? (i := 71) rfl))) (mvT hZ (hw _ (List.mem_of_getElem? (i := 68) rfl))) (mvT hZ (hw _ (List.mem_of_getElem? (i := 72) rfl))) (by decide) (backOf (W := 0) (rmCanI l Z a0 hw [] ch h0 n0 Zc1 (hc0 : ¬ (ch < (0 : Int32)))) hZ (hw _ (List.mem_of_getElem? (i := 72) rfl)) (hw _ (List.mem_of_getElem? (i := 68) rfl)) (by decide) (by decide)) (g := (mkF m 1 #[.val (.ref b), .val (.int ch), .val (.int (Int32.ofNat j0)), .val (.int (Int32.ofNat cs.length))] [(.int ch)])) rfl (by rw [hml]; rfl) (argsL := [(.int ch)]) (rest := []) (lenOf pd__I_Z rfl) rfl (by show 2 * 0 + _ ≤ _; exact Nat.le_of_eq rfl) (Jvm.hb hby d_jdk_43_method_22_1) (fun _ _ => ⟨rfl, e0, (by decide : 0 + 0 ≤ _), (by decide : 0 + 0 ≤ _)⟩)
  dsimp only [Pt.U, Pt.locs, Pt.cells, Pt.slots] at X2 l2 y2 z2 st2 hQ2
  subst l2 y2 z2
  obtain ⟨rfl, N2q, e2⟩ := hQ2
  have N2 := Fr.app N0 N2q
  have s3 : ∀ t_, Steps p.tables e below (T2.setTop (mkF m 4 #[.val (.ref b), .val (.int ch), .val (.int (Int32.ofNat j0)), .val (.int (Int32.ofNat cs.length))] [(.int (if (255 : Int32) < ch then (0 : Int32) else (1 : Int32)))])) t_ → Steps p.tables e below (s₁.setTop (entryFrame m #[(.ref b), (.int ch), (.int (Int32.ofNat j0)), (.int (Int32.ofNat cs.length))] 4)) t_ := fun t_ k_ => pre0 t_ (by
    show Steps p.tables e below (s₁.setTop (mkF m 0 #[.val (.ref b), .val (.int ch), .val (.int (Int32.ofNat j0)), .val (.int (Int32.ofNat cs.length))] [])) t_
    refine XS.iloadN X0.here hx rfl (Jvm.hb hby d_jdk_43_method_22_0) rfl ?_
    show Steps p.tables e below (s₁.setTop (mkF m 1 #[.val (.ref b), .val (.int ch), .val (.int (Int32.ofNat j0)), .val (.int (Int32.ofNat cs.length))] [(.int ch)])) _
    refine st2 _ ?_
    show Steps p.tables e below (T2.setTop (mkF m 4 #[.val (.ref b), .val (.int ch), .val (.int (Int32.ofNat j0)), .val (.int (Int32.ofNat cs.length))] [(.int (if (255 : Int32) < ch then (0 : Int32) else (1 : Int32)))])) _
    show Steps p.tables e below (T2.setTop (mkF m 4 #[.val (.ref b), .val (.int ch), .val (.int (Int32.ofNat j0)), .val (.int (Int32.ofNat cs.length))] [(.int (if (255 : Int32) < ch then (0 : Int32) else (1 : Int32)))])) t_
    exact k_)
  by_cases h4 : (255 : Int32) < ch
  · have s5 : ∀ t_, Steps p.tables e below (T2.setTop (mkF m 4 #[.val (.ref b), .val (.int ch), .val (.int (Int32.ofNat j0)), .val (.int (Int32.ofNat cs.length))] [(.int (0 : Int32))])) t_ → Steps p.tables e below (s₁.setTop (entryFrame m #[(.ref b), (.int ch), (.int (Int32.ofNat j0)), (.int (Int32.ofNat cs.length))] 4)) t_ := fun t_ k_ => s3 t_ (castTop (by simp only [if_pos h4]) k_)
    have s6 : ∀ t_, Steps p.tables e below (T2.setTop (mkF m 8 #[.val (.ref b), .val (.int ch), .val (.int (Int32.ofNat j0)), .val (.int (Int32.ofNat cs.length))] [(.int (-1 : Int32))])) t_ → Steps p.tables e below (s₁.setTop (entryFrame m #[(.ref b), (.int ch), (.int (Int32.ofNat j0)), (.int (Int32.ofNat cs.length))] 4)) t_ := fun t_ k_ => s5 t_ (by
      show Steps p.tables e below (T2.setTop (mkF m 4 #[.val (.ref b), .val (.int ch), .val (.int (Int32.ofNat j0)), .val (.int (Int32.ofNat cs.length))] [(.int (0 : Int32))])) t_
      refine XS.ifNo X2.here hx rfl (Jvm.hb hby d_jdk_43_method_22_4) rfl ((if0 _ _).trans (teq (rfl : (0 : Int32) = (0 : Int32))).2) ?_
      show Steps p.tables e below (T2.setTop (mkF m 7 #[.val (.ref b), .val (.int ch), .val (.int (Int32.ofNat j0)), .val (.int (Int32.ofNat cs.length))] [])) _
      refine XS.iconst X2.here hx rfl (Jvm.hb hby d_jdk_43_method_22_7) ?_
      show Steps p.tables e below (T2.setTop (mkF m 8 #[.val (.ref b), .val (.int ch), .val (.int (Int32.ofNat j0)), .val (.int (Int32.ofNat cs.length))] [(.int (-1 : Int32))])) _
      show Steps p.tables e below (T2.setTop (mkF m 8 #[.val (.ref b), .val (.int ch), .val (.int (Int32.ofNat j0)), .val (.int (Int32.ofNat cs.length))] [(.int (-1 : Int32))])) t_
      exact k_)
    obtain ⟨fs, hr, hrun, hended, hW, hsame⟩ := X2.leave (v := some (.int (-1 : Int32))) (fun h => by rw [Bd.returns] at h; cases h)
    refine ⟨_, _, s6 _ ?_, hrun, hended, _, _, rfl, ?_, ⟨_, rfl⟩, hW, hsame.mono (by decide) (by decide)⟩
    · show Steps p.tables e below (T2.setTop (mkF m 8 #[.val (.ref b), .val (.int ch), .val (.int (Int32.ofNat j0)), .val (.int (Int32.ofNat cs.length))] [(.int (-1 : Int32))])) _
      exact retI X2 hx Bd.returns (Jvm.hb hby d_jdk_43_method_22_8) hr
    · show Q_rmIxL Z _ _ _ _ _ h0 n0 _ T2.heap _
      rw [e2]
      exact ⟨(by rw [own_ix0 cs ch (fun c hc e => hlat c hc (e ▸ h4)) _ _ (by omega)]; rfl), N2, rfl⟩
  · have s7 : ∀ t_, Steps p.tables e below (T2.setTop (mkF m 4 #[.val (.ref b), .val (.int ch), .val (.int (Int32.ofNat j0)), .val (.int (Int32.ofNat cs.length))] [(.int (1 : Int32))])) t_ → Steps p.tables e below (s₁.setTop (entryFrame m #[(.ref b), (.int ch), (.int (Int32.ofNat j0)), (.int (Int32.ofNat cs.length))] 4)) t_ := fun t_ k_ => s3 t_ (castTop (by simp only [if_neg h4]) k_)
    have Zc8 : n0 ≤ h0.size := by omega
    obtain ⟨_, _, ⟨T9, L9, k9, n9⟩, -, X9, ⟨Lc9, hQ9, l9, y9, z9⟩, st9⟩ := Jvm.LawKit.callS X2 hx (y := (⟨"java/lang/Math", "max", "(II)I"⟩ : MethodName)) hown (mvT hZ (hw _ (List.mem_of_getElem? (i := 73) rfl))) (mvT hZ (hw _ (List.mem_of_getElem? (i := 74) rfl))) (mvT hZ (hw _ (List.mem_of_getElem? (i := 75) rfl))) (mvT hZ (hw _ (List.mem_of_getElem? (i := 76) rfl))) (by decide) (backOf (W := 0) (rmMax l Z a0 hw [] j0 0 h0 n0 Zc8 (by first | assumption | rfl | decide | omega : j0 ≤ 8000) (by first | assumption | rfl | decide | omega : 0 ≤ 8000)) hZ (hw _ (List.mem_of_getElem? (i := 76) rfl)) (hw _ (List.mem_of_getElem? (i := 75) rfl)) (by decide) (by decide)) (g := (mkF m 11 #[.val (.ref b), .val (.int ch), .val (.int (Int32.ofNat j0)), .val (.int (Int32.ofNat cs.length))] [(.int (0 : Int32)), (.int (Int32.ofNat j0))])) rfl (by rw [hml]; rfl) (argsL := [(.int (Int32.ofNat j0)), (.int (0 : Int32))]) (rest := []) (lenOf pd__II_I rfl) rfl (by show 2 * 0 + _ ≤ _; exact Nat.le_of_eq rfl) (Jvm.hb hby d_jdk_43_method_22_11) (fun _ _ => ⟨rfl, e2, (by decide : 0 + 0 ≤ _), (by decide : 0 + 0 ≤ _)⟩)
    dsimp only [Pt.U, Pt.locs, Pt.cells, Pt.slots] at X9 l9 y9 z9 st9 hQ9
    subst l9 y9 z9
    obtain ⟨rfl, N9q, e9⟩ := hQ9
    have N9 := Fr.app N2 N9q
    obtain ⟨cl10, Ar10, -, S10, M10, -, -⟩ := id I1
    have Zc11 : n0 ≤ h0.size := by omega
    obtain ⟨_, _, ⟨T12, L12, k12, n12⟩, -, X12, ⟨Lc12, hQ12, l12, y12, z12⟩, st12⟩ := Jvm.LawKit.callS X9 hx (y := (⟨"java/lang/Math", "min", "(II)I"⟩ : MethodName)) hown (mvT hZ (hw _ (List.mem_of_getElem? (i := 77) rfl))) (mvT hZ (hw _ (List.mem_of_getElem? (i := 78) rfl))) (mvT hZ (hw _ (List.mem_of_getElem? (i := 75) rfl))) (mvT hZ (hw _ (List.mem_of_getElem? (i := 79) rfl))) (by decide) (backOf (W := 0) (rmMin l Z a0 hw [] cs.length cs.length h0 n0 Zc11 (by first | assumption | rfl | decide | omega : cs.length ≤ 8000) (by first | assumption | rfl | decide | omega : cs.length ≤ 8000)) hZ (hw _ (List.mem_of_getElem? (i := 79) rfl)) (hw _ (List.mem_of_getElem? (i := 75) rfl)) (by decide) (by decide)) (g := (mkF m 18 #[.val (.ref b), .val (.int ch), .val (.int (Int32.ofNat j0)), .val (.int (Int32.ofNat cs.length))] [(.int (Int32.ofNat cs.length)), (.int (Int32.ofNat cs.length))])) rfl (by rw [hml]; rfl) (argsL := [(.int (Int32.ofNat cs.length)), (.int (Int32.ofNat cs.length))]) (rest := []) (lenOf pd__II_I rfl) rfl (by show 2 * 0 + _ ≤ _; exact Nat.le_of_eq rfl) (Jvm.hb hby d_jdk_43_method_22_18) (fun _ _ => ⟨rfl, e9, (by decide : 0 + 0 ≤ _), (by decide : 0 + 0 ≤ _)⟩)
    dsimp only [Pt.U, Pt.locs, Pt.cells, Pt.slots] at X12 l12 y12 z12 st12 hQ12
    subst l12 y12 z12
    obtain ⟨rfl, N12q, e12⟩ := hQ12
    have N12 := Fr.app N9 N12q
    have s13 : ∀ t_, Steps p.tables e below (T12.setTop (mkF m 24 #[.val (.ref b), .val (.int ch), .val (.int (Int32.ofNat j0)), .val (.int (Int32.ofNat cs.length))] [(.int (Int32.ofNat cs.length)), (.int (Int32.ofNat j0))])) t_ → Steps p.tables e below (s₁.setTop (entryFrame m #[(.ref b), (.int ch), (.int (Int32.ofNat j0)), (.int (Int32.ofNat cs.length))] 4)) t_ := fun t_ k_ => s7 t_ (by
      show Steps p.tables e below (T2.setTop (mkF m 4 #[.val (.ref b), .val (.int ch), .val (.int (Int32.ofNat j0)), .val (.int (Int32.ofNat cs.length))] [(.int (1 : Int32))])) t_
      refine XS.ifYes X2.here hx rfl (pc0 := 4) (pc' := 9) rfl (Jvm.hb hby d_jdk_43_method_22_4) rfl ((if0 _ _).trans (feq (by decide : ¬ ((1 : Int32) = (0 : Int32)))).2) (by decide) (by decide) ?_
      show Steps p.tables e below (T2.setTop (mkF m 9 #[.val (.ref b), .val (.int ch), .val (.int (Int32.ofNat j0)), .val (.int (Int32.ofNat cs.length))] [])) _
      refine XS.iloadN X2.here hx rfl (Jvm.hb hby d_jdk_43_method_22_9) rfl ?_
      show Steps p.tables e below (T2.setTop (mkF m 10 #[.val (.ref b), .val (.int ch), .val (.int (Int32.ofNat j0)), .val (.int (Int32.ofNat cs.length))] [(.int (Int32.ofNat j0))])) _
      refine XS.iconst X2.here hx rfl (Jvm.hb hby d_jdk_43_method_22_10) ?_
      show Steps p.tables e below (T2.setTop (mkF m 11 #[.val (.ref b), .val (.int ch), .val (.int (Int32.ofNat j0)), .val (.int (Int32.ofNat cs.length))] [(.int (0 : Int32)), (.int (Int32.ofNat j0))])) _
      refine st9 _ ?_
      show Steps p.tables e below (T9.setTop (mkF m 14 #[.val (.ref b), .val (.int ch), .val (.int (Int32.ofNat j0)), .val (.int (Int32.ofNat cs.length))] [(.int (Int32.ofNat (max j0 0)))])) _
      refine castTop (g' := (mkF m 14 #[.val (.ref b), .val (.int ch), .val (.int (Int32.ofNat j0)), .val (.int (Int32.ofNat cs.length))] [(.int (Int32.ofNat j0))])) (by rw [Nat.max_zero]) ?_
      show Steps p.tables e below (T9.setTop (mkF m 14 #[.val (.ref b), .val (.int ch), .val (.int (Int32.ofNat j0)), .val (.int (Int32.ofNat cs.length))] [(.int (Int32.ofNat j0))])) _
      refine XS.istoreN X9.here hx rfl (Jvm.hb hby d_jdk_43_method_22_14) rfl (l' := #[.val (.ref b), .val (.int ch), .val (.int (Int32.ofNat j0)), .val (.int (Int32.ofNat cs.length))]) rfl ?_
      show Steps p.tables e below (T9.setTop (mkF m 15 #[.val (.ref b), .val (.int ch), .val (.int (Int32.ofNat j0)), .val (.int (Int32.ofNat cs.length))] [])) _
      refine XS.iloadN X9.here hx rfl (Jvm.hb hby d_jdk_43_method_22_15) rfl ?_
      show Steps p.tables e below (T9.setTop (mkF m 16 #[.val (.ref b), .val (.int ch), .val (.int (Int32.ofNat j0)), .val (.int (Int32.ofNat cs.length))] [(.int (Int32.ofNat cs.length))])) _
      refine XS.aloadN X9.here hx rfl (Jvm.hb hby d_jdk_43_method_22_16) rfl rfl ?_
      show Steps p.tables e below (T9.setTop (mkF m 17 #[.val (.ref b), .val (.int ch), .val (.int (Int32.ofNat j0)), .val (.int (Int32.ofNat cs.length))] [(.ref b), (.int (Int32.ofNat cs.length))])) _
      refine X9.arraylength hx (by rw [e9]; exact Ar10.1) (State.isArrayOf_alike hZ.alike Ar10.2.1) (g := (mkF m 17 #[.val (.ref b), .val (.int ch), .val (.int (Int32.ofNat j0)), .val (.int (Int32.ofNat cs.length))] [(.ref b), (.int (Int32.ofNat cs.length))])) rfl rfl (Jvm.hb hby d_jdk_43_method_22_17) _ ?_
      rw [len_of S10 M10]
      show Steps p.tables e below (T9.setTop (mkF m 18 #[.val (.ref b), .val (.int ch), .val (.int (Int32.ofNat j0)), .val (.int (Int32.ofNat cs.length))] [(.int (Int32.ofNat cs.length)), (.int (Int32.ofNat cs.length))])) _
      refine st12 _ ?_
      show Steps p.tables e below (T12.setTop (mkF m 21 #[.val (.ref b), .val (.int ch), .val (.int (Int32.ofNat j0)), .val (.int (Int32.ofNat cs.length))] [(.int (Int32.ofNat (min cs.length cs.length)))])) _
      refine castTop (g' := (mkF m 21 #[.val (.ref b), .val (.int ch), .val (.int (Int32.ofNat j0)), .val (.int (Int32.ofNat cs.length))] [(.int (Int32.ofNat cs.length))])) (by rw [Nat.min_self]) ?_
      show Steps p.tables e below (T12.setTop (mkF m 21 #[.val (.ref b), .val (.int ch), .val (.int (Int32.ofNat j0)), .val (.int (Int32.ofNat cs.length))] [(.int (Int32.ofNat cs.length))])) _
      refine XS.istoreN X12.here hx rfl (Jvm.hb hby d_jdk_43_method_22_21) rfl (l' := #[.val (.ref b), .val (.int ch), .val (.int (Int32.ofNat j0)), .val (.int (Int32.ofNat cs.length))]) rfl ?_
      show Steps p.tables e below (T12.setTop (mkF m 22 #[.val (.ref b), .val (.int ch), .val (.int (Int32.ofNat j0)), .val (.int (Int32.ofNat cs.length))] [])) _
      refine XS.iloadN X12.here hx rfl (Jvm.hb hby d_jdk_43_method_22_22) rfl ?_
      show Steps p.tables e below (T12.setTop (mkF m 23 #[.val (.ref b), .val (.int ch), .val (.int (Int32.ofNat j0)), .val (.int (Int32.ofNat cs.length))] [(.int (Int32.ofNat j0))])) _
      refine XS.iloadN X12.here hx rfl (Jvm.hb hby d_jdk_43_method_22_23) rfl ?_
      show Steps p.tables e below (T12.setTop (mkF m 24 #[.val (.ref b), .val (.int ch), .val (.int (Int32.ofNat j0)), .val (.int (Int32.ofNat cs.length))] [(.int (Int32.ofNat cs.length)), (.int (Int32.ofNat j0))])) _
      show Steps p.tables e below (T12.setTop (mkF m 24 #[.val (.ref b), .val (.int ch), .val (.int (Int32.ofNat j0)), .val (.int (Int32.ofNat cs.length))] [(.int (Int32.ofNat cs.length)), (.int (Int32.ofNat j0))])) t_
      exact k_)
    by_cases h14 : (Int32.ofNat j0) < (Int32.ofNat cs.length)
    · have Zc15 : n0 ≤ h0.size := by omega
      obtain ⟨_, _, ⟨T16, L16, k16, n16⟩, -, X16, ⟨Lc16, hQ16, l16, y16, z16⟩, st16⟩ := Jvm.LawKit.callS X12 hx (y := (⟨"java/lang/StringLatin1", "indexOfChar", "([BIII)I"⟩ : MethodName)) hown (mvT hZ (hw _ (List.mem_of_getElem? (i := 80) rfl))) (mvT hZ (hw _ (List.mem_of_getElem? (i := 81) rfl))) (mvT hZ (hw _ (List.mem_of_getElem? (i := 68) rfl))) (mvT hZ (hw _ (List.mem_of_getElem? (i := 82) rfl))) (by decide) (backOf (W := 0) (rmIxC l Z a0 hw [] b ch kb cs j0 h0 n0 Zc15 I1 (hb : cs.length ≤ 6) (hj0 : j0 ≤ cs.length) (hlat : own_lat cs) (hchs : own_chs cs) (hc0 : ¬ (ch < (0 : Int32))) h4) hZ (hw _ (List.mem_of_getElem? (i := 82) rfl)) (hw _ (List.mem_of_getElem? (i := 68) rfl)) (by decide) (by decide)) (g := (mkF m 33 #[.val (.ref b), .val (.int ch), .val (.int (Int32.ofNat j0)), .val (.int (Int32.ofNat cs.length))] [(.int (Int32.ofNat cs.length)), (.int (Int32.ofNat j0)), (.int ch), (.ref b)])) rfl (by rw [hml]; rfl) (argsL := [(.ref b), (.int ch), (.int (Int32.ofNat j0)), (.int (Int32.ofNat cs.length))]) (rest := []) (lenOf pd___BIII_I rfl) rfl (by show 2 * 0 + _ ≤ _; exact Nat.le_of_eq rfl) (Jvm.hb hby d_jdk_43_method_22_33) (fun _ _ => ⟨rfl, e12, (by decide : 0 + 0 ≤ _), (by decide : 0 + 0 ≤ _)⟩)
      dsimp only [Pt.U, Pt.locs, Pt.cells, Pt.slots] at X16 l16 y16 z16 st16 hQ16
      subst l16 y16 z16
      obtain ⟨rfl, N16q, e16⟩ := hQ16
      have N16 := Fr.app N12 N16q
      have s17 : ∀ t_, Steps p.tables e below (T16.setTop (mkF m 36 #[.val (.ref b), .val (.int ch), .val (.int (Int32.ofNat j0)), .val (.int (Int32.ofNat cs.length))] [(.int ((Int32.ofNat (own_ix cs ch j0 (cs.length - j0))) - (1 : Int32)))])) t_ → Steps p.tables e below (s₁.setTop (entryFrame m #[(.ref b), (.int ch), (.int (Int32.ofNat j0)), (.int (Int32.ofNat cs.length))] 4)) t_ := fun t_ k_ => s13 t_ (by
        show Steps p.tables e below (T12.setTop (mkF m 24 #[.val (.ref b), .val (.int ch), .val (.int (Int32.ofNat j0)), .val (.int (Int32.ofNat cs.length))] [(.int (Int32.ofNat cs.length)), (.int (Int32.ofNat j0))])) t_
        refine XS.icmpYes X12.here hx rfl (pc0 := 24) (pc' := 29) rfl (Jvm.hb hby d_jdk_43_method_22_24) rfl (tlt h14).1 (by decide) (by decide) ?_
        show Steps p.tables e below (T12.setTop (mkF m 29 #[.val (.ref b), .val (.int ch), .val (.int (Int32.ofNat j0)), .val (.int (Int32.ofNat cs.length))] [])) _
        refine XS.aloadN X12.here hx rfl (Jvm.hb hby d_jdk_43_method_22_29) rfl rfl ?_
        show Steps p.tables e below (T12.setTop (mkF m 30 #[.val (.ref b), .val (.int ch), .val (.int (Int32.ofNat j0)), .val (.int (Int32.ofNat cs.length))] [(.ref b)])) _
        refine XS.iloadN X12.here hx rfl (Jvm.hb hby d_jdk_43_method_22_30) rfl ?_
        show Steps p.tables e below (T12.setTop (mkF m 31 #[.val (.ref b), .val (.int ch), .val (.int (Int32.ofNat j0)), .val (.int (Int32.ofNat cs.length))] [(.int ch), (.ref b)])) _
        refine XS.iloadN X12.here hx rfl (Jvm.hb hby d_jdk_43_method_22_31) rfl ?_
        show Steps p.tables e below (T12.setTop (mkF m 32 #[.val (.ref b), .val (.int ch), .val (.int (Int32.ofNat j0)), .val (.int (Int32.ofNat cs.length))] [(.int (Int32.ofNat j0)), (.int ch), (.ref b)])) _
        refine XS.iloadN X12.here hx rfl (Jvm.hb hby d_jdk_43_method_22_32) rfl ?_
        show Steps p.tables e below (T12.setTop (mkF m 33 #[.val (.ref b), .val (.int ch), .val (.int (Int32.ofNat j0)), .val (.int (Int32.ofNat cs.length))] [(.int (Int32.ofNat cs.length)), (.int (Int32.ofNat j0)), (.int ch), (.ref b)])) _
        refine st16 _ ?_
        show Steps p.tables e below (T16.setTop (mkF m 36 #[.val (.ref b), .val (.int ch), .val (.int (Int32.ofNat j0)), .val (.int (Int32.ofNat cs.length))] [(.int ((Int32.ofNat (own_ix cs ch j0 (cs.length - j0))) - (1 : Int32)))])) _
        show Steps p.tables e below (T16.setTop (mkF m 36 #[.val (.ref b), .val (.int ch), .val (.int (Int32.ofNat j0)), .val (.int (Int32.ofNat cs.length))] [(.int ((Int32.ofNat (own_ix cs ch j0 (cs.length - j0))) - (1 : Int32)))])) t_
        exact k_)
      obtain ⟨fs, hr, hrun, hended, hW, hsame⟩ := X16.leave (v := some (.int ((Int32.ofNat (own_ix cs ch j0 (cs.length - j0))) - (1 : Int32)))) (fun h => by rw [Bd.returns] at h; cases h)
      refine ⟨_, _, s17 _ ?_, hrun, hended, _, _, rfl, ?_, ⟨_, rfl⟩, hW, hsame.mono (by decide) (by decide)⟩
      · show Steps p.tables e below (T16.setTop (mkF m 36 #[.val (.ref b), .val (.int ch), .val (.int (Int32.ofNat j0)), .val (.int (Int32.ofNat cs.length))] [(.int ((Int32.ofNat (own_ix cs ch j0 (cs.length - j0))) - (1 : Int32)))])) _
        exact retI X16 hx Bd.returns (Jvm.hb hby d_jdk_43_method_22_36) hr
      · show Q_rmIxL Z _ _ _ _ _ h0 n0 _ T16.heap _
        rw [e16]
        exact ⟨rfl, N16, rfl⟩
    · have s18 : ∀ t_, Steps p.tables e below (T12.setTop (mkF m 28 #[.val (.ref b), .val (.int ch), .val (.int (Int32.ofNat j0)), .val (.int (Int32.ofNat cs.length))] [(.int (-1 : Int32))])) t_ → Steps p.tables e below (s₁.setTop (entryFrame m #[(.ref b), (.int ch), (.int (Int32.ofNat j0)), (.int (Int32.ofNat cs.length))] 4)) t_ := fun t_ k_ => s13 t_ (by
        show Steps p.tables e below (T12.setTop (mkF m 24 #[.val (.ref b), .val (.int ch), .val (.int (Int32.ofNat j0)), .val (.int (Int32.ofNat cs.length))] [(.int (Int32.ofNat cs.length)), (.int (Int32.ofNat j0))])) t_
        refine XS.icmpNo X12.here hx rfl (Jvm.hb hby d_jdk_43_method_22_24) rfl (flt h14).1 ?_
        show Steps p.tables e below (T12.setTop (mkF m 27 #[.val (.ref b), .val (.int ch), .val (.int (Int32.ofNat j0)), .val (.int (Int32.ofNat cs.length))] [])) _
        refine XS.iconst X12.here hx rfl (Jvm.hb hby d_jdk_43_method_22_27) ?_
        show Steps p.tables e below (T12.setTop (mkF m 28 #[.val (.ref b), .val (.int ch), .val (.int (Int32.ofNat j0)), .val (.int (Int32.ofNat cs.length))] [(.int (-1 : Int32))])) _
        show Steps p.tables e below (T12.setTop (mkF m 28 #[.val (.ref b), .val (.int ch), .val (.int (Int32.ofNat j0)), .val (.int (Int32.ofNat cs.length))] [(.int (-1 : Int32))])) t_
        exact k_)
      obtain ⟨fs, hr, hrun, hended, hW, hsame⟩ := X12.leave (v := some (.int (-1 : Int32))) (fun h => by rw [Bd.returns] at h; cases h)
      refine ⟨_, _, s18 _ ?_, hrun, hended, _, _, rfl, ?_, ⟨_, rfl⟩, hW, hsame.mono (by decide) (by decide)⟩
      · show Steps p.tables e below (T12.setTop (mkF m 28 #[.val (.ref b), .val (.int ch), .val (.int (Int32.ofNat j0)), .val (.int (Int32.ofNat cs.length))] [(.int (-1 : Int32))])) _
        exact retI X12 hx Bd.returns (Jvm.hb hby d_jdk_43_method_22_28) hr
      · show Q_rmIxL Z _ _ _ _ _ h0 n0 _ T12.heap _
        rw [e12]
        exact ⟨(by rw [show cs.length - j0 = 0 from own_sub0 h14 (by omega)]; rfl), N12, rfl⟩
theorem d_jdk_42_method_80_0 : decode jdk_42_method_80_code 0 = .ok (.aload_n 0, 1) := by decide +kernel
theorem pd___Z : parseMethodDescriptor "()Z" = some ⟨[], some .boolean⟩ := by decide +kernel
theorem d_jdk_42_method_80_1 : decode jdk_42_method_80_code 1 = .ok (.invokevirtual 492, 3) := by decide +kernel
theorem d_jdk_42_method_80_4 : decode jdk_42_method_80_code 4 = .ok (.ifCond .eq 19, 3) := by decide +kernel
theorem d_jdk_42_method_80_7 : decode jdk_42_method_80_code 7 = .ok (.aload_n 0, 1) := by decide +kernel
theorem d_jdk_42_method_80_8 : decode jdk_42_method_80_code 8 = .ok (.getfield 9, 3) := by decide +kernel
theorem d_jdk_42_method_80_11 : decode jdk_42_method_80_code 11 = .ok (.iload_n 1, 1) := by decide +kernel
theorem d_jdk_42_method_80_12 : decode jdk_42_method_80_code 12 = .ok (.iload_n 2, 1) := by decide +kernel
theorem d_jdk_42_method_80_13 : decode jdk_42_method_80_code 13 = .ok (.aload_n 0, 1) := by decide +kernel
theorem pd___I : parseMethodDescriptor "()I" = some ⟨[], some .int⟩ := by decide +kernel
theorem d_jdk_42_method_80_14 : decode jdk_42_method_80_code 14 = .ok (.invokevirtual 505, 3) := by decide +kernel
theorem d_jdk_42_method_80_17 : decode jdk_42_method_80_code 17 = .ok (.invokestatic 637, 3) := by decide +kernel
theorem d_jdk_42_method_80_20 : decode jdk_42_method_80_code 20 = .ok (.goto 16, 3) := by decide +kernel
theorem d_jdk_42_method_80_36 : decode jdk_42_method_80_code 36 = .ok (.ireturn, 1) := by decide +kernel
theorem ef_rmIxOf (m : MethodId) (x0 : Addr) (x1 : Int32) (x2 : Int32) : entryFrame m #[(.ref x0), (.int x1), (.int x2)] 3 = mkF m 0 #[.val (.ref x0), .val (.int x1), .val (.int x2)] [] := by first | (simp [entryFrame, mkF, argsToLocals, Value.category]; done) | rfl
def Q_rmIxOf (Z : State) (a : Addr) (ch : Int32) (cst : Int32) (b : Addr) (kb : ClassId) (cs : List Int32) (j0 : Nat) (h0 : Heap) (n0 : Nat) (v : Option Value) (h : Heap) (L : List Loc) : Prop := (v = some (.int ((Int32.ofNat (own_ix cs ch j0 (cs.length - j0))) - (1 : Int32)))) ∧ (Fr n0 L) ∧ (h = h0)
set_option maxRecDepth 65536 in
set_option maxHeartbeats 40000000 in
theorem rmIxOf (l : Launch) (Z : State) (a0 : Array Value) (hw : ∀ d ∈ tables_1, d.before a0 Z = true) (ws : List Jvm.Cond) (a : Addr) (ch : Int32) (cst : Int32) (b : Addr) (kb : ClassId) (cs : List Int32) (j0 : Nat) (h0 : Heap) (n0 : Nat) (Z0 : n0 ≤ h0.size) (I1 : Sta Z Z.heap "java/lang/String" "COMPACT_STRINGS" "Z" (.int cst)) (OX : Old Z n0 h0) (hcst : ¬ (cst = (0 : Int32))) (I2 : Exa Z h0 a "java/lang/String") (I3 : Fld Z h0 a "java/lang/String" "value" "[B" (.ref b)) (I4 : Fld Z h0 a "java/lang/String" "coder" "B" (.int (own_cod cs))) (I5 : Arv Z h0 b kb .byte (Int32.ofNat (own_enl cs)) (own_enc cs) (.int (0 : Int32))) (hb : cs.length ≤ 6) (hj0 : j0 ≤ cs.length) (hchs : own_chs cs) (hlat : own_lat cs) (hc0 : ¬ (ch < (0 : Int32))) (hc1 : ¬ ((65535 : Int32) < ch)) :
    MetFree l (⟨"java/lang/String", "indexOf", "(II)I"⟩ : MethodName) (head1 (Jvm.Cond.code (⟨"java/lang/String", "indexOf", "(II)I"⟩ : MethodName) jdk_42_method_80_code 3 (some .int) :: ws) ({ frames := 2, cells := 0, slots := 0, locals := 32 } : Room)) (fun ar_ U => ar_ = #[(.ref a), (.int ch), (.int (Int32.ofNat j0))] ∧ Z.Warmed39 U.vm ∧ U.heap = h0) (fun _ _ _ _ _ => True) (fun _ U o U' => ∃ v L, o = .returned v ∧ Q_rmIxOf Z a ch cst b kb cs j0 h0 n0 v U'.heap L ∧ FrameEnd U o U' L ({ frames := 2, cells := 0, slots := 0, locals := 32 } : Room).cells ({ frames := 2, cells := 0, slots := 0, locals := 32 } : Room).slots) := by
  refine MetFree.of_bodySF (plainFor_of_name pn_java_lang_String) hisR ?_
  intro p e s m args below meth c s₁ Bd hml0 hP hK
  obtain ⟨rfl, hZ, hh⟩ := hP
  have hx := Bd.exec
  have hby := Bd.bytes
  have hml : c.maxLocals = 3 := hml0
  have hown : s.vm.findClass "java/lang/String" = some m.cls := findClass_of_methodNamed Bd.named
  have hnm := (name_of_methodNamed Bd.named Bd.method).1
  have X0 : Stand p l e ({ frames := 2, cells := 0, slots := 0, locals := 32 } : Room) s m #[(.ref a), (.int ch), (.int (Int32.ofNat j0))] below meth c s₁ [] 0 0 := Stand.of_body Bd
  have e0 : s₁.heap = h0 := by rw [← hh, Bd.state]; rfl
  have N0 := Fr.nil n0
  have pre0 : ∀ t_, Steps p.tables e below (s₁.setTop (mkF m 0 #[.val (.ref a), .val (.int ch), .val (.int (Int32.ofNat j0))] [])) t_ → Steps p.tables e below (s₁.setTop (entryFrame m #[(.ref a), (.int ch), (.int (Int32.ofNat j0))] 3)) t_ := fun t_ k_ => castTop (ef_rmIxOf m a ch (Int32.ofNat j0)) k_
  have lt_I2 : @LT.lt Nat _ a h0.size := I2.lt
  have lt_I3 : @LT.lt Nat _ a h0.size := I3.lt
  have lt_I4 : @LT.lt Nat _ a h0.size := I4.lt
  have lt_I5 : @LT.lt Nat _ b h0.size := I5.lt
  have Zc1 : n0 ≤ h0.size := by omega
  obtain ⟨cq2, kq2, q2a, q2b, q2c⟩ := isOf hZ e0 I2
  obtain ⟨_, _, ⟨T2, L2, k2, n2⟩, -, X2, ⟨Lc2, hQ2, l2, y2, z2⟩, st2⟩ := X0.virtualBack hx (y := (⟨"java/lang/String", "isLatin1", "()Z"⟩ : MethodName)) (z := (⟨"java/lang/String", "isLatin1", "()Z"⟩ : MethodName)) hown (mvT hZ (hw _ (List.mem_of_getElem? (i := 51) rfl))) (mvT hZ (hw _ (List.mem_of_getElem? (i := 52) rfl))) (notFace_of_selects (args := #[]) (mvT hZ (hw _ (List.mem_of_getElem? (i := 54) rfl)))) (mvT hZ (hw _ (List.mem_of_getElem? (i := 54) rfl))) (mvT hZ (hw _ (List.mem_of_getElem? (i := 53) rfl))) (by decide) (backOf (W := 0) (rmIsL l Z a0 hw [] a cst cs h0 n0 Zc1 I1 OX (hcst : ¬ (cst = (0 : Int32))) I4) hZ (hw _ (List.mem_of_getElem? (i := 55) rfl)) (hw _ (List.mem_of_getElem? (i := 8) rfl)) (by decide) (by decide)) q2a q2c (g := (mkF m 1 #[.val (.ref a), .val (.int ch), .val (.int (Int32.ofNat j0))] [(.ref a)])) rfl (by rw [hml]; rfl) (Steps.refl _) (argsL := []) (rest := []) (lenOf pd___Z rfl) rfl (by show 2 * 0 + _ ≤ _; exact Nat.le_of_eq rfl) (Jvm.hb hby d_jdk_42_method_80_1) (fun _ _ => ⟨rfl, e0, (by decide : 0 + 0 ≤ _), (by decide : 0 + 0 ≤ _)⟩)
  dsimp only [Pt.U, Pt.locs, Pt.cells, Pt.slots] at X2 l2 y2 z2 st2 hQ2
  subst l2 y2 z2
  obtain ⟨rfl, N2q, e2⟩ := hQ2
  have N2 := Fr.app N0 N2q
  obtain ⟨T3, X3, e3, st3⟩ := getF X2 hx hZ hown (host := "") (Or.inl (hw _ (List.mem_of_getElem? (i := 33) rfl))) Via.refl e2 I3 (g := (mkF m 8 #[.val (.ref a), .val (.int ch), .val (.int (Int32.ofNat j0))] [(.ref a)])) rfl rfl (Jvm.hb hby d_jdk_42_method_80_8)
  have Zc4 : n0 ≤ h0.size := by omega
  obtain ⟨cq5, kq5, q5a, q5b, q5c⟩ := isOf hZ e3 I2
  obtain ⟨_, _, ⟨T5, L5, k5, n5⟩, -, X5, ⟨Lc5, hQ5, l5, y5, z5⟩, st5⟩ := X3.virtualBack hx (y := (⟨"java/lang/String", "length", "()I"⟩ : MethodName)) (z := (⟨"java/lang/String", "length", "()I"⟩ : MethodName)) hown (mvT hZ (hw _ (List.mem_of_getElem? (i := 56) rfl))) (mvT hZ (hw _ (List.mem_of_getElem? (i := 57) rfl))) (notFace_of_selects (args := #[]) (mvT hZ (hw _ (List.mem_of_getElem? (i := 59) rfl)))) (mvT hZ (hw _ (List.mem_of_getElem? (i := 59) rfl))) (mvT hZ (hw _ (List.mem_of_getElem? (i := 58) rfl))) (by decide) (backOf (W := 3) (rmLen l Z a0 hw [] a cst b kb cs h0 n0 Zc4 I1 OX (hcst : ¬ (cst = (0 : Int32))) I2 I3 I4 I5 (hb : cs.length ≤ 6)) hZ (hw _ (List.mem_of_getElem? (i := 60) rfl)) (hw _ (List.mem_of_getElem? (i := 8) rfl)) (by decide) (by decide)) q5a q5c (g := (mkF m 14 #[.val (.ref a), .val (.int ch), .val (.int (Int32.ofNat j0))] [(.ref a), (.int (Int32.ofNat j0)), (.int ch), (.ref b)])) rfl (by rw [hml]; rfl) (Steps.refl _) (argsL := []) (rest := [(.int (Int32.ofNat j0)), (.int ch), (.ref b)]) (lenOf pd___I rfl) rfl (by show 2 * 0 + _ ≤ _; exact Nat.le_of_eq rfl) (Jvm.hb hby d_jdk_42_method_80_14) (fun _ _ => ⟨rfl, e3, (by decide : 0 + 0 ≤ _), (by decide : 0 + 0 ≤ _)⟩)
  dsimp only [Pt.U, Pt.locs, Pt.cells, Pt.slots] at X5 l5 y5 z5 st5 hQ5
  subst l5 y5 z5
  obtain ⟨rfl, N5q, e5⟩ := hQ5
  have N5 := Fr.app N2 N5q
  have V6 : Arv Z h0 b kb .byte (Int32.ofNat cs.length) (own_enc cs) (.int (0 : Int32)) := by have q := I5; rw [own_enl, if_pos hlat] at q; exact q
  have Zc7 : n0 ≤ h0.size := by omega
  obtain ⟨_, _, ⟨T8, L8, k8, n8⟩, -, X8, ⟨Lc8, hQ8, l8, y8, z8⟩, st8⟩ := Jvm.LawKit.callS X5 hx (y := (⟨"java/lang/StringLatin1", "indexOf", "([BIII)I"⟩ : MethodName)) hown (mvT hZ (hw _ (List.mem_of_getElem? (i := 66) rfl))) (mvT hZ (hw _ (List.mem_of_getElem? (i := 67) rfl))) (mvT hZ (hw _ (List.mem_of_getElem? (i := 68) rfl))) (mvT hZ (hw _ (List.mem_of_getElem? (i := 69) rfl))) (by decide) (backOf (W := 0) (rmIxL l Z a0 hw [] b ch kb cs j0 h0 n0 Zc7 V6 (hb : cs.length ≤ 6) (hj0 : j0 ≤ cs.length) (hlat : own_lat cs) (hchs : own_chs cs) (hc0 : ¬ (ch < (0 : Int32))) (hc1 : ¬ ((65535 : Int32) < ch))) hZ (hw _ (List.mem_of_getElem? (i := 69) rfl)) (hw _ (List.mem_of_getElem? (i := 68) rfl)) (by decide) (by decide)) (g := (mkF m 17 #[.val (.ref a), .val (.int ch), .val (.int (Int32.ofNat j0))] [(.int (Int32.ofNat cs.length)), (.int (Int32.ofNat j0)), (.int ch), (.ref b)])) rfl (by rw [hml]; rfl) (argsL := [(.ref b), (.int ch), (.int (Int32.ofNat j0)), (.int (Int32.ofNat cs.length))]) (rest := []) (lenOf pd___BIII_I rfl) rfl (by show 2 * 0 + _ ≤ _; exact Nat.le_of_eq rfl) (Jvm.hb hby d_jdk_42_method_80_17) (fun _ _ => ⟨rfl, e5, (by decide : 0 + 0 ≤ _), (by decide : 0 + 0 ≤ _)⟩)
  dsimp only [Pt.U, Pt.locs, Pt.cells, Pt.slots] at X8 l8 y8 z8 st8 hQ8
  subst l8 y8 z8
  obtain ⟨rfl, N8q, e8⟩ := hQ8
  have N8 := Fr.app N5 N8q
  have s9 : ∀ t_, Steps p.tables e below (T8.setTop (mkF m 36 #[.val (.ref a), .val (.int ch), .val (.int (Int32.ofNat j0))] [(.int ((Int32.ofNat (own_ix cs ch j0 (cs.length - j0))) - (1 : Int32)))])) t_ → Steps p.tables e below (s₁.setTop (entryFrame m #[(.ref a), (.int ch), (.int (Int32.ofNat j0))] 3)) t_ := fun t_ k_ => pre0 t_ (by
    show Steps p.tables e below (s₁.setTop (mkF m 0 #[.val (.ref a), .val (.int ch), .val (.int (Int32.ofNat j0))] [])) t_
    refine XS.aloadN X0.here hx rfl (Jvm.hb hby d_jdk_42_method_80_0) rfl rfl ?_
    show Steps p.tables e below (s₁.setTop (mkF m 1 #[.val (.ref a), .val (.int ch), .val (.int (Int32.ofNat j0))] [(.ref a)])) _
    refine st2.trans ?_
    show Steps p.tables e below (T2.setTop (mkF m 4 #[.val (.ref a), .val (.int ch), .val (.int (Int32.ofNat j0))] [(.int (if own_cod cs = (0 : Int32) then (1 : Int32) else (0 : Int32)))])) _
    refine castTop (g' := (mkF m 4 #[.val (.ref a), .val (.int ch), .val (.int (Int32.ofNat j0))] [(.int (1 : Int32))])) (by rw [if_pos (own_cod0 hlat)]) ?_
    show Steps p.tables e below (T2.setTop (mkF m 4 #[.val (.ref a), .val (.int ch), .val (.int (Int32.ofNat j0))] [(.int (1 : Int32))])) _
    refine XS.ifNo X2.here hx rfl (Jvm.hb hby d_jdk_42_method_80_4) rfl ((if0 _ _).trans (feq (by decide : ¬ ((1 : Int32) = (0 : Int32)))).1) ?_
    show Steps p.tables e below (T2.setTop (mkF m 7 #[.val (.ref a), .val (.int ch), .val (.int (Int32.ofNat j0))] [])) _
    refine XS.aloadN X2.here hx rfl (Jvm.hb hby d_jdk_42_method_80_7) rfl rfl ?_
    show Steps p.tables e below (T2.setTop (mkF m 8 #[.val (.ref a), .val (.int ch), .val (.int (Int32.ofNat j0))] [(.ref a)])) _
    refine st3 _ ?_
    show Steps p.tables e below (T3.setTop (mkF m 11 #[.val (.ref a), .val (.int ch), .val (.int (Int32.ofNat j0))] [(.ref b)])) _
    refine XS.iloadN X3.here hx rfl (Jvm.hb hby d_jdk_42_method_80_11) rfl ?_
    show Steps p.tables e below (T3.setTop (mkF m 12 #[.val (.ref a), .val (.int ch), .val (.int (Int32.ofNat j0))] [(.int ch), (.ref b)])) _
    refine XS.iloadN X3.here hx rfl (Jvm.hb hby d_jdk_42_method_80_12) rfl ?_
    show Steps p.tables e below (T3.setTop (mkF m 13 #[.val (.ref a), .val (.int ch), .val (.int (Int32.ofNat j0))] [(.int (Int32.ofNat j0)), (.int ch), (.ref b)])) _
    refine XS.aloadN X3.here hx rfl (Jvm.hb hby d_jdk_42_method_80_13) rfl rfl ?_
    show Steps p.tables e below (T3.setTop (mkF m 14 #[.val (.ref a), .val (.int ch), .val (.int (Int32.ofNat j0))] [(.ref a), (.int (Int32.ofNat j0)), (.int ch), (.ref b)])) _
    refine st5.trans ?_
    show Steps p.tables e below (T5.setTop (mkF m 17 #[.val (.ref a), .val (.int ch), .val (.int (Int32.ofNat j0))] [(.int (Int32.ofNat cs.length)), (.int (Int32.ofNat j0)), (.int ch), (.ref b)])) _
    refine st8 _ ?_
    show Steps p.tables e below (T8.setTop (mkF m 20 #[.val (.ref a), .val (.int ch), .val (.int (Int32.ofNat j0))] [(.int ((Int32.ofNat (own_ix cs ch j0 (cs.length - j0))) - (1 : Int32)))])) _
    refine XS.goto X8.here hx rfl (pc0 := 20) (pc' := 36) rfl (Jvm.hb hby d_jdk_42_method_80_20) (by decide) (by decide) ?_
    show Steps p.tables e below (T8.setTop (mkF m 36 #[.val (.ref a), .val (.int ch), .val (.int (Int32.ofNat j0))] [(.int ((Int32.ofNat (own_ix cs ch j0 (cs.length - j0))) - (1 : Int32)))])) _
    show Steps p.tables e below (T8.setTop (mkF m 36 #[.val (.ref a), .val (.int ch), .val (.int (Int32.ofNat j0))] [(.int ((Int32.ofNat (own_ix cs ch j0 (cs.length - j0))) - (1 : Int32)))])) t_
    exact k_)
  obtain ⟨fs, hr, hrun, hended, hW, hsame⟩ := X8.leave (v := some (.int ((Int32.ofNat (own_ix cs ch j0 (cs.length - j0))) - (1 : Int32)))) (fun h => by rw [Bd.returns] at h; cases h)
  refine ⟨_, _, s9 _ ?_, hrun, hended, _, _, rfl, ?_, ⟨_, rfl⟩, hW, hsame.mono (by decide) (by decide)⟩
  · show Steps p.tables e below (T8.setTop (mkF m 36 #[.val (.ref a), .val (.int ch), .val (.int (Int32.ofNat j0))] [(.int ((Int32.ofNat (own_ix cs ch j0 (cs.length - j0))) - (1 : Int32)))])) _
    exact retI X8 hx Bd.returns (Jvm.hb hby d_jdk_42_method_80_36) hr
  · show Q_rmIxOf Z _ _ _ _ _ _ _ h0 n0 _ T8.heap _
    rw [e8]
    exact ⟨rfl, N8, rfl⟩
theorem pn_com_example_odysseus_odysseus_EscapesSegmentStartPinLaw : plainName "com/example/odysseus/odysseus/EscapesSegmentStartPinLaw" = true := by first | (simp [plainName, overriddenIn]; done) | decide +kernel
theorem d_method_2_0 : decode method_2_code 0 = .ok (.iload_n 0, 1) := by decide +kernel
theorem d_method_2_1 : decode method_2_code 1 = .ok (.iload_n 3, 1) := by decide +kernel
theorem d_method_2_2 : decode method_2_code 2 = .ok (.iushr, 1) := by decide +kernel
theorem d_method_2_3 : decode method_2_code 3 = .ok (.iconst 1, 1) := by decide +kernel
theorem d_method_2_4 : decode method_2_code 4 = .ok (.iand, 1) := by decide +kernel
theorem d_method_2_5 : decode method_2_code 5 = .ok (.ifCond .eq 6, 3) := by decide +kernel
theorem d_method_2_11 : decode method_2_code 11 = .ok (.lload_n 1, 1) := by decide +kernel
theorem d_method_2_12 : decode method_2_code 12 = .ok (.bipush 8, 2) := by decide +kernel
theorem d_method_2_14 : decode method_2_code 14 = .ok (.iload_n 3, 1) := by decide +kernel
theorem d_method_2_15 : decode method_2_code 15 = .ok (.imul, 1) := by decide +kernel
theorem d_method_2_16 : decode method_2_code 16 = .ok (.lushr, 1) := by decide +kernel
theorem d_method_2_17 : decode method_2_code 17 = .ok (.ldc2_w 7, 3) := by decide +kernel
theorem d_method_2_20 : decode method_2_code 20 = .ok (.land, 1) := by decide +kernel
theorem d_method_2_21 : decode method_2_code 21 = .ok (.l2i, 1) := by decide +kernel
theorem d_method_2_22 : decode method_2_code 22 = .ok (.i2c, 1) := by decide +kernel
theorem d_method_2_23 : decode method_2_code 23 = .ok (.ireturn, 1) := by decide +kernel
theorem d_method_2_8 : decode method_2_code 8 = .ok (.bipush 47, 2) := by decide +kernel
theorem d_method_2_10 : decode method_2_code 10 = .ok (.ireturn, 1) := by decide +kernel
theorem ef_rmDraw (m : MethodId) (x0 : Int32) (x1 : Int64) (x2 : Int32) : entryFrame m #[(.int x0), (.long x1), (.int x2)] 4 = mkF m 0 #[.val (.int x0), .val (.long x1), .second, .val (.int x2)] [] := by first | (simp [entryFrame, mkF, argsToLocals, Value.category]; done) | rfl
def Q_rmDraw (Z : State) (bits : Int32) (oth : Int64) (ix : Int32) (h0 : Heap) (n0 : Nat) (v : Option Value) (h : Heap) (L : List Loc) : Prop := ∃ (rr : Int32), (v = some (.int rr)) ∧ (Fr n0 L) ∧ (h = h0) ∧ (¬ (rr < (0 : Int32))) ∧ (¬ ((255 : Int32) < rr))
set_option maxRecDepth 65536 in
set_option maxHeartbeats 40000000 in
theorem rmDraw (l : Launch) (Z : State) (a0 : Array Value) (hw : ∀ d ∈ tables_1, d.before a0 Z = true) (ws : List Jvm.Cond) (bits : Int32) (oth : Int64) (ix : Int32) (h0 : Heap) (n0 : Nat) (Z0 : n0 ≤ h0.size)  :
    MetFree l (⟨"com/example/odysseus/odysseus/EscapesSegmentStartPinLaw", "draw", "(IJI)C"⟩ : MethodName) (head1 (Jvm.Cond.code (⟨"com/example/odysseus/odysseus/EscapesSegmentStartPinLaw", "draw", "(IJI)C"⟩ : MethodName) method_2_code 4 (some .char) :: ws) ({ frames := 0, cells := 0, slots := 0, locals := 0 } : Room)) (fun ar_ U => ar_ = #[(.int bits), (.long oth), (.int ix)] ∧ Z.Warmed39 U.vm ∧ U.heap = h0) (fun _ _ _ _ _ => True) (fun _ U o U' => ∃ v L, o = .returned v ∧ Q_rmDraw Z bits oth ix h0 n0 v U'.heap L ∧ FrameEnd U o U' L ({ frames := 0, cells := 0, slots := 0, locals := 0 } : Room).cells ({ frames := 0, cells := 0, slots := 0, locals := 0 } : Room).slots) := by
  refine MetFree.of_bodySF (plainFor_of_name pn_com_example_odysseus_odysseus_EscapesSegmentStartPinLaw) hisR ?_
  intro p e s m args below meth c s₁ Bd hml0 hP hK
  obtain ⟨rfl, hZ, hh⟩ := hP
  have hx := Bd.exec
  have hby := Bd.bytes
  have hml : c.maxLocals = 4 := hml0
  have hown : s.vm.findClass "com/example/odysseus/odysseus/EscapesSegmentStartPinLaw" = some m.cls := findClass_of_methodNamed Bd.named
  have hnm := (name_of_methodNamed Bd.named Bd.method).1
  have X0 : Stand p l e ({ frames := 0, cells := 0, slots := 0, locals := 0 } : Room) s m #[(.int bits), (.long oth), (.int ix)] below meth c s₁ [] 0 0 := Stand.of_body Bd
  have e0 : s₁.heap = h0 := by rw [← hh, Bd.state]; rfl
  have N0 := Fr.nil n0
  have pre0 : ∀ t_, Steps p.tables e below (s₁.setTop (mkF m 0 #[.val (.int bits), .val (.long oth), .second, .val (.int ix)] [])) t_ → Steps p.tables e below (s₁.setTop (entryFrame m #[(.int bits), (.long oth), (.int ix)] 4)) t_ := fun t_ k_ => castTop (ef_rmDraw m bits oth ix) k_
  have s1 : ∀ t_, Steps p.tables e below (s₁.setTop (mkF m 5 #[.val (.int bits), .val (.long oth), .second, .val (.int ix)] [(.int ((ushr bits ix) &&& (1 : Int32)))])) t_ → Steps p.tables e below (s₁.setTop (entryFrame m #[(.int bits), (.long oth), (.int ix)] 4)) t_ := fun t_ k_ => pre0 t_ (by
    show Steps p.tables e below (s₁.setTop (mkF m 0 #[.val (.int bits), .val (.long oth), .second, .val (.int ix)] [])) t_
    refine XS.iloadN X0.here hx rfl (Jvm.hb hby d_method_2_0) rfl ?_
    show Steps p.tables e below (s₁.setTop (mkF m 1 #[.val (.int bits), .val (.long oth), .second, .val (.int ix)] [(.int bits)])) _
    refine XS.iloadN X0.here hx rfl (Jvm.hb hby d_method_2_1) rfl ?_
    show Steps p.tables e below (s₁.setTop (mkF m 2 #[.val (.int bits), .val (.long oth), .second, .val (.int ix)] [(.int ix), (.int bits)])) _
    refine XS.iushr X0.here hx rfl (Jvm.hb hby d_method_2_2) rfl ?_
    show Steps p.tables e below (s₁.setTop (mkF m 3 #[.val (.int bits), .val (.long oth), .second, .val (.int ix)] [(.int (ushr bits ix))])) _
    refine XS.iconst X0.here hx rfl (Jvm.hb hby d_method_2_3) ?_
    show Steps p.tables e below (s₁.setTop (mkF m 4 #[.val (.int bits), .val (.long oth), .second, .val (.int ix)] [(.int (1 : Int32)), (.int (ushr bits ix))])) _
    refine XS.iand X0.here hx rfl (Jvm.hb hby d_method_2_4) rfl ?_
    show Steps p.tables e below (s₁.setTop (mkF m 5 #[.val (.int bits), .val (.long oth), .second, .val (.int ix)] [(.int ((ushr bits ix) &&& (1 : Int32)))])) _
    show Steps p.tables e below (s₁.setTop (mkF m 5 #[.val (.int bits), .val (.long oth), .second, .val (.int ix)] [(.int ((ushr bits ix) &&& (1 : Int32)))])) t_
    exact k_)
  by_cases h2 : ((ushr bits ix) &&& (1 : Int32)) = (0 : Int32)
  · have s3 : ∀ t_, Steps p.tables e below (s₁.setTop (mkF m 23 #[.val (.int bits), .val (.long oth), .second, .val (.int ix)] [(.int (i2c (((ushrJ oth ((8 : Int32) * ix)) &&& (255 : Int64)).toInt32)))])) t_ → Steps p.tables e below (s₁.setTop (entryFrame m #[(.int bits), (.long oth), (.int ix)] 4)) t_ := fun t_ k_ => s1 t_ (by
      show Steps p.tables e below (s₁.setTop (mkF m 5 #[.val (.int bits), .val (.long oth), .second, .val (.int ix)] [(.int ((ushr bits ix) &&& (1 : Int32)))])) t_
      refine XS.ifYes X0.here hx rfl (pc0 := 5) (pc' := 11) rfl (Jvm.hb hby d_method_2_5) rfl ((if0 _ _).trans (teq h2).1) (by decide) (by decide) ?_
      show Steps p.tables e below (s₁.setTop (mkF m 11 #[.val (.int bits), .val (.long oth), .second, .val (.int ix)] [])) _
      refine XS.lloadN X0.here hx rfl (Jvm.hb hby d_method_2_11) rfl ?_
      show Steps p.tables e below (s₁.setTop (mkF m 12 #[.val (.int bits), .val (.long oth), .second, .val (.int ix)] [(.long oth)])) _
      refine XS.bipush X0.here hx rfl (Jvm.hb hby d_method_2_12) ?_
      show Steps p.tables e below (s₁.setTop (mkF m 14 #[.val (.int bits), .val (.long oth), .second, .val (.int ix)] [(.int (8 : Int32)), (.long oth)])) _
      refine XS.iloadN X0.here hx rfl (Jvm.hb hby d_method_2_14) rfl ?_
      show Steps p.tables e below (s₁.setTop (mkF m 15 #[.val (.int bits), .val (.long oth), .second, .val (.int ix)] [(.int ix), (.int (8 : Int32)), (.long oth)])) _
      refine XS.imul X0.here hx rfl (Jvm.hb hby d_method_2_15) rfl ?_
      show Steps p.tables e below (s₁.setTop (mkF m 16 #[.val (.int bits), .val (.long oth), .second, .val (.int ix)] [(.int ((8 : Int32) * ix)), (.long oth)])) _
      refine XS.lushr X0.here hx rfl (Jvm.hb hby d_method_2_16) rfl ?_
      show Steps p.tables e below (s₁.setTop (mkF m 17 #[.val (.int bits), .val (.long oth), .second, .val (.int ix)] [(.long (ushrJ oth ((8 : Int32) * ix)))])) _
      refine X0.ldc2Long hx hown (mvT hZ (hw _ (List.mem_of_getElem? (i := 5) rfl))) (g := (mkF m 17 #[.val (.int bits), .val (.long oth), .second, .val (.int ix)] [(.long (ushrJ oth ((8 : Int32) * ix)))])) rfl (Jvm.hb hby d_method_2_17) _ ?_
      show Steps p.tables e below (s₁.setTop (mkF m 20 #[.val (.int bits), .val (.long oth), .second, .val (.int ix)] [(.long (255 : Int64)), (.long (ushrJ oth ((8 : Int32) * ix)))])) _
      refine XS.land X0.here hx rfl (Jvm.hb hby d_method_2_20) rfl ?_
      show Steps p.tables e below (s₁.setTop (mkF m 21 #[.val (.int bits), .val (.long oth), .second, .val (.int ix)] [(.long ((ushrJ oth ((8 : Int32) * ix)) &&& (255 : Int64)))])) _
      refine XS.l2i X0.here hx rfl (Jvm.hb hby d_method_2_21) rfl ?_
      show Steps p.tables e below (s₁.setTop (mkF m 22 #[.val (.int bits), .val (.long oth), .second, .val (.int ix)] [(.int (((ushrJ oth ((8 : Int32) * ix)) &&& (255 : Int64)).toInt32))])) _
      refine XS.i2c X0.here hx rfl (Jvm.hb hby d_method_2_22) rfl ?_
      show Steps p.tables e below (s₁.setTop (mkF m 23 #[.val (.int bits), .val (.long oth), .second, .val (.int ix)] [(.int (i2c (((ushrJ oth ((8 : Int32) * ix)) &&& (255 : Int64)).toInt32)))])) _
      show Steps p.tables e below (s₁.setTop (mkF m 23 #[.val (.int bits), .val (.long oth), .second, .val (.int ix)] [(.int (i2c (((ushrJ oth ((8 : Int32) * ix)) &&& (255 : Int64)).toInt32)))])) t_
      exact k_)
    obtain ⟨fs, hr, hrun, hended, hW, hsame⟩ := X0.leave (v := some (.int (nar .char (i2c (((ushrJ oth ((8 : Int32) * ix)) &&& (255 : Int64)).toInt32))))) (fun h => by rw [Bd.returns] at h; cases h)
    refine ⟨_, _, s3 _ ?_, hrun, hended, _, _, rfl, ?_, ⟨_, rfl⟩, hW, hsame.mono (by decide) (by decide)⟩
    · show Steps p.tables e below (s₁.setTop (mkF m 23 #[.val (.int bits), .val (.long oth), .second, .val (.int ix)] [(.int (i2c (((ushrJ oth ((8 : Int32) * ix)) &&& (255 : Int64)).toInt32)))])) _
      exact retN X0 hx (t := .char) Bd.returns (by simp) (Jvm.hb hby d_method_2_23) hr
    · show Q_rmDraw Z _ _ _ h0 n0 _ s₁.heap _
      rw [e0]
      exact ⟨_, rfl, N0, rfl, (own_d255 _).1, (own_d255 _).2⟩
  · have s4 : ∀ t_, Steps p.tables e below (s₁.setTop (mkF m 10 #[.val (.int bits), .val (.long oth), .second, .val (.int ix)] [(.int (47 : Int32))])) t_ → Steps p.tables e below (s₁.setTop (entryFrame m #[(.int bits), (.long oth), (.int ix)] 4)) t_ := fun t_ k_ => s1 t_ (by
      show Steps p.tables e below (s₁.setTop (mkF m 5 #[.val (.int bits), .val (.long oth), .second, .val (.int ix)] [(.int ((ushr bits ix) &&& (1 : Int32)))])) t_
      refine XS.ifNo X0.here hx rfl (Jvm.hb hby d_method_2_5) rfl ((if0 _ _).trans (feq h2).1) ?_
      show Steps p.tables e below (s₁.setTop (mkF m 8 #[.val (.int bits), .val (.long oth), .second, .val (.int ix)] [])) _
      refine XS.bipush X0.here hx rfl (Jvm.hb hby d_method_2_8) ?_
      show Steps p.tables e below (s₁.setTop (mkF m 10 #[.val (.int bits), .val (.long oth), .second, .val (.int ix)] [(.int (47 : Int32))])) _
      show Steps p.tables e below (s₁.setTop (mkF m 10 #[.val (.int bits), .val (.long oth), .second, .val (.int ix)] [(.int (47 : Int32))])) t_
      exact k_)
    obtain ⟨fs, hr, hrun, hended, hW, hsame⟩ := X0.leave (v := some (.int (nar .char (47 : Int32)))) (fun h => by rw [Bd.returns] at h; cases h)
    refine ⟨_, _, s4 _ ?_, hrun, hended, _, _, rfl, ?_, ⟨_, rfl⟩, hW, hsame.mono (by decide) (by decide)⟩
    · show Steps p.tables e below (s₁.setTop (mkF m 10 #[.val (.int bits), .val (.long oth), .second, .val (.int ix)] [(.int (47 : Int32))])) _
      exact retN X0 hx (t := .char) Bd.returns (by simp) (Jvm.hb hby d_method_2_10) hr
    · show Q_rmDraw Z _ _ _ h0 n0 _ s₁.heap _
      rw [e0]
      exact ⟨_, rfl, N0, rfl, by decide, by decide⟩
theorem d_method_3_0 : decode method_3_code 0 = .ok (.iload_n 2, 1) := by decide +kernel
theorem d_method_3_1 : decode method_3_code 1 = .ok (.iload_n 1, 1) := by decide +kernel
theorem d_method_3_2 : decode method_3_code 2 = .ok (.if_icmp .gt 20, 3) := by decide +kernel
theorem d_method_3_22 : decode method_3_code 22 = .ok (.iconst 0, 1) := by decide +kernel
theorem d_method_3_23 : decode method_3_code 23 = .ok (.ireturn, 1) := by decide +kernel
theorem d_method_3_5 : decode method_3_code 5 = .ok (.iload_n 1, 1) := by decide +kernel
theorem d_method_3_6 : decode method_3_code 6 = .ok (.iload_n 3, 1) := by decide +kernel
theorem d_method_3_7 : decode method_3_code 7 = .ok (.if_icmp .ge 15, 3) := by decide +kernel
theorem d_method_3_10 : decode method_3_code 10 = .ok (.aload_n 0, 1) := by decide +kernel
theorem d_method_3_11 : decode method_3_code 11 = .ok (.iload_n 1, 1) := by decide +kernel
theorem d_method_3_12 : decode method_3_code 12 = .ok (.caload, 1) := by decide +kernel
theorem d_method_3_13 : decode method_3_code 13 = .ok (.bipush 47, 2) := by decide +kernel
theorem d_method_3_15 : decode method_3_code 15 = .ok (.if_icmp .ne 7, 3) := by decide +kernel
theorem d_method_3_18 : decode method_3_code 18 = .ok (.iconst 1, 1) := by decide +kernel
theorem d_method_3_19 : decode method_3_code 19 = .ok (.goto 4, 3) := by decide +kernel
theorem ef_rmOne (m : MethodId) (x0 : Addr) (x1 : Int32) (x2 : Int32) (x3 : Int32) : entryFrame m #[(.ref x0), (.int x1), (.int x2), (.int x3)] 4 = mkF m 0 #[.val (.ref x0), .val (.int x1), .val (.int x2), .val (.int x3)] [] := by first | (simp [entryFrame, mkF, argsToLocals, Value.category]; done) | rfl
def Q_rmOne (Z : State) (ca : Addr) (cs : List Int32) (kc : ClassId) (fr : Nat) (to_ : Nat) (i : Nat) (h0 : Heap) (n0 : Nat) (v : Option Value) (h : Heap) (L : List Loc) : Prop := (v = some (.int (Int32.ofNat (own_one (own_sl cs) i fr to_)))) ∧ (Fr n0 L) ∧ (h = h0)
set_option maxRecDepth 65536 in
set_option maxHeartbeats 40000000 in
theorem rmOne (l : Launch) (Z : State) (a0 : Array Value) (hw : ∀ d ∈ tables_1, d.before a0 Z = true) (ws : List Jvm.Cond) (ca : Addr) (cs : List Int32) (kc : ClassId) (fr : Nat) (to_ : Nat) (i : Nat) (h0 : Heap) (n0 : Nat) (Z0 : n0 ≤ h0.size) (I1 : Arv Z h0 ca kc .char (6 : Int32) (cs.map Value.int) (.int (0 : Int32))) (hn : cs.length = 6) (hfr : fr ≤ 8000) (hto : to_ ≤ 8000) (hi : i < 6) :
    MetFree l (⟨"com/example/odysseus/odysseus/EscapesSegmentStartPinLaw", "one", "([CIII)I"⟩ : MethodName) (head1 (Jvm.Cond.code (⟨"com/example/odysseus/odysseus/EscapesSegmentStartPinLaw", "one", "([CIII)I"⟩ : MethodName) method_3_code 4 (some .int) :: ws) ({ frames := 0, cells := 0, slots := 0, locals := 0 } : Room)) (fun ar_ U => ar_ = #[(.ref ca), (.int (Int32.ofNat i)), (.int (Int32.ofNat fr)), (.int (Int32.ofNat to_))] ∧ Z.Warmed39 U.vm ∧ U.heap = h0) (fun _ _ _ _ _ => True) (fun _ U o U' => ∃ v L, o = .returned v ∧ Q_rmOne Z ca cs kc fr to_ i h0 n0 v U'.heap L ∧ FrameEnd U o U' L ({ frames := 0, cells := 0, slots := 0, locals := 0 } : Room).cells ({ frames := 0, cells := 0, slots := 0, locals := 0 } : Room).slots) := by
  refine MetFree.of_bodySF (plainFor_of_name pn_com_example_odysseus_odysseus_EscapesSegmentStartPinLaw) hisR ?_
  intro p e s m args below meth c s₁ Bd hml0 hP hK
  obtain ⟨rfl, hZ, hh⟩ := hP
  have hx := Bd.exec
  have hby := Bd.bytes
  have hml : c.maxLocals = 4 := hml0
  have hown : s.vm.findClass "com/example/odysseus/odysseus/EscapesSegmentStartPinLaw" = some m.cls := findClass_of_methodNamed Bd.named
  have hnm := (name_of_methodNamed Bd.named Bd.method).1
  have X0 : Stand p l e ({ frames := 0, cells := 0, slots := 0, locals := 0 } : Room) s m #[(.ref ca), (.int (Int32.ofNat i)), (.int (Int32.ofNat fr)), (.int (Int32.ofNat to_))] below meth c s₁ [] 0 0 := Stand.of_body Bd
  have e0 : s₁.heap = h0 := by rw [← hh, Bd.state]; rfl
  have N0 := Fr.nil n0
  have pre0 : ∀ t_, Steps p.tables e below (s₁.setTop (mkF m 0 #[.val (.ref ca), .val (.int (Int32.ofNat i)), .val (.int (Int32.ofNat fr)), .val (.int (Int32.ofNat to_))] [])) t_ → Steps p.tables e below (s₁.setTop (entryFrame m #[(.ref ca), (.int (Int32.ofNat i)), (.int (Int32.ofNat fr)), (.int (Int32.ofNat to_))] 4)) t_ := fun t_ k_ => castTop (ef_rmOne m ca (Int32.ofNat i) (Int32.ofNat fr) (Int32.ofNat to_)) k_
  have lt_I1 : @LT.lt Nat _ ca h0.size := I1.lt
  have s1 : ∀ t_, Steps p.tables e below (s₁.setTop (mkF m 2 #[.val (.ref ca), .val (.int (Int32.ofNat i)), .val (.int (Int32.ofNat fr)), .val (.int (Int32.ofNat to_))] [(.int (Int32.ofNat i)), (.int (Int32.ofNat fr))])) t_ → Steps p.tables e below (s₁.setTop (entryFrame m #[(.ref ca), (.int (Int32.ofNat i)), (.int (Int32.ofNat fr)), (.int (Int32.ofNat to_))] 4)) t_ := fun t_ k_ => pre0 t_ (by
    show Steps p.tables e below (s₁.setTop (mkF m 0 #[.val (.ref ca), .val (.int (Int32.ofNat i)), .val (.int (Int32.ofNat fr)), .val (.int (Int32.ofNat to_))] [])) t_
    refine XS.iloadN X0.here hx rfl (Jvm.hb hby d_method_3_0) rfl ?_
    show Steps p.tables e below (s₁.setTop (mkF m 1 #[.val (.ref ca), .val (.int (Int32.ofNat i)), .val (.int (Int32.ofNat fr)), .val (.int (Int32.ofNat to_))] [(.int (Int32.ofNat fr))])) _
    refine XS.iloadN X0.here hx rfl (Jvm.hb hby d_method_3_1) rfl ?_
    show Steps p.tables e below (s₁.setTop (mkF m 2 #[.val (.ref ca), .val (.int (Int32.ofNat i)), .val (.int (Int32.ofNat fr)), .val (.int (Int32.ofNat to_))] [(.int (Int32.ofNat i)), (.int (Int32.ofNat fr))])) _
    show Steps p.tables e below (s₁.setTop (mkF m 2 #[.val (.ref ca), .val (.int (Int32.ofNat i)), .val (.int (Int32.ofNat fr)), .val (.int (Int32.ofNat to_))] [(.int (Int32.ofNat i)), (.int (Int32.ofNat fr))])) t_
    exact k_)
  by_cases h2 : (Int32.ofNat i) < (Int32.ofNat fr)
  · have s3 : ∀ t_, Steps p.tables e below (s₁.setTop (mkF m 23 #[.val (.ref ca), .val (.int (Int32.ofNat i)), .val (.int (Int32.ofNat fr)), .val (.int (Int32.ofNat to_))] [(.int (0 : Int32))])) t_ → Steps p.tables e below (s₁.setTop (entryFrame m #[(.ref ca), (.int (Int32.ofNat i)), (.int (Int32.ofNat fr)), (.int (Int32.ofNat to_))] 4)) t_ := fun t_ k_ => s1 t_ (by
      show Steps p.tables e below (s₁.setTop (mkF m 2 #[.val (.ref ca), .val (.int (Int32.ofNat i)), .val (.int (Int32.ofNat fr)), .val (.int (Int32.ofNat to_))] [(.int (Int32.ofNat i)), (.int (Int32.ofNat fr))])) t_
      refine XS.icmpYes X0.here hx rfl (pc0 := 2) (pc' := 22) rfl (Jvm.hb hby d_method_3_2) rfl (tlt h2).2.2.1 (by decide) (by decide) ?_
      show Steps p.tables e below (s₁.setTop (mkF m 22 #[.val (.ref ca), .val (.int (Int32.ofNat i)), .val (.int (Int32.ofNat fr)), .val (.int (Int32.ofNat to_))] [])) _
      refine XS.iconst X0.here hx rfl (Jvm.hb hby d_method_3_22) ?_
      show Steps p.tables e below (s₁.setTop (mkF m 23 #[.val (.ref ca), .val (.int (Int32.ofNat i)), .val (.int (Int32.ofNat fr)), .val (.int (Int32.ofNat to_))] [(.int (0 : Int32))])) _
      show Steps p.tables e below (s₁.setTop (mkF m 23 #[.val (.ref ca), .val (.int (Int32.ofNat i)), .val (.int (Int32.ofNat fr)), .val (.int (Int32.ofNat to_))] [(.int (0 : Int32))])) t_
      exact k_)
    obtain ⟨fs, hr, hrun, hended, hW, hsame⟩ := X0.leave (v := some (.int (0 : Int32))) (fun h => by rw [Bd.returns] at h; cases h)
    refine ⟨_, _, s3 _ ?_, hrun, hended, _, _, rfl, ?_, ⟨_, rfl⟩, hW, hsame.mono (by decide) (by decide)⟩
    · show Steps p.tables e below (s₁.setTop (mkF m 23 #[.val (.ref ca), .val (.int (Int32.ofNat i)), .val (.int (Int32.ofNat fr)), .val (.int (Int32.ofNat to_))] [(.int (0 : Int32))])) _
      exact retI X0 hx Bd.returns (Jvm.hb hby d_method_3_23) hr
    · show Q_rmOne Z _ _ _ _ _ _ h0 n0 _ s₁.heap _
      rw [e0]
      exact ⟨(by rw [own_ltiff (by omega) (by omega)] at h2; rw [own_one, if_neg (fun q => by have := q.1; have := q.2.1; omega)]; rfl), N0, rfl⟩
  · have s4 : ∀ t_, Steps p.tables e below (s₁.setTop (mkF m 7 #[.val (.ref ca), .val (.int (Int32.ofNat i)), .val (.int (Int32.ofNat fr)), .val (.int (Int32.ofNat to_))] [(.int (Int32.ofNat to_)), (.int (Int32.ofNat i))])) t_ → Steps p.tables e below (s₁.setTop (entryFrame m #[(.ref ca), (.int (Int32.ofNat i)), (.int (Int32.ofNat fr)), (.int (Int32.ofNat to_))] 4)) t_ := fun t_ k_ => s1 t_ (by
      show Steps p.tables e below (s₁.setTop (mkF m 2 #[.val (.ref ca), .val (.int (Int32.ofNat i)), .val (.int (Int32.ofNat fr)), .val (.int (Int32.ofNat to_))] [(.int (Int32.ofNat i)), (.int (Int32.ofNat fr))])) t_
      refine XS.icmpNo X0.here hx rfl (Jvm.hb hby d_method_3_2) rfl (flt h2).2.2.1 ?_
      show Steps p.tables e below (s₁.setTop (mkF m 5 #[.val (.ref ca), .val (.int (Int32.ofNat i)), .val (.int (Int32.ofNat fr)), .val (.int (Int32.ofNat to_))] [])) _
      refine XS.iloadN X0.here hx rfl (Jvm.hb hby d_method_3_5) rfl ?_
      show Steps p.tables e below (s₁.setTop (mkF m 6 #[.val (.ref ca), .val (.int (Int32.ofNat i)), .val (.int (Int32.ofNat fr)), .val (.int (Int32.ofNat to_))] [(.int (Int32.ofNat i))])) _
      refine XS.iloadN X0.here hx rfl (Jvm.hb hby d_method_3_6) rfl ?_
      show Steps p.tables e below (s₁.setTop (mkF m 7 #[.val (.ref ca), .val (.int (Int32.ofNat i)), .val (.int (Int32.ofNat fr)), .val (.int (Int32.ofNat to_))] [(.int (Int32.ofNat to_)), (.int (Int32.ofNat i))])) _
      show Steps p.tables e below (s₁.setTop (mkF m 7 #[.val (.ref ca), .val (.int (Int32.ofNat i)), .val (.int (Int32.ofNat fr)), .val (.int (Int32.ofNat to_))] [(.int (Int32.ofNat to_)), (.int (Int32.ofNat i))])) t_
      exact k_)
    by_cases h5 : (Int32.ofNat i) < (Int32.ofNat to_)
    · obtain ⟨cl6, Ar6, -, S6, M6, H6, -⟩ := id I1
      have hin6 : ¬ ((Int32.ofNat i) < 0 ∨ cl6.slots.size ≤ ((Int32.ofNat i)).toNatClampNeg) := inb_of S6 (own_in (n := 6) hi (by decide))
      have hat6 : cl6.slots[((Int32.ofNat i)).toNatClampNeg]? = some (.int (cs.getD i 0)) := H6.at hin6 (own_getc cs i _ (by omega) (by omega))
      have s7 : ∀ t_, Steps p.tables e below (s₁.setTop (mkF m 15 #[.val (.ref ca), .val (.int (Int32.ofNat i)), .val (.int (Int32.ofNat fr)), .val (.int (Int32.ofNat to_))] [(.int (47 : Int32)), (.int (cs.getD i 0))])) t_ → Steps p.tables e below (s₁.setTop (entryFrame m #[(.ref ca), (.int (Int32.ofNat i)), (.int (Int32.ofNat fr)), (.int (Int32.ofNat to_))] 4)) t_ := fun t_ k_ => s4 t_ (by
        show Steps p.tables e below (s₁.setTop (mkF m 7 #[.val (.ref ca), .val (.int (Int32.ofNat i)), .val (.int (Int32.ofNat fr)), .val (.int (Int32.ofNat to_))] [(.int (Int32.ofNat to_)), (.int (Int32.ofNat i))])) t_
        refine XS.icmpNo X0.here hx rfl (Jvm.hb hby d_method_3_7) rfl (tlt h5).2.1 ?_
        show Steps p.tables e below (s₁.setTop (mkF m 10 #[.val (.ref ca), .val (.int (Int32.ofNat i)), .val (.int (Int32.ofNat fr)), .val (.int (Int32.ofNat to_))] [])) _
        refine XS.aloadN X0.here hx rfl (Jvm.hb hby d_method_3_10) rfl rfl ?_
        show Steps p.tables e below (s₁.setTop (mkF m 11 #[.val (.ref ca), .val (.int (Int32.ofNat i)), .val (.int (Int32.ofNat fr)), .val (.int (Int32.ofNat to_))] [(.ref ca)])) _
        refine XS.iloadN X0.here hx rfl (Jvm.hb hby d_method_3_11) rfl ?_
        show Steps p.tables e below (s₁.setTop (mkF m 12 #[.val (.ref ca), .val (.int (Int32.ofNat i)), .val (.int (Int32.ofNat fr)), .val (.int (Int32.ofNat to_))] [(.int (Int32.ofNat i)), (.ref ca)])) _
        refine X0.caload hx (j := (Int32.ofNat i)) (v := (.int (cs.getD i 0))) (by rw [e0]; exact Ar6.1) (State.isArrayOf_alike hZ.alike Ar6.2.1) Ar6.2.2 hin6 hat6 (g := (mkF m 12 #[.val (.ref ca), .val (.int (Int32.ofNat i)), .val (.int (Int32.ofNat fr)), .val (.int (Int32.ofNat to_))] [(.int (Int32.ofNat i)), (.ref ca)])) rfl rfl (Jvm.hb hby d_method_3_12) _ ?_
        show Steps p.tables e below (s₁.setTop (mkF m 13 #[.val (.ref ca), .val (.int (Int32.ofNat i)), .val (.int (Int32.ofNat fr)), .val (.int (Int32.ofNat to_))] [(.int (cs.getD i 0))])) _
        refine XS.bipush X0.here hx rfl (Jvm.hb hby d_method_3_13) ?_
        show Steps p.tables e below (s₁.setTop (mkF m 15 #[.val (.ref ca), .val (.int (Int32.ofNat i)), .val (.int (Int32.ofNat fr)), .val (.int (Int32.ofNat to_))] [(.int (47 : Int32)), (.int (cs.getD i 0))])) _
        show Steps p.tables e below (s₁.setTop (mkF m 15 #[.val (.ref ca), .val (.int (Int32.ofNat i)), .val (.int (Int32.ofNat fr)), .val (.int (Int32.ofNat to_))] [(.int (47 : Int32)), (.int (cs.getD i 0))])) t_
        exact k_)
      by_cases h8 : (cs.getD i 0) = (47 : Int32)
      · have s9 : ∀ t_, Steps p.tables e below (s₁.setTop (mkF m 23 #[.val (.ref ca), .val (.int (Int32.ofNat i)), .val (.int (Int32.ofNat fr)), .val (.int (Int32.ofNat to_))] [(.int (1 : Int32))])) t_ → Steps p.tables e below (s₁.setTop (entryFrame m #[(.ref ca), (.int (Int32.ofNat i)), (.int (Int32.ofNat fr)), (.int (Int32.ofNat to_))] 4)) t_ := fun t_ k_ => s7 t_ (by
          show Steps p.tables e below (s₁.setTop (mkF m 15 #[.val (.ref ca), .val (.int (Int32.ofNat i)), .val (.int (Int32.ofNat fr)), .val (.int (Int32.ofNat to_))] [(.int (47 : Int32)), (.int (cs.getD i 0))])) t_
          refine XS.icmpNo X0.here hx rfl (Jvm.hb hby d_method_3_15) rfl (teq h8).2 ?_
          show Steps p.tables e below (s₁.setTop (mkF m 18 #[.val (.ref ca), .val (.int (Int32.ofNat i)), .val (.int (Int32.ofNat fr)), .val (.int (Int32.ofNat to_))] [])) _
          refine XS.iconst X0.here hx rfl (Jvm.hb hby d_method_3_18) ?_
          show Steps p.tables e below (s₁.setTop (mkF m 19 #[.val (.ref ca), .val (.int (Int32.ofNat i)), .val (.int (Int32.ofNat fr)), .val (.int (Int32.ofNat to_))] [(.int (1 : Int32))])) _
          refine XS.goto X0.here hx rfl (pc0 := 19) (pc' := 23) rfl (Jvm.hb hby d_method_3_19) (by decide) (by decide) ?_
          show Steps p.tables e below (s₁.setTop (mkF m 23 #[.val (.ref ca), .val (.int (Int32.ofNat i)), .val (.int (Int32.ofNat fr)), .val (.int (Int32.ofNat to_))] [(.int (1 : Int32))])) _
          show Steps p.tables e below (s₁.setTop (mkF m 23 #[.val (.ref ca), .val (.int (Int32.ofNat i)), .val (.int (Int32.ofNat fr)), .val (.int (Int32.ofNat to_))] [(.int (1 : Int32))])) t_
          exact k_)
        obtain ⟨fs, hr, hrun, hended, hW, hsame⟩ := X0.leave (v := some (.int (1 : Int32))) (fun h => by rw [Bd.returns] at h; cases h)
        refine ⟨_, _, s9 _ ?_, hrun, hended, _, _, rfl, ?_, ⟨_, rfl⟩, hW, hsame.mono (by decide) (by decide)⟩
        · show Steps p.tables e below (s₁.setTop (mkF m 23 #[.val (.ref ca), .val (.int (Int32.ofNat i)), .val (.int (Int32.ofNat fr)), .val (.int (Int32.ofNat to_))] [(.int (1 : Int32))])) _
          exact retI X0 hx Bd.returns (Jvm.hb hby d_method_3_23) hr
        · show Q_rmOne Z _ _ _ _ _ _ h0 n0 _ s₁.heap _
          rw [e0]
          exact ⟨(by rw [own_ltiff (by omega) (by omega)] at h2 h5; rw [own_one, if_pos ⟨by omega, by omega, by rw [own_slat cs i (by omega)]; exact decide_eq_true h8⟩]; rfl), N0, rfl⟩
      · have s10 : ∀ t_, Steps p.tables e below (s₁.setTop (mkF m 23 #[.val (.ref ca), .val (.int (Int32.ofNat i)), .val (.int (Int32.ofNat fr)), .val (.int (Int32.ofNat to_))] [(.int (0 : Int32))])) t_ → Steps p.tables e below (s₁.setTop (entryFrame m #[(.ref ca), (.int (Int32.ofNat i)), (.int (Int32.ofNat fr)), (.int (Int32.ofNat to_))] 4)) t_ := fun t_ k_ => s7 t_ (by
          show Steps p.tables e below (s₁.setTop (mkF m 15 #[.val (.ref ca), .val (.int (Int32.ofNat i)), .val (.int (Int32.ofNat fr)), .val (.int (Int32.ofNat to_))] [(.int (47 : Int32)), (.int (cs.getD i 0))])) t_
          refine XS.icmpYes X0.here hx rfl (pc0 := 15) (pc' := 22) rfl (Jvm.hb hby d_method_3_15) rfl (feq h8).2 (by decide) (by decide) ?_
          show Steps p.tables e below (s₁.setTop (mkF m 22 #[.val (.ref ca), .val (.int (Int32.ofNat i)), .val (.int (Int32.ofNat fr)), .val (.int (Int32.ofNat to_))] [])) _
          refine XS.iconst X0.here hx rfl (Jvm.hb hby d_method_3_22) ?_
          show Steps p.tables e below (s₁.setTop (mkF m 23 #[.val (.ref ca), .val (.int (Int32.ofNat i)), .val (.int (Int32.ofNat fr)), .val (.int (Int32.ofNat to_))] [(.int (0 : Int32))])) _
          show Steps p.tables e below (s₁.setTop (mkF m 23 #[.val (.ref ca), .val (.int (Int32.ofNat i)), .val (.int (Int32.ofNat fr)), .val (.int (Int32.ofNat to_))] [(.int (0 : Int32))])) t_
          exact k_)
        obtain ⟨fs, hr, hrun, hended, hW, hsame⟩ := X0.leave (v := some (.int (0 : Int32))) (fun h => by rw [Bd.returns] at h; cases h)
        refine ⟨_, _, s10 _ ?_, hrun, hended, _, _, rfl, ?_, ⟨_, rfl⟩, hW, hsame.mono (by decide) (by decide)⟩
        · show Steps p.tables e below (s₁.setTop (mkF m 23 #[.val (.ref ca), .val (.int (Int32.ofNat i)), .val (.int (Int32.ofNat fr)), .val (.int (Int32.ofNat to_))] [(.int (0 : Int32))])) _
          exact retI X0 hx Bd.returns (Jvm.hb hby d_method_3_23) hr
        · show Q_rmOne Z _ _ _ _ _ _ h0 n0 _ s₁.heap _
          rw [e0]
          exact ⟨(by rw [own_ltiff (by omega) (by omega)] at h2 h5; rw [own_one, if_neg (fun q => by have := q.2.2; rw [own_slat cs i (by omega)] at this; exact h8 (of_decide_eq_true this))]; rfl), N0, rfl⟩
    · have s11 : ∀ t_, Steps p.tables e below (s₁.setTop (mkF m 23 #[.val (.ref ca), .val (.int (Int32.ofNat i)), .val (.int (Int32.ofNat fr)), .val (.int (Int32.ofNat to_))] [(.int (0 : Int32))])) t_ → Steps p.tables e below (s₁.setTop (entryFrame m #[(.ref ca), (.int (Int32.ofNat i)), (.int (Int32.ofNat fr)), (.int (Int32.ofNat to_))] 4)) t_ := fun t_ k_ => s4 t_ (by
        show Steps p.tables e below (s₁.setTop (mkF m 7 #[.val (.ref ca), .val (.int (Int32.ofNat i)), .val (.int (Int32.ofNat fr)), .val (.int (Int32.ofNat to_))] [(.int (Int32.ofNat to_)), (.int (Int32.ofNat i))])) t_
        refine XS.icmpYes X0.here hx rfl (pc0 := 7) (pc' := 22) rfl (Jvm.hb hby d_method_3_7) rfl (flt h5).2.1 (by decide) (by decide) ?_
        show Steps p.tables e below (s₁.setTop (mkF m 22 #[.val (.ref ca), .val (.int (Int32.ofNat i)), .val (.int (Int32.ofNat fr)), .val (.int (Int32.ofNat to_))] [])) _
        refine XS.iconst X0.here hx rfl (Jvm.hb hby d_method_3_22) ?_
        show Steps p.tables e below (s₁.setTop (mkF m 23 #[.val (.ref ca), .val (.int (Int32.ofNat i)), .val (.int (Int32.ofNat fr)), .val (.int (Int32.ofNat to_))] [(.int (0 : Int32))])) _
        show Steps p.tables e below (s₁.setTop (mkF m 23 #[.val (.ref ca), .val (.int (Int32.ofNat i)), .val (.int (Int32.ofNat fr)), .val (.int (Int32.ofNat to_))] [(.int (0 : Int32))])) t_
        exact k_)
      obtain ⟨fs, hr, hrun, hended, hW, hsame⟩ := X0.leave (v := some (.int (0 : Int32))) (fun h => by rw [Bd.returns] at h; cases h)
      refine ⟨_, _, s11 _ ?_, hrun, hended, _, _, rfl, ?_, ⟨_, rfl⟩, hW, hsame.mono (by decide) (by decide)⟩
      · show Steps p.tables e below (s₁.setTop (mkF m 23 #[.val (.ref ca), .val (.int (Int32.ofNat i)), .val (.int (Int32.ofNat fr)), .val (.int (Int32.ofNat to_))] [(.int (0 : Int32))])) _
        exact retI X0 hx Bd.returns (Jvm.hb hby d_method_3_23) hr
      · show Q_rmOne Z _ _ _ _ _ _ h0 n0 _ s₁.heap _
        rw [e0]
        exact ⟨(by rw [own_ltiff (by omega) (by omega)] at h2 h5; rw [own_one, if_neg (fun q => by have := q.1; have := q.2.1; omega)]; rfl), N0, rfl⟩
theorem d_method_4_0 : decode method_4_code 0 = .ok (.aload_n 0, 1) := by decide +kernel
theorem d_method_4_1 : decode method_4_code 1 = .ok (.iconst 0, 1) := by decide +kernel
theorem d_method_4_2 : decode method_4_code 2 = .ok (.iload_n 1, 1) := by decide +kernel
theorem d_method_4_3 : decode method_4_code 3 = .ok (.iload_n 2, 1) := by decide +kernel
theorem pd___CIII_I : parseMethodDescriptor "([CIII)I" = some ⟨[(.array .char), .int, .int, .int], some .int⟩ := by decide +kernel
theorem d_method_4_4 : decode method_4_code 4 = .ok (.invokestatic 9, 3) := by decide +kernel
theorem d_method_4_7 : decode method_4_code 7 = .ok (.aload_n 0, 1) := by decide +kernel
theorem d_method_4_8 : decode method_4_code 8 = .ok (.iconst 1, 1) := by decide +kernel
theorem d_method_4_9 : decode method_4_code 9 = .ok (.iload_n 1, 1) := by decide +kernel
theorem d_method_4_10 : decode method_4_code 10 = .ok (.iload_n 2, 1) := by decide +kernel
theorem d_method_4_11 : decode method_4_code 11 = .ok (.invokestatic 9, 3) := by decide +kernel
theorem d_method_4_14 : decode method_4_code 14 = .ok (.iadd, 1) := by decide +kernel
theorem d_method_4_15 : decode method_4_code 15 = .ok (.aload_n 0, 1) := by decide +kernel
theorem d_method_4_16 : decode method_4_code 16 = .ok (.iconst 2, 1) := by decide +kernel
theorem d_method_4_17 : decode method_4_code 17 = .ok (.iload_n 1, 1) := by decide +kernel
theorem d_method_4_18 : decode method_4_code 18 = .ok (.iload_n 2, 1) := by decide +kernel
theorem d_method_4_19 : decode method_4_code 19 = .ok (.invokestatic 9, 3) := by decide +kernel
theorem d_method_4_22 : decode method_4_code 22 = .ok (.iadd, 1) := by decide +kernel
theorem d_method_4_23 : decode method_4_code 23 = .ok (.aload_n 0, 1) := by decide +kernel
theorem d_method_4_24 : decode method_4_code 24 = .ok (.iconst 3, 1) := by decide +kernel
theorem d_method_4_25 : decode method_4_code 25 = .ok (.iload_n 1, 1) := by decide +kernel
theorem d_method_4_26 : decode method_4_code 26 = .ok (.iload_n 2, 1) := by decide +kernel
theorem d_method_4_27 : decode method_4_code 27 = .ok (.invokestatic 9, 3) := by decide +kernel
theorem d_method_4_30 : decode method_4_code 30 = .ok (.iadd, 1) := by decide +kernel
theorem d_method_4_31 : decode method_4_code 31 = .ok (.aload_n 0, 1) := by decide +kernel
theorem d_method_4_32 : decode method_4_code 32 = .ok (.iconst 4, 1) := by decide +kernel
theorem d_method_4_33 : decode method_4_code 33 = .ok (.iload_n 1, 1) := by decide +kernel
theorem d_method_4_34 : decode method_4_code 34 = .ok (.iload_n 2, 1) := by decide +kernel
theorem d_method_4_35 : decode method_4_code 35 = .ok (.invokestatic 9, 3) := by decide +kernel
theorem d_method_4_38 : decode method_4_code 38 = .ok (.iadd, 1) := by decide +kernel
theorem d_method_4_39 : decode method_4_code 39 = .ok (.aload_n 0, 1) := by decide +kernel
theorem d_method_4_40 : decode method_4_code 40 = .ok (.iconst 5, 1) := by decide +kernel
theorem d_method_4_41 : decode method_4_code 41 = .ok (.iload_n 1, 1) := by decide +kernel
theorem d_method_4_42 : decode method_4_code 42 = .ok (.iload_n 2, 1) := by decide +kernel
theorem d_method_4_43 : decode method_4_code 43 = .ok (.invokestatic 9, 3) := by decide +kernel
theorem d_method_4_46 : decode method_4_code 46 = .ok (.iadd, 1) := by decide +kernel
theorem d_method_4_47 : decode method_4_code 47 = .ok (.ireturn, 1) := by decide +kernel
theorem ef_rmCnt (m : MethodId) (x0 : Addr) (x1 : Int32) (x2 : Int32) : entryFrame m #[(.ref x0), (.int x1), (.int x2)] 3 = mkF m 0 #[.val (.ref x0), .val (.int x1), .val (.int x2)] [] := by first | (simp [entryFrame, mkF, argsToLocals, Value.category]; done) | rfl
def Q_rmCnt (Z : State) (ca : Addr) (cs : List Int32) (kc : ClassId) (fr : Nat) (to_ : Nat) (h0 : Heap) (n0 : Nat) (v : Option Value) (h : Heap) (L : List Loc) : Prop := (v = some (.int (Int32.ofNat (own_cnt (own_sl cs) fr to_)))) ∧ (Fr n0 L) ∧ (h = h0)
set_option maxRecDepth 65536 in
set_option maxHeartbeats 40000000 in
theorem rmCnt (l : Launch) (Z : State) (a0 : Array Value) (hw : ∀ d ∈ tables_1, d.before a0 Z = true) (ws : List Jvm.Cond) (ca : Addr) (cs : List Int32) (kc : ClassId) (fr : Nat) (to_ : Nat) (h0 : Heap) (n0 : Nat) (Z0 : n0 ≤ h0.size) (I1 : Arv Z h0 ca kc .char (6 : Int32) (cs.map Value.int) (.int (0 : Int32))) (hn : cs.length = 6) (hfr : fr ≤ 8000) (hto : to_ ≤ 8000) :
    MetFree l (⟨"com/example/odysseus/odysseus/EscapesSegmentStartPinLaw", "countSlashes", "([CII)I"⟩ : MethodName) (head1 (Jvm.Cond.code (⟨"com/example/odysseus/odysseus/EscapesSegmentStartPinLaw", "countSlashes", "([CII)I"⟩ : MethodName) method_4_code 3 (some .int) :: ws) ({ frames := 1, cells := 0, slots := 0, locals := 16 } : Room)) (fun ar_ U => ar_ = #[(.ref ca), (.int (Int32.ofNat fr)), (.int (Int32.ofNat to_))] ∧ Z.Warmed39 U.vm ∧ U.heap = h0) (fun _ _ _ _ _ => True) (fun _ U o U' => ∃ v L, o = .returned v ∧ Q_rmCnt Z ca cs kc fr to_ h0 n0 v U'.heap L ∧ FrameEnd U o U' L ({ frames := 1, cells := 0, slots := 0, locals := 16 } : Room).cells ({ frames := 1, cells := 0, slots := 0, locals := 16 } : Room).slots) := by
  refine MetFree.of_bodySF (plainFor_of_name pn_com_example_odysseus_odysseus_EscapesSegmentStartPinLaw) hisR ?_
  intro p e s m args below meth c s₁ Bd hml0 hP hK
  obtain ⟨rfl, hZ, hh⟩ := hP
  have hx := Bd.exec
  have hby := Bd.bytes
  have hml : c.maxLocals = 3 := hml0
  have hown : s.vm.findClass "com/example/odysseus/odysseus/EscapesSegmentStartPinLaw" = some m.cls := findClass_of_methodNamed Bd.named
  have hnm := (name_of_methodNamed Bd.named Bd.method).1
  have X0 : Stand p l e ({ frames := 1, cells := 0, slots := 0, locals := 16 } : Room) s m #[(.ref ca), (.int (Int32.ofNat fr)), (.int (Int32.ofNat to_))] below meth c s₁ [] 0 0 := Stand.of_body Bd
  have e0 : s₁.heap = h0 := by rw [← hh, Bd.state]; rfl
  have N0 := Fr.nil n0
  have pre0 : ∀ t_, Steps p.tables e below (s₁.setTop (mkF m 0 #[.val (.ref ca), .val (.int (Int32.ofNat fr)), .val (.int (Int32.ofNat to_))] [])) t_ → Steps p.tables e below (s₁.setTop (entryFrame m #[(.ref ca), (.int (Int32.ofNat fr)), (.int (Int32.ofNat to_))] 3)) t_ := fun t_ k_ => castTop (ef_rmCnt m ca (Int32.ofNat fr) (Int32.ofNat to_)) k_
  have lt_I1 : @LT.lt Nat _ ca h0.size := I1.lt
  have Zc1 : n0 ≤ h0.size := by omega
  obtain ⟨_, _, ⟨T2, L2, k2, n2⟩, -, X2, ⟨Lc2, hQ2, l2, y2, z2⟩, st2⟩ := Jvm.LawKit.callS X0 hx (y := (⟨"com/example/odysseus/odysseus/EscapesSegmentStartPinLaw", "one", "([CIII)I"⟩ : MethodName)) hown (mvT hZ (hw _ (List.mem_of_getElem? (i := 39) rfl))) (mvT hZ (hw _ (List.mem_of_getElem? (i := 40) rfl))) (mvT hZ (hw _ (List.mem_of_getElem? (i := 3) rfl))) (mvT hZ (hw _ (List.mem_of_getElem? (i := 41) rfl))) (by decide) (backOf (W := 0) (rmOne l Z a0 hw [] ca cs kc fr to_ 0 h0 n0 Zc1 I1 (hn : cs.length = 6) (hfr : fr ≤ 8000) (hto : to_ ≤ 8000) (by first | assumption | rfl | decide | omega : 0 < 6)) hZ (hw _ (List.mem_of_getElem? (i := 41) rfl)) (hw _ (List.mem_of_getElem? (i := 3) rfl)) (by decide) (by decide)) (g := (mkF m 4 #[.val (.ref ca), .val (.int (Int32.ofNat fr)), .val (.int (Int32.ofNat to_))] [(.int (Int32.ofNat to_)), (.int (Int32.ofNat fr)), (.int (0 : Int32)), (.ref ca)])) rfl (by rw [hml]; rfl) (argsL := [(.ref ca), (.int (0 : Int32)), (.int (Int32.ofNat fr)), (.int (Int32.ofNat to_))]) (rest := []) (lenOf pd___CIII_I rfl) rfl (by show 2 * 0 + _ ≤ _; exact Nat.le_of_eq rfl) (Jvm.hb hby d_method_4_4) (fun _ _ => ⟨rfl, e0, (by decide : 0 + 0 ≤ _), (by decide : 0 + 0 ≤ _)⟩)
  dsimp only [Pt.U, Pt.locs, Pt.cells, Pt.slots] at X2 l2 y2 z2 st2 hQ2
  subst l2 y2 z2
  obtain ⟨rfl, N2q, e2⟩ := hQ2
  have N2 := Fr.app N0 N2q
  have Zc3 : n0 ≤ h0.size := by omega
  obtain ⟨_, _, ⟨T4, L4, k4, n4⟩, -, X4, ⟨Lc4, hQ4, l4, y4, z4⟩, st4⟩ := Jvm.LawKit.callS X2 hx (y := (⟨"com/example/odysseus/odysseus/EscapesSegmentStartPinLaw", "one", "([CIII)I"⟩ : MethodName)) hown (mvT hZ (hw _ (List.mem_of_getElem? (i := 39) rfl))) (mvT hZ (hw _ (List.mem_of_getElem? (i := 40) rfl))) (mvT hZ (hw _ (List.mem_of_getElem? (i := 3) rfl))) (mvT hZ (hw _ (List.mem_of_getElem? (i := 41) rfl))) (by decide) (backOf (W := 1) (rmOne l Z a0 hw [] ca cs kc fr to_ 1 h0 n0 Zc3 I1 (hn : cs.length = 6) (hfr : fr ≤ 8000) (hto : to_ ≤ 8000) (by first | assumption | rfl | decide | omega : 1 < 6)) hZ (hw _ (List.mem_of_getElem? (i := 41) rfl)) (hw _ (List.mem_of_getElem? (i := 3) rfl)) (by decide) (by decide)) (g := (mkF m 11 #[.val (.ref ca), .val (.int (Int32.ofNat fr)), .val (.int (Int32.ofNat to_))] [(.int (Int32.ofNat to_)), (.int (Int32.ofNat fr)), (.int (1 : Int32)), (.ref ca), (.int (Int32.ofNat (own_one (own_sl cs) 0 fr to_)))])) rfl (by rw [hml]; rfl) (argsL := [(.ref ca), (.int (1 : Int32)), (.int (Int32.ofNat fr)), (.int (Int32.ofNat to_))]) (rest := [(.int (Int32.ofNat (own_one (own_sl cs) 0 fr to_)))]) (lenOf pd___CIII_I rfl) rfl (by show 2 * 0 + _ ≤ _; exact Nat.le_of_eq rfl) (Jvm.hb hby d_method_4_11) (fun _ _ => ⟨rfl, e2, (by decide : 0 + 0 ≤ _), (by decide : 0 + 0 ≤ _)⟩)
  dsimp only [Pt.U, Pt.locs, Pt.cells, Pt.slots] at X4 l4 y4 z4 st4 hQ4
  subst l4 y4 z4
  obtain ⟨rfl, N4q, e4⟩ := hQ4
  have N4 := Fr.app N2 N4q
  have Zc5 : n0 ≤ h0.size := by omega
  obtain ⟨_, _, ⟨T6, L6, k6, n6⟩, -, X6, ⟨Lc6, hQ6, l6, y6, z6⟩, st6⟩ := Jvm.LawKit.callS X4 hx (y := (⟨"com/example/odysseus/odysseus/EscapesSegmentStartPinLaw", "one", "([CIII)I"⟩ : MethodName)) hown (mvT hZ (hw _ (List.mem_of_getElem? (i := 39) rfl))) (mvT hZ (hw _ (List.mem_of_getElem? (i := 40) rfl))) (mvT hZ (hw _ (List.mem_of_getElem? (i := 3) rfl))) (mvT hZ (hw _ (List.mem_of_getElem? (i := 41) rfl))) (by decide) (backOf (W := 1) (rmOne l Z a0 hw [] ca cs kc fr to_ 2 h0 n0 Zc5 I1 (hn : cs.length = 6) (hfr : fr ≤ 8000) (hto : to_ ≤ 8000) (by first | assumption | rfl | decide | omega : 2 < 6)) hZ (hw _ (List.mem_of_getElem? (i := 41) rfl)) (hw _ (List.mem_of_getElem? (i := 3) rfl)) (by decide) (by decide)) (g := (mkF m 19 #[.val (.ref ca), .val (.int (Int32.ofNat fr)), .val (.int (Int32.ofNat to_))] [(.int (Int32.ofNat to_)), (.int (Int32.ofNat fr)), (.int (2 : Int32)), (.ref ca), (.int ((Int32.ofNat (own_one (own_sl cs) 0 fr to_)) + (Int32.ofNat (own_one (own_sl cs) 1 fr to_))))])) rfl (by rw [hml]; rfl) (argsL := [(.ref ca), (.int (2 : Int32)), (.int (Int32.ofNat fr)), (.int (Int32.ofNat to_))]) (rest := [(.int ((Int32.ofNat (own_one (own_sl cs) 0 fr to_)) + (Int32.ofNat (own_one (own_sl cs) 1 fr to_))))]) (lenOf pd___CIII_I rfl) rfl (by show 2 * 0 + _ ≤ _; exact Nat.le_of_eq rfl) (Jvm.hb hby d_method_4_19) (fun _ _ => ⟨rfl, e4, (by decide : 0 + 0 ≤ _), (by decide : 0 + 0 ≤ _)⟩)
  dsimp only [Pt.U, Pt.locs, Pt.cells, Pt.slots] at X6 l6 y6 z6 st6 hQ6
  subst l6 y6 z6
  obtain ⟨rfl, N6q, e6⟩ := hQ6
  have N6 := Fr.app N4 N6q
  have Zc7 : n0 ≤ h0.size := by omega
  obtain ⟨_, _, ⟨T8, L8, k8, n8⟩, -, X8, ⟨Lc8, hQ8, l8, y8, z8⟩, st8⟩ := Jvm.LawKit.callS X6 hx (y := (⟨"com/example/odysseus/odysseus/EscapesSegmentStartPinLaw", "one", "([CIII)I"⟩ : MethodName)) hown (mvT hZ (hw _ (List.mem_of_getElem? (i := 39) rfl))) (mvT hZ (hw _ (List.mem_of_getElem? (i := 40) rfl))) (mvT hZ (hw _ (List.mem_of_getElem? (i := 3) rfl))) (mvT hZ (hw _ (List.mem_of_getElem? (i := 41) rfl))) (by decide) (backOf (W := 1) (rmOne l Z a0 hw [] ca cs kc fr to_ 3 h0 n0 Zc7 I1 (hn : cs.length = 6) (hfr : fr ≤ 8000) (hto : to_ ≤ 8000) (by first | assumption | rfl | decide | omega : 3 < 6)) hZ (hw _ (List.mem_of_getElem? (i := 41) rfl)) (hw _ (List.mem_of_getElem? (i := 3) rfl)) (by decide) (by decide)) (g := (mkF m 27 #[.val (.ref ca), .val (.int (Int32.ofNat fr)), .val (.int (Int32.ofNat to_))] [(.int (Int32.ofNat to_)), (.int (Int32.ofNat fr)), (.int (3 : Int32)), (.ref ca), (.int (((Int32.ofNat (own_one (own_sl cs) 0 fr to_)) + (Int32.ofNat (own_one (own_sl cs) 1 fr to_))) + (Int32.ofNat (own_one (own_sl cs) 2 fr to_))))])) rfl (by rw [hml]; rfl) (argsL := [(.ref ca), (.int (3 : Int32)), (.int (Int32.ofNat fr)), (.int (Int32.ofNat to_))]) (rest := [(.int (((Int32.ofNat (own_one (own_sl cs) 0 fr to_)) + (Int32.ofNat (own_one (own_sl cs) 1 fr to_))) + (Int32.ofNat (own_one (own_sl cs) 2 fr to_))))]) (lenOf pd___CIII_I rfl) rfl (by show 2 * 0 + _ ≤ _; exact Nat.le_of_eq rfl) (Jvm.hb hby d_method_4_27) (fun _ _ => ⟨rfl, e6, (by decide : 0 + 0 ≤ _), (by decide : 0 + 0 ≤ _)⟩)
  dsimp only [Pt.U, Pt.locs, Pt.cells, Pt.slots] at X8 l8 y8 z8 st8 hQ8
  subst l8 y8 z8
  obtain ⟨rfl, N8q, e8⟩ := hQ8
  have N8 := Fr.app N6 N8q
  have Zc9 : n0 ≤ h0.size := by omega
  obtain ⟨_, _, ⟨T10, L10, k10, n10⟩, -, X10, ⟨Lc10, hQ10, l10, y10, z10⟩, st10⟩ := Jvm.LawKit.callS X8 hx (y := (⟨"com/example/odysseus/odysseus/EscapesSegmentStartPinLaw", "one", "([CIII)I"⟩ : MethodName)) hown (mvT hZ (hw _ (List.mem_of_getElem? (i := 39) rfl))) (mvT hZ (hw _ (List.mem_of_getElem? (i := 40) rfl))) (mvT hZ (hw _ (List.mem_of_getElem? (i := 3) rfl))) (mvT hZ (hw _ (List.mem_of_getElem? (i := 41) rfl))) (by decide) (backOf (W := 1) (rmOne l Z a0 hw [] ca cs kc fr to_ 4 h0 n0 Zc9 I1 (hn : cs.length = 6) (hfr : fr ≤ 8000) (hto : to_ ≤ 8000) (by first | assumption | rfl | decide | omega : 4 < 6)) hZ (hw _ (List.mem_of_getElem? (i := 41) rfl)) (hw _ (List.mem_of_getElem? (i := 3) rfl)) (by decide) (by decide)) (g := (mkF m 35 #[.val (.ref ca), .val (.int (Int32.ofNat fr)), .val (.int (Int32.ofNat to_))] [(.int (Int32.ofNat to_)), (.int (Int32.ofNat fr)), (.int (4 : Int32)), (.ref ca), (.int ((((Int32.ofNat (own_one (own_sl cs) 0 fr to_)) + (Int32.ofNat (own_one (own_sl cs) 1 fr to_))) + (Int32.ofNat (own_one (own_sl cs) 2 fr to_))) + (Int32.ofNat (own_one (own_sl cs) 3 fr to_))))])) rfl (by rw [hml]; rfl) (argsL := [(.ref ca), (.int (4 : Int32)), (.int (Int32.ofNat fr)), (.int (Int32.ofNat to_))]) (rest := [(.int ((((Int32.ofNat (own_one (own_sl cs) 0 fr to_)) + (Int32.ofNat (own_one (own_sl cs) 1 fr to_))) + (Int32.ofNat (own_one (own_sl cs) 2 fr to_))) + (Int32.ofNat (own_one (own_sl cs) 3 fr to_))))]) (lenOf pd___CIII_I rfl) rfl (by show 2 * 0 + _ ≤ _; exact Nat.le_of_eq rfl) (Jvm.hb hby d_method_4_35) (fun _ _ => ⟨rfl, e8, (by decide : 0 + 0 ≤ _), (by decide : 0 + 0 ≤ _)⟩)
  dsimp only [Pt.U, Pt.locs, Pt.cells, Pt.slots] at X10 l10 y10 z10 st10 hQ10
  subst l10 y10 z10
  obtain ⟨rfl, N10q, e10⟩ := hQ10
  have N10 := Fr.app N8 N10q
  have Zc11 : n0 ≤ h0.size := by omega
  obtain ⟨_, _, ⟨T12, L12, k12, n12⟩, -, X12, ⟨Lc12, hQ12, l12, y12, z12⟩, st12⟩ := Jvm.LawKit.callS X10 hx (y := (⟨"com/example/odysseus/odysseus/EscapesSegmentStartPinLaw", "one", "([CIII)I"⟩ : MethodName)) hown (mvT hZ (hw _ (List.mem_of_getElem? (i := 39) rfl))) (mvT hZ (hw _ (List.mem_of_getElem? (i := 40) rfl))) (mvT hZ (hw _ (List.mem_of_getElem? (i := 3) rfl))) (mvT hZ (hw _ (List.mem_of_getElem? (i := 41) rfl))) (by decide) (backOf (W := 1) (rmOne l Z a0 hw [] ca cs kc fr to_ 5 h0 n0 Zc11 I1 (hn : cs.length = 6) (hfr : fr ≤ 8000) (hto : to_ ≤ 8000) (by first | assumption | rfl | decide | omega : 5 < 6)) hZ (hw _ (List.mem_of_getElem? (i := 41) rfl)) (hw _ (List.mem_of_getElem? (i := 3) rfl)) (by decide) (by decide)) (g := (mkF m 43 #[.val (.ref ca), .val (.int (Int32.ofNat fr)), .val (.int (Int32.ofNat to_))] [(.int (Int32.ofNat to_)), (.int (Int32.ofNat fr)), (.int (5 : Int32)), (.ref ca), (.int (((((Int32.ofNat (own_one (own_sl cs) 0 fr to_)) + (Int32.ofNat (own_one (own_sl cs) 1 fr to_))) + (Int32.ofNat (own_one (own_sl cs) 2 fr to_))) + (Int32.ofNat (own_one (own_sl cs) 3 fr to_))) + (Int32.ofNat (own_one (own_sl cs) 4 fr to_))))])) rfl (by rw [hml]; rfl) (argsL := [(.ref ca), (.int (5 : Int32)), (.int (Int32.ofNat fr)), (.int (Int32.ofNat to_))]) (rest := [(.int (((((Int32.ofNat (own_one (own_sl cs) 0 fr to_)) + (Int32.ofNat (own_one (own_sl cs) 1 fr to_))) + (Int32.ofNat (own_one (own_sl cs) 2 fr to_))) + (Int32.ofNat (own_one (own_sl cs) 3 fr to_))) + (Int32.ofNat (own_one (own_sl cs) 4 fr to_))))]) (lenOf pd___CIII_I rfl) rfl (by show 2 * 0 + _ ≤ _; exact Nat.le_of_eq rfl) (Jvm.hb hby d_method_4_43) (fun _ _ => ⟨rfl, e10, (by decide : 0 + 0 ≤ _), (by decide : 0 + 0 ≤ _)⟩)
  dsimp only [Pt.U, Pt.locs, Pt.cells, Pt.slots] at X12 l12 y12 z12 st12 hQ12
  subst l12 y12 z12
  obtain ⟨rfl, N12q, e12⟩ := hQ12
  have N12 := Fr.app N10 N12q
  have s13 : ∀ t_, Steps p.tables e below (T12.setTop (mkF m 47 #[.val (.ref ca), .val (.int (Int32.ofNat fr)), .val (.int (Int32.ofNat to_))] [(.int ((((((Int32.ofNat (own_one (own_sl cs) 0 fr to_)) + (Int32.ofNat (own_one (own_sl cs) 1 fr to_))) + (Int32.ofNat (own_one (own_sl cs) 2 fr to_))) + (Int32.ofNat (own_one (own_sl cs) 3 fr to_))) + (Int32.ofNat (own_one (own_sl cs) 4 fr to_))) + (Int32.ofNat (own_one (own_sl cs) 5 fr to_))))])) t_ → Steps p.tables e below (s₁.setTop (entryFrame m #[(.ref ca), (.int (Int32.ofNat fr)), (.int (Int32.ofNat to_))] 3)) t_ := fun t_ k_ => pre0 t_ (by
    show Steps p.tables e below (s₁.setTop (mkF m 0 #[.val (.ref ca), .val (.int (Int32.ofNat fr)), .val (.int (Int32.ofNat to_))] [])) t_
    refine XS.aloadN X0.here hx rfl (Jvm.hb hby d_method_4_0) rfl rfl ?_
    show Steps p.tables e below (s₁.setTop (mkF m 1 #[.val (.ref ca), .val (.int (Int32.ofNat fr)), .val (.int (Int32.ofNat to_))] [(.ref ca)])) _
    refine XS.iconst X0.here hx rfl (Jvm.hb hby d_method_4_1) ?_
    show Steps p.tables e below (s₁.setTop (mkF m 2 #[.val (.ref ca), .val (.int (Int32.ofNat fr)), .val (.int (Int32.ofNat to_))] [(.int (0 : Int32)), (.ref ca)])) _
    refine XS.iloadN X0.here hx rfl (Jvm.hb hby d_method_4_2) rfl ?_
    show Steps p.tables e below (s₁.setTop (mkF m 3 #[.val (.ref ca), .val (.int (Int32.ofNat fr)), .val (.int (Int32.ofNat to_))] [(.int (Int32.ofNat fr)), (.int (0 : Int32)), (.ref ca)])) _
    refine XS.iloadN X0.here hx rfl (Jvm.hb hby d_method_4_3) rfl ?_
    show Steps p.tables e below (s₁.setTop (mkF m 4 #[.val (.ref ca), .val (.int (Int32.ofNat fr)), .val (.int (Int32.ofNat to_))] [(.int (Int32.ofNat to_)), (.int (Int32.ofNat fr)), (.int (0 : Int32)), (.ref ca)])) _
    refine st2 _ ?_
    show Steps p.tables e below (T2.setTop (mkF m 7 #[.val (.ref ca), .val (.int (Int32.ofNat fr)), .val (.int (Int32.ofNat to_))] [(.int (Int32.ofNat (own_one (own_sl cs) 0 fr to_)))])) _
    refine XS.aloadN X2.here hx rfl (Jvm.hb hby d_method_4_7) rfl rfl ?_
    show Steps p.tables e below (T2.setTop (mkF m 8 #[.val (.ref ca), .val (.int (Int32.ofNat fr)), .val (.int (Int32.ofNat to_))] [(.ref ca), (.int (Int32.ofNat (own_one (own_sl cs) 0 fr to_)))])) _
    refine XS.iconst X2.here hx rfl (Jvm.hb hby d_method_4_8) ?_
    show Steps p.tables e below (T2.setTop (mkF m 9 #[.val (.ref ca), .val (.int (Int32.ofNat fr)), .val (.int (Int32.ofNat to_))] [(.int (1 : Int32)), (.ref ca), (.int (Int32.ofNat (own_one (own_sl cs) 0 fr to_)))])) _
    refine XS.iloadN X2.here hx rfl (Jvm.hb hby d_method_4_9) rfl ?_
    show Steps p.tables e below (T2.setTop (mkF m 10 #[.val (.ref ca), .val (.int (Int32.ofNat fr)), .val (.int (Int32.ofNat to_))] [(.int (Int32.ofNat fr)), (.int (1 : Int32)), (.ref ca), (.int (Int32.ofNat (own_one (own_sl cs) 0 fr to_)))])) _
    refine XS.iloadN X2.here hx rfl (Jvm.hb hby d_method_4_10) rfl ?_
    show Steps p.tables e below (T2.setTop (mkF m 11 #[.val (.ref ca), .val (.int (Int32.ofNat fr)), .val (.int (Int32.ofNat to_))] [(.int (Int32.ofNat to_)), (.int (Int32.ofNat fr)), (.int (1 : Int32)), (.ref ca), (.int (Int32.ofNat (own_one (own_sl cs) 0 fr to_)))])) _
    refine st4 _ ?_
    show Steps p.tables e below (T4.setTop (mkF m 14 #[.val (.ref ca), .val (.int (Int32.ofNat fr)), .val (.int (Int32.ofNat to_))] [(.int (Int32.ofNat (own_one (own_sl cs) 1 fr to_))), (.int (Int32.ofNat (own_one (own_sl cs) 0 fr to_)))])) _
    refine XS.iadd X4.here hx rfl (Jvm.hb hby d_method_4_14) rfl ?_
    show Steps p.tables e below (T4.setTop (mkF m 15 #[.val (.ref ca), .val (.int (Int32.ofNat fr)), .val (.int (Int32.ofNat to_))] [(.int ((Int32.ofNat (own_one (own_sl cs) 0 fr to_)) + (Int32.ofNat (own_one (own_sl cs) 1 fr to_))))])) _
    refine XS.aloadN X4.here hx rfl (Jvm.hb hby d_method_4_15) rfl rfl ?_
    show Steps p.tables e below (T4.setTop (mkF m 16 #[.val (.ref ca), .val (.int (Int32.ofNat fr)), .val (.int (Int32.ofNat to_))] [(.ref ca), (.int ((Int32.ofNat (own_one (own_sl cs) 0 fr to_)) + (Int32.ofNat (own_one (own_sl cs) 1 fr to_))))])) _
    refine XS.iconst X4.here hx rfl (Jvm.hb hby d_method_4_16) ?_
    show Steps p.tables e below (T4.setTop (mkF m 17 #[.val (.ref ca), .val (.int (Int32.ofNat fr)), .val (.int (Int32.ofNat to_))] [(.int (2 : Int32)), (.ref ca), (.int ((Int32.ofNat (own_one (own_sl cs) 0 fr to_)) + (Int32.ofNat (own_one (own_sl cs) 1 fr to_))))])) _
    refine XS.iloadN X4.here hx rfl (Jvm.hb hby d_method_4_17) rfl ?_
    show Steps p.tables e below (T4.setTop (mkF m 18 #[.val (.ref ca), .val (.int (Int32.ofNat fr)), .val (.int (Int32.ofNat to_))] [(.int (Int32.ofNat fr)), (.int (2 : Int32)), (.ref ca), (.int ((Int32.ofNat (own_one (own_sl cs) 0 fr to_)) + (Int32.ofNat (own_one (own_sl cs) 1 fr to_))))])) _
    refine XS.iloadN X4.here hx rfl (Jvm.hb hby d_method_4_18) rfl ?_
    show Steps p.tables e below (T4.setTop (mkF m 19 #[.val (.ref ca), .val (.int (Int32.ofNat fr)), .val (.int (Int32.ofNat to_))] [(.int (Int32.ofNat to_)), (.int (Int32.ofNat fr)), (.int (2 : Int32)), (.ref ca), (.int ((Int32.ofNat (own_one (own_sl cs) 0 fr to_)) + (Int32.ofNat (own_one (own_sl cs) 1 fr to_))))])) _
    refine st6 _ ?_
    show Steps p.tables e below (T6.setTop (mkF m 22 #[.val (.ref ca), .val (.int (Int32.ofNat fr)), .val (.int (Int32.ofNat to_))] [(.int (Int32.ofNat (own_one (own_sl cs) 2 fr to_))), (.int ((Int32.ofNat (own_one (own_sl cs) 0 fr to_)) + (Int32.ofNat (own_one (own_sl cs) 1 fr to_))))])) _
    refine XS.iadd X6.here hx rfl (Jvm.hb hby d_method_4_22) rfl ?_
    show Steps p.tables e below (T6.setTop (mkF m 23 #[.val (.ref ca), .val (.int (Int32.ofNat fr)), .val (.int (Int32.ofNat to_))] [(.int (((Int32.ofNat (own_one (own_sl cs) 0 fr to_)) + (Int32.ofNat (own_one (own_sl cs) 1 fr to_))) + (Int32.ofNat (own_one (own_sl cs) 2 fr to_))))])) _
    refine XS.aloadN X6.here hx rfl (Jvm.hb hby d_method_4_23) rfl rfl ?_
    show Steps p.tables e below (T6.setTop (mkF m 24 #[.val (.ref ca), .val (.int (Int32.ofNat fr)), .val (.int (Int32.ofNat to_))] [(.ref ca), (.int (((Int32.ofNat (own_one (own_sl cs) 0 fr to_)) + (Int32.ofNat (own_one (own_sl cs) 1 fr to_))) + (Int32.ofNat (own_one (own_sl cs) 2 fr to_))))])) _
    refine XS.iconst X6.here hx rfl (Jvm.hb hby d_method_4_24) ?_
    show Steps p.tables e below (T6.setTop (mkF m 25 #[.val (.ref ca), .val (.int (Int32.ofNat fr)), .val (.int (Int32.ofNat to_))] [(.int (3 : Int32)), (.ref ca), (.int (((Int32.ofNat (own_one (own_sl cs) 0 fr to_)) + (Int32.ofNat (own_one (own_sl cs) 1 fr to_))) + (Int32.ofNat (own_one (own_sl cs) 2 fr to_))))])) _
    refine XS.iloadN X6.here hx rfl (Jvm.hb hby d_method_4_25) rfl ?_
    show Steps p.tables e below (T6.setTop (mkF m 26 #[.val (.ref ca), .val (.int (Int32.ofNat fr)), .val (.int (Int32.ofNat to_))] [(.int (Int32.ofNat fr)), (.int (3 : Int32)), (.ref ca), (.int (((Int32.ofNat (own_one (own_sl cs) 0 fr to_)) + (Int32.ofNat (own_one (own_sl cs) 1 fr to_))) + (Int32.ofNat (own_one (own_sl cs) 2 fr to_))))])) _
    refine XS.iloadN X6.here hx rfl (Jvm.hb hby d_method_4_26) rfl ?_
    show Steps p.tables e below (T6.setTop (mkF m 27 #[.val (.ref ca), .val (.int (Int32.ofNat fr)), .val (.int (Int32.ofNat to_))] [(.int (Int32.ofNat to_)), (.int (Int32.ofNat fr)), (.int (3 : Int32)), (.ref ca), (.int (((Int32.ofNat (own_one (own_sl cs) 0 fr to_)) + (Int32.ofNat (own_one (own_sl cs) 1 fr to_))) + (Int32.ofNat (own_one (own_sl cs) 2 fr to_))))])) _
    refine st8 _ ?_
    show Steps p.tables e below (T8.setTop (mkF m 30 #[.val (.ref ca), .val (.int (Int32.ofNat fr)), .val (.int (Int32.ofNat to_))] [(.int (Int32.ofNat (own_one (own_sl cs) 3 fr to_))), (.int (((Int32.ofNat (own_one (own_sl cs) 0 fr to_)) + (Int32.ofNat (own_one (own_sl cs) 1 fr to_))) + (Int32.ofNat (own_one (own_sl cs) 2 fr to_))))])) _
    refine XS.iadd X8.here hx rfl (Jvm.hb hby d_method_4_30) rfl ?_
    show Steps p.tables e below (T8.setTop (mkF m 31 #[.val (.ref ca), .val (.int (Int32.ofNat fr)), .val (.int (Int32.ofNat to_))] [(.int ((((Int32.ofNat (own_one (own_sl cs) 0 fr to_)) + (Int32.ofNat (own_one (own_sl cs) 1 fr to_))) + (Int32.ofNat (own_one (own_sl cs) 2 fr to_))) + (Int32.ofNat (own_one (own_sl cs) 3 fr to_))))])) _
    refine XS.aloadN X8.here hx rfl (Jvm.hb hby d_method_4_31) rfl rfl ?_
    show Steps p.tables e below (T8.setTop (mkF m 32 #[.val (.ref ca), .val (.int (Int32.ofNat fr)), .val (.int (Int32.ofNat to_))] [(.ref ca), (.int ((((Int32.ofNat (own_one (own_sl cs) 0 fr to_)) + (Int32.ofNat (own_one (own_sl cs) 1 fr to_))) + (Int32.ofNat (own_one (own_sl cs) 2 fr to_))) + (Int32.ofNat (own_one (own_sl cs) 3 fr to_))))])) _
    refine XS.iconst X8.here hx rfl (Jvm.hb hby d_method_4_32) ?_
    show Steps p.tables e below (T8.setTop (mkF m 33 #[.val (.ref ca), .val (.int (Int32.ofNat fr)), .val (.int (Int32.ofNat to_))] [(.int (4 : Int32)), (.ref ca), (.int ((((Int32.ofNat (own_one (own_sl cs) 0 fr to_)) + (Int32.ofNat (own_one (own_sl cs) 1 fr to_))) + (Int32.ofNat (own_one (own_sl cs) 2 fr to_))) + (Int32.ofNat (own_one (own_sl cs) 3 fr to_))))])) _
    refine XS.iloadN X8.here hx rfl (Jvm.hb hby d_method_4_33) rfl ?_
    show Steps p.tables e below (T8.setTop (mkF m 34 #[.val (.ref ca), .val (.int (Int32.ofNat fr)), .val (.int (Int32.ofNat to_))] [(.int (Int32.ofNat fr)), (.int (4 : Int32)), (.ref ca), (.int ((((Int32.ofNat (own_one (own_sl cs) 0 fr to_)) + (Int32.ofNat (own_one (own_sl cs) 1 fr to_))) + (Int32.ofNat (own_one (own_sl cs) 2 fr to_))) + (Int32.ofNat (own_one (own_sl cs) 3 fr to_))))])) _
    refine XS.iloadN X8.here hx rfl (Jvm.hb hby d_method_4_34) rfl ?_
    show Steps p.tables e below (T8.setTop (mkF m 35 #[.val (.ref ca), .val (.int (Int32.ofNat fr)), .val (.int (Int32.ofNat to_))] [(.int (Int32.ofNat to_)), (.int (Int32.ofNat fr)), (.int (4 : Int32)), (.ref ca), (.int ((((Int32.ofNat (own_one (own_sl cs) 0 fr to_)) + (Int32.ofNat (own_one (own_sl cs) 1 fr to_))) + (Int32.ofNat (own_one (own_sl cs) 2 fr to_))) + (Int32.ofNat (own_one (own_sl cs) 3 fr to_))))])) _
    refine st10 _ ?_
    show Steps p.tables e below (T10.setTop (mkF m 38 #[.val (.ref ca), .val (.int (Int32.ofNat fr)), .val (.int (Int32.ofNat to_))] [(.int (Int32.ofNat (own_one (own_sl cs) 4 fr to_))), (.int ((((Int32.ofNat (own_one (own_sl cs) 0 fr to_)) + (Int32.ofNat (own_one (own_sl cs) 1 fr to_))) + (Int32.ofNat (own_one (own_sl cs) 2 fr to_))) + (Int32.ofNat (own_one (own_sl cs) 3 fr to_))))])) _
    refine XS.iadd X10.here hx rfl (Jvm.hb hby d_method_4_38) rfl ?_
    show Steps p.tables e below (T10.setTop (mkF m 39 #[.val (.ref ca), .val (.int (Int32.ofNat fr)), .val (.int (Int32.ofNat to_))] [(.int (((((Int32.ofNat (own_one (own_sl cs) 0 fr to_)) + (Int32.ofNat (own_one (own_sl cs) 1 fr to_))) + (Int32.ofNat (own_one (own_sl cs) 2 fr to_))) + (Int32.ofNat (own_one (own_sl cs) 3 fr to_))) + (Int32.ofNat (own_one (own_sl cs) 4 fr to_))))])) _
    refine XS.aloadN X10.here hx rfl (Jvm.hb hby d_method_4_39) rfl rfl ?_
    show Steps p.tables e below (T10.setTop (mkF m 40 #[.val (.ref ca), .val (.int (Int32.ofNat fr)), .val (.int (Int32.ofNat to_))] [(.ref ca), (.int (((((Int32.ofNat (own_one (own_sl cs) 0 fr to_)) + (Int32.ofNat (own_one (own_sl cs) 1 fr to_))) + (Int32.ofNat (own_one (own_sl cs) 2 fr to_))) + (Int32.ofNat (own_one (own_sl cs) 3 fr to_))) + (Int32.ofNat (own_one (own_sl cs) 4 fr to_))))])) _
    refine XS.iconst X10.here hx rfl (Jvm.hb hby d_method_4_40) ?_
    show Steps p.tables e below (T10.setTop (mkF m 41 #[.val (.ref ca), .val (.int (Int32.ofNat fr)), .val (.int (Int32.ofNat to_))] [(.int (5 : Int32)), (.ref ca), (.int (((((Int32.ofNat (own_one (own_sl cs) 0 fr to_)) + (Int32.ofNat (own_one (own_sl cs) 1 fr to_))) + (Int32.ofNat (own_one (own_sl cs) 2 fr to_))) + (Int32.ofNat (own_one (own_sl cs) 3 fr to_))) + (Int32.ofNat (own_one (own_sl cs) 4 fr to_))))])) _
    refine XS.iloadN X10.here hx rfl (Jvm.hb hby d_method_4_41) rfl ?_
    show Steps p.tables e below (T10.setTop (mkF m 42 #[.val (.ref ca), .val (.int (Int32.ofNat fr)), .val (.int (Int32.ofNat to_))] [(.int (Int32.ofNat fr)), (.int (5 : Int32)), (.ref ca), (.int (((((Int32.ofNat (own_one (own_sl cs) 0 fr to_)) + (Int32.ofNat (own_one (own_sl cs) 1 fr to_))) + (Int32.ofNat (own_one (own_sl cs) 2 fr to_))) + (Int32.ofNat (own_one (own_sl cs) 3 fr to_))) + (Int32.ofNat (own_one (own_sl cs) 4 fr to_))))])) _
    refine XS.iloadN X10.here hx rfl (Jvm.hb hby d_method_4_42) rfl ?_
    show Steps p.tables e below (T10.setTop (mkF m 43 #[.val (.ref ca), .val (.int (Int32.ofNat fr)), .val (.int (Int32.ofNat to_))] [(.int (Int32.ofNat to_)), (.int (Int32.ofNat fr)), (.int (5 : Int32)), (.ref ca), (.int (((((Int32.ofNat (own_one (own_sl cs) 0 fr to_)) + (Int32.ofNat (own_one (own_sl cs) 1 fr to_))) + (Int32.ofNat (own_one (own_sl cs) 2 fr to_))) + (Int32.ofNat (own_one (own_sl cs) 3 fr to_))) + (Int32.ofNat (own_one (own_sl cs) 4 fr to_))))])) _
    refine st12 _ ?_
    show Steps p.tables e below (T12.setTop (mkF m 46 #[.val (.ref ca), .val (.int (Int32.ofNat fr)), .val (.int (Int32.ofNat to_))] [(.int (Int32.ofNat (own_one (own_sl cs) 5 fr to_))), (.int (((((Int32.ofNat (own_one (own_sl cs) 0 fr to_)) + (Int32.ofNat (own_one (own_sl cs) 1 fr to_))) + (Int32.ofNat (own_one (own_sl cs) 2 fr to_))) + (Int32.ofNat (own_one (own_sl cs) 3 fr to_))) + (Int32.ofNat (own_one (own_sl cs) 4 fr to_))))])) _
    refine XS.iadd X12.here hx rfl (Jvm.hb hby d_method_4_46) rfl ?_
    show Steps p.tables e below (T12.setTop (mkF m 47 #[.val (.ref ca), .val (.int (Int32.ofNat fr)), .val (.int (Int32.ofNat to_))] [(.int ((((((Int32.ofNat (own_one (own_sl cs) 0 fr to_)) + (Int32.ofNat (own_one (own_sl cs) 1 fr to_))) + (Int32.ofNat (own_one (own_sl cs) 2 fr to_))) + (Int32.ofNat (own_one (own_sl cs) 3 fr to_))) + (Int32.ofNat (own_one (own_sl cs) 4 fr to_))) + (Int32.ofNat (own_one (own_sl cs) 5 fr to_))))])) _
    show Steps p.tables e below (T12.setTop (mkF m 47 #[.val (.ref ca), .val (.int (Int32.ofNat fr)), .val (.int (Int32.ofNat to_))] [(.int ((((((Int32.ofNat (own_one (own_sl cs) 0 fr to_)) + (Int32.ofNat (own_one (own_sl cs) 1 fr to_))) + (Int32.ofNat (own_one (own_sl cs) 2 fr to_))) + (Int32.ofNat (own_one (own_sl cs) 3 fr to_))) + (Int32.ofNat (own_one (own_sl cs) 4 fr to_))) + (Int32.ofNat (own_one (own_sl cs) 5 fr to_))))])) t_
    exact k_)
  obtain ⟨fs, hr, hrun, hended, hW, hsame⟩ := X12.leave (v := some (.int ((((((Int32.ofNat (own_one (own_sl cs) 0 fr to_)) + (Int32.ofNat (own_one (own_sl cs) 1 fr to_))) + (Int32.ofNat (own_one (own_sl cs) 2 fr to_))) + (Int32.ofNat (own_one (own_sl cs) 3 fr to_))) + (Int32.ofNat (own_one (own_sl cs) 4 fr to_))) + (Int32.ofNat (own_one (own_sl cs) 5 fr to_))))) (fun h => by rw [Bd.returns] at h; cases h)
  refine ⟨_, _, s13 _ ?_, hrun, hended, _, _, rfl, ?_, ⟨_, rfl⟩, hW, hsame.mono (by decide) (by decide)⟩
  · show Steps p.tables e below (T12.setTop (mkF m 47 #[.val (.ref ca), .val (.int (Int32.ofNat fr)), .val (.int (Int32.ofNat to_))] [(.int ((((((Int32.ofNat (own_one (own_sl cs) 0 fr to_)) + (Int32.ofNat (own_one (own_sl cs) 1 fr to_))) + (Int32.ofNat (own_one (own_sl cs) 2 fr to_))) + (Int32.ofNat (own_one (own_sl cs) 3 fr to_))) + (Int32.ofNat (own_one (own_sl cs) 4 fr to_))) + (Int32.ofNat (own_one (own_sl cs) 5 fr to_))))])) _
    exact retI X12 hx Bd.returns (Jvm.hb hby d_method_4_47) hr
  · show Q_rmCnt Z _ _ _ _ _ h0 n0 _ T12.heap _
    rw [e12]
    exact ⟨(by rw [own_cnt]; simp only [Int32.ofNat_add]), N12, rfl⟩
theorem pn_com_example_odysseus_odysseus_Escapes : plainName "com/example/odysseus/odysseus/Escapes" = true := by first | (simp [plainName, overriddenIn]; done) | decide +kernel
theorem d_prog_1_method_6_0 : decode prog_1_method_6_code 0 = .ok (.iload_n 1, 1) := by decide +kernel
theorem d_prog_1_method_6_1 : decode prog_1_method_6_code 1 = .ok (.istore_n 3, 1) := by decide +kernel
theorem d_prog_1_method_6_2 : decode prog_1_method_6_code 2 = .ok (.iconst 0, 1) := by decide +kernel
theorem d_prog_1_method_6_3 : decode prog_1_method_6_code 3 = .ok (.istore 4, 2) := by decide +kernel
theorem d_prog_1_method_6_5 : decode prog_1_method_6_code 5 = .ok (.iload 4, 2) := by decide +kernel
theorem d_prog_1_method_6_7 : decode prog_1_method_6_code 7 = .ok (.iload_n 2, 1) := by decide +kernel
theorem d_prog_1_method_6_8 : decode prog_1_method_6_code 8 = .ok (.if_icmp .ge 19, 3) := by decide +kernel
theorem d_prog_1_method_6_11 : decode prog_1_method_6_code 11 = .ok (.aload_n 0, 1) := by decide +kernel
theorem d_prog_1_method_6_12 : decode prog_1_method_6_code 12 = .ok (.bipush 47, 2) := by decide +kernel
theorem d_prog_1_method_6_14 : decode prog_1_method_6_code 14 = .ok (.iload_n 3, 1) := by decide +kernel
theorem d_prog_1_method_6_15 : decode prog_1_method_6_code 15 = .ok (.invokevirtual 41, 3) := by decide +kernel
theorem d_prog_1_method_6_18 : decode prog_1_method_6_code 18 = .ok (.iconst 1, 1) := by decide +kernel
theorem d_prog_1_method_6_19 : decode prog_1_method_6_code 19 = .ok (.iadd, 1) := by decide +kernel
theorem d_prog_1_method_6_20 : decode prog_1_method_6_code 20 = .ok (.istore_n 3, 1) := by decide +kernel
theorem d_prog_1_method_6_21 : decode prog_1_method_6_code 21 = .ok (.iinc 4 1, 3) := by decide +kernel
theorem d_prog_1_method_6_24 : decode prog_1_method_6_code 24 = .ok (.goto (-19), 3) := by decide +kernel
theorem d_prog_1_method_6_27 : decode prog_1_method_6_code 27 = .ok (.iload_n 3, 1) := by decide +kernel
theorem d_prog_1_method_6_28 : decode prog_1_method_6_code 28 = .ok (.ireturn, 1) := by decide +kernel
theorem ef_rmSeg (m : MethodId) (x0 : Addr) (x1 : Int32) (x2 : Int32) : entryFrame m #[(.ref x0), (.int x1), (.int x2)] 5 = mkF m 0 #[.val (.ref x0), .val (.int x1), .val (.int x2), .unset, .unset] [] := by first | (simp [entryFrame, mkF, argsToLocals, Value.category]; done) | rfl
def Q_rmSeg (Z : State) (a : Addr) (cst : Int32) (b : Addr) (kb : ClassId) (cs : List Int32) (st : Nat) (n : Nat) (h0 : Heap) (n0 : Nat) (v : Option Value) (h : Heap) (L : List Loc) : Prop := (v = some (.int (Int32.ofNat (own_seg (own_sl cs) st n)))) ∧ (Fr n0 L) ∧ (h = h0)
set_option maxRecDepth 65536 in
set_option maxHeartbeats 40000000 in
theorem rmSeg (l : Launch) (Z : State) (a0 : Array Value) (hw : ∀ d ∈ tables_1, d.before a0 Z = true) (ws : List Jvm.Cond) (a : Addr) (cst : Int32) (b : Addr) (kb : ClassId) (cs : List Int32) (st : Nat) (n : Nat) (h0 : Heap) (n0 : Nat) (Z0 : n0 ≤ h0.size) (I1 : Sta Z Z.heap "java/lang/String" "COMPACT_STRINGS" "Z" (.int cst)) (OX : Old Z n0 h0) (hcst : ¬ (cst = (0 : Int32))) (I2 : Exa Z h0 a "java/lang/String") (I3 : Fld Z h0 a "java/lang/String" "value" "[B" (.ref b)) (I4 : Fld Z h0 a "java/lang/String" "coder" "B" (.int (own_cod cs))) (I5 : Arv Z h0 b kb .byte (Int32.ofNat (own_enl cs)) (own_enc cs) (.int (0 : Int32))) (hb : cs.length ≤ 6) (hchs : own_chs cs) (hlat : own_lat cs) (hst : st ≤ cs.length) (hnb : n ≤ 8000) :
    MetFree l (⟨"com/example/odysseus/odysseus/Escapes", "segmentStart", "(Ljava/lang/String;II)I"⟩ : MethodName) (head1 (Jvm.Cond.code (⟨"com/example/odysseus/odysseus/Escapes", "segmentStart", "(Ljava/lang/String;II)I"⟩ : MethodName) prog_1_method_6_code 5 (some .int) :: ws) ({ frames := 3, cells := 0, slots := 0, locals := 46 } : Room)) (fun ar_ U => ar_ = #[(.ref a), (.int (Int32.ofNat st)), (.int (Int32.ofNat n))] ∧ Z.Warmed39 U.vm ∧ U.heap = h0) (fun _ _ _ _ _ => True) (fun _ U o U' => ∃ v L, o = .returned v ∧ Q_rmSeg Z a cst b kb cs st n h0 n0 v U'.heap L ∧ FrameEnd U o U' L ({ frames := 3, cells := 0, slots := 0, locals := 46 } : Room).cells ({ frames := 3, cells := 0, slots := 0, locals := 46 } : Room).slots) := by
  refine MetFree.of_bodySF (plainFor_of_name pn_com_example_odysseus_odysseus_Escapes) hisR ?_
  intro p e s m args below meth c s₁ Bd hml0 hP hK
  obtain ⟨rfl, hZ, hh⟩ := hP
  have hx := Bd.exec
  have hby := Bd.bytes
  have hml : c.maxLocals = 5 := hml0
  have hown : s.vm.findClass "com/example/odysseus/odysseus/Escapes" = some m.cls := findClass_of_methodNamed Bd.named
  have hnm := (name_of_methodNamed Bd.named Bd.method).1
  have X0 : Stand p l e ({ frames := 3, cells := 0, slots := 0, locals := 46 } : Room) s m #[(.ref a), (.int (Int32.ofNat st)), (.int (Int32.ofNat n))] below meth c s₁ [] 0 0 := Stand.of_body Bd
  have e0 : s₁.heap = h0 := by rw [← hh, Bd.state]; rfl
  have N0 := Fr.nil n0
  have pre0 : ∀ t_, Steps p.tables e below (s₁.setTop (mkF m 0 #[.val (.ref a), .val (.int (Int32.ofNat st)), .val (.int (Int32.ofNat n)), .unset, .unset] [])) t_ → Steps p.tables e below (s₁.setTop (entryFrame m #[(.ref a), (.int (Int32.ofNat st)), (.int (Int32.ofNat n))] 5)) t_ := fun t_ k_ => castTop (ef_rmSeg m a (Int32.ofNat st) (Int32.ofNat n)) k_
  have lt_I2 : @LT.lt Nat _ a h0.size := I2.lt
  have lt_I3 : @LT.lt Nat _ a h0.size := I3.lt
  have lt_I4 : @LT.lt Nat _ a h0.size := I4.lt
  have lt_I5 : @LT.lt Nat _ b h0.size := I5.lt
  have s1 : ∀ t_, Steps p.tables e below (s₁.setTop (mkF m 5 #[.val (.ref a), .val (.int (Int32.ofNat st)), .val (.int (Int32.ofNat n)), .val (.int (Int32.ofNat st)), .val (.int (0 : Int32))] [])) t_ → Steps p.tables e below (s₁.setTop (entryFrame m #[(.ref a), (.int (Int32.ofNat st)), (.int (Int32.ofNat n))] 5)) t_ := fun t_ k_ => pre0 t_ (by
    show Steps p.tables e below (s₁.setTop (mkF m 0 #[.val (.ref a), .val (.int (Int32.ofNat st)), .val (.int (Int32.ofNat n)), .unset, .unset] [])) t_
    refine XS.iloadN X0.here hx rfl (Jvm.hb hby d_prog_1_method_6_0) rfl ?_
    show Steps p.tables e below (s₁.setTop (mkF m 1 #[.val (.ref a), .val (.int (Int32.ofNat st)), .val (.int (Int32.ofNat n)), .unset, .unset] [(.int (Int32.ofNat st))])) _
    refine XS.istoreN X0.here hx rfl (Jvm.hb hby d_prog_1_method_6_1) rfl (l' := #[.val (.ref a), .val (.int (Int32.ofNat st)), .val (.int (Int32.ofNat n)), .val (.int (Int32.ofNat st)), .unset]) rfl ?_
    show Steps p.tables e below (s₁.setTop (mkF m 2 #[.val (.ref a), .val (.int (Int32.ofNat st)), .val (.int (Int32.ofNat n)), .val (.int (Int32.ofNat st)), .unset] [])) _
    refine XS.iconst X0.here hx rfl (Jvm.hb hby d_prog_1_method_6_2) ?_
    show Steps p.tables e below (s₁.setTop (mkF m 3 #[.val (.ref a), .val (.int (Int32.ofNat st)), .val (.int (Int32.ofNat n)), .val (.int (Int32.ofNat st)), .unset] [(.int (0 : Int32))])) _
    refine XS.istore X0.here hx rfl (Jvm.hb hby d_prog_1_method_6_3) rfl (l' := #[.val (.ref a), .val (.int (Int32.ofNat st)), .val (.int (Int32.ofNat n)), .val (.int (Int32.ofNat st)), .val (.int (0 : Int32))]) rfl ?_
    show Steps p.tables e below (s₁.setTop (mkF m 5 #[.val (.ref a), .val (.int (Int32.ofNat st)), .val (.int (Int32.ofNat n)), .val (.int (Int32.ofNat st)), .val (.int (0 : Int32))] [])) _
    show Steps p.tables e below (s₁.setTop (mkF m 5 #[.val (.ref a), .val (.int (Int32.ofNat st)), .val (.int (Int32.ofNat n)), .val (.int (Int32.ofNat st)), .val (.int (0 : Int32))] [])) t_
    exact k_)
  have lp2 : ∀ (k_ : Nat) (j : Nat) (pp : Nat) (T_ : State) (lo_ : List Loc), j + k_ = n → Stand p l e ({ frames := 3, cells := 0, slots := 0, locals := 46 } : Room) s m #[(.ref a), (.int (Int32.ofNat st)), (.int (Int32.ofNat n))] below meth c T_ lo_ 0 0 → T_.heap = h0 → Fr n0 lo_ → (own_seg (own_sl cs) pp k_ = own_seg (own_sl cs) st n) → (pp ≤ cs.length) → ∃ (T' : State) (lo' : List Loc) (fe_ : JFrame), Stand p l e ({ frames := 3, cells := 0, slots := 0, locals := 46 } : Room) s m #[(.ref a), (.int (Int32.ofNat st)), (.int (Int32.ofNat n))] below meth c T' lo' 0 0 ∧ T'.heap = h0 ∧ Fr n0 lo' ∧ ((fe_ = (mkF m 27 #[.val (.ref a), .val (.int (Int32.ofNat st)), .val (.int (Int32.ofNat n)), .val (.int (Int32.ofNat (own_seg (own_sl cs) st n))), .val (.int (Int32.ofNat n))] []))) ∧ ∀ t_, Steps p.tables e below (T'.setTop fe_) t_ → Steps p.tables e below (T_.setTop (mkF m 5 #[.val (.ref a), .val (.int (Int32.ofNat st)), .val (.int (Int32.ofNat n)), .val (.int (Int32.ofNat pp)), .val (.int (Int32.ofNat j))] [])) t_ := by
    intro k_
    induction k_ with
    | zero => 
      intro j pp T_ lo_ hm_ X_ e_ N_ hr hpp
      have s3 : ∀ t_, Steps p.tables e below (T_.setTop (mkF m 27 #[.val (.ref a), .val (.int (Int32.ofNat st)), .val (.int (Int32.ofNat n)), .val (.int (Int32.ofNat pp)), .val (.int (Int32.ofNat j))] [])) t_ → Steps p.tables e below (T_.setTop (mkF m 5 #[.val (.ref a), .val (.int (Int32.ofNat st)), .val (.int (Int32.ofNat n)), .val (.int (Int32.ofNat pp)), .val (.int (Int32.ofNat j))] [])) t_ := fun t_ k_ => (fun _ k_ => k_) t_ (by
        show Steps p.tables e below (T_.setTop (mkF m 5 #[.val (.ref a), .val (.int (Int32.ofNat st)), .val (.int (Int32.ofNat n)), .val (.int (Int32.ofNat pp)), .val (.int (Int32.ofNat j))] [])) t_
        refine XS.iload X_.here hx rfl (Jvm.hb hby d_prog_1_method_6_5) rfl ?_
        show Steps p.tables e below (T_.setTop (mkF m 7 #[.val (.ref a), .val (.int (Int32.ofNat st)), .val (.int (Int32.ofNat n)), .val (.int (Int32.ofNat pp)), .val (.int (Int32.ofNat j))] [(.int (Int32.ofNat j))])) _
        refine XS.iloadN X_.here hx rfl (Jvm.hb hby d_prog_1_method_6_7) rfl ?_
        show Steps p.tables e below (T_.setTop (mkF m 8 #[.val (.ref a), .val (.int (Int32.ofNat st)), .val (.int (Int32.ofNat n)), .val (.int (Int32.ofNat pp)), .val (.int (Int32.ofNat j))] [(.int (Int32.ofNat n)), (.int (Int32.ofNat j))])) _
        refine XS.icmpYes X_.here hx rfl (pc0 := 8) (pc' := 27) rfl (Jvm.hb hby d_prog_1_method_6_8) rfl (flt (own_nlt (by omega) (by omega))).2.1 (by decide) (by decide) ?_
        show Steps p.tables e below (T_.setTop (mkF m 27 #[.val (.ref a), .val (.int (Int32.ofNat st)), .val (.int (Int32.ofNat n)), .val (.int (Int32.ofNat pp)), .val (.int (Int32.ofNat j))] [])) _
        show Steps p.tables e below (T_.setTop (mkF m 27 #[.val (.ref a), .val (.int (Int32.ofNat st)), .val (.int (Int32.ofNat n)), .val (.int (Int32.ofNat pp)), .val (.int (Int32.ofNat j))] [])) t_
        exact k_)
      exact ⟨T_, _, _, X_, e_, N_, (by rw [← hr, show j = n by omega]; rfl), s3⟩
    | succ k_ ih => 
      intro j pp T_ lo_ hm_ X_ e_ N_ hr hpp
      have Zc4 : n0 ≤ h0.size := by omega
      obtain ⟨cq5, kq5, q5a, q5b, q5c⟩ := isOf hZ e_ I2
      obtain ⟨_, _, ⟨T5, L5, k5, n5⟩, -, X5, ⟨Lc5, hQ5, l5, y5, z5⟩, st5⟩ := X_.virtualBack hx (y := (⟨"java/lang/String", "indexOf", "(II)I"⟩ : MethodName)) (z := (⟨"java/lang/String", "indexOf", "(II)I"⟩ : MethodName)) hown (mvT hZ (hw _ (List.mem_of_getElem? (i := 46) rfl))) (mvT hZ (hw _ (List.mem_of_getElem? (i := 47) rfl))) (notFace_of_selects (args := #[]) (mvT hZ (hw _ (List.mem_of_getElem? (i := 49) rfl)))) (mvT hZ (hw _ (List.mem_of_getElem? (i := 49) rfl))) (mvT hZ (hw _ (List.mem_of_getElem? (i := 48) rfl))) (by decide) (backOf (W := 0) (rmIxOf l Z a0 hw [] a (47 : Int32) cst b kb cs pp h0 n0 Zc4 I1 OX (hcst : ¬ (cst = (0 : Int32))) I2 I3 I4 I5 (hb : cs.length ≤ 6) hpp (hchs : own_chs cs) (hlat : own_lat cs) (by decide) (by decide)) hZ (hw _ (List.mem_of_getElem? (i := 50) rfl)) (hw _ (List.mem_of_getElem? (i := 8) rfl)) (by decide) (by decide)) q5a q5c (g := (mkF m 15 #[.val (.ref a), .val (.int (Int32.ofNat st)), .val (.int (Int32.ofNat n)), .val (.int (Int32.ofNat pp)), .val (.int (Int32.ofNat j))] [(.int (Int32.ofNat pp)), (.int (47 : Int32)), (.ref a)])) rfl (by rw [hml]; rfl) (Steps.refl _) (argsL := [(.int (47 : Int32)), (.int (Int32.ofNat pp))]) (rest := []) (lenOf pd__II_I rfl) rfl (by show 2 * 0 + _ ≤ _; exact Nat.le_of_eq rfl) (Jvm.hb hby d_prog_1_method_6_15) (fun _ _ => ⟨rfl, e_, (by decide : 0 + 0 ≤ _), (by decide : 0 + 0 ≤ _)⟩)
      dsimp only [Pt.U, Pt.locs, Pt.cells, Pt.slots] at X5 l5 y5 z5 st5 hQ5
      subst l5 y5 z5
      obtain ⟨rfl, N5q, e5⟩ := hQ5
      have N5 := Fr.app N_ N5q
      have s6 : ∀ t_, Steps p.tables e below (T5.setTop (mkF m 5 #[.val (.ref a), .val (.int (Int32.ofNat st)), .val (.int (Int32.ofNat n)), .val (.int (Int32.ofNat (own_ix cs (47 : Int32) pp (cs.length - pp)))), .val (.int ((Int32.ofNat j) + (1 : Int32)))] [])) t_ → Steps p.tables e below (T_.setTop (mkF m 5 #[.val (.ref a), .val (.int (Int32.ofNat st)), .val (.int (Int32.ofNat n)), .val (.int (Int32.ofNat pp)), .val (.int (Int32.ofNat j))] [])) t_ := fun t_ k_ => (fun _ k_ => k_) t_ (by
        show Steps p.tables e below (T_.setTop (mkF m 5 #[.val (.ref a), .val (.int (Int32.ofNat st)), .val (.int (Int32.ofNat n)), .val (.int (Int32.ofNat pp)), .val (.int (Int32.ofNat j))] [])) t_
        refine XS.iload X_.here hx rfl (Jvm.hb hby d_prog_1_method_6_5) rfl ?_
        show Steps p.tables e below (T_.setTop (mkF m 7 #[.val (.ref a), .val (.int (Int32.ofNat st)), .val (.int (Int32.ofNat n)), .val (.int (Int32.ofNat pp)), .val (.int (Int32.ofNat j))] [(.int (Int32.ofNat j))])) _
        refine XS.iloadN X_.here hx rfl (Jvm.hb hby d_prog_1_method_6_7) rfl ?_
        show Steps p.tables e below (T_.setTop (mkF m 8 #[.val (.ref a), .val (.int (Int32.ofNat st)), .val (.int (Int32.ofNat n)), .val (.int (Int32.ofNat pp)), .val (.int (Int32.ofNat j))] [(.int (Int32.ofNat n)), (.int (Int32.ofNat j))])) _
        refine XS.icmpNo X_.here hx rfl (Jvm.hb hby d_prog_1_method_6_8) rfl (tlt (own_lt (by omega) (by omega))).2.1 ?_
        show Steps p.tables e below (T_.setTop (mkF m 11 #[.val (.ref a), .val (.int (Int32.ofNat st)), .val (.int (Int32.ofNat n)), .val (.int (Int32.ofNat pp)), .val (.int (Int32.ofNat j))] [])) _
        refine XS.aloadN X_.here hx rfl (Jvm.hb hby d_prog_1_method_6_11) rfl rfl ?_
        show Steps p.tables e below (T_.setTop (mkF m 12 #[.val (.ref a), .val (.int (Int32.ofNat st)), .val (.int (Int32.ofNat n)), .val (.int (Int32.ofNat pp)), .val (.int (Int32.ofNat j))] [(.ref a)])) _
        refine XS.bipush X_.here hx rfl (Jvm.hb hby d_prog_1_method_6_12) ?_
        show Steps p.tables e below (T_.setTop (mkF m 14 #[.val (.ref a), .val (.int (Int32.ofNat st)), .val (.int (Int32.ofNat n)), .val (.int (Int32.ofNat pp)), .val (.int (Int32.ofNat j))] [(.int (47 : Int32)), (.ref a)])) _
        refine XS.iloadN X_.here hx rfl (Jvm.hb hby d_prog_1_method_6_14) rfl ?_
        show Steps p.tables e below (T_.setTop (mkF m 15 #[.val (.ref a), .val (.int (Int32.ofNat st)), .val (.int (Int32.ofNat n)), .val (.int (Int32.ofNat pp)), .val (.int (Int32.ofNat j))] [(.int (Int32.ofNat pp)), (.int (47 : Int32)), (.ref a)])) _
        refine st5.trans ?_
        show Steps p.tables e below (T5.setTop (mkF m 18 #[.val (.ref a), .val (.int (Int32.ofNat st)), .val (.int (Int32.ofNat n)), .val (.int (Int32.ofNat pp)), .val (.int (Int32.ofNat j))] [(.int ((Int32.ofNat (own_ix cs (47 : Int32) pp (cs.length - pp))) - (1 : Int32)))])) _
        refine XS.iconst X5.here hx rfl (Jvm.hb hby d_prog_1_method_6_18) ?_
        show Steps p.tables e below (T5.setTop (mkF m 19 #[.val (.ref a), .val (.int (Int32.ofNat st)), .val (.int (Int32.ofNat n)), .val (.int (Int32.ofNat pp)), .val (.int (Int32.ofNat j))] [(.int (1 : Int32)), (.int ((Int32.ofNat (own_ix cs (47 : Int32) pp (cs.length - pp))) - (1 : Int32)))])) _
        refine XS.iadd X5.here hx rfl (Jvm.hb hby d_prog_1_method_6_19) rfl ?_
        show Steps p.tables e below (T5.setTop (mkF m 20 #[.val (.ref a), .val (.int (Int32.ofNat st)), .val (.int (Int32.ofNat n)), .val (.int (Int32.ofNat pp)), .val (.int (Int32.ofNat j))] [(.int (((Int32.ofNat (own_ix cs (47 : Int32) pp (cs.length - pp))) - (1 : Int32)) + (1 : Int32)))])) _
        refine castTop (g' := (mkF m 20 #[.val (.ref a), .val (.int (Int32.ofNat st)), .val (.int (Int32.ofNat n)), .val (.int (Int32.ofNat pp)), .val (.int (Int32.ofNat j))] [(.int (Int32.ofNat (own_ix cs (47 : Int32) pp (cs.length - pp))))])) (by rw [Int32.sub_add_cancel]) ?_
        show Steps p.tables e below (T5.setTop (mkF m 20 #[.val (.ref a), .val (.int (Int32.ofNat st)), .val (.int (Int32.ofNat n)), .val (.int (Int32.ofNat pp)), .val (.int (Int32.ofNat j))] [(.int (Int32.ofNat (own_ix cs (47 : Int32) pp (cs.length - pp))))])) _
        refine XS.istoreN X5.here hx rfl (Jvm.hb hby d_prog_1_method_6_20) rfl (l' := #[.val (.ref a), .val (.int (Int32.ofNat st)), .val (.int (Int32.ofNat n)), .val (.int (Int32.ofNat (own_ix cs (47 : Int32) pp (cs.length - pp)))), .val (.int (Int32.ofNat j))]) rfl ?_
        show Steps p.tables e below (T5.setTop (mkF m 21 #[.val (.ref a), .val (.int (Int32.ofNat st)), .val (.int (Int32.ofNat n)), .val (.int (Int32.ofNat (own_ix cs (47 : Int32) pp (cs.length - pp)))), .val (.int (Int32.ofNat j))] [])) _
        refine XS.iinc X5.here hx rfl (Jvm.hb hby d_prog_1_method_6_21) rfl (l' := #[.val (.ref a), .val (.int (Int32.ofNat st)), .val (.int (Int32.ofNat n)), .val (.int (Int32.ofNat (own_ix cs (47 : Int32) pp (cs.length - pp)))), .val (.int ((Int32.ofNat j) + (1 : Int32)))]) rfl ?_
        show Steps p.tables e below (T5.setTop (mkF m 24 #[.val (.ref a), .val (.int (Int32.ofNat st)), .val (.int (Int32.ofNat n)), .val (.int (Int32.ofNat (own_ix cs (47 : Int32) pp (cs.length - pp)))), .val (.int ((Int32.ofNat j) + (1 : Int32)))] [])) _
        refine XS.goto X5.here hx rfl (pc0 := 24) (pc' := 5) rfl (Jvm.hb hby d_prog_1_method_6_24) (by decide) (by decide) ?_
        show Steps p.tables e below (T5.setTop (mkF m 5 #[.val (.ref a), .val (.int (Int32.ofNat st)), .val (.int (Int32.ofNat n)), .val (.int (Int32.ofNat (own_ix cs (47 : Int32) pp (cs.length - pp)))), .val (.int ((Int32.ofNat j) + (1 : Int32)))] [])) _
        show Steps p.tables e below (T5.setTop (mkF m 5 #[.val (.ref a), .val (.int (Int32.ofNat st)), .val (.int (Int32.ofNat n)), .val (.int (Int32.ofNat (own_ix cs (47 : Int32) pp (cs.length - pp)))), .val (.int ((Int32.ofNat j) + (1 : Int32)))] [])) t_
        exact k_)
      obtain ⟨T7, lo7, fe7, X7, e7, N7, A7, st7⟩ := ih (j + 1) (own_ix cs (47 : Int32) pp (cs.length - pp)) T5 _  (by omega) X5 e5 N5   (by rw [← hr, own_seg, own_ixB cs _ _ (by omega), own_sll]) (Nat.le_trans (own_ixle _ _ _ _) (by omega))
      exact ⟨T7, lo7, fe7, X7, e7, N7, A7, fun t_ k_ => s6 t_ (castTop (by rw [own_up]) (st7 t_ k_))⟩
  obtain ⟨T8, lo8, fe8, X8, e8, N8, A8, st8⟩ := lp2 n 0 st s₁ _  (by omega) X0 e0 N0   rfl hst
  obtain rfl := A8
  have s9 : ∀ t_, Steps p.tables e below (T8.setTop (mkF m 27 #[.val (.ref a), .val (.int (Int32.ofNat st)), .val (.int (Int32.ofNat n)), .val (.int (Int32.ofNat (own_seg (own_sl cs) st n))), .val (.int (Int32.ofNat n))] [])) t_ → Steps p.tables e below (s₁.setTop (entryFrame m #[(.ref a), (.int (Int32.ofNat st)), (.int (Int32.ofNat n))] 5)) t_ := fun t_ k_ => s1 t_ (st8 t_ k_)
  have s10 : ∀ t_, Steps p.tables e below (T8.setTop (mkF m 28 #[.val (.ref a), .val (.int (Int32.ofNat st)), .val (.int (Int32.ofNat n)), .val (.int (Int32.ofNat (own_seg (own_sl cs) st n))), .val (.int (Int32.ofNat n))] [(.int (Int32.ofNat (own_seg (own_sl cs) st n)))])) t_ → Steps p.tables e below (s₁.setTop (entryFrame m #[(.ref a), (.int (Int32.ofNat st)), (.int (Int32.ofNat n))] 5)) t_ := fun t_ k_ => s9 t_ (by
    show Steps p.tables e below (T8.setTop (mkF m 27 #[.val (.ref a), .val (.int (Int32.ofNat st)), .val (.int (Int32.ofNat n)), .val (.int (Int32.ofNat (own_seg (own_sl cs) st n))), .val (.int (Int32.ofNat n))] [])) t_
    refine XS.iloadN X8.here hx rfl (Jvm.hb hby d_prog_1_method_6_27) rfl ?_
    show Steps p.tables e below (T8.setTop (mkF m 28 #[.val (.ref a), .val (.int (Int32.ofNat st)), .val (.int (Int32.ofNat n)), .val (.int (Int32.ofNat (own_seg (own_sl cs) st n))), .val (.int (Int32.ofNat n))] [(.int (Int32.ofNat (own_seg (own_sl cs) st n)))])) _
    show Steps p.tables e below (T8.setTop (mkF m 28 #[.val (.ref a), .val (.int (Int32.ofNat st)), .val (.int (Int32.ofNat n)), .val (.int (Int32.ofNat (own_seg (own_sl cs) st n))), .val (.int (Int32.ofNat n))] [(.int (Int32.ofNat (own_seg (own_sl cs) st n)))])) t_
    exact k_)
  obtain ⟨fs, hr, hrun, hended, hW, hsame⟩ := X8.leave (v := some (.int (Int32.ofNat (own_seg (own_sl cs) st n)))) (fun h => by rw [Bd.returns] at h; cases h)
  refine ⟨_, _, s10 _ ?_, hrun, hended, _, _, rfl, ?_, ⟨_, rfl⟩, hW, hsame.mono (by decide) (by decide)⟩
  · show Steps p.tables e below (T8.setTop (mkF m 28 #[.val (.ref a), .val (.int (Int32.ofNat st)), .val (.int (Int32.ofNat n)), .val (.int (Int32.ofNat (own_seg (own_sl cs) st n))), .val (.int (Int32.ofNat n))] [(.int (Int32.ofNat (own_seg (own_sl cs) st n)))])) _
    exact retI X8 hx Bd.returns (Jvm.hb hby d_prog_1_method_6_28) hr
  · show Q_rmSeg Z _ _ _ _ _ _ _ h0 n0 _ T8.heap _
    rw [e8]
    exact ⟨rfl, N8, rfl⟩
theorem pd__IJI_C : parseMethodDescriptor "(IJI)C" = some ⟨[.int, .long, .int], some .char⟩ := by decide +kernel
theorem pd___C_V : parseMethodDescriptor "([C)V" = some ⟨[(.array .char)], none⟩ := by decide +kernel
theorem pd___CII_I : parseMethodDescriptor "([CII)I" = some ⟨[(.array .char), .int, .int], some .int⟩ := by decide +kernel
theorem pd__Ljava_lang_String_II_I : parseMethodDescriptor "(Ljava/lang/String;II)I" = some ⟨[(.object "java/lang/String"), .int, .int], some .int⟩ := by decide +kernel
theorem ef_rmLaw (m : MethodId) (x0 : Int32) (x1 : Int64) (x2 : Int32) (x3 : Int32) : entryFrame m #[(.int x0), (.long x1), (.int x2), (.int x3)] maxLocals = mkF m 0 #[.val (.int x0), .val (.long x1), .second, .val (.int x2), .val (.int x3), .unset, .unset, .unset, .unset, .unset] [] := by first | (simp [entryFrame, mkF, argsToLocals, Value.category, maxLocals]; done) | rfl
def Q_rmLaw (Z : State) (rb : Int32) (ro : Int64) (rs : Int32) (rn : Int32) (cst : Int32) (h0 : Heap) (n0 : Nat) (v : Option Value) (h : Heap) (L : List Loc) : Prop := v = some (.int 1) ∧ Fr n0 L
set_option maxRecDepth 65536 in
set_option maxHeartbeats 40000000 in
theorem rmLaw (l : Launch) (Z : State) (a0 : Array Value) (hw : ∀ d ∈ tables_1, d.before a0 Z = true) (ws : List Jvm.Cond) (rb : Int32) (ro : Int64) (rs : Int32) (rn : Int32) (cst : Int32) (h0 : Heap) (n0 : Nat) (Z0 : n0 ≤ h0.size) (I1 : Sta Z Z.heap "java/lang/String" "COMPACT_STRINGS" "Z" (.int cst)) (OX : Old Z n0 h0) (hcst : ¬ (cst = (0 : Int32))) :
    MetFree l x (head1 (Jvm.Cond.code x code maxLocals ret :: ws) room_1) (fun ar_ U => ar_ = #[(.int rb), (.long ro), (.int rs), (.int rn)] ∧ Z.Warmed39 U.vm ∧ U.heap = h0) (fun _ _ _ _ _ => True) (fun _ U o U' => ∃ v L, o = .returned v ∧ Q_rmLaw Z rb ro rs rn cst h0 n0 v U'.heap L ∧ FrameEnd U o U' L room_1.cells room_1.slots) := by
  refine MetFree.of_bodySF (plainFor_of_name pn_com_example_odysseus_odysseus_EscapesSegmentStartPinLaw) hisR ?_
  intro p e s m args below meth c s₁ Bd hml0 hP hK
  obtain ⟨rfl, hZ, hh⟩ := hP
  have hx := Bd.exec
  have hby := Bd.bytes
  have hml : c.maxLocals = 10 := hml0
  have hown : s.vm.findClass "com/example/odysseus/odysseus/EscapesSegmentStartPinLaw" = some m.cls := findClass_of_methodNamed Bd.named
  have hnm := (name_of_methodNamed Bd.named Bd.method).1
  have X0 : Stand p l e room_1 s m #[(.int rb), (.long ro), (.int rs), (.int rn)] below meth c s₁ [] 0 0 := Stand.of_body Bd
  have e0 : s₁.heap = h0 := by rw [← hh, Bd.state]; rfl
  have N0 := Fr.nil n0
  have pre0 : ∀ t_, Steps p.tables e below (s₁.setTop (mkF m 0 #[.val (.int rb), .val (.long ro), .second, .val (.int rs), .val (.int rn), .unset, .unset, .unset, .unset, .unset] [])) t_ → Steps p.tables e below (s₁.setTop (entryFrame m #[(.int rb), (.long ro), (.int rs), (.int rn)] maxLocals)) t_ := fun t_ k_ => castTop (ef_rmLaw m rb ro rs rn) k_
  obtain ⟨T1, h1, k1, X1, e1, E1, A1, st1⟩ := newP X0 hx hZ (hw _ (List.mem_of_getElem? (i := 0) rfl)) e0 (g := (mkF m 2 #[.val (.int rb), .val (.long ro), .second, .val (.int rs), .val (.int rn), .unset, .unset, .unset, .unset, .unset] [(.int (6 : Int32))])) rfl (Jvm.hb hby at_2) rfl (by decide) (cap := 6) (by decide) (by decide) (by decide) (by decide)
  obtain ⟨b1, g1⟩ : ∃ z, z = h0.size := ⟨_, rfl⟩
  rw [← g1] at A1 st1
  have z2 : h0.size ≤ h1.size := E1.1
  have l1 : b1 < h1.size := A1.lt
  have V1 : Arv Z h1 b1 k1 .char (6 : Int32) [(.int (0 : Int32)), (.int (0 : Int32)), (.int (0 : Int32)), (.int (0 : Int32)), (.int (0 : Int32)), (.int (0 : Int32))] (.int (0 : Int32)) := (Arv.new A1 (by decide)).pad (pad_rep [] (.int (0 : Int32)) 6)
  have s3 : ∀ t_, Steps p.tables e below (T1.setTop (mkF m 12 #[.val (.int rb), .val (.long ro), .second, .val (.int rs), .val (.int rn), .val (.ref b1), .unset, .unset, .unset, .unset] [(.int (0 : Int32)), (.long ro), (.int rb), (.int (0 : Int32)), (.ref b1)])) t_ → Steps p.tables e below (s₁.setTop (entryFrame m #[(.int rb), (.long ro), (.int rs), (.int rn)] maxLocals)) t_ := fun t_ k_ => pre0 t_ (by
    show Steps p.tables e below (s₁.setTop (mkF m 0 #[.val (.int rb), .val (.long ro), .second, .val (.int rs), .val (.int rn), .unset, .unset, .unset, .unset, .unset] [])) t_
    refine XS.bipush X0.here hx rfl (Jvm.hb hby at_0) ?_
    show Steps p.tables e below (s₁.setTop (mkF m 2 #[.val (.int rb), .val (.long ro), .second, .val (.int rs), .val (.int rn), .unset, .unset, .unset, .unset, .unset] [(.int (6 : Int32))])) _
    refine st1 _ ?_
    show Steps p.tables e below (T1.setTop (mkF m 4 #[.val (.int rb), .val (.long ro), .second, .val (.int rs), .val (.int rn), .unset, .unset, .unset, .unset, .unset] [(.ref b1)])) _
    refine XS.astore X1.here hx rfl (Jvm.hb hby at_4) rfl rfl (l' := #[.val (.int rb), .val (.long ro), .second, .val (.int rs), .val (.int rn), .val (.ref b1), .unset, .unset, .unset, .unset]) rfl ?_
    show Steps p.tables e below (T1.setTop (mkF m 6 #[.val (.int rb), .val (.long ro), .second, .val (.int rs), .val (.int rn), .val (.ref b1), .unset, .unset, .unset, .unset] [])) _
    refine XS.aload X1.here hx rfl (Jvm.hb hby at_6) rfl rfl ?_
    show Steps p.tables e below (T1.setTop (mkF m 8 #[.val (.int rb), .val (.long ro), .second, .val (.int rs), .val (.int rn), .val (.ref b1), .unset, .unset, .unset, .unset] [(.ref b1)])) _
    refine XS.iconst X1.here hx rfl (Jvm.hb hby at_8) ?_
    show Steps p.tables e below (T1.setTop (mkF m 9 #[.val (.int rb), .val (.long ro), .second, .val (.int rs), .val (.int rn), .val (.ref b1), .unset, .unset, .unset, .unset] [(.int (0 : Int32)), (.ref b1)])) _
    refine XS.iloadN X1.here hx rfl (Jvm.hb hby at_9) rfl ?_
    show Steps p.tables e below (T1.setTop (mkF m 10 #[.val (.int rb), .val (.long ro), .second, .val (.int rs), .val (.int rn), .val (.ref b1), .unset, .unset, .unset, .unset] [(.int rb), (.int (0 : Int32)), (.ref b1)])) _
    refine XS.lloadN X1.here hx rfl (Jvm.hb hby at_10) rfl ?_
    show Steps p.tables e below (T1.setTop (mkF m 11 #[.val (.int rb), .val (.long ro), .second, .val (.int rs), .val (.int rn), .val (.ref b1), .unset, .unset, .unset, .unset] [(.long ro), (.int rb), (.int (0 : Int32)), (.ref b1)])) _
    refine XS.iconst X1.here hx rfl (Jvm.hb hby at_11) ?_
    show Steps p.tables e below (T1.setTop (mkF m 12 #[.val (.int rb), .val (.long ro), .second, .val (.int rs), .val (.int rn), .val (.ref b1), .unset, .unset, .unset, .unset] [(.int (0 : Int32)), (.long ro), (.int rb), (.int (0 : Int32)), (.ref b1)])) _
    show Steps p.tables e below (T1.setTop (mkF m 12 #[.val (.int rb), .val (.long ro), .second, .val (.int rs), .val (.int rn), .val (.ref b1), .unset, .unset, .unset, .unset] [(.int (0 : Int32)), (.long ro), (.int rb), (.int (0 : Int32)), (.ref b1)])) t_
    exact k_)
  have Zc4 : n0 ≤ h1.size := by omega
  obtain ⟨_, _, ⟨T5, L5, k5, n5⟩, -, X5, ⟨Lc5, hQ5, l5, y5, z5⟩, st5⟩ := Jvm.LawKit.callS X1 hx (y := (⟨"com/example/odysseus/odysseus/EscapesSegmentStartPinLaw", "draw", "(IJI)C"⟩ : MethodName)) hown (mvT hZ (hw _ (List.mem_of_getElem? (i := 1) rfl))) (mvT hZ (hw _ (List.mem_of_getElem? (i := 2) rfl))) (mvT hZ (hw _ (List.mem_of_getElem? (i := 3) rfl))) (mvT hZ (hw _ (List.mem_of_getElem? (i := 4) rfl))) (by decide) (backOf (W := 2) (rmDraw l Z a0 hw [] rb ro (0 : Int32) h1 n0 Zc4) hZ (hw _ (List.mem_of_getElem? (i := 4) rfl)) (hw _ (List.mem_of_getElem? (i := 3) rfl)) (by decide) (by decide)) (g := (mkF m 12 #[.val (.int rb), .val (.long ro), .second, .val (.int rs), .val (.int rn), .val (.ref b1), .unset, .unset, .unset, .unset] [(.int (0 : Int32)), (.long ro), (.int rb), (.int (0 : Int32)), (.ref b1)])) rfl (by rw [hml]; rfl) (argsL := [(.int rb), (.long ro), (.int (0 : Int32))]) (rest := [(.int (0 : Int32)), (.ref b1)]) (lenOf pd__IJI_C rfl) rfl (by show 2 * 0 + _ ≤ _; exact Nat.le_of_eq rfl) (Jvm.hb hby at_12) (fun _ _ => ⟨rfl, e1, (by decide : 1 + 0 ≤ _), (by decide : 6 + 0 ≤ _)⟩)
  dsimp only [Pt.U, Pt.locs, Pt.cells, Pt.slots] at X5 l5 y5 z5 st5 hQ5
  subst l5 y5 z5
  obtain ⟨rr_5, rfl, N5q, e5, P5_0, P5_1⟩ := hQ5
  have N5 := Fr.app N0 N5q
  obtain ⟨cl6, Ar6, q6, S6, M6, H6, G6⟩ := id V1
  have hin6 : ¬ ((0 : Int32) < 0 ∨ cl6.slots.size ≤ ((0 : Int32)).toNatClampNeg) := inb_of S6 ⟨by decide, by decide⟩
  obtain ⟨T7, h7, X7, e7, W7, st7⟩ := stC X5 hx hZ e5 Ar6 (j := (0 : Int32)) hin6 (g := (mkF m 15 #[.val (.int rb), .val (.long ro), .second, .val (.int rs), .val (.int rn), .val (.ref b1), .unset, .unset, .unset, .unset] [(.int rr_5), (.int (0 : Int32)), (.ref b1)])) rfl rfl (Jvm.hb hby at_15)
  have z8 : h1.size ≤ h7.size := Nat.le_of_eq W7.size.symm
  have V7 : Arv Z h7 b1 k1 .char (6 : Int32) [(.int rr_5), (.int (0 : Int32)), (.int (0 : Int32)), (.int (0 : Int32)), (.int (0 : Int32)), (.int (0 : Int32))] (.int (0 : Int32)) := by have q : Arv Z h7 b1 k1 .char (6 : Int32) [(.int (nar .char rr_5)), (.int (0 : Int32)), (.int (0 : Int32)), (.int (0 : Int32)), (.int (0 : Int32)), (.int (0 : Int32))] (.int (0 : Int32)) := Arv.set Ar6 q6 S6 M6 H6 G6 (fits_nar_char _) W7 0 rfl (Nat.le_of_ble_eq_true rfl); rw [show nar .char rr_5 = rr_5 from own_narc P5_0 (own_le64k P5_1)] at q; exact q
  have N7 := Fr.snoc X7 N5 (show n0 ≤ b1 by omega)
  have s9 : ∀ t_, Steps p.tables e below (T7.setTop (mkF m 22 #[.val (.int rb), .val (.long ro), .second, .val (.int rs), .val (.int rn), .val (.ref b1), .unset, .unset, .unset, .unset] [(.int (1 : Int32)), (.long ro), (.int rb), (.int (1 : Int32)), (.ref b1)])) t_ → Steps p.tables e below (s₁.setTop (entryFrame m #[(.int rb), (.long ro), (.int rs), (.int rn)] maxLocals)) t_ := fun t_ k_ => s3 t_ (by
    show Steps p.tables e below (T1.setTop (mkF m 12 #[.val (.int rb), .val (.long ro), .second, .val (.int rs), .val (.int rn), .val (.ref b1), .unset, .unset, .unset, .unset] [(.int (0 : Int32)), (.long ro), (.int rb), (.int (0 : Int32)), (.ref b1)])) t_
    refine st5 _ ?_
    show Steps p.tables e below (T5.setTop (mkF m 15 #[.val (.int rb), .val (.long ro), .second, .val (.int rs), .val (.int rn), .val (.ref b1), .unset, .unset, .unset, .unset] [(.int rr_5), (.int (0 : Int32)), (.ref b1)])) _
    refine st7 _ ?_
    show Steps p.tables e below (T7.setTop (mkF m 16 #[.val (.int rb), .val (.long ro), .second, .val (.int rs), .val (.int rn), .val (.ref b1), .unset, .unset, .unset, .unset] [])) _
    refine XS.aload X7.here hx rfl (Jvm.hb hby at_16) rfl rfl ?_
    show Steps p.tables e below (T7.setTop (mkF m 18 #[.val (.int rb), .val (.long ro), .second, .val (.int rs), .val (.int rn), .val (.ref b1), .unset, .unset, .unset, .unset] [(.ref b1)])) _
    refine XS.iconst X7.here hx rfl (Jvm.hb hby at_18) ?_
    show Steps p.tables e below (T7.setTop (mkF m 19 #[.val (.int rb), .val (.long ro), .second, .val (.int rs), .val (.int rn), .val (.ref b1), .unset, .unset, .unset, .unset] [(.int (1 : Int32)), (.ref b1)])) _
    refine XS.iloadN X7.here hx rfl (Jvm.hb hby at_19) rfl ?_
    show Steps p.tables e below (T7.setTop (mkF m 20 #[.val (.int rb), .val (.long ro), .second, .val (.int rs), .val (.int rn), .val (.ref b1), .unset, .unset, .unset, .unset] [(.int rb), (.int (1 : Int32)), (.ref b1)])) _
    refine XS.lloadN X7.here hx rfl (Jvm.hb hby at_20) rfl ?_
    show Steps p.tables e below (T7.setTop (mkF m 21 #[.val (.int rb), .val (.long ro), .second, .val (.int rs), .val (.int rn), .val (.ref b1), .unset, .unset, .unset, .unset] [(.long ro), (.int rb), (.int (1 : Int32)), (.ref b1)])) _
    refine XS.iconst X7.here hx rfl (Jvm.hb hby at_21) ?_
    show Steps p.tables e below (T7.setTop (mkF m 22 #[.val (.int rb), .val (.long ro), .second, .val (.int rs), .val (.int rn), .val (.ref b1), .unset, .unset, .unset, .unset] [(.int (1 : Int32)), (.long ro), (.int rb), (.int (1 : Int32)), (.ref b1)])) _
    show Steps p.tables e below (T7.setTop (mkF m 22 #[.val (.int rb), .val (.long ro), .second, .val (.int rs), .val (.int rn), .val (.ref b1), .unset, .unset, .unset, .unset] [(.int (1 : Int32)), (.long ro), (.int rb), (.int (1 : Int32)), (.ref b1)])) t_
    exact k_)
  have Zc10 : n0 ≤ h7.size := by omega
  obtain ⟨_, _, ⟨T11, L11, k11, n11⟩, -, X11, ⟨Lc11, hQ11, l11, y11, z11⟩, st11⟩ := Jvm.LawKit.callS X7 hx (y := (⟨"com/example/odysseus/odysseus/EscapesSegmentStartPinLaw", "draw", "(IJI)C"⟩ : MethodName)) hown (mvT hZ (hw _ (List.mem_of_getElem? (i := 1) rfl))) (mvT hZ (hw _ (List.mem_of_getElem? (i := 2) rfl))) (mvT hZ (hw _ (List.mem_of_getElem? (i := 3) rfl))) (mvT hZ (hw _ (List.mem_of_getElem? (i := 4) rfl))) (by decide) (backOf (W := 2) (rmDraw l Z a0 hw [] rb ro (1 : Int32) h7 n0 Zc10) hZ (hw _ (List.mem_of_getElem? (i := 4) rfl)) (hw _ (List.mem_of_getElem? (i := 3) rfl)) (by decide) (by decide)) (g := (mkF m 22 #[.val (.int rb), .val (.long ro), .second, .val (.int rs), .val (.int rn), .val (.ref b1), .unset, .unset, .unset, .unset] [(.int (1 : Int32)), (.long ro), (.int rb), (.int (1 : Int32)), (.ref b1)])) rfl (by rw [hml]; rfl) (argsL := [(.int rb), (.long ro), (.int (1 : Int32))]) (rest := [(.int (1 : Int32)), (.ref b1)]) (lenOf pd__IJI_C rfl) rfl (by show 2 * 0 + _ ≤ _; exact Nat.le_of_eq rfl) (Jvm.hb hby at_22) (fun _ _ => ⟨rfl, e7, (by decide : 1 + 0 ≤ _), (by decide : 6 + 0 ≤ _)⟩)
  dsimp only [Pt.U, Pt.locs, Pt.cells, Pt.slots] at X11 l11 y11 z11 st11 hQ11
  subst l11 y11 z11
  obtain ⟨rr_11, rfl, N11q, e11, P11_0, P11_1⟩ := hQ11
  have N11 := Fr.app N7 N11q
  obtain ⟨cl12, Ar12, q12, S12, M12, H12, G12⟩ := id V7
  have hin12 : ¬ ((1 : Int32) < 0 ∨ cl12.slots.size ≤ ((1 : Int32)).toNatClampNeg) := inb_of S12 ⟨by decide, by decide⟩
  obtain ⟨T13, h13, X13, e13, W13, st13⟩ := stC X11 hx hZ e11 Ar12 (j := (1 : Int32)) hin12 (g := (mkF m 25 #[.val (.int rb), .val (.long ro), .second, .val (.int rs), .val (.int rn), .val (.ref b1), .unset, .unset, .unset, .unset] [(.int rr_11), (.int (1 : Int32)), (.ref b1)])) rfl rfl (Jvm.hb hby at_25)
  have z14 : h7.size ≤ h13.size := Nat.le_of_eq W13.size.symm
  have V13 : Arv Z h13 b1 k1 .char (6 : Int32) [(.int rr_5), (.int rr_11), (.int (0 : Int32)), (.int (0 : Int32)), (.int (0 : Int32)), (.int (0 : Int32))] (.int (0 : Int32)) := by have q : Arv Z h13 b1 k1 .char (6 : Int32) [(.int rr_5), (.int (nar .char rr_11)), (.int (0 : Int32)), (.int (0 : Int32)), (.int (0 : Int32)), (.int (0 : Int32))] (.int (0 : Int32)) := Arv.set Ar12 q12 S12 M12 H12 G12 (fits_nar_char _) W13 1 rfl (Nat.le_of_ble_eq_true rfl); rw [show nar .char rr_11 = rr_11 from own_narc P11_0 (own_le64k P11_1)] at q; exact q
  have N13 := Fr.snoc X13 N11 (show n0 ≤ b1 by omega)
  have s15 : ∀ t_, Steps p.tables e below (T13.setTop (mkF m 32 #[.val (.int rb), .val (.long ro), .second, .val (.int rs), .val (.int rn), .val (.ref b1), .unset, .unset, .unset, .unset] [(.int (2 : Int32)), (.long ro), (.int rb), (.int (2 : Int32)), (.ref b1)])) t_ → Steps p.tables e below (s₁.setTop (entryFrame m #[(.int rb), (.long ro), (.int rs), (.int rn)] maxLocals)) t_ := fun t_ k_ => s9 t_ (by
    show Steps p.tables e below (T7.setTop (mkF m 22 #[.val (.int rb), .val (.long ro), .second, .val (.int rs), .val (.int rn), .val (.ref b1), .unset, .unset, .unset, .unset] [(.int (1 : Int32)), (.long ro), (.int rb), (.int (1 : Int32)), (.ref b1)])) t_
    refine st11 _ ?_
    show Steps p.tables e below (T11.setTop (mkF m 25 #[.val (.int rb), .val (.long ro), .second, .val (.int rs), .val (.int rn), .val (.ref b1), .unset, .unset, .unset, .unset] [(.int rr_11), (.int (1 : Int32)), (.ref b1)])) _
    refine st13 _ ?_
    show Steps p.tables e below (T13.setTop (mkF m 26 #[.val (.int rb), .val (.long ro), .second, .val (.int rs), .val (.int rn), .val (.ref b1), .unset, .unset, .unset, .unset] [])) _
    refine XS.aload X13.here hx rfl (Jvm.hb hby at_26) rfl rfl ?_
    show Steps p.tables e below (T13.setTop (mkF m 28 #[.val (.int rb), .val (.long ro), .second, .val (.int rs), .val (.int rn), .val (.ref b1), .unset, .unset, .unset, .unset] [(.ref b1)])) _
    refine XS.iconst X13.here hx rfl (Jvm.hb hby at_28) ?_
    show Steps p.tables e below (T13.setTop (mkF m 29 #[.val (.int rb), .val (.long ro), .second, .val (.int rs), .val (.int rn), .val (.ref b1), .unset, .unset, .unset, .unset] [(.int (2 : Int32)), (.ref b1)])) _
    refine XS.iloadN X13.here hx rfl (Jvm.hb hby at_29) rfl ?_
    show Steps p.tables e below (T13.setTop (mkF m 30 #[.val (.int rb), .val (.long ro), .second, .val (.int rs), .val (.int rn), .val (.ref b1), .unset, .unset, .unset, .unset] [(.int rb), (.int (2 : Int32)), (.ref b1)])) _
    refine XS.lloadN X13.here hx rfl (Jvm.hb hby at_30) rfl ?_
    show Steps p.tables e below (T13.setTop (mkF m 31 #[.val (.int rb), .val (.long ro), .second, .val (.int rs), .val (.int rn), .val (.ref b1), .unset, .unset, .unset, .unset] [(.long ro), (.int rb), (.int (2 : Int32)), (.ref b1)])) _
    refine XS.iconst X13.here hx rfl (Jvm.hb hby at_31) ?_
    show Steps p.tables e below (T13.setTop (mkF m 32 #[.val (.int rb), .val (.long ro), .second, .val (.int rs), .val (.int rn), .val (.ref b1), .unset, .unset, .unset, .unset] [(.int (2 : Int32)), (.long ro), (.int rb), (.int (2 : Int32)), (.ref b1)])) _
    show Steps p.tables e below (T13.setTop (mkF m 32 #[.val (.int rb), .val (.long ro), .second, .val (.int rs), .val (.int rn), .val (.ref b1), .unset, .unset, .unset, .unset] [(.int (2 : Int32)), (.long ro), (.int rb), (.int (2 : Int32)), (.ref b1)])) t_
    exact k_)
  have Zc16 : n0 ≤ h13.size := by omega
  obtain ⟨_, _, ⟨T17, L17, k17, n17⟩, -, X17, ⟨Lc17, hQ17, l17, y17, z17⟩, st17⟩ := Jvm.LawKit.callS X13 hx (y := (⟨"com/example/odysseus/odysseus/EscapesSegmentStartPinLaw", "draw", "(IJI)C"⟩ : MethodName)) hown (mvT hZ (hw _ (List.mem_of_getElem? (i := 1) rfl))) (mvT hZ (hw _ (List.mem_of_getElem? (i := 2) rfl))) (mvT hZ (hw _ (List.mem_of_getElem? (i := 3) rfl))) (mvT hZ (hw _ (List.mem_of_getElem? (i := 4) rfl))) (by decide) (backOf (W := 2) (rmDraw l Z a0 hw [] rb ro (2 : Int32) h13 n0 Zc16) hZ (hw _ (List.mem_of_getElem? (i := 4) rfl)) (hw _ (List.mem_of_getElem? (i := 3) rfl)) (by decide) (by decide)) (g := (mkF m 32 #[.val (.int rb), .val (.long ro), .second, .val (.int rs), .val (.int rn), .val (.ref b1), .unset, .unset, .unset, .unset] [(.int (2 : Int32)), (.long ro), (.int rb), (.int (2 : Int32)), (.ref b1)])) rfl (by rw [hml]; rfl) (argsL := [(.int rb), (.long ro), (.int (2 : Int32))]) (rest := [(.int (2 : Int32)), (.ref b1)]) (lenOf pd__IJI_C rfl) rfl (by show 2 * 0 + _ ≤ _; exact Nat.le_of_eq rfl) (Jvm.hb hby at_32) (fun _ _ => ⟨rfl, e13, (by decide : 1 + 0 ≤ _), (by decide : 6 + 0 ≤ _)⟩)
  dsimp only [Pt.U, Pt.locs, Pt.cells, Pt.slots] at X17 l17 y17 z17 st17 hQ17
  subst l17 y17 z17
  obtain ⟨rr_17, rfl, N17q, e17, P17_0, P17_1⟩ := hQ17
  have N17 := Fr.app N13 N17q
  obtain ⟨cl18, Ar18, q18, S18, M18, H18, G18⟩ := id V13
  have hin18 : ¬ ((2 : Int32) < 0 ∨ cl18.slots.size ≤ ((2 : Int32)).toNatClampNeg) := inb_of S18 ⟨by decide, by decide⟩
  obtain ⟨T19, h19, X19, e19, W19, st19⟩ := stC X17 hx hZ e17 Ar18 (j := (2 : Int32)) hin18 (g := (mkF m 35 #[.val (.int rb), .val (.long ro), .second, .val (.int rs), .val (.int rn), .val (.ref b1), .unset, .unset, .unset, .unset] [(.int rr_17), (.int (2 : Int32)), (.ref b1)])) rfl rfl (Jvm.hb hby at_35)
  have z20 : h13.size ≤ h19.size := Nat.le_of_eq W19.size.symm
  have V19 : Arv Z h19 b1 k1 .char (6 : Int32) [(.int rr_5), (.int rr_11), (.int rr_17), (.int (0 : Int32)), (.int (0 : Int32)), (.int (0 : Int32))] (.int (0 : Int32)) := by have q : Arv Z h19 b1 k1 .char (6 : Int32) [(.int rr_5), (.int rr_11), (.int (nar .char rr_17)), (.int (0 : Int32)), (.int (0 : Int32)), (.int (0 : Int32))] (.int (0 : Int32)) := Arv.set Ar18 q18 S18 M18 H18 G18 (fits_nar_char _) W19 2 rfl (Nat.le_of_ble_eq_true rfl); rw [show nar .char rr_17 = rr_17 from own_narc P17_0 (own_le64k P17_1)] at q; exact q
  have N19 := Fr.snoc X19 N17 (show n0 ≤ b1 by omega)
  have s21 : ∀ t_, Steps p.tables e below (T19.setTop (mkF m 42 #[.val (.int rb), .val (.long ro), .second, .val (.int rs), .val (.int rn), .val (.ref b1), .unset, .unset, .unset, .unset] [(.int (3 : Int32)), (.long ro), (.int rb), (.int (3 : Int32)), (.ref b1)])) t_ → Steps p.tables e below (s₁.setTop (entryFrame m #[(.int rb), (.long ro), (.int rs), (.int rn)] maxLocals)) t_ := fun t_ k_ => s15 t_ (by
    show Steps p.tables e below (T13.setTop (mkF m 32 #[.val (.int rb), .val (.long ro), .second, .val (.int rs), .val (.int rn), .val (.ref b1), .unset, .unset, .unset, .unset] [(.int (2 : Int32)), (.long ro), (.int rb), (.int (2 : Int32)), (.ref b1)])) t_
    refine st17 _ ?_
    show Steps p.tables e below (T17.setTop (mkF m 35 #[.val (.int rb), .val (.long ro), .second, .val (.int rs), .val (.int rn), .val (.ref b1), .unset, .unset, .unset, .unset] [(.int rr_17), (.int (2 : Int32)), (.ref b1)])) _
    refine st19 _ ?_
    show Steps p.tables e below (T19.setTop (mkF m 36 #[.val (.int rb), .val (.long ro), .second, .val (.int rs), .val (.int rn), .val (.ref b1), .unset, .unset, .unset, .unset] [])) _
    refine XS.aload X19.here hx rfl (Jvm.hb hby at_36) rfl rfl ?_
    show Steps p.tables e below (T19.setTop (mkF m 38 #[.val (.int rb), .val (.long ro), .second, .val (.int rs), .val (.int rn), .val (.ref b1), .unset, .unset, .unset, .unset] [(.ref b1)])) _
    refine XS.iconst X19.here hx rfl (Jvm.hb hby at_38) ?_
    show Steps p.tables e below (T19.setTop (mkF m 39 #[.val (.int rb), .val (.long ro), .second, .val (.int rs), .val (.int rn), .val (.ref b1), .unset, .unset, .unset, .unset] [(.int (3 : Int32)), (.ref b1)])) _
    refine XS.iloadN X19.here hx rfl (Jvm.hb hby at_39) rfl ?_
    show Steps p.tables e below (T19.setTop (mkF m 40 #[.val (.int rb), .val (.long ro), .second, .val (.int rs), .val (.int rn), .val (.ref b1), .unset, .unset, .unset, .unset] [(.int rb), (.int (3 : Int32)), (.ref b1)])) _
    refine XS.lloadN X19.here hx rfl (Jvm.hb hby at_40) rfl ?_
    show Steps p.tables e below (T19.setTop (mkF m 41 #[.val (.int rb), .val (.long ro), .second, .val (.int rs), .val (.int rn), .val (.ref b1), .unset, .unset, .unset, .unset] [(.long ro), (.int rb), (.int (3 : Int32)), (.ref b1)])) _
    refine XS.iconst X19.here hx rfl (Jvm.hb hby at_41) ?_
    show Steps p.tables e below (T19.setTop (mkF m 42 #[.val (.int rb), .val (.long ro), .second, .val (.int rs), .val (.int rn), .val (.ref b1), .unset, .unset, .unset, .unset] [(.int (3 : Int32)), (.long ro), (.int rb), (.int (3 : Int32)), (.ref b1)])) _
    show Steps p.tables e below (T19.setTop (mkF m 42 #[.val (.int rb), .val (.long ro), .second, .val (.int rs), .val (.int rn), .val (.ref b1), .unset, .unset, .unset, .unset] [(.int (3 : Int32)), (.long ro), (.int rb), (.int (3 : Int32)), (.ref b1)])) t_
    exact k_)
  have Zc22 : n0 ≤ h19.size := by omega
  obtain ⟨_, _, ⟨T23, L23, k23, n23⟩, -, X23, ⟨Lc23, hQ23, l23, y23, z23⟩, st23⟩ := Jvm.LawKit.callS X19 hx (y := (⟨"com/example/odysseus/odysseus/EscapesSegmentStartPinLaw", "draw", "(IJI)C"⟩ : MethodName)) hown (mvT hZ (hw _ (List.mem_of_getElem? (i := 1) rfl))) (mvT hZ (hw _ (List.mem_of_getElem? (i := 2) rfl))) (mvT hZ (hw _ (List.mem_of_getElem? (i := 3) rfl))) (mvT hZ (hw _ (List.mem_of_getElem? (i := 4) rfl))) (by decide) (backOf (W := 2) (rmDraw l Z a0 hw [] rb ro (3 : Int32) h19 n0 Zc22) hZ (hw _ (List.mem_of_getElem? (i := 4) rfl)) (hw _ (List.mem_of_getElem? (i := 3) rfl)) (by decide) (by decide)) (g := (mkF m 42 #[.val (.int rb), .val (.long ro), .second, .val (.int rs), .val (.int rn), .val (.ref b1), .unset, .unset, .unset, .unset] [(.int (3 : Int32)), (.long ro), (.int rb), (.int (3 : Int32)), (.ref b1)])) rfl (by rw [hml]; rfl) (argsL := [(.int rb), (.long ro), (.int (3 : Int32))]) (rest := [(.int (3 : Int32)), (.ref b1)]) (lenOf pd__IJI_C rfl) rfl (by show 2 * 0 + _ ≤ _; exact Nat.le_of_eq rfl) (Jvm.hb hby at_42) (fun _ _ => ⟨rfl, e19, (by decide : 1 + 0 ≤ _), (by decide : 6 + 0 ≤ _)⟩)
  dsimp only [Pt.U, Pt.locs, Pt.cells, Pt.slots] at X23 l23 y23 z23 st23 hQ23
  subst l23 y23 z23
  obtain ⟨rr_23, rfl, N23q, e23, P23_0, P23_1⟩ := hQ23
  have N23 := Fr.app N19 N23q
  obtain ⟨cl24, Ar24, q24, S24, M24, H24, G24⟩ := id V19
  have hin24 : ¬ ((3 : Int32) < 0 ∨ cl24.slots.size ≤ ((3 : Int32)).toNatClampNeg) := inb_of S24 ⟨by decide, by decide⟩
  obtain ⟨T25, h25, X25, e25, W25, st25⟩ := stC X23 hx hZ e23 Ar24 (j := (3 : Int32)) hin24 (g := (mkF m 45 #[.val (.int rb), .val (.long ro), .second, .val (.int rs), .val (.int rn), .val (.ref b1), .unset, .unset, .unset, .unset] [(.int rr_23), (.int (3 : Int32)), (.ref b1)])) rfl rfl (Jvm.hb hby at_45)
  have z26 : h19.size ≤ h25.size := Nat.le_of_eq W25.size.symm
  have V25 : Arv Z h25 b1 k1 .char (6 : Int32) [(.int rr_5), (.int rr_11), (.int rr_17), (.int rr_23), (.int (0 : Int32)), (.int (0 : Int32))] (.int (0 : Int32)) := by have q : Arv Z h25 b1 k1 .char (6 : Int32) [(.int rr_5), (.int rr_11), (.int rr_17), (.int (nar .char rr_23)), (.int (0 : Int32)), (.int (0 : Int32))] (.int (0 : Int32)) := Arv.set Ar24 q24 S24 M24 H24 G24 (fits_nar_char _) W25 3 rfl (Nat.le_of_ble_eq_true rfl); rw [show nar .char rr_23 = rr_23 from own_narc P23_0 (own_le64k P23_1)] at q; exact q
  have N25 := Fr.snoc X25 N23 (show n0 ≤ b1 by omega)
  have s27 : ∀ t_, Steps p.tables e below (T25.setTop (mkF m 52 #[.val (.int rb), .val (.long ro), .second, .val (.int rs), .val (.int rn), .val (.ref b1), .unset, .unset, .unset, .unset] [(.int (4 : Int32)), (.long ro), (.int rb), (.int (4 : Int32)), (.ref b1)])) t_ → Steps p.tables e below (s₁.setTop (entryFrame m #[(.int rb), (.long ro), (.int rs), (.int rn)] maxLocals)) t_ := fun t_ k_ => s21 t_ (by
    show Steps p.tables e below (T19.setTop (mkF m 42 #[.val (.int rb), .val (.long ro), .second, .val (.int rs), .val (.int rn), .val (.ref b1), .unset, .unset, .unset, .unset] [(.int (3 : Int32)), (.long ro), (.int rb), (.int (3 : Int32)), (.ref b1)])) t_
    refine st23 _ ?_
    show Steps p.tables e below (T23.setTop (mkF m 45 #[.val (.int rb), .val (.long ro), .second, .val (.int rs), .val (.int rn), .val (.ref b1), .unset, .unset, .unset, .unset] [(.int rr_23), (.int (3 : Int32)), (.ref b1)])) _
    refine st25 _ ?_
    show Steps p.tables e below (T25.setTop (mkF m 46 #[.val (.int rb), .val (.long ro), .second, .val (.int rs), .val (.int rn), .val (.ref b1), .unset, .unset, .unset, .unset] [])) _
    refine XS.aload X25.here hx rfl (Jvm.hb hby at_46) rfl rfl ?_
    show Steps p.tables e below (T25.setTop (mkF m 48 #[.val (.int rb), .val (.long ro), .second, .val (.int rs), .val (.int rn), .val (.ref b1), .unset, .unset, .unset, .unset] [(.ref b1)])) _
    refine XS.iconst X25.here hx rfl (Jvm.hb hby at_48) ?_
    show Steps p.tables e below (T25.setTop (mkF m 49 #[.val (.int rb), .val (.long ro), .second, .val (.int rs), .val (.int rn), .val (.ref b1), .unset, .unset, .unset, .unset] [(.int (4 : Int32)), (.ref b1)])) _
    refine XS.iloadN X25.here hx rfl (Jvm.hb hby at_49) rfl ?_
    show Steps p.tables e below (T25.setTop (mkF m 50 #[.val (.int rb), .val (.long ro), .second, .val (.int rs), .val (.int rn), .val (.ref b1), .unset, .unset, .unset, .unset] [(.int rb), (.int (4 : Int32)), (.ref b1)])) _
    refine XS.lloadN X25.here hx rfl (Jvm.hb hby at_50) rfl ?_
    show Steps p.tables e below (T25.setTop (mkF m 51 #[.val (.int rb), .val (.long ro), .second, .val (.int rs), .val (.int rn), .val (.ref b1), .unset, .unset, .unset, .unset] [(.long ro), (.int rb), (.int (4 : Int32)), (.ref b1)])) _
    refine XS.iconst X25.here hx rfl (Jvm.hb hby at_51) ?_
    show Steps p.tables e below (T25.setTop (mkF m 52 #[.val (.int rb), .val (.long ro), .second, .val (.int rs), .val (.int rn), .val (.ref b1), .unset, .unset, .unset, .unset] [(.int (4 : Int32)), (.long ro), (.int rb), (.int (4 : Int32)), (.ref b1)])) _
    show Steps p.tables e below (T25.setTop (mkF m 52 #[.val (.int rb), .val (.long ro), .second, .val (.int rs), .val (.int rn), .val (.ref b1), .unset, .unset, .unset, .unset] [(.int (4 : Int32)), (.long ro), (.int rb), (.int (4 : Int32)), (.ref b1)])) t_
    exact k_)
  have Zc28 : n0 ≤ h25.size := by omega
  obtain ⟨_, _, ⟨T29, L29, k29, n29⟩, -, X29, ⟨Lc29, hQ29, l29, y29, z29⟩, st29⟩ := Jvm.LawKit.callS X25 hx (y := (⟨"com/example/odysseus/odysseus/EscapesSegmentStartPinLaw", "draw", "(IJI)C"⟩ : MethodName)) hown (mvT hZ (hw _ (List.mem_of_getElem? (i := 1) rfl))) (mvT hZ (hw _ (List.mem_of_getElem? (i := 2) rfl))) (mvT hZ (hw _ (List.mem_of_getElem? (i := 3) rfl))) (mvT hZ (hw _ (List.mem_of_getElem? (i := 4) rfl))) (by decide) (backOf (W := 2) (rmDraw l Z a0 hw [] rb ro (4 : Int32) h25 n0 Zc28) hZ (hw _ (List.mem_of_getElem? (i := 4) rfl)) (hw _ (List.mem_of_getElem? (i := 3) rfl)) (by decide) (by decide)) (g := (mkF m 52 #[.val (.int rb), .val (.long ro), .second, .val (.int rs), .val (.int rn), .val (.ref b1), .unset, .unset, .unset, .unset] [(.int (4 : Int32)), (.long ro), (.int rb), (.int (4 : Int32)), (.ref b1)])) rfl (by rw [hml]; rfl) (argsL := [(.int rb), (.long ro), (.int (4 : Int32))]) (rest := [(.int (4 : Int32)), (.ref b1)]) (lenOf pd__IJI_C rfl) rfl (by show 2 * 0 + _ ≤ _; exact Nat.le_of_eq rfl) (Jvm.hb hby at_52) (fun _ _ => ⟨rfl, e25, (by decide : 1 + 0 ≤ _), (by decide : 6 + 0 ≤ _)⟩)
  dsimp only [Pt.U, Pt.locs, Pt.cells, Pt.slots] at X29 l29 y29 z29 st29 hQ29
  subst l29 y29 z29
  obtain ⟨rr_29, rfl, N29q, e29, P29_0, P29_1⟩ := hQ29
  have N29 := Fr.app N25 N29q
  obtain ⟨cl30, Ar30, q30, S30, M30, H30, G30⟩ := id V25
  have hin30 : ¬ ((4 : Int32) < 0 ∨ cl30.slots.size ≤ ((4 : Int32)).toNatClampNeg) := inb_of S30 ⟨by decide, by decide⟩
  obtain ⟨T31, h31, X31, e31, W31, st31⟩ := stC X29 hx hZ e29 Ar30 (j := (4 : Int32)) hin30 (g := (mkF m 55 #[.val (.int rb), .val (.long ro), .second, .val (.int rs), .val (.int rn), .val (.ref b1), .unset, .unset, .unset, .unset] [(.int rr_29), (.int (4 : Int32)), (.ref b1)])) rfl rfl (Jvm.hb hby at_55)
  have z32 : h25.size ≤ h31.size := Nat.le_of_eq W31.size.symm
  have V31 : Arv Z h31 b1 k1 .char (6 : Int32) [(.int rr_5), (.int rr_11), (.int rr_17), (.int rr_23), (.int rr_29), (.int (0 : Int32))] (.int (0 : Int32)) := by have q : Arv Z h31 b1 k1 .char (6 : Int32) [(.int rr_5), (.int rr_11), (.int rr_17), (.int rr_23), (.int (nar .char rr_29)), (.int (0 : Int32))] (.int (0 : Int32)) := Arv.set Ar30 q30 S30 M30 H30 G30 (fits_nar_char _) W31 4 rfl (Nat.le_of_ble_eq_true rfl); rw [show nar .char rr_29 = rr_29 from own_narc P29_0 (own_le64k P29_1)] at q; exact q
  have N31 := Fr.snoc X31 N29 (show n0 ≤ b1 by omega)
  have s33 : ∀ t_, Steps p.tables e below (T31.setTop (mkF m 62 #[.val (.int rb), .val (.long ro), .second, .val (.int rs), .val (.int rn), .val (.ref b1), .unset, .unset, .unset, .unset] [(.int (5 : Int32)), (.long ro), (.int rb), (.int (5 : Int32)), (.ref b1)])) t_ → Steps p.tables e below (s₁.setTop (entryFrame m #[(.int rb), (.long ro), (.int rs), (.int rn)] maxLocals)) t_ := fun t_ k_ => s27 t_ (by
    show Steps p.tables e below (T25.setTop (mkF m 52 #[.val (.int rb), .val (.long ro), .second, .val (.int rs), .val (.int rn), .val (.ref b1), .unset, .unset, .unset, .unset] [(.int (4 : Int32)), (.long ro), (.int rb), (.int (4 : Int32)), (.ref b1)])) t_
    refine st29 _ ?_
    show Steps p.tables e below (T29.setTop (mkF m 55 #[.val (.int rb), .val (.long ro), .second, .val (.int rs), .val (.int rn), .val (.ref b1), .unset, .unset, .unset, .unset] [(.int rr_29), (.int (4 : Int32)), (.ref b1)])) _
    refine st31 _ ?_
    show Steps p.tables e below (T31.setTop (mkF m 56 #[.val (.int rb), .val (.long ro), .second, .val (.int rs), .val (.int rn), .val (.ref b1), .unset, .unset, .unset, .unset] [])) _
    refine XS.aload X31.here hx rfl (Jvm.hb hby at_56) rfl rfl ?_
    show Steps p.tables e below (T31.setTop (mkF m 58 #[.val (.int rb), .val (.long ro), .second, .val (.int rs), .val (.int rn), .val (.ref b1), .unset, .unset, .unset, .unset] [(.ref b1)])) _
    refine XS.iconst X31.here hx rfl (Jvm.hb hby at_58) ?_
    show Steps p.tables e below (T31.setTop (mkF m 59 #[.val (.int rb), .val (.long ro), .second, .val (.int rs), .val (.int rn), .val (.ref b1), .unset, .unset, .unset, .unset] [(.int (5 : Int32)), (.ref b1)])) _
    refine XS.iloadN X31.here hx rfl (Jvm.hb hby at_59) rfl ?_
    show Steps p.tables e below (T31.setTop (mkF m 60 #[.val (.int rb), .val (.long ro), .second, .val (.int rs), .val (.int rn), .val (.ref b1), .unset, .unset, .unset, .unset] [(.int rb), (.int (5 : Int32)), (.ref b1)])) _
    refine XS.lloadN X31.here hx rfl (Jvm.hb hby at_60) rfl ?_
    show Steps p.tables e below (T31.setTop (mkF m 61 #[.val (.int rb), .val (.long ro), .second, .val (.int rs), .val (.int rn), .val (.ref b1), .unset, .unset, .unset, .unset] [(.long ro), (.int rb), (.int (5 : Int32)), (.ref b1)])) _
    refine XS.iconst X31.here hx rfl (Jvm.hb hby at_61) ?_
    show Steps p.tables e below (T31.setTop (mkF m 62 #[.val (.int rb), .val (.long ro), .second, .val (.int rs), .val (.int rn), .val (.ref b1), .unset, .unset, .unset, .unset] [(.int (5 : Int32)), (.long ro), (.int rb), (.int (5 : Int32)), (.ref b1)])) _
    show Steps p.tables e below (T31.setTop (mkF m 62 #[.val (.int rb), .val (.long ro), .second, .val (.int rs), .val (.int rn), .val (.ref b1), .unset, .unset, .unset, .unset] [(.int (5 : Int32)), (.long ro), (.int rb), (.int (5 : Int32)), (.ref b1)])) t_
    exact k_)
  have Zc34 : n0 ≤ h31.size := by omega
  obtain ⟨_, _, ⟨T35, L35, k35, n35⟩, -, X35, ⟨Lc35, hQ35, l35, y35, z35⟩, st35⟩ := Jvm.LawKit.callS X31 hx (y := (⟨"com/example/odysseus/odysseus/EscapesSegmentStartPinLaw", "draw", "(IJI)C"⟩ : MethodName)) hown (mvT hZ (hw _ (List.mem_of_getElem? (i := 1) rfl))) (mvT hZ (hw _ (List.mem_of_getElem? (i := 2) rfl))) (mvT hZ (hw _ (List.mem_of_getElem? (i := 3) rfl))) (mvT hZ (hw _ (List.mem_of_getElem? (i := 4) rfl))) (by decide) (backOf (W := 2) (rmDraw l Z a0 hw [] rb ro (5 : Int32) h31 n0 Zc34) hZ (hw _ (List.mem_of_getElem? (i := 4) rfl)) (hw _ (List.mem_of_getElem? (i := 3) rfl)) (by decide) (by decide)) (g := (mkF m 62 #[.val (.int rb), .val (.long ro), .second, .val (.int rs), .val (.int rn), .val (.ref b1), .unset, .unset, .unset, .unset] [(.int (5 : Int32)), (.long ro), (.int rb), (.int (5 : Int32)), (.ref b1)])) rfl (by rw [hml]; rfl) (argsL := [(.int rb), (.long ro), (.int (5 : Int32))]) (rest := [(.int (5 : Int32)), (.ref b1)]) (lenOf pd__IJI_C rfl) rfl (by show 2 * 0 + _ ≤ _; exact Nat.le_of_eq rfl) (Jvm.hb hby at_62) (fun _ _ => ⟨rfl, e31, (by decide : 1 + 0 ≤ _), (by decide : 6 + 0 ≤ _)⟩)
  dsimp only [Pt.U, Pt.locs, Pt.cells, Pt.slots] at X35 l35 y35 z35 st35 hQ35
  subst l35 y35 z35
  obtain ⟨rr_35, rfl, N35q, e35, P35_0, P35_1⟩ := hQ35
  have N35 := Fr.app N31 N35q
  obtain ⟨cl36, Ar36, q36, S36, M36, H36, G36⟩ := id V31
  have hin36 : ¬ ((5 : Int32) < 0 ∨ cl36.slots.size ≤ ((5 : Int32)).toNatClampNeg) := inb_of S36 ⟨by decide, by decide⟩
  obtain ⟨T37, h37, X37, e37, W37, st37⟩ := stC X35 hx hZ e35 Ar36 (j := (5 : Int32)) hin36 (g := (mkF m 65 #[.val (.int rb), .val (.long ro), .second, .val (.int rs), .val (.int rn), .val (.ref b1), .unset, .unset, .unset, .unset] [(.int rr_35), (.int (5 : Int32)), (.ref b1)])) rfl rfl (Jvm.hb hby at_65)
  have z38 : h31.size ≤ h37.size := Nat.le_of_eq W37.size.symm
  have V37 : Arv Z h37 b1 k1 .char (6 : Int32) [(.int rr_5), (.int rr_11), (.int rr_17), (.int rr_23), (.int rr_29), (.int rr_35)] (.int (0 : Int32)) := by have q : Arv Z h37 b1 k1 .char (6 : Int32) [(.int rr_5), (.int rr_11), (.int rr_17), (.int rr_23), (.int rr_29), (.int (nar .char rr_35))] (.int (0 : Int32)) := Arv.set Ar36 q36 S36 M36 H36 G36 (fits_nar_char _) W37 5 rfl (Nat.le_of_ble_eq_true rfl); rw [show nar .char rr_35 = rr_35 from own_narc P35_0 (own_le64k P35_1)] at q; exact q
  have N37 := Fr.snoc X37 N35 (show n0 ≤ b1 by omega)
  obtain ⟨T39, h39, X39, e39, E39, A39, D39, -, st39⟩ := newO X37 hx hZ hown (hw _ (List.mem_of_getElem? (i := 6) rfl)) (hw _ (List.mem_of_getElem? (i := 7) rfl)) (hw _ (List.mem_of_getElem? (i := 8) rfl)) e37 (g := (mkF m 66 #[.val (.int rb), .val (.long ro), .second, .val (.int rs), .val (.int rn), .val (.ref b1), .unset, .unset, .unset, .unset] [])) rfl (Jvm.hb hby at_66) (by decide) (by decide)
  obtain ⟨b39, g39⟩ : ∃ z, z = h37.size := ⟨_, rfl⟩
  rw [← g39] at A39 D39 st39
  have z40 : h37.size ≤ h39.size := E39.1
  have l39 : b39 < h39.size := A39.lt
  have F41 : Fld Z h39 b39 "java/lang/String" "coder" "B" (.int (0 : Int32)) := D39 (Or.inr (hw _ (List.mem_of_getElem? (i := 32) rfl))) (ty := .byte) (by decide)
  have F42 : Fld Z h39 b39 "java/lang/String" "value" "[B" .null := D39 (Or.inr (hw _ (List.mem_of_getElem? (i := 34) rfl))) (ty := (.array .byte)) (by decide)
  have hchs : own_chs [rr_5, rr_11, rr_17, rr_23, rr_29, rr_35] := (own_chsS ⟨P5_0, own_le64k P5_1⟩ (own_chsS ⟨P11_0, own_le64k P11_1⟩ (own_chsS ⟨P17_0, own_le64k P17_1⟩ (own_chsS ⟨P23_0, own_le64k P23_1⟩ (own_chsS ⟨P29_0, own_le64k P29_1⟩ (own_chsS ⟨P35_0, own_le64k P35_1⟩ own_chs0))))))
  have hlat : own_lat [rr_5, rr_11, rr_17, rr_23, rr_29, rr_35] := (own_latS P5_1 (own_latS P11_1 (own_latS P17_1 (own_latS P23_1 (own_latS P29_1 (own_latS P35_1 own_lat0))))))
  have s43 : ∀ t_, Steps p.tables e below (T39.setTop (mkF m 72 #[.val (.int rb), .val (.long ro), .second, .val (.int rs), .val (.int rn), .val (.ref b1), .unset, .unset, .unset, .unset] [(.ref b1), (.ref b39), (.ref b39)])) t_ → Steps p.tables e below (s₁.setTop (entryFrame m #[(.int rb), (.long ro), (.int rs), (.int rn)] maxLocals)) t_ := fun t_ k_ => s33 t_ (by
    show Steps p.tables e below (T31.setTop (mkF m 62 #[.val (.int rb), .val (.long ro), .second, .val (.int rs), .val (.int rn), .val (.ref b1), .unset, .unset, .unset, .unset] [(.int (5 : Int32)), (.long ro), (.int rb), (.int (5 : Int32)), (.ref b1)])) t_
    refine st35 _ ?_
    show Steps p.tables e below (T35.setTop (mkF m 65 #[.val (.int rb), .val (.long ro), .second, .val (.int rs), .val (.int rn), .val (.ref b1), .unset, .unset, .unset, .unset] [(.int rr_35), (.int (5 : Int32)), (.ref b1)])) _
    refine st37 _ ?_
    show Steps p.tables e below (T37.setTop (mkF m 66 #[.val (.int rb), .val (.long ro), .second, .val (.int rs), .val (.int rn), .val (.ref b1), .unset, .unset, .unset, .unset] [])) _
    refine st39 _ ?_
    show Steps p.tables e below (T39.setTop (mkF m 69 #[.val (.int rb), .val (.long ro), .second, .val (.int rs), .val (.int rn), .val (.ref b1), .unset, .unset, .unset, .unset] [(.ref b39)])) _
    refine XS.dup X39.here hx rfl (Jvm.hb hby at_69) rfl rfl ?_
    show Steps p.tables e below (T39.setTop (mkF m 70 #[.val (.int rb), .val (.long ro), .second, .val (.int rs), .val (.int rn), .val (.ref b1), .unset, .unset, .unset, .unset] [(.ref b39), (.ref b39)])) _
    refine XS.aload X39.here hx rfl (Jvm.hb hby at_70) rfl rfl ?_
    show Steps p.tables e below (T39.setTop (mkF m 72 #[.val (.int rb), .val (.long ro), .second, .val (.int rs), .val (.int rn), .val (.ref b1), .unset, .unset, .unset, .unset] [(.ref b1), (.ref b39), (.ref b39)])) _
    show Steps p.tables e below (T39.setTop (mkF m 72 #[.val (.int rb), .val (.long ro), .second, .val (.int rs), .val (.int rn), .val (.ref b1), .unset, .unset, .unset, .unset] [(.ref b1), (.ref b39), (.ref b39)])) t_
    exact k_)
  have O44 : Old Z n0 h39 := ((((((((OX.ext E1).wr W7 (show n0 ≤ b1 by omega)).wr W13 (show n0 ≤ b1 by omega)).wr W19 (show n0 ≤ b1 by omega)).wr W25 (show n0 ≤ b1 by omega)).wr W31 (show n0 ≤ b1 by omega)).wr W37 (show n0 ≤ b1 by omega)).ext E39)
  have f45 : Arv Z h39 b1 k1 .char (6 : Int32) [(.int rr_5), (.int rr_11), (.int rr_17), (.int rr_23), (.int rr_29), (.int rr_35)] (.int (0 : Int32)) := (V37.ext E39)
  have Zc46 : n0 ≤ h39.size := by omega
  obtain ⟨_, _, ⟨T47, L47, k47, n47⟩, -, X47, ⟨Lc47, hQ47, l47, y47, z47⟩, st47⟩ := X39.specialBack hx (y := (⟨"java/lang/String", "<init>", "([C)V"⟩ : MethodName)) rfl hown (mvT hZ (hw _ (List.mem_of_getElem? (i := 9) rfl))) (mvT hZ (hw _ (List.mem_of_getElem? (i := 10) rfl))) (mvT hZ (hw _ (List.mem_of_getElem? (i := 11) rfl))) (by decide) (backOf (W := 1) (rmIni1 l Z a0 hw [] b39 b1 cst [rr_5, rr_11, rr_17, rr_23, rr_29, rr_35] k1 6 h39 n0 Zc46 I1 O44 (hcst : ¬ (cst = (0 : Int32))) A39 F42 F41 f45 rfl (by first | assumption | rfl | decide | omega : 6 ≤ 6) (by first | assumption | rfl | decide | omega : 0 < 6) hlat (by first | assumption | rfl | decide | omega : n0 ≤ b39) (by first | assumption | rfl | decide | omega : @Ne Nat b39 b1)) hZ (hw _ (List.mem_of_getElem? (i := 11) rfl)) (hw _ (List.mem_of_getElem? (i := 8) rfl)) (by decide) (by decide)) (g := (mkF m 72 #[.val (.int rb), .val (.long ro), .second, .val (.int rs), .val (.int rn), .val (.ref b1), .unset, .unset, .unset, .unset] [(.ref b1), (.ref b39), (.ref b39)])) rfl (by rw [hml]; rfl) (Steps.refl _) (a := b39) (argsL := [(.ref b1)]) (rest := [(.ref b39)]) (lenOf pd___C_V rfl) rfl (by show 2 * 0 + _ ≤ _; exact Nat.le_of_eq rfl) (Jvm.hb hby at_72) (fun _ _ => ⟨rfl, e39, (by decide : 2 + 1 ≤ _), (by decide : 10 + 6 ≤ _)⟩)
  dsimp only [Pt.U, Pt.locs, Pt.cells, Pt.slots] at X47 l47 y47 z47 st47 hQ47
  subst l47 y47 z47
  obtain ⟨b_47, kb_47, rfl, N47q, K47, Fq47_0, Fq47_1, Fq47_2, Fq47_3, P47_0⟩ := hQ47
  have N47 := Fr.app N37 N47q
  obtain ⟨h47, e47⟩ : ∃ z, T47.heap = z := ⟨_, rfl⟩
  rw [e47] at K47 Fq47_0 Fq47_1 Fq47_2 Fq47_3
  have z48 : h39.size ≤ h47.size := K47.1
  have lt47_0 : @LT.lt Nat _ b39 h47.size := Fq47_0.lt
  have lt47_3 : @LT.lt Nat _ b_47 h47.size := Fq47_3.lt
  obtain ⟨m49, hq49, hl49⟩ := own_modn rs 7 7 (by decide) (by decide) (by decide)
  obtain ⟨m50, hq50, hl50⟩ := own_modn rn 7 7 (by decide) (by decide) (by decide)
  have s51 : ∀ t_, Steps p.tables e below (T47.setTop (mkF m 102 #[.val (.int rb), .val (.long ro), .second, .val (.int rs), .val (.int rn), .val (.ref b1), .val (.ref b39), .val (.int (Int32.ofNat m49)), .val (.int (Int32.ofNat m50)), .unset] [(.int (6 : Int32)), (.int (Int32.ofNat m49)), (.ref b1)])) t_ → Steps p.tables e below (s₁.setTop (entryFrame m #[(.int rb), (.long ro), (.int rs), (.int rn)] maxLocals)) t_ := fun t_ k_ => s43 t_ (by
    show Steps p.tables e below (T39.setTop (mkF m 72 #[.val (.int rb), .val (.long ro), .second, .val (.int rs), .val (.int rn), .val (.ref b1), .unset, .unset, .unset, .unset] [(.ref b1), (.ref b39), (.ref b39)])) t_
    refine st47.trans ?_
    show Steps p.tables e below (T47.setTop (mkF m 75 #[.val (.int rb), .val (.long ro), .second, .val (.int rs), .val (.int rn), .val (.ref b1), .unset, .unset, .unset, .unset] [(.ref b39)])) _
    refine XS.astore X47.here hx rfl (Jvm.hb hby at_75) rfl rfl (l' := #[.val (.int rb), .val (.long ro), .second, .val (.int rs), .val (.int rn), .val (.ref b1), .val (.ref b39), .unset, .unset, .unset]) rfl ?_
    show Steps p.tables e below (T47.setTop (mkF m 77 #[.val (.int rb), .val (.long ro), .second, .val (.int rs), .val (.int rn), .val (.ref b1), .val (.ref b39), .unset, .unset, .unset] [])) _
    refine XS.iloadN X47.here hx rfl (Jvm.hb hby at_77) rfl ?_
    show Steps p.tables e below (T47.setTop (mkF m 78 #[.val (.int rb), .val (.long ro), .second, .val (.int rs), .val (.int rn), .val (.ref b1), .val (.ref b39), .unset, .unset, .unset] [(.int rs)])) _
    refine X47.ldcInt hx hown (mvT hZ (hw _ (List.mem_of_getElem? (i := 35) rfl))) (g := (mkF m 78 #[.val (.int rb), .val (.long ro), .second, .val (.int rs), .val (.int rn), .val (.ref b1), .val (.ref b39), .unset, .unset, .unset] [(.int rs)])) rfl (Jvm.hb hby at_78) _ ?_
    show Steps p.tables e below (T47.setTop (mkF m 80 #[.val (.int rb), .val (.long ro), .second, .val (.int rs), .val (.int rn), .val (.ref b1), .val (.ref b39), .unset, .unset, .unset] [(.int (2147483647 : Int32)), (.int rs)])) _
    refine XS.iand X47.here hx rfl (Jvm.hb hby at_80) rfl ?_
    show Steps p.tables e below (T47.setTop (mkF m 81 #[.val (.int rb), .val (.long ro), .second, .val (.int rs), .val (.int rn), .val (.ref b1), .val (.ref b39), .unset, .unset, .unset] [(.int (rs &&& (2147483647 : Int32)))])) _
    refine XS.bipush X47.here hx rfl (Jvm.hb hby at_81) ?_
    show Steps p.tables e below (T47.setTop (mkF m 83 #[.val (.int rb), .val (.long ro), .second, .val (.int rs), .val (.int rn), .val (.ref b1), .val (.ref b39), .unset, .unset, .unset] [(.int (7 : Int32)), (.int (rs &&& (2147483647 : Int32)))])) _
    refine iremM (g := (mkF m 83 #[.val (.int rb), .val (.long ro), .second, .val (.int rs), .val (.int rn), .val (.ref b1), .val (.ref b39), .unset, .unset, .unset] [(.int (7 : Int32)), (.int (rs &&& (2147483647 : Int32)))])) X47 hx rfl (Jvm.hb hby at_83) rfl (by decide) ?_
    show Steps p.tables e below (T47.setTop (mkF m 84 #[.val (.int rb), .val (.long ro), .second, .val (.int rs), .val (.int rn), .val (.ref b1), .val (.ref b39), .unset, .unset, .unset] [(.int ((rs &&& (2147483647 : Int32)) % (7 : Int32)))])) _
    refine XS.istore X47.here hx rfl (Jvm.hb hby at_84) rfl (l' := #[.val (.int rb), .val (.long ro), .second, .val (.int rs), .val (.int rn), .val (.ref b1), .val (.ref b39), .val (.int ((rs &&& (2147483647 : Int32)) % (7 : Int32))), .unset, .unset]) rfl ?_
    show Steps p.tables e below (T47.setTop (mkF m 86 #[.val (.int rb), .val (.long ro), .second, .val (.int rs), .val (.int rn), .val (.ref b1), .val (.ref b39), .val (.int ((rs &&& (2147483647 : Int32)) % (7 : Int32))), .unset, .unset] [])) _
    refine XS.iload X47.here hx rfl (Jvm.hb hby at_86) rfl ?_
    show Steps p.tables e below (T47.setTop (mkF m 88 #[.val (.int rb), .val (.long ro), .second, .val (.int rs), .val (.int rn), .val (.ref b1), .val (.ref b39), .val (.int ((rs &&& (2147483647 : Int32)) % (7 : Int32))), .unset, .unset] [(.int rn)])) _
    refine X47.ldcInt hx hown (mvT hZ (hw _ (List.mem_of_getElem? (i := 35) rfl))) (g := (mkF m 88 #[.val (.int rb), .val (.long ro), .second, .val (.int rs), .val (.int rn), .val (.ref b1), .val (.ref b39), .val (.int ((rs &&& (2147483647 : Int32)) % (7 : Int32))), .unset, .unset] [(.int rn)])) rfl (Jvm.hb hby at_88) _ ?_
    show Steps p.tables e below (T47.setTop (mkF m 90 #[.val (.int rb), .val (.long ro), .second, .val (.int rs), .val (.int rn), .val (.ref b1), .val (.ref b39), .val (.int ((rs &&& (2147483647 : Int32)) % (7 : Int32))), .unset, .unset] [(.int (2147483647 : Int32)), (.int rn)])) _
    refine XS.iand X47.here hx rfl (Jvm.hb hby at_90) rfl ?_
    show Steps p.tables e below (T47.setTop (mkF m 91 #[.val (.int rb), .val (.long ro), .second, .val (.int rs), .val (.int rn), .val (.ref b1), .val (.ref b39), .val (.int ((rs &&& (2147483647 : Int32)) % (7 : Int32))), .unset, .unset] [(.int (rn &&& (2147483647 : Int32)))])) _
    refine XS.bipush X47.here hx rfl (Jvm.hb hby at_91) ?_
    show Steps p.tables e below (T47.setTop (mkF m 93 #[.val (.int rb), .val (.long ro), .second, .val (.int rs), .val (.int rn), .val (.ref b1), .val (.ref b39), .val (.int ((rs &&& (2147483647 : Int32)) % (7 : Int32))), .unset, .unset] [(.int (7 : Int32)), (.int (rn &&& (2147483647 : Int32)))])) _
    refine iremM (g := (mkF m 93 #[.val (.int rb), .val (.long ro), .second, .val (.int rs), .val (.int rn), .val (.ref b1), .val (.ref b39), .val (.int ((rs &&& (2147483647 : Int32)) % (7 : Int32))), .unset, .unset] [(.int (7 : Int32)), (.int (rn &&& (2147483647 : Int32)))])) X47 hx rfl (Jvm.hb hby at_93) rfl (by decide) ?_
    show Steps p.tables e below (T47.setTop (mkF m 94 #[.val (.int rb), .val (.long ro), .second, .val (.int rs), .val (.int rn), .val (.ref b1), .val (.ref b39), .val (.int ((rs &&& (2147483647 : Int32)) % (7 : Int32))), .unset, .unset] [(.int ((rn &&& (2147483647 : Int32)) % (7 : Int32)))])) _
    refine XS.istore X47.here hx rfl (Jvm.hb hby at_94) rfl (l' := #[.val (.int rb), .val (.long ro), .second, .val (.int rs), .val (.int rn), .val (.ref b1), .val (.ref b39), .val (.int ((rs &&& (2147483647 : Int32)) % (7 : Int32))), .val (.int ((rn &&& (2147483647 : Int32)) % (7 : Int32))), .unset]) rfl ?_
    show Steps p.tables e below (T47.setTop (mkF m 96 #[.val (.int rb), .val (.long ro), .second, .val (.int rs), .val (.int rn), .val (.ref b1), .val (.ref b39), .val (.int ((rs &&& (2147483647 : Int32)) % (7 : Int32))), .val (.int ((rn &&& (2147483647 : Int32)) % (7 : Int32))), .unset] [])) _
    refine XS.aload X47.here hx rfl (Jvm.hb hby at_96) rfl rfl ?_
    show Steps p.tables e below (T47.setTop (mkF m 98 #[.val (.int rb), .val (.long ro), .second, .val (.int rs), .val (.int rn), .val (.ref b1), .val (.ref b39), .val (.int ((rs &&& (2147483647 : Int32)) % (7 : Int32))), .val (.int ((rn &&& (2147483647 : Int32)) % (7 : Int32))), .unset] [(.ref b1)])) _
    refine XS.iload X47.here hx rfl (Jvm.hb hby at_98) rfl ?_
    show Steps p.tables e below (T47.setTop (mkF m 100 #[.val (.int rb), .val (.long ro), .second, .val (.int rs), .val (.int rn), .val (.ref b1), .val (.ref b39), .val (.int ((rs &&& (2147483647 : Int32)) % (7 : Int32))), .val (.int ((rn &&& (2147483647 : Int32)) % (7 : Int32))), .unset] [(.int ((rs &&& (2147483647 : Int32)) % (7 : Int32))), (.ref b1)])) _
    refine XS.bipush X47.here hx rfl (Jvm.hb hby at_100) ?_
    show Steps p.tables e below (T47.setTop (mkF m 102 #[.val (.int rb), .val (.long ro), .second, .val (.int rs), .val (.int rn), .val (.ref b1), .val (.ref b39), .val (.int ((rs &&& (2147483647 : Int32)) % (7 : Int32))), .val (.int ((rn &&& (2147483647 : Int32)) % (7 : Int32))), .unset] [(.int (6 : Int32)), (.int ((rs &&& (2147483647 : Int32)) % (7 : Int32))), (.ref b1)])) _
    exact castTop (by simp only [hq49, hq50]) k_)
  have f52 : Arv Z h47 b1 k1 .char (6 : Int32) [(.int rr_5), (.int rr_11), (.int rr_17), (.int rr_23), (.int rr_29), (.int rr_35)] (.int (0 : Int32)) := (f45.keep K47 (ninS (show @Ne Nat b1 b39 by omega) nin0))
  have Zc53 : n0 ≤ h47.size := by omega
  obtain ⟨_, _, ⟨T54, L54, k54, n54⟩, -, X54, ⟨Lc54, hQ54, l54, y54, z54⟩, st54⟩ := Jvm.LawKit.callS X47 hx (y := (⟨"com/example/odysseus/odysseus/EscapesSegmentStartPinLaw", "countSlashes", "([CII)I"⟩ : MethodName)) hown (mvT hZ (hw _ (List.mem_of_getElem? (i := 36) rfl))) (mvT hZ (hw _ (List.mem_of_getElem? (i := 37) rfl))) (mvT hZ (hw _ (List.mem_of_getElem? (i := 3) rfl))) (mvT hZ (hw _ (List.mem_of_getElem? (i := 38) rfl))) (by decide) (backOf (W := 0) (rmCnt l Z a0 hw [] b1 [rr_5, rr_11, rr_17, rr_23, rr_29, rr_35] k1 m49 6 h47 n0 Zc53 f52 rfl (by first | assumption | rfl | decide | omega : m49 ≤ 8000) (by first | assumption | rfl | decide | omega : 6 ≤ 8000)) hZ (hw _ (List.mem_of_getElem? (i := 38) rfl)) (hw _ (List.mem_of_getElem? (i := 3) rfl)) (by decide) (by decide)) (g := (mkF m 102 #[.val (.int rb), .val (.long ro), .second, .val (.int rs), .val (.int rn), .val (.ref b1), .val (.ref b39), .val (.int (Int32.ofNat m49)), .val (.int (Int32.ofNat m50)), .unset] [(.int (6 : Int32)), (.int (Int32.ofNat m49)), (.ref b1)])) rfl (by rw [hml]; rfl) (argsL := [(.ref b1), (.int (Int32.ofNat m49)), (.int (6 : Int32))]) (rest := []) (lenOf pd___CII_I rfl) rfl (by show 2 * 0 + _ ≤ _; exact Nat.le_of_eq rfl) (Jvm.hb hby at_102) (fun _ _ => ⟨rfl, e47, (by decide : 3 + 0 ≤ _), (by decide : 16 + 0 ≤ _)⟩)
  dsimp only [Pt.U, Pt.locs, Pt.cells, Pt.slots] at X54 l54 y54 z54 st54 hQ54
  subst l54 y54 z54
  obtain ⟨rfl, N54q, e54⟩ := hQ54
  have N54 := Fr.app N47 N54q
  have s55 : ∀ t_, Steps p.tables e below (T54.setTop (mkF m 107 #[.val (.int rb), .val (.long ro), .second, .val (.int rs), .val (.int rn), .val (.ref b1), .val (.ref b39), .val (.int (Int32.ofNat m49)), .val (.int (Int32.ofNat m50)), .unset] [(.int (Int32.ofNat m50)), (.int (Int32.ofNat (own_cnt (own_sl [rr_5, rr_11, rr_17, rr_23, rr_29, rr_35]) m49 6)))])) t_ → Steps p.tables e below (s₁.setTop (entryFrame m #[(.int rb), (.long ro), (.int rs), (.int rn)] maxLocals)) t_ := fun t_ k_ => s51 t_ (by
    show Steps p.tables e below (T47.setTop (mkF m 102 #[.val (.int rb), .val (.long ro), .second, .val (.int rs), .val (.int rn), .val (.ref b1), .val (.ref b39), .val (.int (Int32.ofNat m49)), .val (.int (Int32.ofNat m50)), .unset] [(.int (6 : Int32)), (.int (Int32.ofNat m49)), (.ref b1)])) t_
    refine st54 _ ?_
    show Steps p.tables e below (T54.setTop (mkF m 105 #[.val (.int rb), .val (.long ro), .second, .val (.int rs), .val (.int rn), .val (.ref b1), .val (.ref b39), .val (.int (Int32.ofNat m49)), .val (.int (Int32.ofNat m50)), .unset] [(.int (Int32.ofNat (own_cnt (own_sl [rr_5, rr_11, rr_17, rr_23, rr_29, rr_35]) m49 6)))])) _
    refine XS.iload X54.here hx rfl (Jvm.hb hby at_105) rfl ?_
    show Steps p.tables e below (T54.setTop (mkF m 107 #[.val (.int rb), .val (.long ro), .second, .val (.int rs), .val (.int rn), .val (.ref b1), .val (.ref b39), .val (.int (Int32.ofNat m49)), .val (.int (Int32.ofNat m50)), .unset] [(.int (Int32.ofNat m50)), (.int (Int32.ofNat (own_cnt (own_sl [rr_5, rr_11, rr_17, rr_23, rr_29, rr_35]) m49 6)))])) _
    show Steps p.tables e below (T54.setTop (mkF m 107 #[.val (.int rb), .val (.long ro), .second, .val (.int rs), .val (.int rn), .val (.ref b1), .val (.ref b39), .val (.int (Int32.ofNat m49)), .val (.int (Int32.ofNat m50)), .unset] [(.int (Int32.ofNat m50)), (.int (Int32.ofNat (own_cnt (own_sl [rr_5, rr_11, rr_17, rr_23, rr_29, rr_35]) m49 6)))])) t_
    exact k_)
  by_cases h56 : (Int32.ofNat (own_cnt (own_sl [rr_5, rr_11, rr_17, rr_23, rr_29, rr_35]) m49 6)) < (Int32.ofNat m50)
  · have s57 : ∀ t_, Steps p.tables e below (T54.setTop (mkF m 111 #[.val (.int rb), .val (.long ro), .second, .val (.int rs), .val (.int rn), .val (.ref b1), .val (.ref b39), .val (.int (Int32.ofNat m49)), .val (.int (Int32.ofNat m50)), .unset] [(.int (1 : Int32))])) t_ → Steps p.tables e below (s₁.setTop (entryFrame m #[(.int rb), (.long ro), (.int rs), (.int rn)] maxLocals)) t_ := fun t_ k_ => s55 t_ (by
      show Steps p.tables e below (T54.setTop (mkF m 107 #[.val (.int rb), .val (.long ro), .second, .val (.int rs), .val (.int rn), .val (.ref b1), .val (.ref b39), .val (.int (Int32.ofNat m49)), .val (.int (Int32.ofNat m50)), .unset] [(.int (Int32.ofNat m50)), (.int (Int32.ofNat (own_cnt (own_sl [rr_5, rr_11, rr_17, rr_23, rr_29, rr_35]) m49 6)))])) t_
      refine XS.icmpNo X54.here hx rfl (Jvm.hb hby at_107) rfl (tlt h56).2.1 ?_
      show Steps p.tables e below (T54.setTop (mkF m 110 #[.val (.int rb), .val (.long ro), .second, .val (.int rs), .val (.int rn), .val (.ref b1), .val (.ref b39), .val (.int (Int32.ofNat m49)), .val (.int (Int32.ofNat m50)), .unset] [])) _
      refine XS.iconst X54.here hx rfl (Jvm.hb hby at_110) ?_
      show Steps p.tables e below (T54.setTop (mkF m 111 #[.val (.int rb), .val (.long ro), .second, .val (.int rs), .val (.int rn), .val (.ref b1), .val (.ref b39), .val (.int (Int32.ofNat m49)), .val (.int (Int32.ofNat m50)), .unset] [(.int (1 : Int32))])) _
      show Steps p.tables e below (T54.setTop (mkF m 111 #[.val (.int rb), .val (.long ro), .second, .val (.int rs), .val (.int rn), .val (.ref b1), .val (.ref b39), .val (.int (Int32.ofNat m49)), .val (.int (Int32.ofNat m50)), .unset] [(.int (1 : Int32))])) t_
      exact k_)
    obtain ⟨fs, hr, hrun, hended, hW, hsame⟩ := X54.leave (v := some (.int (1 : Int32))) (fun h => by rw [Bd.returns] at h; cases h)
    refine ⟨_, _, s57 _ ?_, hrun, hended, _, _, rfl, ?_, ⟨_, rfl⟩, hW, hsame.mono (by decide) (by decide)⟩
    · show Steps p.tables e below (T54.setTop (mkF m 111 #[.val (.int rb), .val (.long ro), .second, .val (.int rs), .val (.int rn), .val (.ref b1), .val (.ref b39), .val (.int (Int32.ofNat m49)), .val (.int (Int32.ofNat m50)), .unset] [(.int (1 : Int32))])) _
      exact retN X54 hx (t := .boolean) Bd.returns (by simp) (Jvm.hb hby at_111) hr
    · show Q_rmLaw Z _ _ _ _ _ h0 n0 _ T54.heap _
      rw [e54]
      exact ⟨rfl, N54⟩
  · have s58 : ∀ t_, Steps p.tables e below (T54.setTop (mkF m 118 #[.val (.int rb), .val (.long ro), .second, .val (.int rs), .val (.int rn), .val (.ref b1), .val (.ref b39), .val (.int (Int32.ofNat m49)), .val (.int (Int32.ofNat m50)), .unset] [(.int (Int32.ofNat m50)), (.int (Int32.ofNat m49)), (.ref b39)])) t_ → Steps p.tables e below (s₁.setTop (entryFrame m #[(.int rb), (.long ro), (.int rs), (.int rn)] maxLocals)) t_ := fun t_ k_ => s55 t_ (by
      show Steps p.tables e below (T54.setTop (mkF m 107 #[.val (.int rb), .val (.long ro), .second, .val (.int rs), .val (.int rn), .val (.ref b1), .val (.ref b39), .val (.int (Int32.ofNat m49)), .val (.int (Int32.ofNat m50)), .unset] [(.int (Int32.ofNat m50)), (.int (Int32.ofNat (own_cnt (own_sl [rr_5, rr_11, rr_17, rr_23, rr_29, rr_35]) m49 6)))])) t_
      refine XS.icmpYes X54.here hx rfl (pc0 := 107) (pc' := 112) rfl (Jvm.hb hby at_107) rfl (flt h56).2.1 (by decide) (by decide) ?_
      show Steps p.tables e below (T54.setTop (mkF m 112 #[.val (.int rb), .val (.long ro), .second, .val (.int rs), .val (.int rn), .val (.ref b1), .val (.ref b39), .val (.int (Int32.ofNat m49)), .val (.int (Int32.ofNat m50)), .unset] [])) _
      refine XS.aload X54.here hx rfl (Jvm.hb hby at_112) rfl rfl ?_
      show Steps p.tables e below (T54.setTop (mkF m 114 #[.val (.int rb), .val (.long ro), .second, .val (.int rs), .val (.int rn), .val (.ref b1), .val (.ref b39), .val (.int (Int32.ofNat m49)), .val (.int (Int32.ofNat m50)), .unset] [(.ref b39)])) _
      refine XS.iload X54.here hx rfl (Jvm.hb hby at_114) rfl ?_
      show Steps p.tables e below (T54.setTop (mkF m 116 #[.val (.int rb), .val (.long ro), .second, .val (.int rs), .val (.int rn), .val (.ref b1), .val (.ref b39), .val (.int (Int32.ofNat m49)), .val (.int (Int32.ofNat m50)), .unset] [(.int (Int32.ofNat m49)), (.ref b39)])) _
      refine XS.iload X54.here hx rfl (Jvm.hb hby at_116) rfl ?_
      show Steps p.tables e below (T54.setTop (mkF m 118 #[.val (.int rb), .val (.long ro), .second, .val (.int rs), .val (.int rn), .val (.ref b1), .val (.ref b39), .val (.int (Int32.ofNat m49)), .val (.int (Int32.ofNat m50)), .unset] [(.int (Int32.ofNat m50)), (.int (Int32.ofNat m49)), (.ref b39)])) _
      show Steps p.tables e below (T54.setTop (mkF m 118 #[.val (.int rb), .val (.long ro), .second, .val (.int rs), .val (.int rn), .val (.ref b1), .val (.ref b39), .val (.int (Int32.ofNat m49)), .val (.int (Int32.ofNat m50)), .unset] [(.int (Int32.ofNat m50)), (.int (Int32.ofNat m49)), (.ref b39)])) t_
      exact k_)
    have O59 : Old Z n0 h47 := (O44.keep K47 (allS (show n0 ≤ b39 by omega) all0))
    have Zc60 : n0 ≤ h47.size := by omega
    obtain ⟨_, _, ⟨T61, L61, k61, n61⟩, -, X61, ⟨Lc61, hQ61, l61, y61, z61⟩, st61⟩ := Jvm.LawKit.callS X54 hx (y := (⟨"com/example/odysseus/odysseus/Escapes", "segmentStart", "(Ljava/lang/String;II)I"⟩ : MethodName)) hown (mvT hZ (hw _ (List.mem_of_getElem? (i := 42) rfl))) (mvT hZ (hw _ (List.mem_of_getElem? (i := 43) rfl))) (mvT hZ (hw _ (List.mem_of_getElem? (i := 44) rfl))) (mvT hZ (hw _ (List.mem_of_getElem? (i := 45) rfl))) (by decide) (backOf (W := 0) (rmSeg l Z a0 hw [] b39 cst b_47 kb_47 [rr_5, rr_11, rr_17, rr_23, rr_29, rr_35] m49 m50 h47 n0 Zc60 I1 O59 (hcst : ¬ (cst = (0 : Int32))) Fq47_0 Fq47_1 Fq47_2 Fq47_3 (by simp) hchs hlat (by simp only [List.length_cons, List.length_nil]; omega) (by first | assumption | rfl | decide | omega : m50 ≤ 8000)) hZ (hw _ (List.mem_of_getElem? (i := 45) rfl)) (hw _ (List.mem_of_getElem? (i := 44) rfl)) (by decide) (by decide)) (g := (mkF m 118 #[.val (.int rb), .val (.long ro), .second, .val (.int rs), .val (.int rn), .val (.ref b1), .val (.ref b39), .val (.int (Int32.ofNat m49)), .val (.int (Int32.ofNat m50)), .unset] [(.int (Int32.ofNat m50)), (.int (Int32.ofNat m49)), (.ref b39)])) rfl (by rw [hml]; rfl) (argsL := [(.ref b39), (.int (Int32.ofNat m49)), (.int (Int32.ofNat m50))]) (rest := []) (lenOf pd__Ljava_lang_String_II_I rfl) rfl (by show 2 * 0 + _ ≤ _; exact Nat.le_of_eq rfl) (Jvm.hb hby at_118) (fun _ _ => ⟨rfl, e54, (by decide : 3 + 0 ≤ _), (by decide : 16 + 0 ≤ _)⟩)
    dsimp only [Pt.U, Pt.locs, Pt.cells, Pt.slots] at X61 l61 y61 z61 st61 hQ61
    subst l61 y61 z61
    obtain ⟨rfl, N61q, e61⟩ := hQ61
    have N61 := Fr.app N54 N61q
    have s62 : ∀ t_, Steps p.tables e below (T61.setTop (mkF m 125 #[.val (.int rb), .val (.long ro), .second, .val (.int rs), .val (.int rn), .val (.ref b1), .val (.ref b39), .val (.int (Int32.ofNat m49)), .val (.int (Int32.ofNat m50)), .val (.int (Int32.ofNat (own_seg (own_sl [rr_5, rr_11, rr_17, rr_23, rr_29, rr_35]) m49 m50)))] [(.int (Int32.ofNat m50))])) t_ → Steps p.tables e below (s₁.setTop (entryFrame m #[(.int rb), (.long ro), (.int rs), (.int rn)] maxLocals)) t_ := fun t_ k_ => s58 t_ (by
      show Steps p.tables e below (T54.setTop (mkF m 118 #[.val (.int rb), .val (.long ro), .second, .val (.int rs), .val (.int rn), .val (.ref b1), .val (.ref b39), .val (.int (Int32.ofNat m49)), .val (.int (Int32.ofNat m50)), .unset] [(.int (Int32.ofNat m50)), (.int (Int32.ofNat m49)), (.ref b39)])) t_
      refine st61 _ ?_
      show Steps p.tables e below (T61.setTop (mkF m 121 #[.val (.int rb), .val (.long ro), .second, .val (.int rs), .val (.int rn), .val (.ref b1), .val (.ref b39), .val (.int (Int32.ofNat m49)), .val (.int (Int32.ofNat m50)), .unset] [(.int (Int32.ofNat (own_seg (own_sl [rr_5, rr_11, rr_17, rr_23, rr_29, rr_35]) m49 m50)))])) _
      refine XS.istore X61.here hx rfl (Jvm.hb hby at_121) rfl (l' := #[.val (.int rb), .val (.long ro), .second, .val (.int rs), .val (.int rn), .val (.ref b1), .val (.ref b39), .val (.int (Int32.ofNat m49)), .val (.int (Int32.ofNat m50)), .val (.int (Int32.ofNat (own_seg (own_sl [rr_5, rr_11, rr_17, rr_23, rr_29, rr_35]) m49 m50)))]) rfl ?_
      show Steps p.tables e below (T61.setTop (mkF m 123 #[.val (.int rb), .val (.long ro), .second, .val (.int rs), .val (.int rn), .val (.ref b1), .val (.ref b39), .val (.int (Int32.ofNat m49)), .val (.int (Int32.ofNat m50)), .val (.int (Int32.ofNat (own_seg (own_sl [rr_5, rr_11, rr_17, rr_23, rr_29, rr_35]) m49 m50)))] [])) _
      refine XS.iload X61.here hx rfl (Jvm.hb hby at_123) rfl ?_
      show Steps p.tables e below (T61.setTop (mkF m 125 #[.val (.int rb), .val (.long ro), .second, .val (.int rs), .val (.int rn), .val (.ref b1), .val (.ref b39), .val (.int (Int32.ofNat m49)), .val (.int (Int32.ofNat m50)), .val (.int (Int32.ofNat (own_seg (own_sl [rr_5, rr_11, rr_17, rr_23, rr_29, rr_35]) m49 m50)))] [(.int (Int32.ofNat m50))])) _
      show Steps p.tables e below (T61.setTop (mkF m 125 #[.val (.int rb), .val (.long ro), .second, .val (.int rs), .val (.int rn), .val (.ref b1), .val (.ref b39), .val (.int (Int32.ofNat m49)), .val (.int (Int32.ofNat m50)), .val (.int (Int32.ofNat (own_seg (own_sl [rr_5, rr_11, rr_17, rr_23, rr_29, rr_35]) m49 m50)))] [(.int (Int32.ofNat m50))])) t_
      exact k_)
    by_cases h63 : (Int32.ofNat m50) = (0 : Int32)
    · have s64 : ∀ t_, Steps p.tables e below (T61.setTop (mkF m 132 #[.val (.int rb), .val (.long ro), .second, .val (.int rs), .val (.int rn), .val (.ref b1), .val (.ref b39), .val (.int (Int32.ofNat m49)), .val (.int (Int32.ofNat m50)), .val (.int (Int32.ofNat (own_seg (own_sl [rr_5, rr_11, rr_17, rr_23, rr_29, rr_35]) m49 m50)))] [(.int (Int32.ofNat m49)), (.int (Int32.ofNat (own_seg (own_sl [rr_5, rr_11, rr_17, rr_23, rr_29, rr_35]) m49 m50)))])) t_ → Steps p.tables e below (s₁.setTop (entryFrame m #[(.int rb), (.long ro), (.int rs), (.int rn)] maxLocals)) t_ := fun t_ k_ => s62 t_ (by
        show Steps p.tables e below (T61.setTop (mkF m 125 #[.val (.int rb), .val (.long ro), .second, .val (.int rs), .val (.int rn), .val (.ref b1), .val (.ref b39), .val (.int (Int32.ofNat m49)), .val (.int (Int32.ofNat m50)), .val (.int (Int32.ofNat (own_seg (own_sl [rr_5, rr_11, rr_17, rr_23, rr_29, rr_35]) m49 m50)))] [(.int (Int32.ofNat m50))])) t_
        refine XS.ifNo X61.here hx rfl (Jvm.hb hby at_125) rfl ((if0 _ _).trans (teq h63).2) ?_
        show Steps p.tables e below (T61.setTop (mkF m 128 #[.val (.int rb), .val (.long ro), .second, .val (.int rs), .val (.int rn), .val (.ref b1), .val (.ref b39), .val (.int (Int32.ofNat m49)), .val (.int (Int32.ofNat m50)), .val (.int (Int32.ofNat (own_seg (own_sl [rr_5, rr_11, rr_17, rr_23, rr_29, rr_35]) m49 m50)))] [])) _
        refine XS.iload X61.here hx rfl (Jvm.hb hby at_128) rfl ?_
        show Steps p.tables e below (T61.setTop (mkF m 130 #[.val (.int rb), .val (.long ro), .second, .val (.int rs), .val (.int rn), .val (.ref b1), .val (.ref b39), .val (.int (Int32.ofNat m49)), .val (.int (Int32.ofNat m50)), .val (.int (Int32.ofNat (own_seg (own_sl [rr_5, rr_11, rr_17, rr_23, rr_29, rr_35]) m49 m50)))] [(.int (Int32.ofNat (own_seg (own_sl [rr_5, rr_11, rr_17, rr_23, rr_29, rr_35]) m49 m50)))])) _
        refine XS.iload X61.here hx rfl (Jvm.hb hby at_130) rfl ?_
        show Steps p.tables e below (T61.setTop (mkF m 132 #[.val (.int rb), .val (.long ro), .second, .val (.int rs), .val (.int rn), .val (.ref b1), .val (.ref b39), .val (.int (Int32.ofNat m49)), .val (.int (Int32.ofNat m50)), .val (.int (Int32.ofNat (own_seg (own_sl [rr_5, rr_11, rr_17, rr_23, rr_29, rr_35]) m49 m50)))] [(.int (Int32.ofNat m49)), (.int (Int32.ofNat (own_seg (own_sl [rr_5, rr_11, rr_17, rr_23, rr_29, rr_35]) m49 m50)))])) _
        show Steps p.tables e below (T61.setTop (mkF m 132 #[.val (.int rb), .val (.long ro), .second, .val (.int rs), .val (.int rn), .val (.ref b1), .val (.ref b39), .val (.int (Int32.ofNat m49)), .val (.int (Int32.ofNat m50)), .val (.int (Int32.ofNat (own_seg (own_sl [rr_5, rr_11, rr_17, rr_23, rr_29, rr_35]) m49 m50)))] [(.int (Int32.ofNat m49)), (.int (Int32.ofNat (own_seg (own_sl [rr_5, rr_11, rr_17, rr_23, rr_29, rr_35]) m49 m50)))])) t_
        exact k_)
      obtain ⟨q65, hq65⟩ : ∃ z : Int32, z = (if (Int32.ofNat (own_seg (own_sl [rr_5, rr_11, rr_17, rr_23, rr_29, rr_35]) m49 m50)) = (Int32.ofNat m49) then (1 : Int32) else (0 : Int32)) := ⟨_, rfl⟩
      obtain ⟨T66, X66, e66, s66⟩ := seg X61 (fun T' => T'.heap = h47 ∧ ∀ t_, Steps p.tables e below (T'.setTop (mkF m 140 #[.val (.int rb), .val (.long ro), .second, .val (.int rs), .val (.int rn), .val (.ref b1), .val (.ref b39), .val (.int (Int32.ofNat m49)), .val (.int (Int32.ofNat m50)), .val (.int (Int32.ofNat (own_seg (own_sl [rr_5, rr_11, rr_17, rr_23, rr_29, rr_35]) m49 m50)))] [(.int q65)])) t_ → Steps p.tables e below (s₁.setTop (entryFrame m #[(.int rb), (.long ro), (.int rs), (.int rn)] maxLocals)) t_) (by
        by_cases h67 : (Int32.ofNat (own_seg (own_sl [rr_5, rr_11, rr_17, rr_23, rr_29, rr_35]) m49 m50)) = (Int32.ofNat m49)
        · have s68 : ∀ t_, Steps p.tables e below (T61.setTop (mkF m 140 #[.val (.int rb), .val (.long ro), .second, .val (.int rs), .val (.int rn), .val (.ref b1), .val (.ref b39), .val (.int (Int32.ofNat m49)), .val (.int (Int32.ofNat m50)), .val (.int (Int32.ofNat (own_seg (own_sl [rr_5, rr_11, rr_17, rr_23, rr_29, rr_35]) m49 m50)))] [(.int (1 : Int32))])) t_ → Steps p.tables e below (s₁.setTop (entryFrame m #[(.int rb), (.long ro), (.int rs), (.int rn)] maxLocals)) t_ := fun t_ k_ => s64 t_ (by
            show Steps p.tables e below (T61.setTop (mkF m 132 #[.val (.int rb), .val (.long ro), .second, .val (.int rs), .val (.int rn), .val (.ref b1), .val (.ref b39), .val (.int (Int32.ofNat m49)), .val (.int (Int32.ofNat m50)), .val (.int (Int32.ofNat (own_seg (own_sl [rr_5, rr_11, rr_17, rr_23, rr_29, rr_35]) m49 m50)))] [(.int (Int32.ofNat m49)), (.int (Int32.ofNat (own_seg (own_sl [rr_5, rr_11, rr_17, rr_23, rr_29, rr_35]) m49 m50)))])) t_
            refine XS.icmpNo X61.here hx rfl (Jvm.hb hby at_132) rfl (teq h67).2 ?_
            show Steps p.tables e below (T61.setTop (mkF m 135 #[.val (.int rb), .val (.long ro), .second, .val (.int rs), .val (.int rn), .val (.ref b1), .val (.ref b39), .val (.int (Int32.ofNat m49)), .val (.int (Int32.ofNat m50)), .val (.int (Int32.ofNat (own_seg (own_sl [rr_5, rr_11, rr_17, rr_23, rr_29, rr_35]) m49 m50)))] [])) _
            refine XS.iconst X61.here hx rfl (Jvm.hb hby at_135) ?_
            show Steps p.tables e below (T61.setTop (mkF m 136 #[.val (.int rb), .val (.long ro), .second, .val (.int rs), .val (.int rn), .val (.ref b1), .val (.ref b39), .val (.int (Int32.ofNat m49)), .val (.int (Int32.ofNat m50)), .val (.int (Int32.ofNat (own_seg (own_sl [rr_5, rr_11, rr_17, rr_23, rr_29, rr_35]) m49 m50)))] [(.int (1 : Int32))])) _
            refine XS.goto X61.here hx rfl (pc0 := 136) (pc' := 140) rfl (Jvm.hb hby at_136) (by decide) (by decide) ?_
            show Steps p.tables e below (T61.setTop (mkF m 140 #[.val (.int rb), .val (.long ro), .second, .val (.int rs), .val (.int rn), .val (.ref b1), .val (.ref b39), .val (.int (Int32.ofNat m49)), .val (.int (Int32.ofNat m50)), .val (.int (Int32.ofNat (own_seg (own_sl [rr_5, rr_11, rr_17, rr_23, rr_29, rr_35]) m49 m50)))] [(.int (1 : Int32))])) _
            show Steps p.tables e below (T61.setTop (mkF m 140 #[.val (.int rb), .val (.long ro), .second, .val (.int rs), .val (.int rn), .val (.ref b1), .val (.ref b39), .val (.int (Int32.ofNat m49)), .val (.int (Int32.ofNat m50)), .val (.int (Int32.ofNat (own_seg (own_sl [rr_5, rr_11, rr_17, rr_23, rr_29, rr_35]) m49 m50)))] [(.int (1 : Int32))])) t_
            exact k_)
          exact ⟨T61, X61, e61, fun t_ k_ => s68 t_ (castTop (by simp only [hq65, if_pos h67]) k_)⟩
        · have s69 : ∀ t_, Steps p.tables e below (T61.setTop (mkF m 140 #[.val (.int rb), .val (.long ro), .second, .val (.int rs), .val (.int rn), .val (.ref b1), .val (.ref b39), .val (.int (Int32.ofNat m49)), .val (.int (Int32.ofNat m50)), .val (.int (Int32.ofNat (own_seg (own_sl [rr_5, rr_11, rr_17, rr_23, rr_29, rr_35]) m49 m50)))] [(.int (0 : Int32))])) t_ → Steps p.tables e below (s₁.setTop (entryFrame m #[(.int rb), (.long ro), (.int rs), (.int rn)] maxLocals)) t_ := fun t_ k_ => s64 t_ (by
            show Steps p.tables e below (T61.setTop (mkF m 132 #[.val (.int rb), .val (.long ro), .second, .val (.int rs), .val (.int rn), .val (.ref b1), .val (.ref b39), .val (.int (Int32.ofNat m49)), .val (.int (Int32.ofNat m50)), .val (.int (Int32.ofNat (own_seg (own_sl [rr_5, rr_11, rr_17, rr_23, rr_29, rr_35]) m49 m50)))] [(.int (Int32.ofNat m49)), (.int (Int32.ofNat (own_seg (own_sl [rr_5, rr_11, rr_17, rr_23, rr_29, rr_35]) m49 m50)))])) t_
            refine XS.icmpYes X61.here hx rfl (pc0 := 132) (pc' := 139) rfl (Jvm.hb hby at_132) rfl (feq h67).2 (by decide) (by decide) ?_
            show Steps p.tables e below (T61.setTop (mkF m 139 #[.val (.int rb), .val (.long ro), .second, .val (.int rs), .val (.int rn), .val (.ref b1), .val (.ref b39), .val (.int (Int32.ofNat m49)), .val (.int (Int32.ofNat m50)), .val (.int (Int32.ofNat (own_seg (own_sl [rr_5, rr_11, rr_17, rr_23, rr_29, rr_35]) m49 m50)))] [])) _
            refine XS.iconst X61.here hx rfl (Jvm.hb hby at_139) ?_
            show Steps p.tables e below (T61.setTop (mkF m 140 #[.val (.int rb), .val (.long ro), .second, .val (.int rs), .val (.int rn), .val (.ref b1), .val (.ref b39), .val (.int (Int32.ofNat m49)), .val (.int (Int32.ofNat m50)), .val (.int (Int32.ofNat (own_seg (own_sl [rr_5, rr_11, rr_17, rr_23, rr_29, rr_35]) m49 m50)))] [(.int (0 : Int32))])) _
            show Steps p.tables e below (T61.setTop (mkF m 140 #[.val (.int rb), .val (.long ro), .second, .val (.int rs), .val (.int rn), .val (.ref b1), .val (.ref b39), .val (.int (Int32.ofNat m49)), .val (.int (Int32.ofNat m50)), .val (.int (Int32.ofNat (own_seg (own_sl [rr_5, rr_11, rr_17, rr_23, rr_29, rr_35]) m49 m50)))] [(.int (0 : Int32))])) t_
            exact k_)
          exact ⟨T61, X61, e61, fun t_ k_ => s69 t_ (castTop (by simp only [hq65, if_neg h67]) k_)⟩)
      obtain ⟨fs, hr, hrun, hended, hW, hsame⟩ := X66.leave (v := some (.int (nar .boolean q65))) (fun h => by rw [Bd.returns] at h; cases h)
      have hone : q65 = 1 := by
        rw [hq65, if_pos]
        have e := own_inj (by omega) (by decide) (show Int32.ofNat m50 = Int32.ofNat 0 from h63)
        rw [e]; rfl
      refine ⟨_, _, s66 _ ?_, hrun, hended, _, _, rfl, ?_, ⟨_, rfl⟩, hW, hsame.mono (by decide) (by decide)⟩
      · show Steps p.tables e below (T66.setTop (mkF m 140 #[.val (.int rb), .val (.long ro), .second, .val (.int rs), .val (.int rn), .val (.ref b1), .val (.ref b39), .val (.int (Int32.ofNat m49)), .val (.int (Int32.ofNat m50)), .val (.int (Int32.ofNat (own_seg (own_sl [rr_5, rr_11, rr_17, rr_23, rr_29, rr_35]) m49 m50)))] [(.int q65)])) _
        exact retN X66 hx (t := .boolean) Bd.returns (by simp) (Jvm.hb hby at_140) hr
      · show Q_rmLaw Z _ _ _ _ _ h0 n0 _ T66.heap _
        rw [e66]
        exact ⟨by rw [hone]; rfl, N61⟩
    · have key := own_law rr_5 rr_11 rr_17 rr_23 rr_29 rr_35 m49 m50 (by omega) (by omega) (own_pos h63) (by rw [own_ltiff (Nat.le_trans (own_cntle _ _ _) (by decide)) (by omega)] at h56; omega)
      have ky1 := key.1
      have ky2 := key.2.1
      obtain ⟨cl70, Ar70, -, S70, M70, H70, -⟩ := id f52
      have hin70 : ¬ ((Int32.ofNat ((own_seg (own_sl [rr_5, rr_11, rr_17, rr_23, rr_29, rr_35]) m49 m50) - 1)) < 0 ∨ cl70.slots.size ≤ ((Int32.ofNat ((own_seg (own_sl [rr_5, rr_11, rr_17, rr_23, rr_29, rr_35]) m49 m50) - 1))).toNatClampNeg) := inb_of S70 (own_in (n := 6) (by omega) (by decide))
      have hat70 : cl70.slots[((Int32.ofNat ((own_seg (own_sl [rr_5, rr_11, rr_17, rr_23, rr_29, rr_35]) m49 m50) - 1))).toNatClampNeg]? = some (.int ([rr_5, rr_11, rr_17, rr_23, rr_29, rr_35].getD ((own_seg (own_sl [rr_5, rr_11, rr_17, rr_23, rr_29, rr_35]) m49 m50) - 1) 0)) := H70.at hin70 (own_getc [rr_5, rr_11, rr_17, rr_23, rr_29, rr_35] ((own_seg (own_sl [rr_5, rr_11, rr_17, rr_23, rr_29, rr_35]) m49 m50) - 1) _ (by simp only [List.length_cons, List.length_nil]; omega) (by simp))
      have s71 : ∀ t_, Steps p.tables e below (T61.setTop (mkF m 181 #[.val (.int rb), .val (.long ro), .second, .val (.int rs), .val (.int rn), .val (.ref b1), .val (.ref b39), .val (.int (Int32.ofNat m49)), .val (.int (Int32.ofNat m50)), .val (.int (Int32.ofNat (own_seg (own_sl [rr_5, rr_11, rr_17, rr_23, rr_29, rr_35]) m49 m50)))] [(.int (Int32.ofNat ((own_seg (own_sl [rr_5, rr_11, rr_17, rr_23, rr_29, rr_35]) m49 m50) - 1))), (.int (Int32.ofNat m49)), (.ref b1)])) t_ → Steps p.tables e below (s₁.setTop (entryFrame m #[(.int rb), (.long ro), (.int rs), (.int rn)] maxLocals)) t_ := fun t_ k_ => s62 t_ (by
        show Steps p.tables e below (T61.setTop (mkF m 125 #[.val (.int rb), .val (.long ro), .second, .val (.int rs), .val (.int rn), .val (.ref b1), .val (.ref b39), .val (.int (Int32.ofNat m49)), .val (.int (Int32.ofNat m50)), .val (.int (Int32.ofNat (own_seg (own_sl [rr_5, rr_11, rr_17, rr_23, rr_29, rr_35]) m49 m50)))] [(.int (Int32.ofNat m50))])) t_
        refine XS.ifYes X61.here hx rfl (pc0 := 125) (pc' := 141) rfl (Jvm.hb hby at_125) rfl ((if0 _ _).trans (feq h63).2) (by decide) (by decide) ?_
        show Steps p.tables e below (T61.setTop (mkF m 141 #[.val (.int rb), .val (.long ro), .second, .val (.int rs), .val (.int rn), .val (.ref b1), .val (.ref b39), .val (.int (Int32.ofNat m49)), .val (.int (Int32.ofNat m50)), .val (.int (Int32.ofNat (own_seg (own_sl [rr_5, rr_11, rr_17, rr_23, rr_29, rr_35]) m49 m50)))] [])) _
        refine XS.iload X61.here hx rfl (Jvm.hb hby at_141) rfl ?_
        show Steps p.tables e below (T61.setTop (mkF m 143 #[.val (.int rb), .val (.long ro), .second, .val (.int rs), .val (.int rn), .val (.ref b1), .val (.ref b39), .val (.int (Int32.ofNat m49)), .val (.int (Int32.ofNat m50)), .val (.int (Int32.ofNat (own_seg (own_sl [rr_5, rr_11, rr_17, rr_23, rr_29, rr_35]) m49 m50)))] [(.int (Int32.ofNat (own_seg (own_sl [rr_5, rr_11, rr_17, rr_23, rr_29, rr_35]) m49 m50)))])) _
        refine XS.iload X61.here hx rfl (Jvm.hb hby at_143) rfl ?_
        show Steps p.tables e below (T61.setTop (mkF m 145 #[.val (.int rb), .val (.long ro), .second, .val (.int rs), .val (.int rn), .val (.ref b1), .val (.ref b39), .val (.int (Int32.ofNat m49)), .val (.int (Int32.ofNat m50)), .val (.int (Int32.ofNat (own_seg (own_sl [rr_5, rr_11, rr_17, rr_23, rr_29, rr_35]) m49 m50)))] [(.int (Int32.ofNat m49)), (.int (Int32.ofNat (own_seg (own_sl [rr_5, rr_11, rr_17, rr_23, rr_29, rr_35]) m49 m50)))])) _
        refine XS.iconst X61.here hx rfl (Jvm.hb hby at_145) ?_
        show Steps p.tables e below (T61.setTop (mkF m 146 #[.val (.int rb), .val (.long ro), .second, .val (.int rs), .val (.int rn), .val (.ref b1), .val (.ref b39), .val (.int (Int32.ofNat m49)), .val (.int (Int32.ofNat m50)), .val (.int (Int32.ofNat (own_seg (own_sl [rr_5, rr_11, rr_17, rr_23, rr_29, rr_35]) m49 m50)))] [(.int (1 : Int32)), (.int (Int32.ofNat m49)), (.int (Int32.ofNat (own_seg (own_sl [rr_5, rr_11, rr_17, rr_23, rr_29, rr_35]) m49 m50)))])) _
        refine XS.iadd X61.here hx rfl (Jvm.hb hby at_146) rfl ?_
        show Steps p.tables e below (T61.setTop (mkF m 147 #[.val (.int rb), .val (.long ro), .second, .val (.int rs), .val (.int rn), .val (.ref b1), .val (.ref b39), .val (.int (Int32.ofNat m49)), .val (.int (Int32.ofNat m50)), .val (.int (Int32.ofNat (own_seg (own_sl [rr_5, rr_11, rr_17, rr_23, rr_29, rr_35]) m49 m50)))] [(.int ((Int32.ofNat m49) + (1 : Int32))), (.int (Int32.ofNat (own_seg (own_sl [rr_5, rr_11, rr_17, rr_23, rr_29, rr_35]) m49 m50)))])) _
        refine XS.icmpNo X61.here hx rfl (Jvm.hb hby at_147) rfl (flt (by rw [← own_up]; exact own_nlt ky1 (by omega))).1 ?_
        show Steps p.tables e below (T61.setTop (mkF m 150 #[.val (.int rb), .val (.long ro), .second, .val (.int rs), .val (.int rn), .val (.ref b1), .val (.ref b39), .val (.int (Int32.ofNat m49)), .val (.int (Int32.ofNat m50)), .val (.int (Int32.ofNat (own_seg (own_sl [rr_5, rr_11, rr_17, rr_23, rr_29, rr_35]) m49 m50)))] [])) _
        refine XS.iload X61.here hx rfl (Jvm.hb hby at_150) rfl ?_
        show Steps p.tables e below (T61.setTop (mkF m 152 #[.val (.int rb), .val (.long ro), .second, .val (.int rs), .val (.int rn), .val (.ref b1), .val (.ref b39), .val (.int (Int32.ofNat m49)), .val (.int (Int32.ofNat m50)), .val (.int (Int32.ofNat (own_seg (own_sl [rr_5, rr_11, rr_17, rr_23, rr_29, rr_35]) m49 m50)))] [(.int (Int32.ofNat (own_seg (own_sl [rr_5, rr_11, rr_17, rr_23, rr_29, rr_35]) m49 m50)))])) _
        refine XS.bipush X61.here hx rfl (Jvm.hb hby at_152) ?_
        show Steps p.tables e below (T61.setTop (mkF m 154 #[.val (.int rb), .val (.long ro), .second, .val (.int rs), .val (.int rn), .val (.ref b1), .val (.ref b39), .val (.int (Int32.ofNat m49)), .val (.int (Int32.ofNat m50)), .val (.int (Int32.ofNat (own_seg (own_sl [rr_5, rr_11, rr_17, rr_23, rr_29, rr_35]) m49 m50)))] [(.int (6 : Int32)), (.int (Int32.ofNat (own_seg (own_sl [rr_5, rr_11, rr_17, rr_23, rr_29, rr_35]) m49 m50)))])) _
        refine XS.icmpYes X61.here hx rfl (pc0 := 154) (pc' := 159) rfl (Jvm.hb hby at_154) rfl (flt (show ¬ ((Int32.ofNat 6) < _) from own_nlt ky2 (by decide))).2.2.2 (by decide) (by decide) ?_
        show Steps p.tables e below (T61.setTop (mkF m 159 #[.val (.int rb), .val (.long ro), .second, .val (.int rs), .val (.int rn), .val (.ref b1), .val (.ref b39), .val (.int (Int32.ofNat m49)), .val (.int (Int32.ofNat m50)), .val (.int (Int32.ofNat (own_seg (own_sl [rr_5, rr_11, rr_17, rr_23, rr_29, rr_35]) m49 m50)))] [])) _
        refine XS.aload X61.here hx rfl (Jvm.hb hby at_159) rfl rfl ?_
        show Steps p.tables e below (T61.setTop (mkF m 161 #[.val (.int rb), .val (.long ro), .second, .val (.int rs), .val (.int rn), .val (.ref b1), .val (.ref b39), .val (.int (Int32.ofNat m49)), .val (.int (Int32.ofNat m50)), .val (.int (Int32.ofNat (own_seg (own_sl [rr_5, rr_11, rr_17, rr_23, rr_29, rr_35]) m49 m50)))] [(.ref b1)])) _
        refine XS.iload X61.here hx rfl (Jvm.hb hby at_161) rfl ?_
        show Steps p.tables e below (T61.setTop (mkF m 163 #[.val (.int rb), .val (.long ro), .second, .val (.int rs), .val (.int rn), .val (.ref b1), .val (.ref b39), .val (.int (Int32.ofNat m49)), .val (.int (Int32.ofNat m50)), .val (.int (Int32.ofNat (own_seg (own_sl [rr_5, rr_11, rr_17, rr_23, rr_29, rr_35]) m49 m50)))] [(.int (Int32.ofNat (own_seg (own_sl [rr_5, rr_11, rr_17, rr_23, rr_29, rr_35]) m49 m50))), (.ref b1)])) _
        refine XS.iconst X61.here hx rfl (Jvm.hb hby at_163) ?_
        show Steps p.tables e below (T61.setTop (mkF m 164 #[.val (.int rb), .val (.long ro), .second, .val (.int rs), .val (.int rn), .val (.ref b1), .val (.ref b39), .val (.int (Int32.ofNat m49)), .val (.int (Int32.ofNat m50)), .val (.int (Int32.ofNat (own_seg (own_sl [rr_5, rr_11, rr_17, rr_23, rr_29, rr_35]) m49 m50)))] [(.int (1 : Int32)), (.int (Int32.ofNat (own_seg (own_sl [rr_5, rr_11, rr_17, rr_23, rr_29, rr_35]) m49 m50))), (.ref b1)])) _
        refine XS.isub X61.here hx rfl (Jvm.hb hby at_164) rfl ?_
        show Steps p.tables e below (T61.setTop (mkF m 165 #[.val (.int rb), .val (.long ro), .second, .val (.int rs), .val (.int rn), .val (.ref b1), .val (.ref b39), .val (.int (Int32.ofNat m49)), .val (.int (Int32.ofNat m50)), .val (.int (Int32.ofNat (own_seg (own_sl [rr_5, rr_11, rr_17, rr_23, rr_29, rr_35]) m49 m50)))] [(.int ((Int32.ofNat (own_seg (own_sl [rr_5, rr_11, rr_17, rr_23, rr_29, rr_35]) m49 m50)) - (1 : Int32))), (.ref b1)])) _
        refine castTop (g' := (mkF m 165 #[.val (.int rb), .val (.long ro), .second, .val (.int rs), .val (.int rn), .val (.ref b1), .val (.ref b39), .val (.int (Int32.ofNat m49)), .val (.int (Int32.ofNat m50)), .val (.int (Int32.ofNat (own_seg (own_sl [rr_5, rr_11, rr_17, rr_23, rr_29, rr_35]) m49 m50)))] [(.int (Int32.ofNat ((own_seg (own_sl [rr_5, rr_11, rr_17, rr_23, rr_29, rr_35]) m49 m50) - 1))), (.ref b1)])) (by rw [own_dn (Nat.le_trans (Nat.le_add_left 1 _) ky1)]) ?_
        show Steps p.tables e below (T61.setTop (mkF m 165 #[.val (.int rb), .val (.long ro), .second, .val (.int rs), .val (.int rn), .val (.ref b1), .val (.ref b39), .val (.int (Int32.ofNat m49)), .val (.int (Int32.ofNat m50)), .val (.int (Int32.ofNat (own_seg (own_sl [rr_5, rr_11, rr_17, rr_23, rr_29, rr_35]) m49 m50)))] [(.int (Int32.ofNat ((own_seg (own_sl [rr_5, rr_11, rr_17, rr_23, rr_29, rr_35]) m49 m50) - 1))), (.ref b1)])) _
        refine X61.caload hx (j := (Int32.ofNat ((own_seg (own_sl [rr_5, rr_11, rr_17, rr_23, rr_29, rr_35]) m49 m50) - 1))) (v := (.int ([rr_5, rr_11, rr_17, rr_23, rr_29, rr_35].getD ((own_seg (own_sl [rr_5, rr_11, rr_17, rr_23, rr_29, rr_35]) m49 m50) - 1) 0))) (by rw [e61]; exact Ar70.1) (State.isArrayOf_alike hZ.alike Ar70.2.1) Ar70.2.2 hin70 hat70 (g := (mkF m 165 #[.val (.int rb), .val (.long ro), .second, .val (.int rs), .val (.int rn), .val (.ref b1), .val (.ref b39), .val (.int (Int32.ofNat m49)), .val (.int (Int32.ofNat m50)), .val (.int (Int32.ofNat (own_seg (own_sl [rr_5, rr_11, rr_17, rr_23, rr_29, rr_35]) m49 m50)))] [(.int (Int32.ofNat ((own_seg (own_sl [rr_5, rr_11, rr_17, rr_23, rr_29, rr_35]) m49 m50) - 1))), (.ref b1)])) rfl rfl (Jvm.hb hby at_165) _ ?_
        show Steps p.tables e below (T61.setTop (mkF m 166 #[.val (.int rb), .val (.long ro), .second, .val (.int rs), .val (.int rn), .val (.ref b1), .val (.ref b39), .val (.int (Int32.ofNat m49)), .val (.int (Int32.ofNat m50)), .val (.int (Int32.ofNat (own_seg (own_sl [rr_5, rr_11, rr_17, rr_23, rr_29, rr_35]) m49 m50)))] [(.int ([rr_5, rr_11, rr_17, rr_23, rr_29, rr_35].getD ((own_seg (own_sl [rr_5, rr_11, rr_17, rr_23, rr_29, rr_35]) m49 m50) - 1) 0))])) _
        refine XS.bipush X61.here hx rfl (Jvm.hb hby at_166) ?_
        show Steps p.tables e below (T61.setTop (mkF m 168 #[.val (.int rb), .val (.long ro), .second, .val (.int rs), .val (.int rn), .val (.ref b1), .val (.ref b39), .val (.int (Int32.ofNat m49)), .val (.int (Int32.ofNat m50)), .val (.int (Int32.ofNat (own_seg (own_sl [rr_5, rr_11, rr_17, rr_23, rr_29, rr_35]) m49 m50)))] [(.int (47 : Int32)), (.int ([rr_5, rr_11, rr_17, rr_23, rr_29, rr_35].getD ((own_seg (own_sl [rr_5, rr_11, rr_17, rr_23, rr_29, rr_35]) m49 m50) - 1) 0))])) _
        refine XS.icmpYes X61.here hx rfl (pc0 := 168) (pc' := 173) rfl (Jvm.hb hby at_168) rfl (teq (by have := key.2.2.1; rw [own_slat [rr_5, rr_11, rr_17, rr_23, rr_29, rr_35] _ (by simp only [List.length_cons, List.length_nil]; omega)] at this; exact of_decide_eq_true this)).1 (by decide) (by decide) ?_
        show Steps p.tables e below (T61.setTop (mkF m 173 #[.val (.int rb), .val (.long ro), .second, .val (.int rs), .val (.int rn), .val (.ref b1), .val (.ref b39), .val (.int (Int32.ofNat m49)), .val (.int (Int32.ofNat m50)), .val (.int (Int32.ofNat (own_seg (own_sl [rr_5, rr_11, rr_17, rr_23, rr_29, rr_35]) m49 m50)))] [])) _
        refine XS.aload X61.here hx rfl (Jvm.hb hby at_173) rfl rfl ?_
        show Steps p.tables e below (T61.setTop (mkF m 175 #[.val (.int rb), .val (.long ro), .second, .val (.int rs), .val (.int rn), .val (.ref b1), .val (.ref b39), .val (.int (Int32.ofNat m49)), .val (.int (Int32.ofNat m50)), .val (.int (Int32.ofNat (own_seg (own_sl [rr_5, rr_11, rr_17, rr_23, rr_29, rr_35]) m49 m50)))] [(.ref b1)])) _
        refine XS.iload X61.here hx rfl (Jvm.hb hby at_175) rfl ?_
        show Steps p.tables e below (T61.setTop (mkF m 177 #[.val (.int rb), .val (.long ro), .second, .val (.int rs), .val (.int rn), .val (.ref b1), .val (.ref b39), .val (.int (Int32.ofNat m49)), .val (.int (Int32.ofNat m50)), .val (.int (Int32.ofNat (own_seg (own_sl [rr_5, rr_11, rr_17, rr_23, rr_29, rr_35]) m49 m50)))] [(.int (Int32.ofNat m49)), (.ref b1)])) _
        refine XS.iload X61.here hx rfl (Jvm.hb hby at_177) rfl ?_
        show Steps p.tables e below (T61.setTop (mkF m 179 #[.val (.int rb), .val (.long ro), .second, .val (.int rs), .val (.int rn), .val (.ref b1), .val (.ref b39), .val (.int (Int32.ofNat m49)), .val (.int (Int32.ofNat m50)), .val (.int (Int32.ofNat (own_seg (own_sl [rr_5, rr_11, rr_17, rr_23, rr_29, rr_35]) m49 m50)))] [(.int (Int32.ofNat (own_seg (own_sl [rr_5, rr_11, rr_17, rr_23, rr_29, rr_35]) m49 m50))), (.int (Int32.ofNat m49)), (.ref b1)])) _
        refine XS.iconst X61.here hx rfl (Jvm.hb hby at_179) ?_
        show Steps p.tables e below (T61.setTop (mkF m 180 #[.val (.int rb), .val (.long ro), .second, .val (.int rs), .val (.int rn), .val (.ref b1), .val (.ref b39), .val (.int (Int32.ofNat m49)), .val (.int (Int32.ofNat m50)), .val (.int (Int32.ofNat (own_seg (own_sl [rr_5, rr_11, rr_17, rr_23, rr_29, rr_35]) m49 m50)))] [(.int (1 : Int32)), (.int (Int32.ofNat (own_seg (own_sl [rr_5, rr_11, rr_17, rr_23, rr_29, rr_35]) m49 m50))), (.int (Int32.ofNat m49)), (.ref b1)])) _
        refine XS.isub X61.here hx rfl (Jvm.hb hby at_180) rfl ?_
        show Steps p.tables e below (T61.setTop (mkF m 181 #[.val (.int rb), .val (.long ro), .second, .val (.int rs), .val (.int rn), .val (.ref b1), .val (.ref b39), .val (.int (Int32.ofNat m49)), .val (.int (Int32.ofNat m50)), .val (.int (Int32.ofNat (own_seg (own_sl [rr_5, rr_11, rr_17, rr_23, rr_29, rr_35]) m49 m50)))] [(.int ((Int32.ofNat (own_seg (own_sl [rr_5, rr_11, rr_17, rr_23, rr_29, rr_35]) m49 m50)) - (1 : Int32))), (.int (Int32.ofNat m49)), (.ref b1)])) _
        refine castTop (g' := (mkF m 181 #[.val (.int rb), .val (.long ro), .second, .val (.int rs), .val (.int rn), .val (.ref b1), .val (.ref b39), .val (.int (Int32.ofNat m49)), .val (.int (Int32.ofNat m50)), .val (.int (Int32.ofNat (own_seg (own_sl [rr_5, rr_11, rr_17, rr_23, rr_29, rr_35]) m49 m50)))] [(.int (Int32.ofNat ((own_seg (own_sl [rr_5, rr_11, rr_17, rr_23, rr_29, rr_35]) m49 m50) - 1))), (.int (Int32.ofNat m49)), (.ref b1)])) (by rw [own_dn (Nat.le_trans (Nat.le_add_left 1 _) ky1)]) ?_
        show Steps p.tables e below (T61.setTop (mkF m 181 #[.val (.int rb), .val (.long ro), .second, .val (.int rs), .val (.int rn), .val (.ref b1), .val (.ref b39), .val (.int (Int32.ofNat m49)), .val (.int (Int32.ofNat m50)), .val (.int (Int32.ofNat (own_seg (own_sl [rr_5, rr_11, rr_17, rr_23, rr_29, rr_35]) m49 m50)))] [(.int (Int32.ofNat ((own_seg (own_sl [rr_5, rr_11, rr_17, rr_23, rr_29, rr_35]) m49 m50) - 1))), (.int (Int32.ofNat m49)), (.ref b1)])) _
        show Steps p.tables e below (T61.setTop (mkF m 181 #[.val (.int rb), .val (.long ro), .second, .val (.int rs), .val (.int rn), .val (.ref b1), .val (.ref b39), .val (.int (Int32.ofNat m49)), .val (.int (Int32.ofNat m50)), .val (.int (Int32.ofNat (own_seg (own_sl [rr_5, rr_11, rr_17, rr_23, rr_29, rr_35]) m49 m50)))] [(.int (Int32.ofNat ((own_seg (own_sl [rr_5, rr_11, rr_17, rr_23, rr_29, rr_35]) m49 m50) - 1))), (.int (Int32.ofNat m49)), (.ref b1)])) t_
        exact k_)
      have Zc72 : n0 ≤ h47.size := by omega
      obtain ⟨_, _, ⟨T73, L73, k73, n73⟩, -, X73, ⟨Lc73, hQ73, l73, y73, z73⟩, st73⟩ := Jvm.LawKit.callS X61 hx (y := (⟨"com/example/odysseus/odysseus/EscapesSegmentStartPinLaw", "countSlashes", "([CII)I"⟩ : MethodName)) hown (mvT hZ (hw _ (List.mem_of_getElem? (i := 36) rfl))) (mvT hZ (hw _ (List.mem_of_getElem? (i := 37) rfl))) (mvT hZ (hw _ (List.mem_of_getElem? (i := 3) rfl))) (mvT hZ (hw _ (List.mem_of_getElem? (i := 38) rfl))) (by decide) (backOf (W := 0) (rmCnt l Z a0 hw [] b1 [rr_5, rr_11, rr_17, rr_23, rr_29, rr_35] k1 m49 ((own_seg (own_sl [rr_5, rr_11, rr_17, rr_23, rr_29, rr_35]) m49 m50) - 1) h47 n0 Zc72 f52 rfl (by first | assumption | rfl | decide | omega : m49 ≤ 8000) (by first | assumption | rfl | decide | omega : ((own_seg (own_sl [rr_5, rr_11, rr_17, rr_23, rr_29, rr_35]) m49 m50) - 1) ≤ 8000)) hZ (hw _ (List.mem_of_getElem? (i := 38) rfl)) (hw _ (List.mem_of_getElem? (i := 3) rfl)) (by decide) (by decide)) (g := (mkF m 181 #[.val (.int rb), .val (.long ro), .second, .val (.int rs), .val (.int rn), .val (.ref b1), .val (.ref b39), .val (.int (Int32.ofNat m49)), .val (.int (Int32.ofNat m50)), .val (.int (Int32.ofNat (own_seg (own_sl [rr_5, rr_11, rr_17, rr_23, rr_29, rr_35]) m49 m50)))] [(.int (Int32.ofNat ((own_seg (own_sl [rr_5, rr_11, rr_17, rr_23, rr_29, rr_35]) m49 m50) - 1))), (.int (Int32.ofNat m49)), (.ref b1)])) rfl (by rw [hml]; rfl) (argsL := [(.ref b1), (.int (Int32.ofNat m49)), (.int (Int32.ofNat ((own_seg (own_sl [rr_5, rr_11, rr_17, rr_23, rr_29, rr_35]) m49 m50) - 1)))]) (rest := []) (lenOf pd___CII_I rfl) rfl (by show 2 * 0 + _ ≤ _; exact Nat.le_of_eq rfl) (Jvm.hb hby at_181) (fun _ _ => ⟨rfl, e61, (by decide : 3 + 0 ≤ _), (by decide : 16 + 0 ≤ _)⟩)
      dsimp only [Pt.U, Pt.locs, Pt.cells, Pt.slots] at X73 l73 y73 z73 st73 hQ73
      subst l73 y73 z73
      obtain ⟨rfl, N73q, e73⟩ := hQ73
      have N73 := Fr.app N61 N73q
      obtain ⟨q74, hq74⟩ : ∃ z : Int32, z = ((Int32.ofNat m50) - (1 : Int32)) := ⟨_, rfl⟩
      have s75 : ∀ t_, Steps p.tables e below (T73.setTop (mkF m 188 #[.val (.int rb), .val (.long ro), .second, .val (.int rs), .val (.int rn), .val (.ref b1), .val (.ref b39), .val (.int (Int32.ofNat m49)), .val (.int (Int32.ofNat m50)), .val (.int (Int32.ofNat (own_seg (own_sl [rr_5, rr_11, rr_17, rr_23, rr_29, rr_35]) m49 m50)))] [(.int q74), (.int (Int32.ofNat (own_cnt (own_sl [rr_5, rr_11, rr_17, rr_23, rr_29, rr_35]) m49 ((own_seg (own_sl [rr_5, rr_11, rr_17, rr_23, rr_29, rr_35]) m49 m50) - 1))))])) t_ → Steps p.tables e below (s₁.setTop (entryFrame m #[(.int rb), (.long ro), (.int rs), (.int rn)] maxLocals)) t_ := fun t_ k_ => s71 t_ (by
        show Steps p.tables e below (T61.setTop (mkF m 181 #[.val (.int rb), .val (.long ro), .second, .val (.int rs), .val (.int rn), .val (.ref b1), .val (.ref b39), .val (.int (Int32.ofNat m49)), .val (.int (Int32.ofNat m50)), .val (.int (Int32.ofNat (own_seg (own_sl [rr_5, rr_11, rr_17, rr_23, rr_29, rr_35]) m49 m50)))] [(.int (Int32.ofNat ((own_seg (own_sl [rr_5, rr_11, rr_17, rr_23, rr_29, rr_35]) m49 m50) - 1))), (.int (Int32.ofNat m49)), (.ref b1)])) t_
        refine st73 _ ?_
        show Steps p.tables e below (T73.setTop (mkF m 184 #[.val (.int rb), .val (.long ro), .second, .val (.int rs), .val (.int rn), .val (.ref b1), .val (.ref b39), .val (.int (Int32.ofNat m49)), .val (.int (Int32.ofNat m50)), .val (.int (Int32.ofNat (own_seg (own_sl [rr_5, rr_11, rr_17, rr_23, rr_29, rr_35]) m49 m50)))] [(.int (Int32.ofNat (own_cnt (own_sl [rr_5, rr_11, rr_17, rr_23, rr_29, rr_35]) m49 ((own_seg (own_sl [rr_5, rr_11, rr_17, rr_23, rr_29, rr_35]) m49 m50) - 1))))])) _
        refine XS.iload X73.here hx rfl (Jvm.hb hby at_184) rfl ?_
        show Steps p.tables e below (T73.setTop (mkF m 186 #[.val (.int rb), .val (.long ro), .second, .val (.int rs), .val (.int rn), .val (.ref b1), .val (.ref b39), .val (.int (Int32.ofNat m49)), .val (.int (Int32.ofNat m50)), .val (.int (Int32.ofNat (own_seg (own_sl [rr_5, rr_11, rr_17, rr_23, rr_29, rr_35]) m49 m50)))] [(.int (Int32.ofNat m50)), (.int (Int32.ofNat (own_cnt (own_sl [rr_5, rr_11, rr_17, rr_23, rr_29, rr_35]) m49 ((own_seg (own_sl [rr_5, rr_11, rr_17, rr_23, rr_29, rr_35]) m49 m50) - 1))))])) _
        refine XS.iconst X73.here hx rfl (Jvm.hb hby at_186) ?_
        show Steps p.tables e below (T73.setTop (mkF m 187 #[.val (.int rb), .val (.long ro), .second, .val (.int rs), .val (.int rn), .val (.ref b1), .val (.ref b39), .val (.int (Int32.ofNat m49)), .val (.int (Int32.ofNat m50)), .val (.int (Int32.ofNat (own_seg (own_sl [rr_5, rr_11, rr_17, rr_23, rr_29, rr_35]) m49 m50)))] [(.int (1 : Int32)), (.int (Int32.ofNat m50)), (.int (Int32.ofNat (own_cnt (own_sl [rr_5, rr_11, rr_17, rr_23, rr_29, rr_35]) m49 ((own_seg (own_sl [rr_5, rr_11, rr_17, rr_23, rr_29, rr_35]) m49 m50) - 1))))])) _
        refine XS.isub X73.here hx rfl (Jvm.hb hby at_187) rfl ?_
        show Steps p.tables e below (T73.setTop (mkF m 188 #[.val (.int rb), .val (.long ro), .second, .val (.int rs), .val (.int rn), .val (.ref b1), .val (.ref b39), .val (.int (Int32.ofNat m49)), .val (.int (Int32.ofNat m50)), .val (.int (Int32.ofNat (own_seg (own_sl [rr_5, rr_11, rr_17, rr_23, rr_29, rr_35]) m49 m50)))] [(.int ((Int32.ofNat m50) - (1 : Int32))), (.int (Int32.ofNat (own_cnt (own_sl [rr_5, rr_11, rr_17, rr_23, rr_29, rr_35]) m49 ((own_seg (own_sl [rr_5, rr_11, rr_17, rr_23, rr_29, rr_35]) m49 m50) - 1))))])) _
        exact castTop (by simp only [hq74]) k_)
      obtain ⟨q76, hq76⟩ : ∃ z : Int32, z = (if (Int32.ofNat (own_cnt (own_sl [rr_5, rr_11, rr_17, rr_23, rr_29, rr_35]) m49 ((own_seg (own_sl [rr_5, rr_11, rr_17, rr_23, rr_29, rr_35]) m49 m50) - 1))) = q74 then (1 : Int32) else (0 : Int32)) := ⟨_, rfl⟩
      obtain ⟨T77, X77, e77, s77⟩ := seg X73 (fun T' => T'.heap = h47 ∧ ∀ t_, Steps p.tables e below (T'.setTop (mkF m 196 #[.val (.int rb), .val (.long ro), .second, .val (.int rs), .val (.int rn), .val (.ref b1), .val (.ref b39), .val (.int (Int32.ofNat m49)), .val (.int (Int32.ofNat m50)), .val (.int (Int32.ofNat (own_seg (own_sl [rr_5, rr_11, rr_17, rr_23, rr_29, rr_35]) m49 m50)))] [(.int q76)])) t_ → Steps p.tables e below (s₁.setTop (entryFrame m #[(.int rb), (.long ro), (.int rs), (.int rn)] maxLocals)) t_) (by
        by_cases h78 : (Int32.ofNat (own_cnt (own_sl [rr_5, rr_11, rr_17, rr_23, rr_29, rr_35]) m49 ((own_seg (own_sl [rr_5, rr_11, rr_17, rr_23, rr_29, rr_35]) m49 m50) - 1))) = q74
        · have s79 : ∀ t_, Steps p.tables e below (T73.setTop (mkF m 196 #[.val (.int rb), .val (.long ro), .second, .val (.int rs), .val (.int rn), .val (.ref b1), .val (.ref b39), .val (.int (Int32.ofNat m49)), .val (.int (Int32.ofNat m50)), .val (.int (Int32.ofNat (own_seg (own_sl [rr_5, rr_11, rr_17, rr_23, rr_29, rr_35]) m49 m50)))] [(.int (1 : Int32))])) t_ → Steps p.tables e below (s₁.setTop (entryFrame m #[(.int rb), (.long ro), (.int rs), (.int rn)] maxLocals)) t_ := fun t_ k_ => s75 t_ (by
            show Steps p.tables e below (T73.setTop (mkF m 188 #[.val (.int rb), .val (.long ro), .second, .val (.int rs), .val (.int rn), .val (.ref b1), .val (.ref b39), .val (.int (Int32.ofNat m49)), .val (.int (Int32.ofNat m50)), .val (.int (Int32.ofNat (own_seg (own_sl [rr_5, rr_11, rr_17, rr_23, rr_29, rr_35]) m49 m50)))] [(.int q74), (.int (Int32.ofNat (own_cnt (own_sl [rr_5, rr_11, rr_17, rr_23, rr_29, rr_35]) m49 ((own_seg (own_sl [rr_5, rr_11, rr_17, rr_23, rr_29, rr_35]) m49 m50) - 1))))])) t_
            refine XS.icmpNo X73.here hx rfl (Jvm.hb hby at_188) rfl (teq h78).2 ?_
            show Steps p.tables e below (T73.setTop (mkF m 191 #[.val (.int rb), .val (.long ro), .second, .val (.int rs), .val (.int rn), .val (.ref b1), .val (.ref b39), .val (.int (Int32.ofNat m49)), .val (.int (Int32.ofNat m50)), .val (.int (Int32.ofNat (own_seg (own_sl [rr_5, rr_11, rr_17, rr_23, rr_29, rr_35]) m49 m50)))] [])) _
            refine XS.iconst X73.here hx rfl (Jvm.hb hby at_191) ?_
            show Steps p.tables e below (T73.setTop (mkF m 192 #[.val (.int rb), .val (.long ro), .second, .val (.int rs), .val (.int rn), .val (.ref b1), .val (.ref b39), .val (.int (Int32.ofNat m49)), .val (.int (Int32.ofNat m50)), .val (.int (Int32.ofNat (own_seg (own_sl [rr_5, rr_11, rr_17, rr_23, rr_29, rr_35]) m49 m50)))] [(.int (1 : Int32))])) _
            refine XS.goto X73.here hx rfl (pc0 := 192) (pc' := 196) rfl (Jvm.hb hby at_192) (by decide) (by decide) ?_
            show Steps p.tables e below (T73.setTop (mkF m 196 #[.val (.int rb), .val (.long ro), .second, .val (.int rs), .val (.int rn), .val (.ref b1), .val (.ref b39), .val (.int (Int32.ofNat m49)), .val (.int (Int32.ofNat m50)), .val (.int (Int32.ofNat (own_seg (own_sl [rr_5, rr_11, rr_17, rr_23, rr_29, rr_35]) m49 m50)))] [(.int (1 : Int32))])) _
            show Steps p.tables e below (T73.setTop (mkF m 196 #[.val (.int rb), .val (.long ro), .second, .val (.int rs), .val (.int rn), .val (.ref b1), .val (.ref b39), .val (.int (Int32.ofNat m49)), .val (.int (Int32.ofNat m50)), .val (.int (Int32.ofNat (own_seg (own_sl [rr_5, rr_11, rr_17, rr_23, rr_29, rr_35]) m49 m50)))] [(.int (1 : Int32))])) t_
            exact k_)
          exact ⟨T73, X73, e73, fun t_ k_ => s79 t_ (castTop (by simp only [hq76, if_pos h78]) k_)⟩
        · have s80 : ∀ t_, Steps p.tables e below (T73.setTop (mkF m 196 #[.val (.int rb), .val (.long ro), .second, .val (.int rs), .val (.int rn), .val (.ref b1), .val (.ref b39), .val (.int (Int32.ofNat m49)), .val (.int (Int32.ofNat m50)), .val (.int (Int32.ofNat (own_seg (own_sl [rr_5, rr_11, rr_17, rr_23, rr_29, rr_35]) m49 m50)))] [(.int (0 : Int32))])) t_ → Steps p.tables e below (s₁.setTop (entryFrame m #[(.int rb), (.long ro), (.int rs), (.int rn)] maxLocals)) t_ := fun t_ k_ => s75 t_ (by
            show Steps p.tables e below (T73.setTop (mkF m 188 #[.val (.int rb), .val (.long ro), .second, .val (.int rs), .val (.int rn), .val (.ref b1), .val (.ref b39), .val (.int (Int32.ofNat m49)), .val (.int (Int32.ofNat m50)), .val (.int (Int32.ofNat (own_seg (own_sl [rr_5, rr_11, rr_17, rr_23, rr_29, rr_35]) m49 m50)))] [(.int q74), (.int (Int32.ofNat (own_cnt (own_sl [rr_5, rr_11, rr_17, rr_23, rr_29, rr_35]) m49 ((own_seg (own_sl [rr_5, rr_11, rr_17, rr_23, rr_29, rr_35]) m49 m50) - 1))))])) t_
            refine XS.icmpYes X73.here hx rfl (pc0 := 188) (pc' := 195) rfl (Jvm.hb hby at_188) rfl (feq h78).2 (by decide) (by decide) ?_
            show Steps p.tables e below (T73.setTop (mkF m 195 #[.val (.int rb), .val (.long ro), .second, .val (.int rs), .val (.int rn), .val (.ref b1), .val (.ref b39), .val (.int (Int32.ofNat m49)), .val (.int (Int32.ofNat m50)), .val (.int (Int32.ofNat (own_seg (own_sl [rr_5, rr_11, rr_17, rr_23, rr_29, rr_35]) m49 m50)))] [])) _
            refine XS.iconst X73.here hx rfl (Jvm.hb hby at_195) ?_
            show Steps p.tables e below (T73.setTop (mkF m 196 #[.val (.int rb), .val (.long ro), .second, .val (.int rs), .val (.int rn), .val (.ref b1), .val (.ref b39), .val (.int (Int32.ofNat m49)), .val (.int (Int32.ofNat m50)), .val (.int (Int32.ofNat (own_seg (own_sl [rr_5, rr_11, rr_17, rr_23, rr_29, rr_35]) m49 m50)))] [(.int (0 : Int32))])) _
            show Steps p.tables e below (T73.setTop (mkF m 196 #[.val (.int rb), .val (.long ro), .second, .val (.int rs), .val (.int rn), .val (.ref b1), .val (.ref b39), .val (.int (Int32.ofNat m49)), .val (.int (Int32.ofNat m50)), .val (.int (Int32.ofNat (own_seg (own_sl [rr_5, rr_11, rr_17, rr_23, rr_29, rr_35]) m49 m50)))] [(.int (0 : Int32))])) t_
            exact k_)
          exact ⟨T73, X73, e73, fun t_ k_ => s80 t_ (castTop (by simp only [hq76, if_neg h78]) k_)⟩)
      obtain ⟨fs, hr, hrun, hended, hW, hsame⟩ := X77.leave (v := some (.int (nar .boolean q76))) (fun h => by rw [Bd.returns] at h; cases h)
      have hone : q76 = 1 := by
        rw [hq76, if_pos]
        rw [key.2.2.2, hq74]; exact (own_dn (own_pos h63)).symm
      refine ⟨_, _, s77 _ ?_, hrun, hended, _, _, rfl, ?_, ⟨_, rfl⟩, hW, hsame.mono (by decide) (by decide)⟩
      · show Steps p.tables e below (T77.setTop (mkF m 196 #[.val (.int rb), .val (.long ro), .second, .val (.int rs), .val (.int rn), .val (.ref b1), .val (.ref b39), .val (.int (Int32.ofNat m49)), .val (.int (Int32.ofNat m50)), .val (.int (Int32.ofNat (own_seg (own_sl [rr_5, rr_11, rr_17, rr_23, rr_29, rr_35]) m49 m50)))] [(.int q76)])) _
        exact retN X77 hx (t := .boolean) Bd.returns (by simp) (Jvm.hb hby at_196) hr
      · show Q_rmLaw Z _ _ _ _ _ h0 n0 _ T77.heap _
        rw [e77]
        exact ⟨by rw [hone]; rfl, N73⟩
set_option maxRecDepth 65536 in
set_option maxHeartbeats 40000000 in
theorem comes_1 {Post : Tables → Env → Array Value → State → Outcome → State → Prop} (hpost : ∀ tb e args s v u, (limb_1_1.after args s (.returned v) u = true ∧ limb_1_2.after args s (.returned v) u = true ∧ True) → FrameEnd s (.returned v) u (Jvm.fieldLocs frame_1_writes args s ++ Jvm.arrayLocs frame_1_arrays args s ++ Jvm.staticLocs frame_1_statics s) 16 128 → Post tb e args s (.returned v) u) :
    ArmFor flags0 classFile x code maxLocals ret World_1 tables_1 room_1 Calls_1 rest_1 Pre_1 Post := by
  intro l hfl _ _ p e ha hc hk s m args below hf hA hF happ hP
  obtain ⟨hcalls, hrest, hpre⟩ := hP
  obtain ⟨-, -, -, hnamed, -, -, -, hat⟩ := (Spec.applies_iff hf).mp happ
  obtain ⟨hg, hn⟩ := and_e (Cond.before_iff.mp (show (Jvm.Cond.and given_1 narrow_1).before args s = true from hpre))
  obtain ⟨ga, gr⟩ := and_e hg
  obtain ⟨g0, gr0⟩ := and_e gr
  obtain ⟨g1, gr1⟩ := and_e gr0
  obtain ⟨g2, gr2⟩ := and_e gr1
  obtain ⟨w0, w1, w2, w3, rfl⟩ : ∃ w0 w1 w2 w3 : Value, args = #[w0, w1, w2, w3] := by
    have hs : args.size = 4 := by simpa [Cond.value, given_1] using ga
    obtain ⟨L⟩ := args
    match L, hs with
    | [w0, w1, w2, w3], _ => exact ⟨w0, w1, w2, w3, rfl⟩
  have hw := fun d (hd : d ∈ tables_1) => atoms_spec (ws := Jvm.Cond.code x code maxLocals ret :: tables_1) hat d (List.mem_cons_of_mem _ hd)
  have hfit : Fit s := fun {y c} hc i hi => by
    obtain ⟨ha, rfl⟩ := Array.getElem?_eq_some_iff.mp hc
    have q := List.all_eq_true.mp ((Array.all_eq_true_iff_forall_mem.mp hF) _ (Array.getElem_mem ha)) i (List.mem_range.mpr hi)
    simpa [Array.getElem?_eq_getElem hi] using q
  obtain ⟨hsets, hown0⟩ := atoms_of _ (rest_1_c_eq ▸ (show rest_1_c.before _ s = true from hrest))
  have hr0 := Cond.before_iff.mp hown0
  obtain ⟨i0, ei0⟩ := is_v g0
  obtain rfl : w0 = (.int i0) := Option.some.inj ei0
  obtain ⟨i1, ei1⟩ := isL_v g1
  obtain rfl : w1 = (.long i1) := Option.some.inj ei1
  obtain ⟨i2, ei2⟩ := is_v g2
  obtain rfl : w2 = (.int i2) := Option.some.inj ei2
  obtain ⟨i3, ei3⟩ := is_v gr2
  obtain rfl : w3 = (.int i3) := Option.some.inj ei3
  obtain ⟨cst, ecs⟩ := is_v (Cond.before_iff.mp (hsets _ (List.mem_of_getElem? (i := 1) rfl)))
  have hcst : ¬ (cst = (0 : Int32)) := fun q => by
    have h1 := not_v (Cond.before_iff.mp (hsets _ (List.mem_of_getElem? (i := 2) rfl)))
    rw [Cond.eq_ints ecs (Term.int_eval 0)] at h1
    simp [q] at h1
  obtain ⟨n, o, h1, h2, h3, _, L, rfl, ⟨rfl, N⟩, hq⟩ := rmLaw l s _ hw tables_1 i0 i1 i2 i3 cst s.heap s.heap.size (Nat.le_refl _) (Sta.start ecs (Or.inl (hsets _ (List.mem_of_getElem? (i := 0) rfl)))) (Old.start s) hcst p e ha hc hk s m _ below hf ((Spec.applies_iff_loose hf).mp happ).1 ⟨rfl, State.Warmed39.refl s, rfl⟩ trivial
  refine ⟨n, _, h1, h2, h3, hpost _ _ _ _ _ _ ⟨Cond.after_iff.mpr rfl, Cond.after_iff.mpr (eq_i res_at (Term.int_eval (1)) rfl), trivial⟩ ⟨hq.1, hq.2.1, (hq.2.2.sift fun y hy => Or.inr (N y hy)).mono (by decide) (by decide)⟩⟩
theorem main_1_1 : Claimed_1_1 := comes_1 fun _ _ _ _ _ _ h hF => ⟨h.1, hF⟩
theorem main_1_2 : Claimed_1_2 := comes_1 fun _ _ _ _ _ _ h hF => ⟨h.2.1, hF⟩
end Jvm.Pilot.@@N@@
namespace Jvm.Pilot.@@N@@
open Jvm Jvm.ClassFile Sem Op Lib Jvm.Free Jvm.Stand Jvm.Pilot.@@N@@.Jvm.D
/-! MADE BY PROGRAM (witnessworld.py) out of the Statement's table words and the real class files: 21 classes; the members and pool entries that the words name. The judged class is class 1, her method 4. -/
namespace start1
open Jvm.ClassFile
def u (s : String) : CpInfo := .utf8 (stringToUtf16 s)
/-- a pool by its gaps: so many unusable entries, then the entry; so many at the end -/
def gap : Nat → List CpInfo → List CpInfo
  | 0, r => r
  | n + 1, r => .unusable :: gap n r
def poolList (es : List (Nat × CpInfo)) (last : Nat) : List CpInfo := es.foldr (fun e r => gap e.1 (e.2 :: r)) (gap last [])
def pool (es : List (Nat × CpInfo)) (last : Nat) : Array CpInfo := ⟨poolList es last⟩
def fileOf (pool : Array CpInfo) (this : Nat) (attrs : Array Attribute := #[]) (ms : Array MethodInfo := #[]) (fl : Nat := 33) (sup : Nat := 0) (ifs : Array Nat := #[]) (fds : Array FieldInfo := #[]) : ClassFile where
  minorVersion := 0
  majorVersion := 65
  constantPool := pool
  accessFlags := fl
  thisClass := this
  superClass := sup
  interfaces := ifs
  fields := fds
  methods := ms
  attributes := attrs
def plain (name : String) (sup : Option ClassId) : Class where
  name := name
  kind := .ordinary
  loader := none
  accessFlags := 33
  super := sup
  interfaces := #[]
  cf := none
  fields := #[]
  methods := #[]
  instanceTypes := #[]
  staticTypes := #[]
  resolved := #[]
  callSites := []
  init := .initialized
  statics := none
  mirror := none

def pool0 : Array CpInfo := pool [(5, u "<init>"), (0, u "()V"), (1, .class_ 10), (1, u "java/lang/Object")] 113

def k0c0 : Code := { maxStack := 0, maxLocals := 1, code := object_method_1_code, exceptionTable := #[], attributes := #[] }
def k0m0 : Method := { name := "<init>", desc := "()V", sig := { parameters := [], returnType := none }, accessFlags := 1, code := some k0c0 }
/-- java/lang/Object -/
def k0 : Class := { plain "java/lang/Object" none with
  accessFlags := 33
  interfaces := #[]
  cf := some (fileOf pool0 8 #[] #[{ accessFlags := 1, nameIndex := 5, descriptorIndex := 6, attributes := #[] }] 33 0 #[] #[])
  fields := #[]
  methods := #[k0m0]
  instanceTypes := #[]
  staticTypes := #[]
  resolved := Array.replicate 124 none
  statics := none }

def pool1 : Array CpInfo := pool [(2, .class_ 4), (1, u "java/lang/Object"), (0, u "<init>"), (0, u "()V"), (0, .long 255), (1, .methodref 10 11), (0, .class_ 12), (0, .nameAndType 13 14), (0, u "com/example/odysseus/odysseus/EscapesSegmentStartPinLaw"), (0, u "one"), (0, u "([CIII)I"), (0, .methodref 10 16), (0, .nameAndType 17 18), (0, u "draw"), (0, u "(IJI)C"), (0, .class_ 20), (0, u "java/lang/String"), (0, .methodref 19 22), (0, .nameAndType 5 23), (0, u "([C)V"), (0, .integer 2147483647), (0, .methodref 10 26), (0, .nameAndType 27 28), (0, u "countSlashes"), (0, u "([CII)I"), (0, .methodref 30 31), (0, .class_ 32), (0, .nameAndType 33 34), (0, u "com/example/odysseus/odysseus/Escapes"), (0, u "segmentStart"), (0, u "(Ljava/lang/String;II)I"), (3, u "law"), (0, u "(IJII)Z")] 4

def k1m0 : Method := { name := "<init>", desc := "()V", sig := { parameters := [], returnType := none }, accessFlags := 1, code := none }
def k1c1 : Code := { maxStack := 4, maxLocals := 4, code := method_2_code, exceptionTable := #[], attributes := #[] }
def k1m1 : Method := { name := "draw", desc := "(IJI)C", sig := { parameters := [.int, .long, .int], returnType := some .char }, accessFlags := 10, code := some k1c1 }
def k1c2 : Code := { maxStack := 2, maxLocals := 4, code := method_3_code, exceptionTable := #[], attributes := #[] }
def k1m2 : Method := { name := "one", desc := "([CIII)I", sig := { parameters := [(.array .char), .int, .int, .int], returnType := some .int }, accessFlags := 10, code := some k1c2 }
def k1c3 : Code := { maxStack := 5, maxLocals := 3, code := method_4_code, exceptionTable := #[], attributes := #[] }
def k1m3 : Method := { name := "countSlashes", desc := "([CII)I", sig := { parameters := [(.array .char), .int, .int], returnType := some .int }, accessFlags := 10, code := some k1c3 }
def k1c4 : Code := { maxStack := 6, maxLocals := 10, code := code, exceptionTable := #[], attributes := #[] }
def k1m4 : Method := { name := "law", desc := "(IJII)Z", sig := { parameters := [.int, .long, .int, .int], returnType := some .boolean }, accessFlags := 9, code := some k1c4 }
/-- com/example/odysseus/odysseus/EscapesSegmentStartPinLaw -/
def k1 : Class := { plain "com/example/odysseus/odysseus/EscapesSegmentStartPinLaw" (some 0) with
  accessFlags := 49
  interfaces := #[]
  cf := some (fileOf pool1 10 #[] #[{ accessFlags := 1, nameIndex := 5, descriptorIndex := 6, attributes := #[] }, { accessFlags := 10, nameIndex := 17, descriptorIndex := 18, attributes := #[] }, { accessFlags := 10, nameIndex := 13, descriptorIndex := 14, attributes := #[] }, { accessFlags := 10, nameIndex := 27, descriptorIndex := 28, attributes := #[] }, { accessFlags := 9, nameIndex := 38, descriptorIndex := 39, attributes := #[] }] 49 2 #[] #[])
  fields := #[]
  methods := #[k1m0, k1m1, k1m2, k1m3, k1m4]
  instanceTypes := #[]
  staticTypes := #[]
  resolved := Array.replicate 44 none
  statics := none }

def pool2 : Array CpInfo := pool [(1, .class_ 2), (0, u "java/io/Serializable"), (0, .class_ 4), (0, u "java/lang/Object")] 2

/-- java/io/Serializable -/
def k2 : Class := { plain "java/io/Serializable" (some 0) with
  accessFlags := 1537
  interfaces := #[]
  cf := some (fileOf pool2 1 #[] #[] 1537 3 #[] #[])
  fields := #[]
  methods := #[]
  instanceTypes := #[]
  staticTypes := #[]
  resolved := Array.replicate 7 none
  statics := none }

def pool3 : Array CpInfo := pool [(1, .class_ 2), (0, u "java/lang/Comparable"), (0, .class_ 4), (0, u "java/lang/Object")] 7

/-- java/lang/Comparable -/
def k3 : Class := { plain "java/lang/Comparable" (some 0) with
  accessFlags := 1537
  interfaces := #[]
  cf := some (fileOf pool3 1 #[] #[] 1537 3 #[] #[])
  fields := #[]
  methods := #[]
  instanceTypes := #[]
  staticTypes := #[]
  resolved := Array.replicate 12 none
  statics := none }

def pool4 : Array CpInfo := pool [(2, .class_ 4), (1, u "java/lang/CharSequence"), (42, .class_ 48), (0, u "java/lang/CharSequence$1CodePointIterator"), (10, .class_ 60), (0, u "java/lang/CharSequence$1CharIterator"), (5, .class_ 67), (0, u "java/lang/Object")] 63

/-- java/lang/CharSequence -/
def k4 : Class := { plain "java/lang/CharSequence" (some 0) with
  accessFlags := 1537
  interfaces := #[]
  cf := some (fileOf pool4 2 #[.nestMembers #[47, 59]] #[] 1537 66 #[] #[])
  fields := #[]
  methods := #[]
  instanceTypes := #[]
  staticTypes := #[]
  resolved := Array.replicate 131 none
  statics := none }

def pool5 : Array CpInfo := pool [(1, .class_ 2), (0, u "java/lang/constant/Constable"), (0, .class_ 4), (0, u "java/lang/Object")] 6

/-- java/lang/constant/Constable -/
def k5 : Class := { plain "java/lang/constant/Constable" (some 0) with
  accessFlags := 1537
  interfaces := #[]
  cf := some (fileOf pool5 1 #[] #[] 1537 3 #[] #[])
  fields := #[]
  methods := #[]
  instanceTypes := #[]
  staticTypes := #[]
  resolved := Array.replicate 11 none
  statics := none }

def pool6 : Array CpInfo := pool [(1, .class_ 2), (0, u "java/lang/constant/ConstantDesc"), (0, .class_ 4), (0, u "java/lang/Object")] 32

/-- java/lang/constant/ConstantDesc -/
def k6 : Class := { plain "java/lang/constant/ConstantDesc" (some 0) with
  accessFlags := 1537
  interfaces := #[]
  cf := some (fileOf pool6 1 #[] #[] 1537 3 #[] #[])
  fields := #[]
  methods := #[]
  instanceTypes := #[]
  staticTypes := #[]
  resolved := Array.replicate 37 none
  statics := none }

def pool7 : Array CpInfo := pool [(1, .methodref 2 3), (0, .class_ 4), (0, .nameAndType 5 6), (0, u "java/lang/Object"), (0, u "<init>"), (0, u "()V"), (2, .fieldref 10 11), (0, .class_ 12), (0, .nameAndType 13 14), (0, u "java/lang/String"), (0, u "value"), (0, u "[B"), (0, .fieldref 10 16), (0, .nameAndType 17 18), (0, u "coder"), (0, u "B"), (2, u "hash"), (0, u "I"), (2, u "hashIsZero"), (0, u "Z"), (0, .methodref 10 28), (0, .nameAndType 5 29), (0, u "([CIILjava/lang/Void;)V"), (8, .fieldref 10 39), (0, .nameAndType 40 26), (0, u "COMPACT_STRINGS"), (1, .class_ 44), (1, u "java/lang/StringUTF16"), (0, u "compress"), (1, .methodref 42 48), (0, .nameAndType 49 50), (0, u "coderFromArrayLen"), (0, u "([BI)B"), (56, .class_ 109), (1, u "java/lang/StringLatin1"), (32, u "()Z"), (34, .methodref 42 178), (0, .nameAndType 45 179), (0, u "([CII)[B"), (154, u "()I"), (0, .methodref 10 336), (0, .nameAndType 17 337), (0, u "()B"), (154, .methodref 10 493), (0, .nameAndType 494 142), (0, u "isLatin1"), (10, .methodref 10 506), (0, .nameAndType 507 334), (0, u "length"), (67, .class_ 576), (0, u "java/lang/CharSequence"), (22, u "CASE_INSENSITIVE_ORDER"), (0, u "Ljava/util/Comparator;"), (34, u "indexOf"), (0, u "(II)I"), (0, .methodref 107 638), (0, .nameAndType 635 639), (0, u "([BIII)I"), (370, u "([C)V"), (90, u "serialPersistentFields"), (0, u "[Ljava/io/ObjectStreamField;"), (0, .class_ 1104), (0, u "java/lang/String$CaseInsensitiveComparator"), (1, .class_ 1107), (0, u "java/io/Serializable"), (0, .class_ 1109), (0, u "java/lang/Comparable"), (0, .class_ 1111), (0, u "java/lang/constant/Constable"), (0, .class_ 1113), (0, u "java/lang/constant/ConstantDesc"), (2, u "serialVersionUID"), (0, u "J"), (3, u "REPL"), (0, u "C"), (2, u "LATIN1"), (1, u "UTF16")] 323

def k7m0 : Method := { name := "<init>", desc := "()V", sig := { parameters := [], returnType := none }, accessFlags := 1, code := none }
def k7c1 : Code := { maxStack := 5, maxLocals := 2, code := jdk_42_method_3_code, exceptionTable := #[], attributes := #[] }
def k7m1 : Method := { name := "<init>", desc := "([C)V", sig := { parameters := [(.array .char)], returnType := none }, accessFlags := 1, code := some k7c1 }
def k7c2 : Code := { maxStack := 2, maxLocals := 1, code := jdk_42_method_54_code, exceptionTable := #[], attributes := #[] }
def k7m2 : Method := { name := "length", desc := "()I", sig := { parameters := [], returnType := some .int }, accessFlags := 1, code := some k7c2 }
def k7c3 : Code := { maxStack := 4, maxLocals := 3, code := jdk_42_method_80_code, exceptionTable := #[], attributes := #[] }
def k7m3 : Method := { name := "indexOf", desc := "(II)I", sig := { parameters := [.int, .int], returnType := some .int }, accessFlags := 1, code := some k7c3 }
def k7c4 : Code := { maxStack := 4, maxLocals := 6, code := jdk_42_method_149_code, exceptionTable := #[], attributes := #[] }
def k7m4 : Method := { name := "<init>", desc := "([CIILjava/lang/Void;)V", sig := { parameters := [(.array .char), .int, .int, (.object "java/lang/Void")], returnType := none }, accessFlags := 2, code := some k7c4 }
def k7c5 : Code := { maxStack := 1, maxLocals := 1, code := jdk_42_method_152_code, exceptionTable := #[], attributes := #[] }
def k7m5 : Method := { name := "coder", desc := "()B", sig := { parameters := [], returnType := some .byte }, accessFlags := 0, code := some k7c5 }
def k7c6 : Code := { maxStack := 1, maxLocals := 1, code := jdk_42_method_154_code, exceptionTable := #[], attributes := #[] }
def k7m6 : Method := { name := "isLatin1", desc := "()Z", sig := { parameters := [], returnType := some .boolean }, accessFlags := 0, code := some k7c6 }
/-- java/lang/String -/
def k7 : Class := { plain "java/lang/String" (some 0) with
  accessFlags := 49
  interfaces := #[2, 3, 4, 5, 6]
  cf := some (fileOf pool7 10 #[.nestMembers #[1103]] #[{ accessFlags := 1, nameIndex := 5, descriptorIndex := 6, attributes := #[] }, { accessFlags := 1, nameIndex := 5, descriptorIndex := 1010, attributes := #[] }, { accessFlags := 1, nameIndex := 507, descriptorIndex := 334, attributes := #[] }, { accessFlags := 1, nameIndex := 635, descriptorIndex := 636, attributes := #[] }, { accessFlags := 2, nameIndex := 5, descriptorIndex := 29, attributes := #[] }, { accessFlags := 0, nameIndex := 17, descriptorIndex := 337, attributes := #[] }, { accessFlags := 0, nameIndex := 494, descriptorIndex := 142, attributes := #[] }] 49 2 #[1106, 1108, 575, 1110, 1112] #[{ accessFlags := 18, nameIndex := 13, descriptorIndex := 14, attributes := #[] }, { accessFlags := 18, nameIndex := 17, descriptorIndex := 18, attributes := #[] }, { accessFlags := 2, nameIndex := 21, descriptorIndex := 22, attributes := #[] }, { accessFlags := 2, nameIndex := 25, descriptorIndex := 26, attributes := #[] }, { accessFlags := 26, nameIndex := 1116, descriptorIndex := 1117, attributes := #[] }, { accessFlags := 24, nameIndex := 40, descriptorIndex := 26, attributes := #[] }, { accessFlags := 26, nameIndex := 1101, descriptorIndex := 1102, attributes := #[] }, { accessFlags := 26, nameIndex := 1121, descriptorIndex := 1122, attributes := #[] }, { accessFlags := 25, nameIndex := 599, descriptorIndex := 600, attributes := #[] }, { accessFlags := 24, nameIndex := 1125, descriptorIndex := 18, attributes := #[] }, { accessFlags := 24, nameIndex := 1127, descriptorIndex := 18, attributes := #[] }])
  fields := #[{ name := "value", type := (.array .byte), accessFlags := 18, slot := 0, constantValue := 0 }, { name := "coder", type := .byte, accessFlags := 18, slot := 1, constantValue := 0 }, { name := "hash", type := .int, accessFlags := 2, slot := 2, constantValue := 0 }, { name := "hashIsZero", type := .boolean, accessFlags := 2, slot := 3, constantValue := 0 }, { name := "serialVersionUID", type := .long, accessFlags := 26, slot := 0, constantValue := 0 }, { name := "COMPACT_STRINGS", type := .boolean, accessFlags := 24, slot := 1, constantValue := 0 }, { name := "serialPersistentFields", type := (.array (.object "java/io/ObjectStreamField")), accessFlags := 26, slot := 2, constantValue := 0 }, { name := "REPL", type := .char, accessFlags := 26, slot := 3, constantValue := 0 }, { name := "CASE_INSENSITIVE_ORDER", type := (.object "java/util/Comparator"), accessFlags := 25, slot := 4, constantValue := 0 }, { name := "LATIN1", type := .byte, accessFlags := 24, slot := 5, constantValue := 0 }, { name := "UTF16", type := .byte, accessFlags := 24, slot := 6, constantValue := 0 }]
  methods := #[k7m0, k7m1, k7m2, k7m3, k7m4, k7m5, k7m6]
  instanceTypes := #[(.array .byte), .byte, .int, .boolean]
  staticTypes := #[.long, .boolean, (.array (.object "java/io/ObjectStreamField")), .char, (.object "java/util/Comparator"), .byte, .byte]
  resolved := Array.replicate 1451 none
  statics := some 0 }

def pool8 : Array CpInfo := pool [(6, .class_ 8), (1, u "java/lang/Object"), (0, u "<init>"), (0, u "()V"), (1, .class_ 14), (1, u "java/lang/StringUTF16"), (31, u "$assertionsDisabled"), (0, u "Z"), (13, u "HI_BYTE_SHIFT"), (0, u "I"), (2, u "LO_BYTE_SHIFT"), (49, .methodref 12 116), (0, .nameAndType 117 118), (0, u "compress"), (0, u "([CI[BII)I"), (3, u "([CII)[B"), (138, u "coderFromArrayLen"), (0, u "([BI)B"), (106, .class_ 371), (1, u "java/lang/StringUTF16$LinesSpliterator"), (58, u "MAX_LENGTH"), (196, .class_ 628), (0, u "java/lang/StringUTF16$CodePointsSpliterator"), (0, .class_ 630), (0, u "java/lang/StringUTF16$CharsSpliterator")] 4

def k8m0 : Method := { name := "<init>", desc := "()V", sig := { parameters := [], returnType := none }, accessFlags := 0, code := none }
def k8c1 : Code := { maxStack := 2, maxLocals := 2, code := jdk_52_method_15_code, exceptionTable := #[], attributes := #[] }
def k8m1 : Method := { name := "coderFromArrayLen", desc := "([BI)B", sig := { parameters := [(.array .byte), .int], returnType := some .byte }, accessFlags := 8, code := some k8c1 }
def k8c2 : Code := { maxStack := 5, maxLocals := 6, code := jdk_52_method_16_code, exceptionTable := #[], attributes := #[] }
def k8m2 : Method := { name := "compress", desc := "([CII)[B", sig := { parameters := [(.array .char), .int, .int], returnType := some (.array .byte) }, accessFlags := 9, code := some k8c2 }
def k8c3 : Code := { maxStack := 3, maxLocals := 7, code := jdk_52_method_21_code, exceptionTable := #[], attributes := #[] }
def k8m3 : Method := { name := "compress", desc := "([CI[BII)I", sig := { parameters := [(.array .char), .int, (.array .byte), .int, .int], returnType := some .int }, accessFlags := 9, code := some k8c3 }
/-- java/lang/StringUTF16 -/
def k8 : Class := { plain "java/lang/StringUTF16" (some 0) with
  accessFlags := 48
  interfaces := #[]
  cf := some (fileOf pool8 12 #[.nestMembers #[627, 629, 369]] #[{ accessFlags := 0, nameIndex := 9, descriptorIndex := 10, attributes := #[] }, { accessFlags := 8, nameIndex := 261, descriptorIndex := 262, attributes := #[] }, { accessFlags := 9, nameIndex := 117, descriptorIndex := 122, attributes := #[] }, { accessFlags := 9, nameIndex := 117, descriptorIndex := 118, attributes := #[] }] 48 6 #[] #[{ accessFlags := 26, nameIndex := 61, descriptorIndex := 62, attributes := #[] }, { accessFlags := 26, nameIndex := 65, descriptorIndex := 62, attributes := #[] }, { accessFlags := 24, nameIndex := 430, descriptorIndex := 62, attributes := #[] }, { accessFlags := 4120, nameIndex := 46, descriptorIndex := 47, attributes := #[] }])
  fields := #[{ name := "HI_BYTE_SHIFT", type := .int, accessFlags := 26, slot := 0, constantValue := 0 }, { name := "LO_BYTE_SHIFT", type := .int, accessFlags := 26, slot := 1, constantValue := 0 }, { name := "MAX_LENGTH", type := .int, accessFlags := 24, slot := 2, constantValue := 0 }, { name := "$assertionsDisabled", type := .boolean, accessFlags := 4120, slot := 3, constantValue := 0 }]
  methods := #[k8m0, k8m1, k8m2, k8m3]
  instanceTypes := #[]
  staticTypes := #[.int, .int, .int, .boolean]
  resolved := Array.replicate 635 none
  statics := none }

def pool9 : Array CpInfo := pool [(2, .class_ 4), (1, u "java/lang/Object"), (0, u "<init>"), (0, u "()V"), (1, .class_ 10), (1, u "java/lang/String"), (14, .class_ 27), (1, u "com/example/odysseus/odysseus/Escapes"), (13, .methodref 8 42), (0, .nameAndType 43 44), (0, u "indexOf"), (0, u "(II)I"), (36, u "LINE_BREAKS"), (0, u "Ljava/lang/String;"), (7, u "segmentStart"), (0, u "(Ljava/lang/String;II)I")] 4

def k9m0 : Method := { name := "<init>", desc := "()V", sig := { parameters := [], returnType := none }, accessFlags := 2, code := none }
def k9c1 : Code := { maxStack := 3, maxLocals := 5, code := prog_1_method_6_code, exceptionTable := #[], attributes := #[] }
def k9m1 : Method := { name := "segmentStart", desc := "(Ljava/lang/String;II)I", sig := { parameters := [(.object "java/lang/String"), .int, .int], returnType := some .int }, accessFlags := 8, code := some k9c1 }
/-- com/example/odysseus/odysseus/Escapes -/
def k9 : Class := { plain "com/example/odysseus/odysseus/Escapes" (some 0) with
  accessFlags := 48
  interfaces := #[]
  cf := some (fileOf pool9 25 #[] #[{ accessFlags := 2, nameIndex := 5, descriptorIndex := 6, attributes := #[] }, { accessFlags := 8, nameIndex := 90, descriptorIndex := 91, attributes := #[] }] 48 2 #[] #[{ accessFlags := 26, nameIndex := 81, descriptorIndex := 82, attributes := #[] }])
  fields := #[{ name := "LINE_BREAKS", type := (.object "java/lang/String"), accessFlags := 26, slot := 0, constantValue := 0 }]
  methods := #[k9m0, k9m1]
  instanceTypes := #[]
  staticTypes := #[(.object "java/lang/String")]
  resolved := Array.replicate 96 none
  statics := none }

def pool10 : Array CpInfo := pool [(4, .class_ 6), (1, u "java/lang/Object"), (0, u "<init>"), (0, u "()V"), (5, .class_ 16), (1, u "java/lang/StringLatin1"), (21, .methodref 39 40), (0, .class_ 41), (0, .nameAndType 42 43), (0, u "java/lang/Math"), (0, u "min"), (0, u "(II)I"), (44, .methodref 14 89), (0, .nameAndType 90 91), (0, u "canEncode"), (0, u "(I)Z"), (0, .methodref 39 93), (0, .nameAndType 94 43), (0, u "max"), (0, .methodref 14 96), (0, .nameAndType 97 98), (0, u "indexOfChar"), (0, u "([BIII)I"), (2, u "indexOf"), (19, u "$assertionsDisabled"), (0, u "Z"), (98, .class_ 223), (1, u "java/lang/StringLatin1$LinesSpliterator"), (166, .class_ 391), (0, u "java/lang/StringLatin1$CharsSpliterator")] 3

def k10m0 : Method := { name := "<init>", desc := "()V", sig := { parameters := [], returnType := none }, accessFlags := 0, code := none }
def k10c1 : Code := { maxStack := 2, maxLocals := 1, code := jdk_43_method_4_code, exceptionTable := #[], attributes := #[] }
def k10m1 : Method := { name := "canEncode", desc := "(I)Z", sig := { parameters := [.int], returnType := some .boolean }, accessFlags := 9, code := some k10c1 }
def k10c2 : Code := { maxStack := 4, maxLocals := 4, code := jdk_43_method_22_code, exceptionTable := #[], attributes := #[] }
def k10m2 : Method := { name := "indexOf", desc := "([BIII)I", sig := { parameters := [(.array .byte), .int, .int, .int], returnType := some .int }, accessFlags := 9, code := some k10c2 }
def k10c3 : Code := { maxStack := 2, maxLocals := 6, code := jdk_43_method_23_code, exceptionTable := #[], attributes := #[] }
def k10m3 : Method := { name := "indexOfChar", desc := "([BIII)I", sig := { parameters := [(.array .byte), .int, .int, .int], returnType := some .int }, accessFlags := 10, code := some k10c3 }
/-- java/lang/StringLatin1 -/
def k10 : Class := { plain "java/lang/StringLatin1" (some 0) with
  accessFlags := 48
  interfaces := #[]
  cf := some (fileOf pool10 14 #[.nestMembers #[390, 221]] #[{ accessFlags := 0, nameIndex := 7, descriptorIndex := 8, attributes := #[] }, { accessFlags := 9, nameIndex := 90, descriptorIndex := 91, attributes := #[] }, { accessFlags := 9, nameIndex := 101, descriptorIndex := 98, attributes := #[] }, { accessFlags := 10, nameIndex := 97, descriptorIndex := 98, attributes := #[] }] 48 4 #[] #[{ accessFlags := 4120, nameIndex := 121, descriptorIndex := 122, attributes := #[] }])
  fields := #[{ name := "$assertionsDisabled", type := .boolean, accessFlags := 4120, slot := 0, constantValue := 0 }]
  methods := #[k10m0, k10m1, k10m2, k10m3]
  instanceTypes := #[]
  staticTypes := #[.boolean]
  resolved := Array.replicate 395 none
  statics := none }

def pool11 : Array CpInfo := pool [(1, .class_ 2), (0, u "java/lang/Math"), (1, .class_ 6), (1, u "java/lang/Object"), (0, u "<init>"), (0, u "()V"), (89, .class_ 100), (1, u "java/lang/Math$RandomNumberGeneratorHolder"), (71, u "negativeZeroFloatBits"), (0, u "J"), (2, u "negativeZeroDoubleBits"), (21, u "max"), (2, u "min"), (43, u "$assertionsDisabled"), (0, u "Z"), (88, u "(II)I"), (2, u "twoToTheDoubleScaleDown"), (0, u "D"), (4, u "twoToTheDoubleScaleUp"), (9, u "E"), (3, u "PI"), (2, u "TAU"), (2, u "DEGREES_TO_RADIANS"), (0, u "RADIANS_TO_DEGREES")] 94

def k11m0 : Method := { name := "<init>", desc := "()V", sig := { parameters := [], returnType := none }, accessFlags := 2, code := none }
def k11c1 : Code := { maxStack := 2, maxLocals := 2, code := jdk_29_method_65_code, exceptionTable := #[], attributes := #[] }
def k11m1 : Method := { name := "max", desc := "(II)I", sig := { parameters := [.int, .int], returnType := some .int }, accessFlags := 9, code := some k11c1 }
def k11c2 : Code := { maxStack := 2, maxLocals := 2, code := jdk_29_method_69_code, exceptionTable := #[], attributes := #[] }
def k11m2 : Method := { name := "min", desc := "(II)I", sig := { parameters := [.int, .int], returnType := some .int }, accessFlags := 9, code := some k11c2 }
/-- java/lang/Math -/
def k11 : Class := { plain "java/lang/Math" (some 0) with
  accessFlags := 49
  interfaces := #[]
  cf := some (fileOf pool11 1 #[.nestMembers #[98]] #[{ accessFlags := 2, nameIndex := 7, descriptorIndex := 8, attributes := #[] }, { accessFlags := 9, nameIndex := 198, descriptorIndex := 335, attributes := #[] }, { accessFlags := 9, nameIndex := 201, descriptorIndex := 335, attributes := #[] }] 49 4 #[] #[{ accessFlags := 25, nameIndex := 354, descriptorIndex := 339, attributes := #[] }, { accessFlags := 25, nameIndex := 358, descriptorIndex := 339, attributes := #[] }, { accessFlags := 25, nameIndex := 361, descriptorIndex := 339, attributes := #[] }, { accessFlags := 26, nameIndex := 364, descriptorIndex := 339, attributes := #[] }, { accessFlags := 26, nameIndex := 365, descriptorIndex := 339, attributes := #[] }, { accessFlags := 26, nameIndex := 172, descriptorIndex := 173, attributes := #[] }, { accessFlags := 26, nameIndex := 176, descriptorIndex := 173, attributes := #[] }, { accessFlags := 8, nameIndex := 344, descriptorIndex := 339, attributes := #[] }, { accessFlags := 8, nameIndex := 338, descriptorIndex := 339, attributes := #[] }, { accessFlags := 4120, nameIndex := 245, descriptorIndex := 246, attributes := #[] }])
  fields := #[{ name := "E", type := .double, accessFlags := 25, slot := 0, constantValue := 0 }, { name := "PI", type := .double, accessFlags := 25, slot := 1, constantValue := 0 }, { name := "TAU", type := .double, accessFlags := 25, slot := 2, constantValue := 0 }, { name := "DEGREES_TO_RADIANS", type := .double, accessFlags := 26, slot := 3, constantValue := 0 }, { name := "RADIANS_TO_DEGREES", type := .double, accessFlags := 26, slot := 4, constantValue := 0 }, { name := "negativeZeroFloatBits", type := .long, accessFlags := 26, slot := 5, constantValue := 0 }, { name := "negativeZeroDoubleBits", type := .long, accessFlags := 26, slot := 6, constantValue := 0 }, { name := "twoToTheDoubleScaleUp", type := .double, accessFlags := 8, slot := 7, constantValue := 0 }, { name := "twoToTheDoubleScaleDown", type := .double, accessFlags := 8, slot := 8, constantValue := 0 }, { name := "$assertionsDisabled", type := .boolean, accessFlags := 4120, slot := 9, constantValue := 0 }]
  methods := #[k11m0, k11m1, k11m2]
  instanceTypes := #[]
  staticTypes := #[.double, .double, .double, .double, .double, .long, .long, .double, .double, .boolean]
  resolved := Array.replicate 460 none
  statics := none }

def pool12 : Array CpInfo := pool [(2, .class_ 4), (1, u "java/lang/Object"), (0, u "<init>"), (0, u "()V"), (17, .class_ 26), (1, u "jdk/internal/util/Preconditions"), (28, .class_ 56), (0, u "jdk/internal/util/Preconditions$4"), (57, .class_ 115), (0, u "jdk/internal/util/Preconditions$1"), (7, u "SIOOBE_FORMATTER"), (0, u "Ljava/util/function/BiFunction;"), (0, .class_ 126), (0, u "jdk/internal/util/Preconditions$2"), (3, u "AIOOBE_FORMATTER"), (0, .class_ 132), (0, u "jdk/internal/util/Preconditions$3"), (3, u "IOOBE_FORMATTER")] 57

def k12m0 : Method := { name := "<init>", desc := "()V", sig := { parameters := [], returnType := none }, accessFlags := 1, code := none }
/-- jdk/internal/util/Preconditions -/
def k12 : Class := { plain "jdk/internal/util/Preconditions" (some 0) with
  accessFlags := 33
  interfaces := #[]
  cf := some (fileOf pool12 24 #[.nestMembers #[55, 131, 125, 114]] #[{ accessFlags := 1, nameIndex := 5, descriptorIndex := 6, attributes := #[] }] 33 2 #[] #[{ accessFlags := 25, nameIndex := 123, descriptorIndex := 124, attributes := #[] }, { accessFlags := 25, nameIndex := 130, descriptorIndex := 124, attributes := #[] }, { accessFlags := 25, nameIndex := 136, descriptorIndex := 124, attributes := #[] }])
  fields := #[{ name := "SIOOBE_FORMATTER", type := (.object "java/util/function/BiFunction"), accessFlags := 25, slot := 0, constantValue := 0 }, { name := "AIOOBE_FORMATTER", type := (.object "java/util/function/BiFunction"), accessFlags := 25, slot := 1, constantValue := 0 }, { name := "IOOBE_FORMATTER", type := (.object "java/util/function/BiFunction"), accessFlags := 25, slot := 2, constantValue := 0 }]
  methods := #[k12m0]
  instanceTypes := #[]
  staticTypes := #[(.object "java/util/function/BiFunction"), (.object "java/util/function/BiFunction"), (.object "java/util/function/BiFunction")]
  resolved := Array.replicate 194 none
  statics := some 1 }

def pool13 : Array CpInfo := pool [(9, u "<init>"), (6, .class_ 18), (1, u "java/lang/Object"), (0, u "()V"), (1, .class_ 23), (1, u "jdk/internal/util/ArraysSupport"), (0, u "LOG2_ARRAY_LONG_INDEX_SCALE"), (0, u "I"), (2, u "U"), (0, u "Ljdk/internal/misc/Unsafe;"), (8, u "BIG_ENDIAN"), (0, u "Z"), (8, u "LOG2_BYTE_BIT_SIZE"), (4, u "LOG2_ARRAY_INT_INDEX_SCALE"), (54, u "JLA"), (0, u "Ljdk/internal/access/JavaLangAccess;"), (11, u "LOG2_ARRAY_BOOLEAN_INDEX_SCALE"), (9, u "LOG2_ARRAY_BYTE_INDEX_SCALE"), (5, u "LOG2_ARRAY_CHAR_INDEX_SCALE"), (5, u "LOG2_ARRAY_SHORT_INDEX_SCALE"), (18, u "LOG2_ARRAY_FLOAT_INDEX_SCALE"), (24, u "LOG2_ARRAY_DOUBLE_INDEX_SCALE"), (89, u "T_BOOLEAN"), (2, u "T_CHAR"), (1, u "T_FLOAT"), (1, u "T_DOUBLE"), (1, u "T_BYTE"), (1, u "T_SHORT"), (1, u "T_INT"), (1, u "T_LONG"), (1, u "SOFT_MAX_ARRAY_LENGTH")] 83

def k13m0 : Method := { name := "<init>", desc := "()V", sig := { parameters := [], returnType := none }, accessFlags := 2, code := none }
/-- jdk/internal/util/ArraysSupport -/
def k13 : Class := { plain "jdk/internal/util/ArraysSupport" (some 0) with
  accessFlags := 33
  interfaces := #[]
  cf := some (fileOf pool13 21 #[] #[{ accessFlags := 2, nameIndex := 9, descriptorIndex := 19, attributes := #[] }] 33 16 #[] #[{ accessFlags := 24, nameIndex := 28, descriptorIndex := 29, attributes := #[] }, { accessFlags := 26, nameIndex := 38, descriptorIndex := 39, attributes := #[] }, { accessFlags := 25, nameIndex := 121, descriptorIndex := 25, attributes := #[] }, { accessFlags := 25, nameIndex := 131, descriptorIndex := 25, attributes := #[] }, { accessFlags := 25, nameIndex := 137, descriptorIndex := 25, attributes := #[] }, { accessFlags := 25, nameIndex := 143, descriptorIndex := 25, attributes := #[] }, { accessFlags := 25, nameIndex := 53, descriptorIndex := 25, attributes := #[] }, { accessFlags := 25, nameIndex := 24, descriptorIndex := 25, attributes := #[] }, { accessFlags := 25, nameIndex := 162, descriptorIndex := 25, attributes := #[] }, { accessFlags := 25, nameIndex := 187, descriptorIndex := 25, attributes := #[] }, { accessFlags := 26, nameIndex := 48, descriptorIndex := 25, attributes := #[] }, { accessFlags := 25, nameIndex := 277, descriptorIndex := 25, attributes := #[] }, { accessFlags := 25, nameIndex := 280, descriptorIndex := 25, attributes := #[] }, { accessFlags := 25, nameIndex := 282, descriptorIndex := 25, attributes := #[] }, { accessFlags := 25, nameIndex := 284, descriptorIndex := 25, attributes := #[] }, { accessFlags := 25, nameIndex := 286, descriptorIndex := 25, attributes := #[] }, { accessFlags := 25, nameIndex := 288, descriptorIndex := 25, attributes := #[] }, { accessFlags := 25, nameIndex := 290, descriptorIndex := 25, attributes := #[] }, { accessFlags := 25, nameIndex := 292, descriptorIndex := 25, attributes := #[] }, { accessFlags := 26, nameIndex := 108, descriptorIndex := 109, attributes := #[] }, { accessFlags := 25, nameIndex := 294, descriptorIndex := 25, attributes := #[] }])
  fields := #[{ name := "U", type := (.object "jdk/internal/misc/Unsafe"), accessFlags := 24, slot := 0, constantValue := 0 }, { name := "BIG_ENDIAN", type := .boolean, accessFlags := 26, slot := 1, constantValue := 0 }, { name := "LOG2_ARRAY_BOOLEAN_INDEX_SCALE", type := .int, accessFlags := 25, slot := 2, constantValue := 0 }, { name := "LOG2_ARRAY_BYTE_INDEX_SCALE", type := .int, accessFlags := 25, slot := 3, constantValue := 0 }, { name := "LOG2_ARRAY_CHAR_INDEX_SCALE", type := .int, accessFlags := 25, slot := 4, constantValue := 0 }, { name := "LOG2_ARRAY_SHORT_INDEX_SCALE", type := .int, accessFlags := 25, slot := 5, constantValue := 0 }, { name := "LOG2_ARRAY_INT_INDEX_SCALE", type := .int, accessFlags := 25, slot := 6, constantValue := 0 }, { name := "LOG2_ARRAY_LONG_INDEX_SCALE", type := .int, accessFlags := 25, slot := 7, constantValue := 0 }, { name := "LOG2_ARRAY_FLOAT_INDEX_SCALE", type := .int, accessFlags := 25, slot := 8, constantValue := 0 }, { name := "LOG2_ARRAY_DOUBLE_INDEX_SCALE", type := .int, accessFlags := 25, slot := 9, constantValue := 0 }, { name := "LOG2_BYTE_BIT_SIZE", type := .int, accessFlags := 26, slot := 10, constantValue := 0 }, { name := "T_BOOLEAN", type := .int, accessFlags := 25, slot := 11, constantValue := 0 }, { name := "T_CHAR", type := .int, accessFlags := 25, slot := 12, constantValue := 0 }, { name := "T_FLOAT", type := .int, accessFlags := 25, slot := 13, constantValue := 0 }, { name := "T_DOUBLE", type := .int, accessFlags := 25, slot := 14, constantValue := 0 }, { name := "T_BYTE", type := .int, accessFlags := 25, slot := 15, constantValue := 0 }, { name := "T_SHORT", type := .int, accessFlags := 25, slot := 16, constantValue := 0 }, { name := "T_INT", type := .int, accessFlags := 25, slot := 17, constantValue := 0 }, { name := "T_LONG", type := .int, accessFlags := 25, slot := 18, constantValue := 0 }, { name := "JLA", type := (.object "jdk/internal/access/JavaLangAccess"), accessFlags := 26, slot := 19, constantValue := 0 }, { name := "SOFT_MAX_ARRAY_LENGTH", type := .int, accessFlags := 25, slot := 20, constantValue := 0 }]
  methods := #[k13m0]
  instanceTypes := #[]
  staticTypes := #[(.object "jdk/internal/misc/Unsafe"), .boolean, .int, .int, .int, .int, .int, .int, .int, .int, .int, .int, .int, .int, .int, .int, .int, .int, .int, (.object "jdk/internal/access/JavaLangAccess"), .int]
  resolved := Array.replicate 378 none
  statics := none }

def pool14 : Array CpInfo := pool [(1, u "java/lang/Cloneable"), (0, .class_ 1), (0, u "java/lang/Object"), (0, .class_ 3)] 3

/-- java/lang/Cloneable -/
def k14 : Class := { plain "java/lang/Cloneable" (some 0) with
  accessFlags := 1537
  interfaces := #[]
  cf := some (fileOf pool14 2 #[] #[] 1537 4 #[] #[])
  fields := #[]
  methods := #[]
  instanceTypes := #[]
  staticTypes := #[]
  resolved := Array.replicate 8 none
  statics := none }

/-- the primitive byte -/
def k15 : Class := { plain "byte" none with kind := .primitive 'B', accessFlags := 0x411 }
/-- [B -/
def k16 : Class := { plain "[B" (some 0) with kind := .array 15 .byte, interfaces := #[14, 2], accessFlags := 1041 }

/-- the primitive char -/
def k17 : Class := { plain "char" none with kind := .primitive 'C', accessFlags := 0x411 }
/-- [C -/
def k18 : Class := { plain "[C" (some 0) with kind := .array 17 .char, interfaces := #[14, 2], accessFlags := 1041 }

/-- the primitive int -/
def k19 : Class := { plain "int" none with kind := .primitive 'I', accessFlags := 0x411 }
/-- [I -/
def k20 : Class := { plain "[I" (some 0) with kind := .array 19 .int, interfaces := #[14, 2], accessFlags := 1041 }

def heap : Heap := #[{ cls := 7, slots := #[.long 0, .int 1, .null, .int 0, .null, .int 0, .int 0], vm := .statics 7 },
  { cls := 12, slots := #[.null, .null, .null], vm := .statics 12 }]
def classes : Array Class := #[k0, k1, k2, k3, k4, k5, k6, k7, k8, k9, k10, k11, k12, k13, k14, k15, k16, k17, k18, k19, k20]
def interned : List (Array UInt16 × Addr) := []
def slotsUsed : Nat := 10
def theMethod : MethodId := ⟨1, 4⟩
def args0 : Array Value := #[.int 5, .long 5, .int 5, .int 5]
def aboutOver (below : List Frame) : State where
  vm := { classes := classes, interned := interned.toArray }
  heap := heap
  slotsUsed := slotsUsed
  threads := #[{ frames := .invoking theMethod args0 :: below }]
def below0 : List Frame := [.native { method := ⟨0, 0⟩, args := #[] }]
def about1 : State := aboutOver below0
def p0 : Program := .bare "" "" ""
def e0 : Env := launch0.env 0 0 0
theorem w_frames : about1.frames = Frame.invoking theMethod args0 :: below0 := rfl
set_option maxRecDepth 65536 in
theorem w_args : argsFit about1.vm theMethod args0 = true := by decide +kernel
set_option maxRecDepth 65536 in
theorem w_heap : heapFits about1 = true := by decide +kernel
set_option maxRecDepth 65536 in
theorem w_runnable : about1.curStatus? = some .runnable := by decide +kernel
set_option maxRecDepth 65536 in
theorem w_alone : about1.alone = true := by decide +kernel
set_option maxRecDepth 65536 in
theorem w_named : about1.methodNamed? x = some theMethod := by decide +kernel
set_option maxRecDepth 65536 in
theorem w_hears : about1.hears theMethod below0 = true := by decide +kernel
set_option maxRecDepth 65536 in
theorem w_ripe : about1.ripe theMethod args0 below0 = true := by decide +kernel
theorem w_running : about1.status = .running := rfl
set_option maxRecDepth 65536 in
theorem w_room : about1.hasRoom e0.platform room_1 = true :=
  launch0.hasRoom_least _ room_1 (by decide +kernel) (by decide +kernel) (by decide +kernel) (by decide +kernel) (by decide +kernel) (by decide +kernel)
theorem allAtoms_all (ts : List Jvm.Cond) (a : Array Jvm.Value) (st : Jvm.State) : (allAtoms ts).before a st = ts.all (fun c => c.before a st) := by
  induction ts with
  | nil => rfl
  | cons c t ih =>
    show (Jvm.Cond.and c (allAtoms t)).before a st = _
    rw [Jvm.Cond.before_and, ih, List.all_cons]
def words1 : List Jvm.Cond := Jvm.Cond.code x code maxLocals ret :: tables_1
/-- a 'code' word, met by the world's own term for the bytes: nothing is compared byte by byte -/
theorem code_word {y : MethodName} {bytes : ByteArray} {mx : Nat} {rt : Option FieldType} {a : Array Value} {s : State} {m : MethodId} {meth : Method} {c : Code} (h1 : s.methodNamed? y = some m) (h2 : s.vm.method? m = some meth) (h3 : meth.code = some c) (h4 : c.code = bytes)
    (h5 : (c.maxLocals == mx && c.exceptionTable.isEmpty && decide (c.maxStack ≤ mostOperands) && decide (meth.sig.returnType = rt) && !meth.locks && decide (parseMethodDescriptor y.desc = some meth.sig)) = true) : (Jvm.Cond.code y bytes mx rt).before a s = true := by
  simp only [Bool.and_eq_true, beq_iff_eq, Bool.not_eq_true', decide_eq_true_eq] at h5
  obtain ⟨⟨⟨⟨⟨g1, g2⟩, g3⟩, g4⟩, g5⟩, g6⟩ := h5
  simp [Cond.before, Cond.holds, Cond.value, h1, h2, h3, h4, g1, g2, g3, g4, g5, g6]
def isCode : Jvm.Cond → Bool
  | .code _ _ _ _ => true
  | _ => false
theorem all_split {L : List Jvm.Cond} {P : Jvm.Cond → Bool} (h1 : L.all (fun c => isCode c || P c) = true) (h2 : ∀ c ∈ L.filter isCode, P c = true) : L.all P = true := by
  refine List.all_eq_true.mpr fun c hc => ?_
  have h := List.all_eq_true.mp h1 c hc
  rcases Bool.eq_false_or_eq_true (isCode c) with hi | hi
  · exact h2 c (List.mem_filter.mpr ⟨hc, hi⟩)
  · simpa [hi] using h
set_option maxRecDepth 65536 in
theorem w_c0 : (Jvm.Cond.code x code maxLocals ret).before args0 about1 = true := code_word (m := ⟨1, 4⟩) (meth := k1m4) (c := k1c4) (by decide +kernel) rfl rfl rfl (by decide +kernel)
set_option maxRecDepth 65536 in
theorem w_c1 : (Jvm.Cond.code ({ cls := "com/example/odysseus/odysseus/EscapesSegmentStartPinLaw", name := "draw", desc := "(IJI)C" } : Jvm.MethodName) method_2_code (4 : Nat) (Option.some Jvm.ClassFile.FieldType.char)).before args0 about1 = true := code_word (m := ⟨1, 1⟩) (meth := k1m1) (c := k1c1) (by decide +kernel) rfl rfl rfl (by decide +kernel)
set_option maxRecDepth 65536 in
theorem w_c2 : (Jvm.Cond.code ({ cls := "java/lang/String", name := "<init>", desc := "([C)V" } : Jvm.MethodName) jdk_42_method_3_code (2 : Nat) (Option.none : Option Jvm.ClassFile.FieldType)).before args0 about1 = true := code_word (m := ⟨7, 1⟩) (meth := k7m1) (c := k7c1) (by decide +kernel) rfl rfl rfl (by decide +kernel)
set_option maxRecDepth 65536 in
theorem w_c3 : (Jvm.Cond.code ({ cls := "java/lang/String", name := "<init>", desc := "([CIILjava/lang/Void;)V" } : Jvm.MethodName) jdk_42_method_149_code (6 : Nat) (Option.none : Option Jvm.ClassFile.FieldType)).before args0 about1 = true := code_word (m := ⟨7, 4⟩) (meth := k7m4) (c := k7c4) (by decide +kernel) rfl rfl rfl (by decide +kernel)
set_option maxRecDepth 65536 in
theorem w_c4 : (Jvm.Cond.code ({ cls := "java/lang/Object", name := "<init>", desc := "()V" } : Jvm.MethodName) object_method_1_code (1 : Nat) (Option.none : Option Jvm.ClassFile.FieldType)).before args0 about1 = true := code_word (m := ⟨0, 0⟩) (meth := k0m0) (c := k0c0) (by decide +kernel) rfl rfl rfl (by decide +kernel)
set_option maxRecDepth 65536 in
theorem w_c5 : (Jvm.Cond.code ({ cls := "java/lang/StringUTF16", name := "compress", desc := "([CII)[B" } : Jvm.MethodName) jdk_52_method_16_code (6 : Nat) (Option.some (Jvm.ClassFile.FieldType.array Jvm.ClassFile.FieldType.byte))).before args0 about1 = true := code_word (m := ⟨8, 2⟩) (meth := k8m2) (c := k8c2) (by decide +kernel) rfl rfl rfl (by decide +kernel)
set_option maxRecDepth 65536 in
theorem w_c6 : (Jvm.Cond.code ({ cls := "java/lang/StringUTF16", name := "compress", desc := "([CI[BII)I" } : Jvm.MethodName) jdk_52_method_21_code (7 : Nat) (Option.some Jvm.ClassFile.FieldType.int)).before args0 about1 = true := code_word (m := ⟨8, 3⟩) (meth := k8m3) (c := k8c3) (by decide +kernel) rfl rfl rfl (by decide +kernel)
set_option maxRecDepth 65536 in
theorem w_c7 : (Jvm.Cond.code ({ cls := "java/lang/StringUTF16", name := "coderFromArrayLen", desc := "([BI)B" } : Jvm.MethodName) jdk_52_method_15_code (2 : Nat) (Option.some Jvm.ClassFile.FieldType.byte)).before args0 about1 = true := code_word (m := ⟨8, 1⟩) (meth := k8m1) (c := k8c1) (by decide +kernel) rfl rfl rfl (by decide +kernel)
set_option maxRecDepth 65536 in
theorem w_c8 : (Jvm.Cond.code ({ cls := "com/example/odysseus/odysseus/EscapesSegmentStartPinLaw", name := "countSlashes", desc := "([CII)I" } : Jvm.MethodName) method_4_code (3 : Nat) (Option.some Jvm.ClassFile.FieldType.int)).before args0 about1 = true := code_word (m := ⟨1, 3⟩) (meth := k1m3) (c := k1c3) (by decide +kernel) rfl rfl rfl (by decide +kernel)
set_option maxRecDepth 65536 in
theorem w_c9 : (Jvm.Cond.code ({ cls := "com/example/odysseus/odysseus/EscapesSegmentStartPinLaw", name := "one", desc := "([CIII)I" } : Jvm.MethodName) method_3_code (4 : Nat) (Option.some Jvm.ClassFile.FieldType.int)).before args0 about1 = true := code_word (m := ⟨1, 2⟩) (meth := k1m2) (c := k1c2) (by decide +kernel) rfl rfl rfl (by decide +kernel)
set_option maxRecDepth 65536 in
theorem w_c10 : (Jvm.Cond.code ({ cls := "com/example/odysseus/odysseus/Escapes", name := "segmentStart", desc := "(Ljava/lang/String;II)I" } : Jvm.MethodName) prog_1_method_6_code (5 : Nat) (Option.some Jvm.ClassFile.FieldType.int)).before args0 about1 = true := code_word (m := ⟨9, 1⟩) (meth := k9m1) (c := k9c1) (by decide +kernel) rfl rfl rfl (by decide +kernel)
set_option maxRecDepth 65536 in
theorem w_c11 : (Jvm.Cond.code ({ cls := "java/lang/String", name := "indexOf", desc := "(II)I" } : Jvm.MethodName) jdk_42_method_80_code (3 : Nat) (Option.some Jvm.ClassFile.FieldType.int)).before args0 about1 = true := code_word (m := ⟨7, 3⟩) (meth := k7m3) (c := k7c3) (by decide +kernel) rfl rfl rfl (by decide +kernel)
set_option maxRecDepth 65536 in
theorem w_c12 : (Jvm.Cond.code ({ cls := "java/lang/String", name := "isLatin1", desc := "()Z" } : Jvm.MethodName) jdk_42_method_154_code (1 : Nat) (Option.some Jvm.ClassFile.FieldType.boolean)).before args0 about1 = true := code_word (m := ⟨7, 6⟩) (meth := k7m6) (c := k7c6) (by decide +kernel) rfl rfl rfl (by decide +kernel)
set_option maxRecDepth 65536 in
theorem w_c13 : (Jvm.Cond.code ({ cls := "java/lang/String", name := "length", desc := "()I" } : Jvm.MethodName) jdk_42_method_54_code (1 : Nat) (Option.some Jvm.ClassFile.FieldType.int)).before args0 about1 = true := code_word (m := ⟨7, 2⟩) (meth := k7m2) (c := k7c2) (by decide +kernel) rfl rfl rfl (by decide +kernel)
set_option maxRecDepth 65536 in
theorem w_c14 : (Jvm.Cond.code ({ cls := "java/lang/String", name := "coder", desc := "()B" } : Jvm.MethodName) jdk_42_method_152_code (1 : Nat) (Option.some Jvm.ClassFile.FieldType.byte)).before args0 about1 = true := code_word (m := ⟨7, 5⟩) (meth := k7m5) (c := k7c5) (by decide +kernel) rfl rfl rfl (by decide +kernel)
set_option maxRecDepth 65536 in
theorem w_c15 : (Jvm.Cond.code ({ cls := "java/lang/StringLatin1", name := "indexOf", desc := "([BIII)I" } : Jvm.MethodName) jdk_43_method_22_code (4 : Nat) (Option.some Jvm.ClassFile.FieldType.int)).before args0 about1 = true := code_word (m := ⟨10, 2⟩) (meth := k10m2) (c := k10c2) (by decide +kernel) rfl rfl rfl (by decide +kernel)
set_option maxRecDepth 65536 in
theorem w_c16 : (Jvm.Cond.code ({ cls := "java/lang/StringLatin1", name := "canEncode", desc := "(I)Z" } : Jvm.MethodName) jdk_43_method_4_code (1 : Nat) (Option.some Jvm.ClassFile.FieldType.boolean)).before args0 about1 = true := code_word (m := ⟨10, 1⟩) (meth := k10m1) (c := k10c1) (by decide +kernel) rfl rfl rfl (by decide +kernel)
set_option maxRecDepth 65536 in
theorem w_c17 : (Jvm.Cond.code ({ cls := "java/lang/Math", name := "max", desc := "(II)I" } : Jvm.MethodName) jdk_29_method_65_code (2 : Nat) (Option.some Jvm.ClassFile.FieldType.int)).before args0 about1 = true := code_word (m := ⟨11, 1⟩) (meth := k11m1) (c := k11c1) (by decide +kernel) rfl rfl rfl (by decide +kernel)
set_option maxRecDepth 65536 in
theorem w_c18 : (Jvm.Cond.code ({ cls := "java/lang/Math", name := "min", desc := "(II)I" } : Jvm.MethodName) jdk_29_method_69_code (2 : Nat) (Option.some Jvm.ClassFile.FieldType.int)).before args0 about1 = true := code_word (m := ⟨11, 2⟩) (meth := k11m2) (c := k11c2) (by decide +kernel) rfl rfl rfl (by decide +kernel)
set_option maxRecDepth 65536 in
theorem w_c19 : (Jvm.Cond.code ({ cls := "java/lang/StringLatin1", name := "indexOfChar", desc := "([BIII)I" } : Jvm.MethodName) jdk_43_method_23_code (6 : Nat) (Option.some Jvm.ClassFile.FieldType.int)).before args0 about1 = true := code_word (m := ⟨10, 3⟩) (meth := k10m3) (c := k10c3) (by decide +kernel) rfl rfl rfl (by decide +kernel)
def codes1 : List Jvm.Cond := [Jvm.Cond.code x code maxLocals ret, Jvm.Cond.code ({ cls := "com/example/odysseus/odysseus/EscapesSegmentStartPinLaw", name := "draw", desc := "(IJI)C" } : Jvm.MethodName) method_2_code (4 : Nat) (Option.some Jvm.ClassFile.FieldType.char), Jvm.Cond.code ({ cls := "java/lang/String", name := "<init>", desc := "([C)V" } : Jvm.MethodName) jdk_42_method_3_code (2 : Nat) (Option.none : Option Jvm.ClassFile.FieldType), Jvm.Cond.code ({ cls := "java/lang/String", name := "<init>", desc := "([CIILjava/lang/Void;)V" } : Jvm.MethodName) jdk_42_method_149_code (6 : Nat) (Option.none : Option Jvm.ClassFile.FieldType), Jvm.Cond.code ({ cls := "java/lang/Object", name := "<init>", desc := "()V" } : Jvm.MethodName) object_method_1_code (1 : Nat) (Option.none : Option Jvm.ClassFile.FieldType), Jvm.Cond.code ({ cls := "java/lang/StringUTF16", name := "compress", desc := "([CII)[B" } : Jvm.MethodName) jdk_52_method_16_code (6 : Nat) (Option.some (Jvm.ClassFile.FieldType.array Jvm.ClassFile.FieldType.byte)), Jvm.Cond.code ({ cls := "java/lang/StringUTF16", name := "compress", desc := "([CI[BII)I" } : Jvm.MethodName) jdk_52_method_21_code (7 : Nat) (Option.some Jvm.ClassFile.FieldType.int), Jvm.Cond.code ({ cls := "java/lang/StringUTF16", name := "coderFromArrayLen", desc := "([BI)B" } : Jvm.MethodName) jdk_52_method_15_code (2 : Nat) (Option.some Jvm.ClassFile.FieldType.byte), Jvm.Cond.code ({ cls := "com/example/odysseus/odysseus/EscapesSegmentStartPinLaw", name := "countSlashes", desc := "([CII)I" } : Jvm.MethodName) method_4_code (3 : Nat) (Option.some Jvm.ClassFile.FieldType.int), Jvm.Cond.code ({ cls := "com/example/odysseus/odysseus/EscapesSegmentStartPinLaw", name := "one", desc := "([CIII)I" } : Jvm.MethodName) method_3_code (4 : Nat) (Option.some Jvm.ClassFile.FieldType.int), Jvm.Cond.code ({ cls := "com/example/odysseus/odysseus/Escapes", name := "segmentStart", desc := "(Ljava/lang/String;II)I" } : Jvm.MethodName) prog_1_method_6_code (5 : Nat) (Option.some Jvm.ClassFile.FieldType.int), Jvm.Cond.code ({ cls := "java/lang/String", name := "indexOf", desc := "(II)I" } : Jvm.MethodName) jdk_42_method_80_code (3 : Nat) (Option.some Jvm.ClassFile.FieldType.int), Jvm.Cond.code ({ cls := "java/lang/String", name := "isLatin1", desc := "()Z" } : Jvm.MethodName) jdk_42_method_154_code (1 : Nat) (Option.some Jvm.ClassFile.FieldType.boolean), Jvm.Cond.code ({ cls := "java/lang/String", name := "length", desc := "()I" } : Jvm.MethodName) jdk_42_method_54_code (1 : Nat) (Option.some Jvm.ClassFile.FieldType.int), Jvm.Cond.code ({ cls := "java/lang/String", name := "coder", desc := "()B" } : Jvm.MethodName) jdk_42_method_152_code (1 : Nat) (Option.some Jvm.ClassFile.FieldType.byte), Jvm.Cond.code ({ cls := "java/lang/StringLatin1", name := "indexOf", desc := "([BIII)I" } : Jvm.MethodName) jdk_43_method_22_code (4 : Nat) (Option.some Jvm.ClassFile.FieldType.int), Jvm.Cond.code ({ cls := "java/lang/StringLatin1", name := "canEncode", desc := "(I)Z" } : Jvm.MethodName) jdk_43_method_4_code (1 : Nat) (Option.some Jvm.ClassFile.FieldType.boolean), Jvm.Cond.code ({ cls := "java/lang/Math", name := "max", desc := "(II)I" } : Jvm.MethodName) jdk_29_method_65_code (2 : Nat) (Option.some Jvm.ClassFile.FieldType.int), Jvm.Cond.code ({ cls := "java/lang/Math", name := "min", desc := "(II)I" } : Jvm.MethodName) jdk_29_method_69_code (2 : Nat) (Option.some Jvm.ClassFile.FieldType.int), Jvm.Cond.code ({ cls := "java/lang/StringLatin1", name := "indexOfChar", desc := "([BIII)I" } : Jvm.MethodName) jdk_43_method_23_code (6 : Nat) (Option.some Jvm.ClassFile.FieldType.int)]
set_option maxRecDepth 65536 in
theorem codes_eq : words1.filter isCode = codes1 := rfl
theorem w_codes : ∀ c ∈ words1.filter isCode, c.before args0 about1 = true := by
  rw [codes_eq]
  intro c hc
  simp only [codes1, List.mem_cons, List.not_mem_nil, or_false] at hc
  rcases hc with rfl | rfl | rfl | rfl | rfl | rfl | rfl | rfl | rfl | rfl | rfl | rfl | rfl | rfl | rfl | rfl | rfl | rfl | rfl | rfl
  · exact w_c0
  · exact w_c1
  · exact w_c2
  · exact w_c3
  · exact w_c4
  · exact w_c5
  · exact w_c6
  · exact w_c7
  · exact w_c8
  · exact w_c9
  · exact w_c10
  · exact w_c11
  · exact w_c12
  · exact w_c13
  · exact w_c14
  · exact w_c15
  · exact w_c16
  · exact w_c17
  · exact w_c18
  · exact w_c19
set_option maxRecDepth 65536 in
theorem w_t1 : (words1.take 24).all (fun c => isCode c || c.before args0 about1) = true := by decide +kernel
set_option maxRecDepth 65536 in
theorem w_t2 : ((words1.drop 24).take 24).all (fun c => isCode c || c.before args0 about1) = true := by decide +kernel
set_option maxRecDepth 65536 in
theorem w_t3 : (((words1.drop 24).drop 24).take 24).all (fun c => isCode c || c.before args0 about1) = true := by decide +kernel
set_option maxRecDepth 65536 in
theorem w_t4 : (((words1.drop 24).drop 24).drop 24).all (fun c => isCode c || c.before args0 about1) = true := by decide +kernel
theorem w_tables : (allAtoms (Jvm.Cond.code x code maxLocals ret :: tables_1)).before args0 about1 = true := by
  rw [allAtoms_all]
  show words1.all (fun c => c.before args0 about1) = true
  refine all_split ?_ w_codes
  rw [← List.take_append_drop 24 words1, List.all_append, w_t1, ← List.take_append_drop 24 (words1.drop 24), List.all_append, w_t2, ← List.take_append_drop 24 ((words1.drop 24).drop 24), List.all_append, w_t3, w_t4]
  rfl
set_option maxRecDepth 65536 in
theorem w_rest : rest_1_c.before args0 about1 = true := by decide +kernel
set_option maxRecDepth 65536 in
theorem w_case : (Jvm.Cond.and given_1 narrow_1).before args0 about1 = true := by decide +kernel
theorem w_applies : (headSpec (Jvm.Cond.code x code maxLocals ret :: tables_1) room_1).applies x e0.platform about1 = true :=
  (Spec.applies_iff w_frames).mpr ⟨w_running, w_runnable, w_alone, w_named, w_hears, w_ripe, w_room, w_tables⟩
theorem atStart : AtStart classFile x code maxLocals ret World_1 tables_1 room_1 Calls_1 rest_1 Pre_1 launch0 p0 e0 about1 theMethod args0 below0 :=
  ⟨lists_1, trivial, launch0.admits_env _ _ _, launch0.least_env, fairChoices_fair.cas, fairChoices_fair.clock, w_frames, w_args, w_heap, w_applies, trivial, w_rest, w_case⟩
end start1
theorem witness_1 : WitnessClaimed_1 := ⟨start1.p0, start1.e0, start1.about1, start1.theMethod, start1.args0, start1.below0, start1.atStart⟩
end Jvm.Pilot.@@N@@
