import JvmDerived
import JvmDerived.Pilot.@@N@@Statement
import JvmDerived.Pilot.@@N@@Code
set_option linter.unusedVariables false
set_option linter.unusedSimpArgs false
namespace Jvm.RoadKit
open Sem ClassFile Op Lib Jvm.Stand Jvm.Free Jvm.LawKit
section New
variable {p : Program} {l : Launch} {e : Env} {R : Room} {s : State} {m : MethodId} {args : Array Value} {below : List Frame} {meth : Method} {c : Code} {T : State} {locs : List Loc} {cells slots : Nat}
theorem retI (X : Stand p l e R s m args below meth c T locs cells slots) (hx : p.tables.exec = Jvm.exec) {pc : Nat} {Ls : Array Slot} {z : Int32} {rest : List Value} (hret : meth.sig.returnType = some .int) (hd : decode c.code pc = .ok (.ireturn, 1)) {fs : List Frame}
    (hl : ∀ (f : JFrame) (acts : List Action), f.method = m → f.locked = none → f.entered = [] → (doReturn e (T.setTop f) acts (some (.int z))).1 = T.setFrames fs) : Steps p.tables e below (T.setTop (mkF m pc Ls (.int z :: rest))) (T.setFrames fs) := by
  have hm' : T.vm.method? m = some meth := X.method'
  have hn : narrow .int (.int z) = .int z := rfl
  show Steps p.tables e below (T.setTop { method := m, pc := pc, locals := Ls, stack := _ :: rest, locked := none }) _
  jvm_step X.here [X.here.top, hx, hd, hm', hret, hn]
  first | (intro acts; rw [hl _ acts rfl rfl rfl]) | rw [hl _ _ rfl rfl rfl]
  exact Steps.refl _
theorem seg (X : Stand p l e R s m args below meth c T locs cells slots) (P : State → Prop) (h : ∃ T', Stand p l e R s m args below meth c T' locs cells slots ∧ P T') : ∃ T', Stand p l e R s m args below meth c T' locs cells slots ∧ P T' := h
/-- int to char -/
def i2c (x : Int32) : Int32 := x.toUInt32.toUInt16.toUInt32.toInt32
/-- int to byte -/
def own_lo (x : Int32) : Int32 := x.toInt8.toInt32
/-- the unsigned shift of an int -/
def ushr (x y : Int32) : Int32 := (x.toUInt32 >>> (y &&& 31).toUInt32).toInt32
/-- the unsigned shift of a long -/
def ushrJ (x : Int64) (y : Int32) : Int64 := (x.toUInt64 >>> (y &&& 0x3f).toInt64.toUInt64).toInt64
end New
end Jvm.RoadKit
namespace Jvm.Pilot.@@N@@
open Jvm Jvm.ClassFile Sem Op Lib Jvm.Free Jvm.Stand Jvm.LawKit Jvm.RoadKit Bundle Jvm.Pilot.@@N@@.Jvm.D
theorem own_neN {a b : Addr} (h : @Ne Nat a b) : ¬ (a = b) := h
theorem own_narb {q : Prop} [Decidable q] : nar .boolean (if q then (1 : Int32) else (0 : Int32)) = (if q then (1 : Int32) else (0 : Int32)) := by split <;> rfl
theorem own_declares {Z : State} {a0 : Array Value} {y : MethodName} {bytes : ByteArray} {mx : Nat} {r : Option FieldType} (w1 : (Jvm.Cond.instanceMethod y).before a0 Z = true) (w2 : (Jvm.Cond.code y bytes mx r).before a0 Z = true) : (Jvm.Cond.declares y).before a0 Z = true := by
  obtain ⟨mk, meth, h1, h2, h3, -⟩ := Cond.instanceMethod_spec w1
  obtain ⟨meth', c, q1, -, -, -, -, -, -, q2⟩ := Cond.code_spec h1 w2
  cases h2.symm.trans q1
  simp [Cond.before, Cond.holds, Cond.value, h1, h2, h3, q2]
/-- the class of a method that an object selects is no interface -/
theorem own_nf {Z : State} {a0 : Array Value} {y z : MethodName} {C : String} (hz : z.cls = y.cls) (w : (Jvm.Cond.selects C z z).before a0 Z = true) : ∀ r, Z.methodNamed? y = some r → ∃ k, Z.vm.classes[r.cls]? = some k ∧ k.isInterface = false := fun r hr => by
  obtain ⟨c, r2, m2, -, -, q3, -, kP, hkP, hkPi⟩ := Cond.selects_spec w
  have h1 := findClass_of_methodNamed q3
  have h2 := findClass_of_methodNamed hr
  rw [hz, h2] at h1
  rw [Option.some.inj h1]
  exact ⟨kP, hkP, hkPi⟩
/-- a method that its class declares itself is the one that the look-up finds -/
theorem own_same {Z : State} {a0 : Array Value} {y : MethodName} (w1 : (Jvm.Cond.instanceMethod y).before a0 Z = true) (w2 : ∀ r, Z.methodNamed? y = some r → ∃ k, Z.vm.classes[r.cls]? = some k ∧ k.isInterface = false) (hy : y.cls ≠ "java/lang/invoke/MethodHandle" ∧ y.cls ≠ "java/lang/invoke/VarHandle") : (Jvm.Cond.sameMethod y.cls y.cls y.name y.desc).before a0 Z = true := by
  obtain ⟨mk, meth, h1, -⟩ := Cond.instanceMethod_spec w1
  have hc := findClass_of_methodNamed h1
  obtain ⟨k, hk, hi⟩ := w2 mk h1
  have hf := State.methodFound?_of_named h1 hy
  have hk' : Z.vm.classes[mk.cls]? = some k := hk
  simp [Cond.before, Cond.holds, Cond.value, hc, hf, h1, hk', hi]
theorem own_ti {n : Nat} (h : n ≤ 8000) : (Int32.ofNat n).toInt = n := Int32.toInt_ofNat_of_lt (by omega)
theorem own_tn {n : Nat} (h : n ≤ 8000) : (Int32.ofNat n).toNatClampNeg = n := by
  rw [Int32.toNatClampNeg, own_ti h]; omega
theorem own_lt {i n : Nat} (h : i < n) (hn : n ≤ 8000) : (Int32.ofNat i) < (Int32.ofNat n) := by
  rw [Int32.lt_iff_toInt_lt, own_ti (by omega), own_ti hn]; omega
theorem own_nlt {i n : Nat} (h : n ≤ i) (hn : i ≤ 8000) : ¬ ((Int32.ofNat i) < (Int32.ofNat n)) := by
  rw [Int32.lt_iff_toInt_lt, own_ti hn, own_ti (by omega : n ≤ 8000)]; omega
theorem own_nn {n : Nat} (h : n ≤ 8000) : ¬ ((Int32.ofNat n) < (0 : Int32)) := by
  rw [Int32.lt_iff_toInt_lt, own_ti h]
  show ¬ ((n : Int) < 0)
  omega
theorem own_inj {i n : Nat} (h : i ≤ 8000) (hn : n ≤ 8000) (e : Int32.ofNat i = Int32.ofNat n) : i = n := by
  have := congrArg Int32.toInt e
  rw [own_ti h, own_ti hn] at this; omega
theorem own_up (k : Nat) : Int32.ofNat (k + 1) = Int32.ofNat k + (1 : Int32) := Int32.ofNat_add k 1
theorem own_in {i n : Nat} (h : i < n) (hn : n ≤ 8000) : ¬ (Int32.ofNat i) < 0 ∧ (Int32.ofNat i) < (Int32.ofNat n) := ⟨own_nn (by omega), own_lt h hn⟩
theorem own_eqI {z w : Int32} (h : z.toInt = w.toInt) : z = w := Int32.toInt_inj.mp h
theorem own_shl1 {n : Nat} (h : n ≤ 4000) : (Int32.ofNat n) <<< ((1 : Int32) &&& 31) = Int32.ofNat (2 * n) := by
  apply own_eqI
  have h1 := c_ishl (Int32.ofNat n) 1 1 (by decide)
  rw [own_ti (by omega)] at h1
  rw [own_ti (by omega : 2 * n ≤ 8000)]
  have := rng32 ((Int32.ofNat n) <<< ((1 : Int32) &&& 31))
  omega
theorem own_shr1 {n : Nat} (h : n ≤ 4000) : (Int32.ofNat (2 * n)) >>> ((1 : Int32) &&& 31) = Int32.ofNat n := by
  apply own_eqI
  rw [c_ishr (Int32.ofNat (2 * n)) 1 1 (by decide), own_ti (by omega : 2 * n ≤ 8000), own_ti (by omega)]
  omega
theorem own_shr0 (z : Int32) : z >>> ((0 : Int32) &&& 31) = z := by
  apply own_eqI
  rw [c_ishr z 0 0 (by decide)]; simp
def own_mix {α : Type} (ys vs : List α) (j : Nat) : List α := ys.take j ++ vs.drop j
theorem own_mix0 {α : Type} (ys vs : List α) : own_mix ys vs 0 = vs := by simp [own_mix]
theorem own_mixn {α : Type} (ys vs : List α) (n : Nat) (h : ys.length = n) (h2 : vs.length = n) : own_mix ys vs n = ys := by
  simp [own_mix, ← h, ← h2]
  omega
theorem own_mixl {α : Type} (ys vs : List α) (j : Nat) (h : ys.length = vs.length) : (own_mix ys vs j).length = vs.length := by simp [own_mix]; omega
theorem own_mixs {α : Type} (ys vs : List α) (d : α) (j : Nat) (h : ys.length = vs.length) (hj : j < vs.length) : (own_mix ys vs j).set j (ys.getD j d) = own_mix ys vs (j + 1) := by
  have hj' : j < ys.length := by omega
  apply List.ext_getElem?
  intro i
  simp only [own_mix, List.getElem?_set, List.length_append, List.length_take, List.length_drop, List.getElem?_append, List.getElem?_take, List.getElem?_drop, List.getD_eq_getElem?_getD, List.getElem?_eq_getElem hj', Option.getD_some]
  by_cases h1 : j = i
  · subst h1
    rw [if_pos rfl, if_pos (by omega), if_pos (by omega), if_pos (by omega), List.getElem?_eq_getElem hj']
  · rw [if_neg h1]
    by_cases h2 : i < j
    · rw [if_pos (by omega), if_pos (by omega), if_pos (by omega), if_pos (by omega)]
    · rw [if_neg (by omega), if_neg (by omega)]
      congr 1
      omega
/-- every char lies below 256 -/
abbrev own_lat (cs : List Int32) : Prop := ∀ c ∈ cs, ¬ ((255 : Int32) < c)
/-- every one is a char -/
abbrev own_chs (cs : List Int32) : Prop := ∀ c ∈ cs, ¬ (c < (0 : Int32)) ∧ ¬ ((65535 : Int32) < c)
def own_low (cs : List Int32) : List Value := cs.map fun c => .int (own_lo c)
def own_wide : List Int32 → List Value
  | [] => []
  | c :: r => .int (own_lo (c >>> ((0 : Int32) &&& 31))) :: .int (own_lo (c >>> ((8 : Int32) &&& 31))) :: own_wide r
def own_cod (cs : List Int32) : Int32 := if own_lat cs then 0 else 1
def own_enc (cs : List Int32) : List Value := if own_lat cs then own_low cs else own_wide cs
def own_enl (cs : List Int32) : Nat := if own_lat cs then cs.length else 2 * cs.length
theorem own_lowl (cs : List Int32) : (own_low cs).length = cs.length := by simp [own_low]
theorem own_widel : ∀ cs : List Int32, (own_wide cs).length = 2 * cs.length
  | [] => rfl
  | c :: r => by simp only [own_wide, List.length_cons, own_widel r]; omega
theorem own_getc (cs : List Int32) (j : Nat) (d : Value) (hj : j < cs.length) (hb : cs.length ≤ 8000) : (cs.map Value.int).getD (Int32.ofNat j).toNatClampNeg d = .int (cs.getD j 0) := by
  rw [own_tn (by omega)]
  simp [List.getD_eq_getElem?_getD, List.getElem?_map, List.getElem?_eq_getElem hj]
theorem own_getl (cs : List Int32) (j : Nat) (d : Value) (hj : j < cs.length) (hb : cs.length ≤ 8000) : (own_low cs).getD (Int32.ofNat j).toNatClampNeg d = .int (own_lo (cs.getD j 0)) := by
  rw [own_tn (by omega)]
  simp [own_low, List.getD_eq_getElem?_getD, List.getElem?_map, List.getElem?_eq_getElem hj]
theorem own_mem (cs : List Int32) (j : Nat) (hj : j < cs.length) : cs.getD j 0 ∈ cs := by
  simp [List.getD_eq_getElem?_getD, List.getElem?_eq_getElem hj]
theorem own_lolo (c : Int32) : nar .byte (own_lo c) = own_lo c := by
  show (own_lo c).toInt8.toInt32 = own_lo c
  simp [own_lo]
theorem own_mixc (cs : List Int32) (vs : List Value) (j : Nat) (h : cs.length = vs.length) (hj : j < vs.length) : (own_mix (own_low cs) vs j).set j (.int (nar .byte (own_lo (cs.getD j 0)))) = own_mix (own_low cs) vs (j + 1) := by
  have e : Value.int (own_lo (cs.getD j 0)) = (own_low cs).getD j (.int 0) := by
    simp [own_low, List.getD_eq_getElem?_getD, List.getElem?_map, List.getElem?_eq_getElem (by omega : j < cs.length)]
  rw [own_lolo, e]
  exact own_mixs _ _ _ _ (by rw [own_lowl]; exact h) hj
theorem own_wide0 (d : Value) : ∀ (cs : List Int32) (j : Nat), j < cs.length → (own_wide cs).getD (2 * j) d = .int (own_lo ((cs.getD j 0) >>> ((0 : Int32) &&& 31)))
  | [], _, h => nomatch h
  | c :: r, 0, _ => rfl
  | c :: r, j + 1, h => by
    have := own_wide0 d r j (by simpa using h)
    show (own_wide (c :: r)).getD (2 * j + 2) d = _
    simpa [own_wide] using this
theorem own_wide1 (d : Value) : ∀ (cs : List Int32) (j : Nat), j < cs.length → (own_wide cs).getD (2 * j + 1) d = .int (own_lo ((cs.getD j 0) >>> ((8 : Int32) &&& 31)))
  | [], _, h => nomatch h
  | c :: r, 0, _ => rfl
  | c :: r, j + 1, h => by
    have := own_wide1 d r j (by simpa using h)
    show (own_wide (c :: r)).getD (2 * j + 1 + 2) d = _
    simpa [own_wide] using this
theorem own_mixw (cs : List Int32) (vs : List Value) (j : Nat) (h : 2 * cs.length = vs.length) (hj : j < cs.length) :
    ((own_mix (own_wide cs) vs (2 * j)).set (2 * j) (.int (own_lo ((cs.getD j 0) >>> ((0 : Int32) &&& 31))))).set (2 * j + 1) (.int (own_lo ((cs.getD j 0) >>> ((8 : Int32) &&& 31)))) = own_mix (own_wide cs) vs (2 * (j + 1)) := by
  have hl : (own_wide cs).length = vs.length := by rw [own_widel]; exact h
  rw [← own_wide0 (.int 0) cs j hj, own_mixs _ _ _ _ hl (by omega), ← own_wide1 (.int 0) cs j hj, own_mixs _ _ _ _ hl (by omega)]
  rfl
/-- two bytes make the char again -/
theorem own_pair {c : Int32} (h0 : ¬ (c < (0 : Int32))) (h1 : ¬ ((65535 : Int32) < c)) :
    i2c (((own_lo (c >>> ((0 : Int32) &&& 31)) &&& (255 : Int32)) <<< ((0 : Int32) &&& 31)) ||| ((own_lo (c >>> ((8 : Int32) &&& 31)) &&& (255 : Int32)) <<< ((8 : Int32) &&& 31))) = c := by
  have b0 : 0 ≤ c.toInt ∧ c.toInt ≤ 65535 := by
    rw [Int32.lt_iff_toInt_lt] at h0 h1
    have : (0 : Int32).toInt = 0 := rfl
    have : (65535 : Int32).toInt = 65535 := rfl
    omega
  rw [own_shr0]
  have e8 : (c >>> ((8 : Int32) &&& 31)).toInt = c.toInt / 256 := c_ishr c 8 8 (by decide)
  have a1 := c_i2b c
  have a2 := c_i2b (c >>> ((8 : Int32) &&& 31))
  have m1 : (own_lo c &&& (255 : Int32)).toInt = (own_lo c).toInt % 256 := c_mask (own_lo c) 255 8 (by decide) (by decide)
  have m2 : (own_lo (c >>> ((8 : Int32) &&& 31)) &&& (255 : Int32)).toInt = (own_lo (c >>> ((8 : Int32) &&& 31))).toInt % 256 := c_mask (own_lo (c >>> ((8 : Int32) &&& 31))) 255 8 (by decide) (by decide)
  change ((own_lo c).toInt - c.toInt) % 256 = 0 ∧ _ at a1
  change ((own_lo (c >>> ((8 : Int32) &&& 31))).toInt - (c >>> ((8 : Int32) &&& 31)).toInt) % 256 = 0 ∧ _ at a2
  generalize own_lo c = u at *
  generalize own_lo (c >>> ((8 : Int32) &&& 31)) = w at *
  have s1 : ((u &&& (255 : Int32)) <<< ((0 : Int32) &&& 31)) = (u &&& (255 : Int32)) := by
    apply own_eqI
    have := c_ishl (u &&& (255 : Int32)) 0 0 (by decide)
    have := rng32 ((u &&& (255 : Int32)) <<< ((0 : Int32) &&& 31))
    omega
  have s2 := c_ishl (w &&& (255 : Int32)) 8 8 (by decide)
  have r2 := rng32 ((w &&& (255 : Int32)) <<< ((8 : Int32) &&& 31))
  rw [s1]
  generalize (w &&& (255 : Int32)) <<< ((8 : Int32) &&& 31) = y at *
  generalize u &&& (255 : Int32) = z at *
  have o := c_or' z y 8 (by decide) 256 rfl (by omega) (by omega) (by omega)
  have i := c_i2c (z ||| y)
  have r3 := rng32 (z ||| y)
  apply own_eqI
  show ((z ||| y).toUInt32.toUInt16.toUInt32.toInt32).toInt = _
  omega
theorem own_lo_inj {c d : Int32} (h0 : ¬ (c < (0 : Int32))) (h1 : ¬ ((255 : Int32) < c)) (g0 : ¬ (d < (0 : Int32))) (g1 : ¬ ((255 : Int32) < d)) (e : own_lo c = own_lo d) : c = d := by
  apply own_eqI
  have a1 := c_i2b c
  have a2 := c_i2b d
  have e' : c.toInt8.toInt32.toInt = d.toInt8.toInt32.toInt := congrArg Int32.toInt e
  rw [Int32.lt_iff_toInt_lt] at h0 h1 g0 g1
  have : (0 : Int32).toInt = 0 := rfl
  have : (255 : Int32).toInt = 255 := rfl
  omega
theorem own_ltbig {n : Nat} (h : n ≤ 8000) : (Int32.ofNat n) < (1073741823 : Int32) := by
  rw [Int32.lt_iff_toInt_lt, own_ti h]
  show (n : Int) < 1073741823
  omega
theorem own_narc {c : Int32} (h0 : ¬ (c < (0 : Int32))) (h1 : ¬ ((65535 : Int32) < c)) : nar .char c = c := by
  apply own_eqI
  have i := c_i2c c
  show (c.toUInt32.toUInt16.toUInt32.toInt32).toInt = _
  rw [Int32.lt_iff_toInt_lt] at h0 h1
  have : (0 : Int32).toInt = 0 := rfl
  have : (65535 : Int32).toInt = 65535 := rfl
  omega
theorem own_first {cs : List Int32} (h : ¬ own_lat cs) : ∃ i, i < cs.length ∧ (255 : Int32) < (cs.getD i 0) ∧ ∀ j, j < i → ¬ ((255 : Int32) < cs.getD j 0) := by
  induction cs with
  | nil => exact absurd (fun c hc => nomatch hc) h
  | cons c r ih =>
    by_cases hc : (255 : Int32) < c
    · exact ⟨0, by simp, hc, fun j hj => absurd hj (Nat.not_lt_zero j)⟩
    · have : ¬ own_lat r := fun hr => h fun d hd => by
        rcases List.mem_cons.mp hd with rfl | hd
        · exact hc
        · exact hr d hd
      obtain ⟨i, h1, h2, h3⟩ := ih this
      refine ⟨i + 1, by simpa using h1, by simpa using h2, fun j hj => ?_⟩
      cases j with
      | zero => simpa using hc
      | succ j => simpa using h3 j (by omega)
theorem own_fixL {Z : State} {hh : Heap} {b : Addr} {kb : ClassId} {cs : List Int32} {n : Nat} {vs : List Value} {d : Value} (h : own_lat cs) (F : Arv Z hh b kb .byte (Int32.ofNat n) (own_mix (own_low cs) vs n) d) (hn : cs.length = n) (hv : vs.length = n) : Arv Z hh b kb .byte (Int32.ofNat (own_enl cs)) (own_enc cs) d := by
  rw [own_mixn _ _ n (by rw [own_lowl]; exact hn) hv] at F
  rw [own_enl, own_enc, if_pos h, if_pos h, hn]; exact F
theorem own_fixW {Z : State} {hh : Heap} {b : Addr} {kb : ClassId} {cs : List Int32} {n : Nat} {d : Value} (h : ¬ own_lat cs) (F : Arv Z hh b kb .byte (Int32.ofNat (2 * n)) (own_wide cs) d) (hn : cs.length = n) : Arv Z hh b kb .byte (Int32.ofNat (own_enl cs)) (own_enc cs) d := by
  rw [own_enl, own_enc, if_neg h, if_neg h, hn]; exact F
theorem own_ne0 {n : Nat} (h : 0 < n) (hb : n ≤ 8000) : ¬ ((Int32.ofNat n) = (0 : Int32)) := fun e => by
  have := own_inj (n := 0) hb (by omega) e
  omega
theorem own_codl {cs : List Int32} {n : Nat} (hn : cs.length = n) (hp : 0 < n) (hb : n ≤ 4000) : nar .byte (own_lo (ushr ((Int32.ofNat n) - (Int32.ofNat (own_enl cs))) (31 : Int32))) = own_cod cs := by
  rw [own_lolo, own_enl, own_cod]
  by_cases h : own_lat cs
  · rw [if_pos h, if_pos h, hn, Int32.sub_self]; rfl
  · rw [if_neg h, if_neg h, hn]
    have e : ushr ((Int32.ofNat n) - (Int32.ofNat (2 * n))) (31 : Int32) = 1 := by
      apply own_eqI
      have a := c_isub (Int32.ofNat n) (Int32.ofNat (2 * n))
      rw [own_ti (by omega), own_ti (by omega : 2 * n ≤ 8000)] at a
      have r := rng32 ((Int32.ofNat n) - (Int32.ofNat (2 * n)))
      have s := c_iushr ((Int32.ofNat n) - (Int32.ofNat (2 * n))) 31 31 (by decide) (by decide)
      show (((Int32.ofNat n) - (Int32.ofNat (2 * n))).toUInt32 >>> ((31 : Int32) &&& 31).toUInt32).toInt32.toInt = 1
      rw [s]
      omega
    rw [e]; rfl
theorem own_c01 (cs : List Int32) : own_cod cs = 0 ∨ own_cod cs = 1 := by
  unfold own_cod; split
  · exact Or.inl rfl
  · exact Or.inr rfl
theorem own_cnar (cs : List Int32) : narrow .byte (.int (own_cod cs)) = .int (own_cod cs) := by rcases own_c01 cs with h | h <;> rw [h] <;> rfl
theorem own_cnarb (cs : List Int32) : nar .byte (own_cod cs) = own_cod cs := by rcases own_c01 cs with h | h <;> rw [h] <;> rfl
theorem own_cfit (cs : List Int32) : fits .byte (.int (own_cod cs)) = true := by rcases own_c01 cs with h | h <;> rw [h] <;> rfl
theorem own_lenq (cs : List Int32) (hb : cs.length ≤ 4000) : (Int32.ofNat (own_enl cs)) >>> ((own_cod cs) &&& 31) = Int32.ofNat cs.length := by
  rw [own_enl, own_cod]
  by_cases h : own_lat cs
  · rw [if_pos h, if_pos h]; exact own_shr0 _
  · rw [if_neg h, if_neg h]; exact own_shr1 hb
/-- one more than the place of the first ch among k chars from j on; 0: none -/
def own_ix (cs : List Int32) (ch : Int32) : Nat → Nat → Nat
  | _, 0 => 0
  | j, k + 1 => if cs.getD j 0 = ch then j + 1 else own_ix cs ch (j + 1) k
theorem own_ixle (cs : List Int32) (ch : Int32) : ∀ (k j : Nat), own_ix cs ch j k ≤ j + k
  | 0, j => by simp [own_ix]
  | k + 1, j => by
    unfold own_ix; split
    · omega
    · have := own_ixle cs ch k (j + 1); omega
theorem own_ix0 (cs : List Int32) (ch : Int32) (h : ∀ c ∈ cs, c ≠ ch) : ∀ (k j : Nat), j + k ≤ cs.length → own_ix cs ch j k = 0
  | 0, j, _ => rfl
  | k + 1, j, hj => by
    unfold own_ix
    rw [if_neg (h _ (own_mem cs j (by omega)))]
    exact own_ix0 cs ch h k (j + 1) (by omega)
theorem own_minT {i j : Nat} (hi : i ≤ 8000) (hj : j ≤ 8000) (h : ¬ ((Int32.ofNat j) < (Int32.ofNat i))) : Int32.ofNat i = Int32.ofNat (min i j) := by
  by_cases q : i ≤ j
  · rw [Nat.min_eq_left q]
  · exact absurd (own_lt (by omega) hi) h
theorem own_minF {i j : Nat} (hi : i ≤ 8000) (hj : j ≤ 8000) (h : (Int32.ofNat j) < (Int32.ofNat i)) : Int32.ofNat j = Int32.ofNat (min i j) := by
  by_cases q : i ≤ j
  · exact absurd h (own_nlt q hj)
  · rw [Nat.min_eq_right (by omega)]
theorem own_maxT {i j : Nat} (hi : i ≤ 8000) (hj : j ≤ 8000) (h : (Int32.ofNat i) < (Int32.ofNat j)) : Int32.ofNat j = Int32.ofNat (max i j) := by
  by_cases q : j ≤ i
  · exact absurd h (own_nlt q hi)
  · rw [Nat.max_eq_right (by omega)]
theorem own_maxF {i j : Nat} (hi : i ≤ 8000) (hj : j ≤ 8000) (h : ¬ ((Int32.ofNat i) < (Int32.ofNat j))) : Int32.ofNat i = Int32.ofNat (max i j) := by
  by_cases q : j ≤ i
  · rw [Nat.max_eq_left q]
  · exact absurd (own_lt (by omega) hj) h
theorem own_found (j : Nat) : Int32.ofNat j = Int32.ofNat (j + 1) - (1 : Int32) := by rw [own_up, Int32.add_sub_cancel]
theorem own_geth (cs : List Int32) (j : Nat) (d : Value) (hl : own_lat cs) (hj : j < cs.length) (hb : cs.length ≤ 8000) : (own_enc cs).getD (Int32.ofNat j).toNatClampNeg d = .int (own_lo (cs.getD j 0)) := by
  rw [own_enc, if_pos hl]; exact own_getl cs j d hj hb
theorem own_nari2c (z : Int32) : nar .char (i2c z) = i2c z := by
  have i := c_i2c z
  have k := c_i2c (z.toUInt32.toUInt16.toUInt32.toInt32)
  apply own_eqI
  show (z.toUInt32.toUInt16.toUInt32.toInt32).toUInt32.toUInt16.toUInt32.toInt32.toInt = z.toUInt32.toUInt16.toUInt32.toInt32.toInt
  omega
theorem own_rng {q z : Int32} (h : q = i2c z) : ¬ (q < (0 : Int32)) ∧ ¬ ((65535 : Int32) < q) := by
  have i := c_i2c z
  have e : q.toInt = z.toUInt32.toUInt16.toUInt32.toInt32.toInt := congrArg Int32.toInt h
  rw [Int32.lt_iff_toInt_lt, Int32.lt_iff_toInt_lt]
  have : (0 : Int32).toInt = 0 := rfl
  have : (65535 : Int32).toInt = 65535 := rfl
  omega
theorem own_chs0 : own_chs [] := fun _ h => nomatch h
theorem own_chsS {c : Int32} {r : List Int32} (h : ¬ (c < (0 : Int32)) ∧ ¬ ((65535 : Int32) < c)) (g : own_chs r) : own_chs (c :: r) := fun d hd => by
  rcases List.mem_cons.mp hd with rfl | hd
  · exact h
  · exact g d hd
theorem own_lat0 : own_lat [] := fun _ h => nomatch h
theorem own_latS {c : Int32} {r : List Int32} (h : ¬ ((255 : Int32) < c)) (g : own_lat r) : own_lat (c :: r) := fun d hd => by
  rcases List.mem_cons.mp hd with rfl | hd
  · exact h
  · exact g d hd
theorem own_int (z : Int32) (n : Nat) (h : z.toInt = n) : z = Int32.ofNat n := by
  apply Int32.toInt_inj.mp
  rw [h]
  have := z.toInt_lt
  have := z.le_toInt
  rw [Int32.toInt_ofNat_of_lt]
  omega
theorem own_and3 (z : Int32) : ∃ n : Nat, (z &&& (3 : Int32)) = Int32.ofNat n ∧ n < 4 := by
  have h := c_mask z 3 2 (by decide) (by decide)
  refine ⟨(z.toInt % 4).toNat, own_int _ _ ?_, by omega⟩
  rw [h]; omega
theorem own_modn (z : Int32) (d : Int32) (k : Nat) (hd : d.toInt = k) (hk : 0 < k) (hk2 : k ≤ 100) : ∃ n : Nat, ((z &&& (2147483647 : Int32)) % d) = Int32.ofNat n ∧ n < k := by
  have h := c_mask z 2147483647 31 (by decide) (by decide)
  have h2 := (c_irem (z &&& (2147483647 : Int32)) d k hd).1 (by rw [h]; omega)
  have h3 : 0 ≤ (z &&& (2147483647 : Int32)).toInt := by rw [h]; omega
  have h4 := Int.emod_nonneg (z &&& (2147483647 : Int32)).toInt (show (k : Int) ≠ 0 by omega)
  have h5 := Int.emod_lt_of_pos (z &&& (2147483647 : Int32)).toInt (show (0 : Int) < k by omega)
  refine ⟨((z &&& (2147483647 : Int32)).toInt % k).toNat, own_int _ _ ?_, by omega⟩
  rw [h2]; omega
theorem own_lt16 {c : Int32} (h : ¬ ((65535 : Int32) < c)) : c < (65536 : Int32) := by
  rw [Int32.lt_iff_toInt_lt] at *
  have : (65535 : Int32).toInt = 65535 := rfl
  have : (65536 : Int32).toInt = 65536 := rfl
  omega
theorem own_sub0 {i n : Nat} (h : ¬ ((Int32.ofNat i) < (Int32.ofNat n))) (hn : n ≤ 8000) : n - i = 0 := by
  by_cases q : i < n
  · exact absurd (own_lt q hn) h
  · omega
theorem own_cod0 {cs : List Int32} (h : own_lat cs) : own_cod cs = (0 : Int32) := if_pos h
theorem own_cod1 {cs : List Int32} (h : ¬ own_lat cs) : ¬ (own_cod cs = (0 : Int32)) := by rw [own_cod, if_neg h]; decide
theorem own_fin0 (a b c d ch : Int32) (lo hi : Nat) (h : lo ≤ hi) (g : hi < 5) : (if (if ((Int32.ofNat (own_ix [a, b, c, d] ch lo ([a, b, c, d].length - lo))) - (1 : Int32)) < (0 : Int32) then (Int32.ofNat hi) else (if ((Int32.ofNat (own_ix [a, b, c, d] ch lo ([a, b, c, d].length - lo))) - (1 : Int32)) < (Int32.ofNat hi) then ((Int32.ofNat (own_ix [a, b, c, d] ch lo ([a, b, c, d].length - lo))) - (1 : Int32)) else (Int32.ofNat hi))) = (if (0 : Int32) < (Int32.ofNat lo) then (if (1 : Int32) < (Int32.ofNat lo) then (if (2 : Int32) < (Int32.ofNat lo) then (if (3 : Int32) < (Int32.ofNat lo) then (Int32.ofNat hi) else (if (3 : Int32) < (Int32.ofNat hi) then (if d = ch then (3 : Int32) else (Int32.ofNat hi)) else (Int32.ofNat hi))) else (if (2 : Int32) < (Int32.ofNat hi) then (if c = ch then (2 : Int32) else (if (3 : Int32) < (Int32.ofNat lo) then (Int32.ofNat hi) else (if (3 : Int32) < (Int32.ofNat hi) then (if d = ch then (3 : Int32) else (Int32.ofNat hi)) else (Int32.ofNat hi)))) else (if (3 : Int32) < (Int32.ofNat lo) then (Int32.ofNat hi) else (if (3 : Int32) < (Int32.ofNat hi) then (if d = ch then (3 : Int32) else (Int32.ofNat hi)) else (Int32.ofNat hi))))) else (if (1 : Int32) < (Int32.ofNat hi) then (if b = ch then (1 : Int32) else (if (2 : Int32) < (Int32.ofNat lo) then (if (3 : Int32) < (Int32.ofNat lo) then (Int32.ofNat hi) else (if (3 : Int32) < (Int32.ofNat hi) then (if d = ch then (3 : Int32) else (Int32.ofNat hi)) else (Int32.ofNat hi))) else (if (2 : Int32) < (Int32.ofNat hi) then (if c = ch then (2 : Int32) else (if (3 : Int32) < (Int32.ofNat lo) then (Int32.ofNat hi) else (if (3 : Int32) < (Int32.ofNat hi) then (if d = ch then (3 : Int32) else (Int32.ofNat hi)) else (Int32.ofNat hi)))) else (if (3 : Int32) < (Int32.ofNat lo) then (Int32.ofNat hi) else (if (3 : Int32) < (Int32.ofNat hi) then (if d = ch then (3 : Int32) else (Int32.ofNat hi)) else (Int32.ofNat hi)))))) else (if (2 : Int32) < (Int32.ofNat lo) then (if (3 : Int32) < (Int32.ofNat lo) then (Int32.ofNat hi) else (if (3 : Int32) < (Int32.ofNat hi) then (if d = ch then (3 : Int32) else (Int32.ofNat hi)) else (Int32.ofNat hi))) else (if (2 : Int32) < (Int32.ofNat hi) then (if c = ch then (2 : Int32) else (if (3 : Int32) < (Int32.ofNat lo) then (Int32.ofNat hi) else (if (3 : Int32) < (Int32.ofNat hi) then (if d = ch then (3 : Int32) else (Int32.ofNat hi)) else (Int32.ofNat hi)))) else (if (3 : Int32) < (Int32.ofNat lo) then (Int32.ofNat hi) else (if (3 : Int32) < (Int32.ofNat hi) then (if d = ch then (3 : Int32) else (Int32.ofNat hi)) else (Int32.ofNat hi))))))) else (if (0 : Int32) < (Int32.ofNat hi) then (if a = ch then (0 : Int32) else (if (1 : Int32) < (Int32.ofNat lo) then (if (2 : Int32) < (Int32.ofNat lo) then (if (3 : Int32) < (Int32.ofNat lo) then (Int32.ofNat hi) else (if (3 : Int32) < (Int32.ofNat hi) then (if d = ch then (3 : Int32) else (Int32.ofNat hi)) else (Int32.ofNat hi))) else (if (2 : Int32) < (Int32.ofNat hi) then (if c = ch then (2 : Int32) else (if (3 : Int32) < (Int32.ofNat lo) then (Int32.ofNat hi) else (if (3 : Int32) < (Int32.ofNat hi) then (if d = ch then (3 : Int32) else (Int32.ofNat hi)) else (Int32.ofNat hi)))) else (if (3 : Int32) < (Int32.ofNat lo) then (Int32.ofNat hi) else (if (3 : Int32) < (Int32.ofNat hi) then (if d = ch then (3 : Int32) else (Int32.ofNat hi)) else (Int32.ofNat hi))))) else (if (1 : Int32) < (Int32.ofNat hi) then (if b = ch then (1 : Int32) else (if (2 : Int32) < (Int32.ofNat lo) then (if (3 : Int32) < (Int32.ofNat lo) then (Int32.ofNat hi) else (if (3 : Int32) < (Int32.ofNat hi) then (if d = ch then (3 : Int32) else (Int32.ofNat hi)) else (Int32.ofNat hi))) else (if (2 : Int32) < (Int32.ofNat hi) then (if c = ch then (2 : Int32) else (if (3 : Int32) < (Int32.ofNat lo) then (Int32.ofNat hi) else (if (3 : Int32) < (Int32.ofNat hi) then (if d = ch then (3 : Int32) else (Int32.ofNat hi)) else (Int32.ofNat hi)))) else (if (3 : Int32) < (Int32.ofNat lo) then (Int32.ofNat hi) else (if (3 : Int32) < (Int32.ofNat hi) then (if d = ch then (3 : Int32) else (Int32.ofNat hi)) else (Int32.ofNat hi)))))) else (if (2 : Int32) < (Int32.ofNat lo) then (if (3 : Int32) < (Int32.ofNat lo) then (Int32.ofNat hi) else (if (3 : Int32) < (Int32.ofNat hi) then (if d = ch then (3 : Int32) else (Int32.ofNat hi)) else (Int32.ofNat hi))) else (if (2 : Int32) < (Int32.ofNat hi) then (if c = ch then (2 : Int32) else (if (3 : Int32) < (Int32.ofNat lo) then (Int32.ofNat hi) else (if (3 : Int32) < (Int32.ofNat hi) then (if d = ch then (3 : Int32) else (Int32.ofNat hi)) else (Int32.ofNat hi)))) else (if (3 : Int32) < (Int32.ofNat lo) then (Int32.ofNat hi) else (if (3 : Int32) < (Int32.ofNat hi) then (if d = ch then (3 : Int32) else (Int32.ofNat hi)) else (Int32.ofNat hi)))))))) else (if (1 : Int32) < (Int32.ofNat lo) then (if (2 : Int32) < (Int32.ofNat lo) then (if (3 : Int32) < (Int32.ofNat lo) then (Int32.ofNat hi) else (if (3 : Int32) < (Int32.ofNat hi) then (if d = ch then (3 : Int32) else (Int32.ofNat hi)) else (Int32.ofNat hi))) else (if (2 : Int32) < (Int32.ofNat hi) then (if c = ch then (2 : Int32) else (if (3 : Int32) < (Int32.ofNat lo) then (Int32.ofNat hi) else (if (3 : Int32) < (Int32.ofNat hi) then (if d = ch then (3 : Int32) else (Int32.ofNat hi)) else (Int32.ofNat hi)))) else (if (3 : Int32) < (Int32.ofNat lo) then (Int32.ofNat hi) else (if (3 : Int32) < (Int32.ofNat hi) then (if d = ch then (3 : Int32) else (Int32.ofNat hi)) else (Int32.ofNat hi))))) else (if (1 : Int32) < (Int32.ofNat hi) then (if b = ch then (1 : Int32) else (if (2 : Int32) < (Int32.ofNat lo) then (if (3 : Int32) < (Int32.ofNat lo) then (Int32.ofNat hi) else (if (3 : Int32) < (Int32.ofNat hi) then (if d = ch then (3 : Int32) else (Int32.ofNat hi)) else (Int32.ofNat hi))) else (if (2 : Int32) < (Int32.ofNat hi) then (if c = ch then (2 : Int32) else (if (3 : Int32) < (Int32.ofNat lo) then (Int32.ofNat hi) else (if (3 : Int32) < (Int32.ofNat hi) then (if d = ch then (3 : Int32) else (Int32.ofNat hi)) else (Int32.ofNat hi)))) else (if (3 : Int32) < (Int32.ofNat lo) then (Int32.ofNat hi) else (if (3 : Int32) < (Int32.ofNat hi) then (if d = ch then (3 : Int32) else (Int32.ofNat hi)) else (Int32.ofNat hi)))))) else (if (2 : Int32) < (Int32.ofNat lo) then (if (3 : Int32) < (Int32.ofNat lo) then (Int32.ofNat hi) else (if (3 : Int32) < (Int32.ofNat hi) then (if d = ch then (3 : Int32) else (Int32.ofNat hi)) else (Int32.ofNat hi))) else (if (2 : Int32) < (Int32.ofNat hi) then (if c = ch then (2 : Int32) else (if (3 : Int32) < (Int32.ofNat lo) then (Int32.ofNat hi) else (if (3 : Int32) < (Int32.ofNat hi) then (if d = ch then (3 : Int32) else (Int32.ofNat hi)) else (Int32.ofNat hi)))) else (if (3 : Int32) < (Int32.ofNat lo) then (Int32.ofNat hi) else (if (3 : Int32) < (Int32.ofNat hi) then (if d = ch then (3 : Int32) else (Int32.ofNat hi)) else (Int32.ofNat hi))))))))) then (1 : Int32) else (0 : Int32)) = (1 : Int32) := by
  rcases (by omega : hi = 0 ∨ hi = 1 ∨ hi = 2 ∨ hi = 3 ∨ hi = 4) with rfl | rfl | rfl | rfl | rfl <;>
  rcases (by omega : lo = 0 ∨ lo = 1 ∨ lo = 2 ∨ lo = 3 ∨ lo = 4) with rfl | rfl | rfl | rfl | rfl <;>
  first
  | omega
  | (by_cases h1 : a = ch <;> by_cases h2 : b = ch <;> by_cases h3 : c = ch <;> by_cases h4 : d = ch <;> simp +decide [own_ix, h1, h2, h3, h4])
theorem own_fin (a b c d ch : Int32) (i j : Nat) (h : i < 5) (g : j < 5) : (if (if ((Int32.ofNat (own_ix [a, b, c, d] ch (min i j) ([a, b, c, d].length - (min i j)))) - (1 : Int32)) < (0 : Int32) then (Int32.ofNat (max i j)) else (if ((Int32.ofNat (own_ix [a, b, c, d] ch (min i j) ([a, b, c, d].length - (min i j)))) - (1 : Int32)) < (Int32.ofNat (max i j)) then ((Int32.ofNat (own_ix [a, b, c, d] ch (min i j) ([a, b, c, d].length - (min i j)))) - (1 : Int32)) else (Int32.ofNat (max i j)))) = (if (0 : Int32) < (Int32.ofNat (min i j)) then (if (1 : Int32) < (Int32.ofNat (min i j)) then (if (2 : Int32) < (Int32.ofNat (min i j)) then (if (3 : Int32) < (Int32.ofNat (min i j)) then (Int32.ofNat (max i j)) else (if (3 : Int32) < (Int32.ofNat (max i j)) then (if d = ch then (3 : Int32) else (Int32.ofNat (max i j))) else (Int32.ofNat (max i j)))) else (if (2 : Int32) < (Int32.ofNat (max i j)) then (if c = ch then (2 : Int32) else (if (3 : Int32) < (Int32.ofNat (min i j)) then (Int32.ofNat (max i j)) else (if (3 : Int32) < (Int32.ofNat (max i j)) then (if d = ch then (3 : Int32) else (Int32.ofNat (max i j))) else (Int32.ofNat (max i j))))) else (if (3 : Int32) < (Int32.ofNat (min i j)) then (Int32.ofNat (max i j)) else (if (3 : Int32) < (Int32.ofNat (max i j)) then (if d = ch then (3 : Int32) else (Int32.ofNat (max i j))) else (Int32.ofNat (max i j)))))) else (if (1 : Int32) < (Int32.ofNat (max i j)) then (if b = ch then (1 : Int32) else (if (2 : Int32) < (Int32.ofNat (min i j)) then (if (3 : Int32) < (Int32.ofNat (min i j)) then (Int32.ofNat (max i j)) else (if (3 : Int32) < (Int32.ofNat (max i j)) then (if d = ch then (3 : Int32) else (Int32.ofNat (max i j))) else (Int32.ofNat (max i j)))) else (if (2 : Int32) < (Int32.ofNat (max i j)) then (if c = ch then (2 : Int32) else (if (3 : Int32) < (Int32.ofNat (min i j)) then (Int32.ofNat (max i j)) else (if (3 : Int32) < (Int32.ofNat (max i j)) then (if d = ch then (3 : Int32) else (Int32.ofNat (max i j))) else (Int32.ofNat (max i j))))) else (if (3 : Int32) < (Int32.ofNat (min i j)) then (Int32.ofNat (max i j)) else (if (3 : Int32) < (Int32.ofNat (max i j)) then (if d = ch then (3 : Int32) else (Int32.ofNat (max i j))) else (Int32.ofNat (max i j))))))) else (if (2 : Int32) < (Int32.ofNat (min i j)) then (if (3 : Int32) < (Int32.ofNat (min i j)) then (Int32.ofNat (max i j)) else (if (3 : Int32) < (Int32.ofNat (max i j)) then (if d = ch then (3 : Int32) else (Int32.ofNat (max i j))) else (Int32.ofNat (max i j)))) else (if (2 : Int32) < (Int32.ofNat (max i j)) then (if c = ch then (2 : Int32) else (if (3 : Int32) < (Int32.ofNat (min i j)) then (Int32.ofNat (max i j)) else (if (3 : Int32) < (Int32.ofNat (max i j)) then (if d = ch then (3 : Int32) else (Int32.ofNat (max i j))) else (Int32.ofNat (max i j))))) else (if (3 : Int32) < (Int32.ofNat (min i j)) then (Int32.ofNat (max i j)) else (if (3 : Int32) < (Int32.ofNat (max i j)) then (if d = ch then (3 : Int32) else (Int32.ofNat (max i j))) else (Int32.ofNat (max i j)))))))) else (if (0 : Int32) < (Int32.ofNat (max i j)) then (if a = ch then (0 : Int32) else (if (1 : Int32) < (Int32.ofNat (min i j)) then (if (2 : Int32) < (Int32.ofNat (min i j)) then (if (3 : Int32) < (Int32.ofNat (min i j)) then (Int32.ofNat (max i j)) else (if (3 : Int32) < (Int32.ofNat (max i j)) then (if d = ch then (3 : Int32) else (Int32.ofNat (max i j))) else (Int32.ofNat (max i j)))) else (if (2 : Int32) < (Int32.ofNat (max i j)) then (if c = ch then (2 : Int32) else (if (3 : Int32) < (Int32.ofNat (min i j)) then (Int32.ofNat (max i j)) else (if (3 : Int32) < (Int32.ofNat (max i j)) then (if d = ch then (3 : Int32) else (Int32.ofNat (max i j))) else (Int32.ofNat (max i j))))) else (if (3 : Int32) < (Int32.ofNat (min i j)) then (Int32.ofNat (max i j)) else (if (3 : Int32) < (Int32.ofNat (max i j)) then (if d = ch then (3 : Int32) else (Int32.ofNat (max i j))) else (Int32.ofNat (max i j)))))) else (if (1 : Int32) < (Int32.ofNat (max i j)) then (if b = ch then (1 : Int32) else (if (2 : Int32) < (Int32.ofNat (min i j)) then (if (3 : Int32) < (Int32.ofNat (min i j)) then (Int32.ofNat (max i j)) else (if (3 : Int32) < (Int32.ofNat (max i j)) then (if d = ch then (3 : Int32) else (Int32.ofNat (max i j))) else (Int32.ofNat (max i j)))) else (if (2 : Int32) < (Int32.ofNat (max i j)) then (if c = ch then (2 : Int32) else (if (3 : Int32) < (Int32.ofNat (min i j)) then (Int32.ofNat (max i j)) else (if (3 : Int32) < (Int32.ofNat (max i j)) then (if d = ch then (3 : Int32) else (Int32.ofNat (max i j))) else (Int32.ofNat (max i j))))) else (if (3 : Int32) < (Int32.ofNat (min i j)) then (Int32.ofNat (max i j)) else (if (3 : Int32) < (Int32.ofNat (max i j)) then (if d = ch then (3 : Int32) else (Int32.ofNat (max i j))) else (Int32.ofNat (max i j))))))) else (if (2 : Int32) < (Int32.ofNat (min i j)) then (if (3 : Int32) < (Int32.ofNat (min i j)) then (Int32.ofNat (max i j)) else (if (3 : Int32) < (Int32.ofNat (max i j)) then (if d = ch then (3 : Int32) else (Int32.ofNat (max i j))) else (Int32.ofNat (max i j)))) else (if (2 : Int32) < (Int32.ofNat (max i j)) then (if c = ch then (2 : Int32) else (if (3 : Int32) < (Int32.ofNat (min i j)) then (Int32.ofNat (max i j)) else (if (3 : Int32) < (Int32.ofNat (max i j)) then (if d = ch then (3 : Int32) else (Int32.ofNat (max i j))) else (Int32.ofNat (max i j))))) else (if (3 : Int32) < (Int32.ofNat (min i j)) then (Int32.ofNat (max i j)) else (if (3 : Int32) < (Int32.ofNat (max i j)) then (if d = ch then (3 : Int32) else (Int32.ofNat (max i j))) else (Int32.ofNat (max i j))))))))) else (if (1 : Int32) < (Int32.ofNat (min i j)) then (if (2 : Int32) < (Int32.ofNat (min i j)) then (if (3 : Int32) < (Int32.ofNat (min i j)) then (Int32.ofNat (max i j)) else (if (3 : Int32) < (Int32.ofNat (max i j)) then (if d = ch then (3 : Int32) else (Int32.ofNat (max i j))) else (Int32.ofNat (max i j)))) else (if (2 : Int32) < (Int32.ofNat (max i j)) then (if c = ch then (2 : Int32) else (if (3 : Int32) < (Int32.ofNat (min i j)) then (Int32.ofNat (max i j)) else (if (3 : Int32) < (Int32.ofNat (max i j)) then (if d = ch then (3 : Int32) else (Int32.ofNat (max i j))) else (Int32.ofNat (max i j))))) else (if (3 : Int32) < (Int32.ofNat (min i j)) then (Int32.ofNat (max i j)) else (if (3 : Int32) < (Int32.ofNat (max i j)) then (if d = ch then (3 : Int32) else (Int32.ofNat (max i j))) else (Int32.ofNat (max i j)))))) else (if (1 : Int32) < (Int32.ofNat (max i j)) then (if b = ch then (1 : Int32) else (if (2 : Int32) < (Int32.ofNat (min i j)) then (if (3 : Int32) < (Int32.ofNat (min i j)) then (Int32.ofNat (max i j)) else (if (3 : Int32) < (Int32.ofNat (max i j)) then (if d = ch then (3 : Int32) else (Int32.ofNat (max i j))) else (Int32.ofNat (max i j)))) else (if (2 : Int32) < (Int32.ofNat (max i j)) then (if c = ch then (2 : Int32) else (if (3 : Int32) < (Int32.ofNat (min i j)) then (Int32.ofNat (max i j)) else (if (3 : Int32) < (Int32.ofNat (max i j)) then (if d = ch then (3 : Int32) else (Int32.ofNat (max i j))) else (Int32.ofNat (max i j))))) else (if (3 : Int32) < (Int32.ofNat (min i j)) then (Int32.ofNat (max i j)) else (if (3 : Int32) < (Int32.ofNat (max i j)) then (if d = ch then (3 : Int32) else (Int32.ofNat (max i j))) else (Int32.ofNat (max i j))))))) else (if (2 : Int32) < (Int32.ofNat (min i j)) then (if (3 : Int32) < (Int32.ofNat (min i j)) then (Int32.ofNat (max i j)) else (if (3 : Int32) < (Int32.ofNat (max i j)) then (if d = ch then (3 : Int32) else (Int32.ofNat (max i j))) else (Int32.ofNat (max i j)))) else (if (2 : Int32) < (Int32.ofNat (max i j)) then (if c = ch then (2 : Int32) else (if (3 : Int32) < (Int32.ofNat (min i j)) then (Int32.ofNat (max i j)) else (if (3 : Int32) < (Int32.ofNat (max i j)) then (if d = ch then (3 : Int32) else (Int32.ofNat (max i j))) else (Int32.ofNat (max i j))))) else (if (3 : Int32) < (Int32.ofNat (min i j)) then (Int32.ofNat (max i j)) else (if (3 : Int32) < (Int32.ofNat (max i j)) then (if d = ch then (3 : Int32) else (Int32.ofNat (max i j))) else (Int32.ofNat (max i j)))))))))) then (1 : Int32) else (0 : Int32)) = (1 : Int32) := own_fin0 a b c d ch (min i j) (max i j) (by omega) (by omega)
theorem pn_java_lang_StringUTF16 : plainName "java/lang/StringUTF16" = true := by first | (simp [plainName, overriddenIn]; done) | decide +kernel
theorem d_jdk_52_method_21_0 : decode jdk_52_method_21_code 0 = .ok (.iconst 0, 1) := by decide +kernel
theorem d_jdk_52_method_21_1 : decode jdk_52_method_21_code 1 = .ok (.istore 5, 2) := by decide +kernel
theorem d_jdk_52_method_21_3 : decode jdk_52_method_21_code 3 = .ok (.iload 5, 2) := by decide +kernel
theorem d_jdk_52_method_21_5 : decode jdk_52_method_21_code 5 = .ok (.iload 4, 2) := by decide +kernel
theorem d_jdk_52_method_21_7 : decode jdk_52_method_21_code 7 = .ok (.if_icmp .ge 37, 3) := by decide +kernel
theorem d_jdk_52_method_21_10 : decode jdk_52_method_21_code 10 = .ok (.aload_n 0, 1) := by decide +kernel
theorem d_jdk_52_method_21_11 : decode jdk_52_method_21_code 11 = .ok (.iload_n 1, 1) := by decide +kernel
theorem d_jdk_52_method_21_12 : decode jdk_52_method_21_code 12 = .ok (.caload, 1) := by decide +kernel
theorem os_rmCmpL_13 {z0 : Value} {z1 : Value} {z2 : Value} {z3 : Value} {z4 : Value} {z5 : Value} {s6 : Slot} {v : Int32} (h : One s6) : storeLocals #[.val z0, .val z1, .val z2, .val z3, .val z4, .val z5, s6] 6 (.int v) = some #[.val z0, .val z1, .val z2, .val z3, .val z4, .val z5, .val (.int v)] := by
  rcases h with rfl | ⟨w, rfl, hw⟩
  · rfl
  · cases w <;> first | rfl | (simp [Value.category] at hw)
theorem d_jdk_52_method_21_13 : decode jdk_52_method_21_code 13 = .ok (.istore 6, 2) := by decide +kernel
theorem d_jdk_52_method_21_15 : decode jdk_52_method_21_code 15 = .ok (.iload 6, 2) := by decide +kernel
theorem d_jdk_52_method_21_17 : decode jdk_52_method_21_code 17 = .ok (.sipush 255, 3) := by decide +kernel
theorem d_jdk_52_method_21_20 : decode jdk_52_method_21_code 20 = .ok (.if_icmp .le 6, 3) := by decide +kernel
theorem d_jdk_52_method_21_26 : decode jdk_52_method_21_code 26 = .ok (.aload_n 2, 1) := by decide +kernel
theorem d_jdk_52_method_21_27 : decode jdk_52_method_21_code 27 = .ok (.iload_n 3, 1) := by decide +kernel
theorem d_jdk_52_method_21_28 : decode jdk_52_method_21_code 28 = .ok (.iload 6, 2) := by decide +kernel
theorem d_jdk_52_method_21_30 : decode jdk_52_method_21_code 30 = .ok (.i2b, 1) := by decide +kernel
theorem d_jdk_52_method_21_31 : decode jdk_52_method_21_code 31 = .ok (.bastore, 1) := by decide +kernel
theorem d_jdk_52_method_21_32 : decode jdk_52_method_21_code 32 = .ok (.iinc 1 1, 3) := by decide +kernel
theorem d_jdk_52_method_21_35 : decode jdk_52_method_21_code 35 = .ok (.iinc 3 1, 3) := by decide +kernel
theorem d_jdk_52_method_21_38 : decode jdk_52_method_21_code 38 = .ok (.iinc 5 1, 3) := by decide +kernel
theorem d_jdk_52_method_21_41 : decode jdk_52_method_21_code 41 = .ok (.goto (-38), 3) := by decide +kernel
theorem d_jdk_52_method_21_44 : decode jdk_52_method_21_code 44 = .ok (.iload 4, 2) := by decide +kernel
theorem d_jdk_52_method_21_46 : decode jdk_52_method_21_code 46 = .ok (.ireturn, 1) := by decide +kernel
theorem ef_rmCmpL (m : MethodId) (x0 : Addr) (x1 : Int32) (x2 : Addr) (x3 : Int32) (x4 : Int32) : entryFrame m #[(.ref x0), (.int x1), (.ref x2), (.int x3), (.int x4)] 7 = mkF m 0 #[.val (.ref x0), .val (.int x1), .val (.ref x2), .val (.int x3), .val (.int x4), .unset, .unset] [] := by first | (simp [entryFrame, mkF, argsToLocals, Value.category]; done) | rfl
def Q_rmCmpL (Z : State) (ca : Addr) (ba : Addr) (cs : List Int32) (kc : ClassId) (n : Nat) (kb : ClassId) (vs : List Value) (h0 : Heap) (n0 : Nat) (v : Option Value) (h : Heap) (L : List Loc) : Prop := (v = some (.int (Int32.ofNat n))) ∧ (Fr n0 L) ∧ (Keep h0 h [ba]) ∧ (Arv Z h ba kb .byte (Int32.ofNat n) (own_mix (own_low cs) vs n) (.int (0 : Int32)))
set_option maxRecDepth 65536 in
set_option maxHeartbeats 40000000 in
theorem rmCmpL (l : Launch) (Z : State) (a0 : Array Value) (hw : ∀ d ∈ tables_1, d.before a0 Z = true) (ws : List Jvm.Cond) (ca : Addr) (ba : Addr) (cs : List Int32) (kc : ClassId) (n : Nat) (kb : ClassId) (vs : List Value) (h0 : Heap) (n0 : Nat) (Z0 : n0 ≤ h0.size) (I1 : Arv Z h0 ca kc .char (Int32.ofNat n) (cs.map Value.int) (.int (0 : Int32))) (I2 : Arv Z h0 ba kb .byte (Int32.ofNat n) vs (.int (0 : Int32))) (hn : cs.length = n) (hb : n ≤ 4) (hvs : vs.length = n) (gb : n0 ≤ ba) (hne : @Ne Nat ca ba) (hlat : own_lat cs) :
    MetFree l (⟨"java/lang/StringUTF16", "compress", "([CI[BII)I"⟩ : MethodName) (head1 (Jvm.Cond.code (⟨"java/lang/StringUTF16", "compress", "([CI[BII)I"⟩ : MethodName) jdk_52_method_21_code 7 (some .int) :: ws) ({ frames := 0, cells := 0, slots := 0, locals := 0 } : Room)) (fun ar_ U => ar_ = #[(.ref ca), (.int (0 : Int32)), (.ref ba), (.int (0 : Int32)), (.int (Int32.ofNat n))] ∧ Z.Warmed39 U.vm ∧ U.heap = h0) (fun _ _ _ _ _ => True) (fun _ U o U' => ∃ v L, o = .returned v ∧ Q_rmCmpL Z ca ba cs kc n kb vs h0 n0 v U'.heap L ∧ FrameEnd U o U' L ({ frames := 0, cells := 0, slots := 0, locals := 0 } : Room).cells ({ frames := 0, cells := 0, slots := 0, locals := 0 } : Room).slots) := by
  refine MetFree.of_bodySF (plainFor_of_name pn_java_lang_StringUTF16) hisR ?_
  intro p e s m args below meth c s₁ Bd hml0 hP hK
  obtain ⟨rfl, hZ, hh⟩ := hP
  have hx := Bd.exec
  have hby := Bd.bytes
  have hml : c.maxLocals = 7 := hml0
  have hown : s.vm.findClass "java/lang/StringUTF16" = some m.cls := findClass_of_methodNamed Bd.named
  have hnm := (name_of_methodNamed Bd.named Bd.method).1
  have X0 : Stand p l e ({ frames := 0, cells := 0, slots := 0, locals := 0 } : Room) s m #[(.ref ca), (.int (0 : Int32)), (.ref ba), (.int (0 : Int32)), (.int (Int32.ofNat n))] below meth c s₁ [] 0 0 := Stand.of_body Bd
  have e0 : s₁.heap = h0 := by rw [← hh, Bd.state]; rfl
  have N0 := Fr.nil n0
  have pre0 : ∀ t_, Steps p.tables e below (s₁.setTop (mkF m 0 #[.val (.ref ca), .val (.int (0 : Int32)), .val (.ref ba), .val (.int (0 : Int32)), .val (.int (Int32.ofNat n)), .unset, .unset] [])) t_ → Steps p.tables e below (s₁.setTop (entryFrame m #[(.ref ca), (.int (0 : Int32)), (.ref ba), (.int (0 : Int32)), (.int (Int32.ofNat n))] 7)) t_ := fun t_ k_ => castTop (ef_rmCmpL m ca (0 : Int32) ba (0 : Int32) (Int32.ofNat n)) k_
  have lt_I1 : @LT.lt Nat _ ca h0.size := I1.lt
  have lt_I2 : @LT.lt Nat _ ba h0.size := I2.lt
  have s1 : ∀ t_, Steps p.tables e below (s₁.setTop (mkF m 3 #[.val (.ref ca), .val (.int (0 : Int32)), .val (.ref ba), .val (.int (0 : Int32)), .val (.int (Int32.ofNat n)), .val (.int (0 : Int32)), .unset] [])) t_ → Steps p.tables e below (s₁.setTop (entryFrame m #[(.ref ca), (.int (0 : Int32)), (.ref ba), (.int (0 : Int32)), (.int (Int32.ofNat n))] 7)) t_ := fun t_ k_ => pre0 t_ (by
    show Steps p.tables e below (s₁.setTop (mkF m 0 #[.val (.ref ca), .val (.int (0 : Int32)), .val (.ref ba), .val (.int (0 : Int32)), .val (.int (Int32.ofNat n)), .unset, .unset] [])) t_
    refine XS.iconst X0.here hx rfl (Jvm.hb hby d_jdk_52_method_21_0) ?_
    show Steps p.tables e below (s₁.setTop (mkF m 1 #[.val (.ref ca), .val (.int (0 : Int32)), .val (.ref ba), .val (.int (0 : Int32)), .val (.int (Int32.ofNat n)), .unset, .unset] [(.int (0 : Int32))])) _
    refine XS.istore X0.here hx rfl (Jvm.hb hby d_jdk_52_method_21_1) rfl (l' := #[.val (.ref ca), .val (.int (0 : Int32)), .val (.ref ba), .val (.int (0 : Int32)), .val (.int (Int32.ofNat n)), .val (.int (0 : Int32)), .unset]) rfl ?_
    show Steps p.tables e below (s₁.setTop (mkF m 3 #[.val (.ref ca), .val (.int (0 : Int32)), .val (.ref ba), .val (.int (0 : Int32)), .val (.int (Int32.ofNat n)), .val (.int (0 : Int32)), .unset] [])) _
    show Steps p.tables e below (s₁.setTop (mkF m 3 #[.val (.ref ca), .val (.int (0 : Int32)), .val (.ref ba), .val (.int (0 : Int32)), .val (.int (Int32.ofNat n)), .val (.int (0 : Int32)), .unset] [])) t_
    exact k_)
  have lp2 : ∀ (k_ : Nat) (j : Nat) (s6 : Slot) (T_ : State) (lo_ : List Loc) (hh2 : Heap), j + k_ = n → Stand p l e ({ frames := 0, cells := 0, slots := 0, locals := 0 } : Room) s m #[(.ref ca), (.int (0 : Int32)), (.ref ba), (.int (0 : Int32)), (.int (Int32.ofNat n))] below meth c T_ lo_ 0 0 → T_.heap = hh2 → Fr n0 lo_ → Keep h0 hh2 [ba] → Arv Z hh2 ba kb .byte (Int32.ofNat n) (own_mix (own_low cs) vs j) (.int (0 : Int32)) → One s6 → ∃ (T' : State) (lo' : List Loc) (hx_ : Heap) (fe_ : JFrame), Stand p l e ({ frames := 0, cells := 0, slots := 0, locals := 0 } : Room) s m #[(.ref ca), (.int (0 : Int32)), (.ref ba), (.int (0 : Int32)), (.int (Int32.ofNat n))] below meth c T' lo' 0 0 ∧ T'.heap = hx_ ∧ Fr n0 lo' ∧ Keep h0 hx_ [ba] ∧ ((∃ (s6 : Slot), fe_ = (mkF m 44 #[.val (.ref ca), .val (.int (Int32.ofNat n)), .val (.ref ba), .val (.int (Int32.ofNat n)), .val (.int (Int32.ofNat n)), .val (.int (Int32.ofNat n)), s6] []) ∧ Arv Z hx_ ba kb .byte (Int32.ofNat n) (own_mix (own_low cs) vs n) (.int (0 : Int32)))) ∧ ∀ t_, Steps p.tables e below (T'.setTop fe_) t_ → Steps p.tables e below (T_.setTop (mkF m 3 #[.val (.ref ca), .val (.int (Int32.ofNat j)), .val (.ref ba), .val (.int (Int32.ofNat j)), .val (.int (Int32.ofNat n)), .val (.int (Int32.ofNat j)), s6] [])) t_ := by
    intro k_
    induction k_ with
    | zero => 
      intro j s6 T_ lo_ hh2 hm_ X_ e_ N_ K_ F_0 hs6
      have zk_ : h0.size ≤ hh2.size := K_.1
      have s3 : ∀ t_, Steps p.tables e below (T_.setTop (mkF m 44 #[.val (.ref ca), .val (.int (Int32.ofNat j)), .val (.ref ba), .val (.int (Int32.ofNat j)), .val (.int (Int32.ofNat n)), .val (.int (Int32.ofNat j)), s6] [])) t_ → Steps p.tables e below (T_.setTop (mkF m 3 #[.val (.ref ca), .val (.int (Int32.ofNat j)), .val (.ref ba), .val (.int (Int32.ofNat j)), .val (.int (Int32.ofNat n)), .val (.int (Int32.ofNat j)), s6] [])) t_ := fun t_ k_ => (fun _ k_ => k_) t_ (by
        show Steps p.tables e below (T_.setTop (mkF m 3 #[.val (.ref ca), .val (.int (Int32.ofNat j)), .val (.ref ba), .val (.int (Int32.ofNat j)), .val (.int (Int32.ofNat n)), .val (.int (Int32.ofNat j)), s6] [])) t_
        refine XS.iload X_.here hx rfl (Jvm.hb hby d_jdk_52_method_21_3) rfl ?_
        show Steps p.tables e below (T_.setTop (mkF m 5 #[.val (.ref ca), .val (.int (Int32.ofNat j)), .val (.ref ba), .val (.int (Int32.ofNat j)), .val (.int (Int32.ofNat n)), .val (.int (Int32.ofNat j)), s6] [(.int (Int32.ofNat j))])) _
        refine XS.iload X_.here hx rfl (Jvm.hb hby d_jdk_52_method_21_5) rfl ?_
        show Steps p.tables e below (T_.setTop (mkF m 7 #[.val (.ref ca), .val (.int (Int32.ofNat j)), .val (.ref ba), .val (.int (Int32.ofNat j)), .val (.int (Int32.ofNat n)), .val (.int (Int32.ofNat j)), s6] [(.int (Int32.ofNat n)), (.int (Int32.ofNat j))])) _
        refine XS.icmpYes X_.here hx rfl (pc0 := 7) (pc' := 44) rfl (Jvm.hb hby d_jdk_52_method_21_7) rfl (flt (own_nlt (by omega) (by omega))).2.1 (by decide) (by decide) ?_
        show Steps p.tables e below (T_.setTop (mkF m 44 #[.val (.ref ca), .val (.int (Int32.ofNat j)), .val (.ref ba), .val (.int (Int32.ofNat j)), .val (.int (Int32.ofNat n)), .val (.int (Int32.ofNat j)), s6] [])) _
        show Steps p.tables e below (T_.setTop (mkF m 44 #[.val (.ref ca), .val (.int (Int32.ofNat j)), .val (.ref ba), .val (.int (Int32.ofNat j)), .val (.int (Int32.ofNat n)), .val (.int (Int32.ofNat j)), s6] [])) t_
        exact k_)
      exact ⟨T_, _, _, _, X_, e_, N_, ((Keep.refl h0 [ba]).trans K_ (allS (Or.inl (by simp)) all0)), ⟨s6, (by rw [show j = n by omega]), (by obtain rfl : j = n := (by omega); exact F_0)⟩, s3⟩
    | succ k_ ih => 
      intro j s6 T_ lo_ hh2 hm_ X_ e_ N_ K_ F_0 hs6
      have zk_ : h0.size ≤ hh2.size := K_.1
      have f4 : Arv Z hh2 ca kc .char (Int32.ofNat n) (cs.map Value.int) (.int (0 : Int32)) := (I1.keep K_ (ninS (show @Ne Nat ca ba by omega) nin0))
      obtain ⟨cl5, Ar5, -, S5, M5, H5, -⟩ := id f4
      have hin5 : ¬ ((Int32.ofNat j) < 0 ∨ cl5.slots.size ≤ ((Int32.ofNat j)).toNatClampNeg) := inb_of S5 (own_in (by omega) (by omega))
      have hat5 : cl5.slots[((Int32.ofNat j)).toNatClampNeg]? = some (.int (cs.getD j 0)) := H5.at hin5 (own_getc cs j _ (by omega) (by omega))
      obtain ⟨cl6, Ar6, q6, S6, M6, H6, G6⟩ := id F_0
      have hin6 : ¬ ((Int32.ofNat j) < 0 ∨ cl6.slots.size ≤ ((Int32.ofNat j)).toNatClampNeg) := inb_of S6 (own_in (by omega) (by omega))
      obtain ⟨T7, h7, X7, e7, W7, st7⟩ := stB X_ hx hZ e_ Ar6 (j := (Int32.ofNat j)) hin6 (g := (mkF m 31 #[.val (.ref ca), .val (.int (Int32.ofNat j)), .val (.ref ba), .val (.int (Int32.ofNat j)), .val (.int (Int32.ofNat n)), .val (.int (Int32.ofNat j)), .val (.int (cs.getD j 0))] [(.int (own_lo (cs.getD j 0))), (.int (Int32.ofNat j)), (.ref ba)])) rfl rfl (Jvm.hb hby d_jdk_52_method_21_31)
      have z8 : hh2.size ≤ h7.size := Nat.le_of_eq W7.size.symm
      have V7 : Arv Z h7 ba kb .byte (Int32.ofNat n) (own_mix (own_low cs) vs (j + 1)) (.int (0 : Int32)) := by
        have q : Arv Z h7 ba kb .byte (Int32.ofNat n) ((own_mix (own_low cs) vs j).set j (.int (nar .byte (own_lo (cs.getD j 0))))) (.int (0 : Int32)) := Arv.set Ar6 q6 S6 M6 H6 G6 (fits_nar_byte _) W7 j (own_tn (by omega)) (by rw [own_mixl _ _ _ (by rw [own_lowl]; omega)]; omega)
        rw [own_mixc cs vs j (by omega) (by omega)] at q
        exact q
      have N7 := Fr.snoc X7 N_ (show n0 ≤ ba by omega)
      have s9 : ∀ t_, Steps p.tables e below (T7.setTop (mkF m 3 #[.val (.ref ca), .val (.int ((Int32.ofNat j) + (1 : Int32))), .val (.ref ba), .val (.int ((Int32.ofNat j) + (1 : Int32))), .val (.int (Int32.ofNat n)), .val (.int ((Int32.ofNat j) + (1 : Int32))), .val (.int (cs.getD j 0))] [])) t_ → Steps p.tables e below (T_.setTop (mkF m 3 #[.val (.ref ca), .val (.int (Int32.ofNat j)), .val (.ref ba), .val (.int (Int32.ofNat j)), .val (.int (Int32.ofNat n)), .val (.int (Int32.ofNat j)), s6] [])) t_ := fun t_ k_ => (fun _ k_ => k_) t_ (by
        show Steps p.tables e below (T_.setTop (mkF m 3 #[.val (.ref ca), .val (.int (Int32.ofNat j)), .val (.ref ba), .val (.int (Int32.ofNat j)), .val (.int (Int32.ofNat n)), .val (.int (Int32.ofNat j)), s6] [])) t_
        refine XS.iload X_.here hx rfl (Jvm.hb hby d_jdk_52_method_21_3) rfl ?_
        show Steps p.tables e below (T_.setTop (mkF m 5 #[.val (.ref ca), .val (.int (Int32.ofNat j)), .val (.ref ba), .val (.int (Int32.ofNat j)), .val (.int (Int32.ofNat n)), .val (.int (Int32.ofNat j)), s6] [(.int (Int32.ofNat j))])) _
        refine XS.iload X_.here hx rfl (Jvm.hb hby d_jdk_52_method_21_5) rfl ?_
        show Steps p.tables e below (T_.setTop (mkF m 7 #[.val (.ref ca), .val (.int (Int32.ofNat j)), .val (.ref ba), .val (.int (Int32.ofNat j)), .val (.int (Int32.ofNat n)), .val (.int (Int32.ofNat j)), s6] [(.int (Int32.ofNat n)), (.int (Int32.ofNat j))])) _
        refine XS.icmpNo X_.here hx rfl (Jvm.hb hby d_jdk_52_method_21_7) rfl (tlt (own_lt (by omega) (by omega))).2.1 ?_
        show Steps p.tables e below (T_.setTop (mkF m 10 #[.val (.ref ca), .val (.int (Int32.ofNat j)), .val (.ref ba), .val (.int (Int32.ofNat j)), .val (.int (Int32.ofNat n)), .val (.int (Int32.ofNat j)), s6] [])) _
        refine XS.aloadN X_.here hx rfl (Jvm.hb hby d_jdk_52_method_21_10) rfl rfl ?_
        show Steps p.tables e below (T_.setTop (mkF m 11 #[.val (.ref ca), .val (.int (Int32.ofNat j)), .val (.ref ba), .val (.int (Int32.ofNat j)), .val (.int (Int32.ofNat n)), .val (.int (Int32.ofNat j)), s6] [(.ref ca)])) _
        refine XS.iloadN X_.here hx rfl (Jvm.hb hby d_jdk_52_method_21_11) rfl ?_
        show Steps p.tables e below (T_.setTop (mkF m 12 #[.val (.ref ca), .val (.int (Int32.ofNat j)), .val (.ref ba), .val (.int (Int32.ofNat j)), .val (.int (Int32.ofNat n)), .val (.int (Int32.ofNat j)), s6] [(.int (Int32.ofNat j)), (.ref ca)])) _
        refine X_.caload hx (j := (Int32.ofNat j)) (v := (.int (cs.getD j 0))) (by rw [e_]; exact Ar5.1) (State.isArrayOf_alike hZ.alike Ar5.2.1) Ar5.2.2 hin5 hat5 (g := (mkF m 12 #[.val (.ref ca), .val (.int (Int32.ofNat j)), .val (.ref ba), .val (.int (Int32.ofNat j)), .val (.int (Int32.ofNat n)), .val (.int (Int32.ofNat j)), s6] [(.int (Int32.ofNat j)), (.ref ca)])) rfl rfl (Jvm.hb hby d_jdk_52_method_21_12) _ ?_
        show Steps p.tables e below (T_.setTop (mkF m 13 #[.val (.ref ca), .val (.int (Int32.ofNat j)), .val (.ref ba), .val (.int (Int32.ofNat j)), .val (.int (Int32.ofNat n)), .val (.int (Int32.ofNat j)), s6] [(.int (cs.getD j 0))])) _
        refine XS.istore X_.here hx rfl (Jvm.hb hby d_jdk_52_method_21_13) rfl (l' := #[.val (.ref ca), .val (.int (Int32.ofNat j)), .val (.ref ba), .val (.int (Int32.ofNat j)), .val (.int (Int32.ofNat n)), .val (.int (Int32.ofNat j)), .val (.int (cs.getD j 0))]) (os_rmCmpL_13 hs6) ?_
        show Steps p.tables e below (T_.setTop (mkF m 15 #[.val (.ref ca), .val (.int (Int32.ofNat j)), .val (.ref ba), .val (.int (Int32.ofNat j)), .val (.int (Int32.ofNat n)), .val (.int (Int32.ofNat j)), .val (.int (cs.getD j 0))] [])) _
        refine XS.iload X_.here hx rfl (Jvm.hb hby d_jdk_52_method_21_15) rfl ?_
        show Steps p.tables e below (T_.setTop (mkF m 17 #[.val (.ref ca), .val (.int (Int32.ofNat j)), .val (.ref ba), .val (.int (Int32.ofNat j)), .val (.int (Int32.ofNat n)), .val (.int (Int32.ofNat j)), .val (.int (cs.getD j 0))] [(.int (cs.getD j 0))])) _
        refine XS.sipush X_.here hx rfl (Jvm.hb hby d_jdk_52_method_21_17) ?_
        show Steps p.tables e below (T_.setTop (mkF m 20 #[.val (.ref ca), .val (.int (Int32.ofNat j)), .val (.ref ba), .val (.int (Int32.ofNat j)), .val (.int (Int32.ofNat n)), .val (.int (Int32.ofNat j)), .val (.int (cs.getD j 0))] [(.int (255 : Int32)), (.int (cs.getD j 0))])) _
        refine XS.icmpYes X_.here hx rfl (pc0 := 20) (pc' := 26) rfl (Jvm.hb hby d_jdk_52_method_21_20) rfl (flt (hlat _ (own_mem cs j (by omega)))).2.2.2 (by decide) (by decide) ?_
        show Steps p.tables e below (T_.setTop (mkF m 26 #[.val (.ref ca), .val (.int (Int32.ofNat j)), .val (.ref ba), .val (.int (Int32.ofNat j)), .val (.int (Int32.ofNat n)), .val (.int (Int32.ofNat j)), .val (.int (cs.getD j 0))] [])) _
        refine XS.aloadN X_.here hx rfl (Jvm.hb hby d_jdk_52_method_21_26) rfl rfl ?_
        show Steps p.tables e below (T_.setTop (mkF m 27 #[.val (.ref ca), .val (.int (Int32.ofNat j)), .val (.ref ba), .val (.int (Int32.ofNat j)), .val (.int (Int32.ofNat n)), .val (.int (Int32.ofNat j)), .val (.int (cs.getD j 0))] [(.ref ba)])) _
        refine XS.iloadN X_.here hx rfl (Jvm.hb hby d_jdk_52_method_21_27) rfl ?_
        show Steps p.tables e below (T_.setTop (mkF m 28 #[.val (.ref ca), .val (.int (Int32.ofNat j)), .val (.ref ba), .val (.int (Int32.ofNat j)), .val (.int (Int32.ofNat n)), .val (.int (Int32.ofNat j)), .val (.int (cs.getD j 0))] [(.int (Int32.ofNat j)), (.ref ba)])) _
        refine XS.iload X_.here hx rfl (Jvm.hb hby d_jdk_52_method_21_28) rfl ?_
        show Steps p.tables e below (T_.setTop (mkF m 30 #[.val (.ref ca), .val (.int (Int32.ofNat j)), .val (.ref ba), .val (.int (Int32.ofNat j)), .val (.int (Int32.ofNat n)), .val (.int (Int32.ofNat j)), .val (.int (cs.getD j 0))] [(.int (cs.getD j 0)), (.int (Int32.ofNat j)), (.ref ba)])) _
        refine XS.i2b X_.here hx rfl (Jvm.hb hby d_jdk_52_method_21_30) rfl ?_
        show Steps p.tables e below (T_.setTop (mkF m 31 #[.val (.ref ca), .val (.int (Int32.ofNat j)), .val (.ref ba), .val (.int (Int32.ofNat j)), .val (.int (Int32.ofNat n)), .val (.int (Int32.ofNat j)), .val (.int (cs.getD j 0))] [(.int (own_lo (cs.getD j 0))), (.int (Int32.ofNat j)), (.ref ba)])) _
        refine st7 _ ?_
        show Steps p.tables e below (T7.setTop (mkF m 32 #[.val (.ref ca), .val (.int (Int32.ofNat j)), .val (.ref ba), .val (.int (Int32.ofNat j)), .val (.int (Int32.ofNat n)), .val (.int (Int32.ofNat j)), .val (.int (cs.getD j 0))] [])) _
        refine XS.iinc X7.here hx rfl (Jvm.hb hby d_jdk_52_method_21_32) rfl (l' := #[.val (.ref ca), .val (.int ((Int32.ofNat j) + (1 : Int32))), .val (.ref ba), .val (.int (Int32.ofNat j)), .val (.int (Int32.ofNat n)), .val (.int (Int32.ofNat j)), .val (.int (cs.getD j 0))]) rfl ?_
        show Steps p.tables e below (T7.setTop (mkF m 35 #[.val (.ref ca), .val (.int ((Int32.ofNat j) + (1 : Int32))), .val (.ref ba), .val (.int (Int32.ofNat j)), .val (.int (Int32.ofNat n)), .val (.int (Int32.ofNat j)), .val (.int (cs.getD j 0))] [])) _
        refine XS.iinc X7.here hx rfl (Jvm.hb hby d_jdk_52_method_21_35) rfl (l' := #[.val (.ref ca), .val (.int ((Int32.ofNat j) + (1 : Int32))), .val (.ref ba), .val (.int ((Int32.ofNat j) + (1 : Int32))), .val (.int (Int32.ofNat n)), .val (.int (Int32.ofNat j)), .val (.int (cs.getD j 0))]) rfl ?_
        show Steps p.tables e below (T7.setTop (mkF m 38 #[.val (.ref ca), .val (.int ((Int32.ofNat j) + (1 : Int32))), .val (.ref ba), .val (.int ((Int32.ofNat j) + (1 : Int32))), .val (.int (Int32.ofNat n)), .val (.int (Int32.ofNat j)), .val (.int (cs.getD j 0))] [])) _
        refine XS.iinc X7.here hx rfl (Jvm.hb hby d_jdk_52_method_21_38) rfl (l' := #[.val (.ref ca), .val (.int ((Int32.ofNat j) + (1 : Int32))), .val (.ref ba), .val (.int ((Int32.ofNat j) + (1 : Int32))), .val (.int (Int32.ofNat n)), .val (.int ((Int32.ofNat j) + (1 : Int32))), .val (.int (cs.getD j 0))]) rfl ?_
        show Steps p.tables e below (T7.setTop (mkF m 41 #[.val (.ref ca), .val (.int ((Int32.ofNat j) + (1 : Int32))), .val (.ref ba), .val (.int ((Int32.ofNat j) + (1 : Int32))), .val (.int (Int32.ofNat n)), .val (.int ((Int32.ofNat j) + (1 : Int32))), .val (.int (cs.getD j 0))] [])) _
        refine XS.goto X7.here hx rfl (pc0 := 41) (pc' := 3) rfl (Jvm.hb hby d_jdk_52_method_21_41) (by decide) (by decide) ?_
        show Steps p.tables e below (T7.setTop (mkF m 3 #[.val (.ref ca), .val (.int ((Int32.ofNat j) + (1 : Int32))), .val (.ref ba), .val (.int ((Int32.ofNat j) + (1 : Int32))), .val (.int (Int32.ofNat n)), .val (.int ((Int32.ofNat j) + (1 : Int32))), .val (.int (cs.getD j 0))] [])) _
        show Steps p.tables e below (T7.setTop (mkF m 3 #[.val (.ref ca), .val (.int ((Int32.ofNat j) + (1 : Int32))), .val (.ref ba), .val (.int ((Int32.ofNat j) + (1 : Int32))), .val (.int (Int32.ofNat n)), .val (.int ((Int32.ofNat j) + (1 : Int32))), .val (.int (cs.getD j 0))] [])) t_
        exact k_)
      obtain ⟨T10, lo10, h10, fe10, X10, e10, N10, K10, A10, st10⟩ := ih (j + 1) (.val (.int (cs.getD j 0))) T7 _ h7 (by omega) X7 e7 N7 (((Keep.refl h0 [ba]).trans K_ (allS (Or.inl (by simp)) all0)).wr W7 (Or.inl (by simp))) V7 (One.val rfl)
      exact ⟨T10, lo10, h10, fe10, X10, e10, N10, K10, A10, fun t_ k_ => s9 t_ (castTop (by rw [own_up]) (st10 t_ k_))⟩
  obtain ⟨T11, lo11, h11, fe11, X11, e11, N11, K11, A11, st11⟩ := lp2 n 0 .unset s₁ _ h0 (by omega) X0 e0 N0 (Keep.refl _ _) (by rw [own_mix0]; exact I2) One.u
  have z12 : h0.size ≤ h11.size := K11.1
  obtain ⟨s6_11, rfl, G11_0⟩ := A11
  have s13 : ∀ t_, Steps p.tables e below (T11.setTop (mkF m 44 #[.val (.ref ca), .val (.int (Int32.ofNat n)), .val (.ref ba), .val (.int (Int32.ofNat n)), .val (.int (Int32.ofNat n)), .val (.int (Int32.ofNat n)), s6_11] [])) t_ → Steps p.tables e below (s₁.setTop (entryFrame m #[(.ref ca), (.int (0 : Int32)), (.ref ba), (.int (0 : Int32)), (.int (Int32.ofNat n))] 7)) t_ := fun t_ k_ => s1 t_ (st11 t_ k_)
  have s14 : ∀ t_, Steps p.tables e below (T11.setTop (mkF m 46 #[.val (.ref ca), .val (.int (Int32.ofNat n)), .val (.ref ba), .val (.int (Int32.ofNat n)), .val (.int (Int32.ofNat n)), .val (.int (Int32.ofNat n)), s6_11] [(.int (Int32.ofNat n))])) t_ → Steps p.tables e below (s₁.setTop (entryFrame m #[(.ref ca), (.int (0 : Int32)), (.ref ba), (.int (0 : Int32)), (.int (Int32.ofNat n))] 7)) t_ := fun t_ k_ => s13 t_ (by
    show Steps p.tables e below (T11.setTop (mkF m 44 #[.val (.ref ca), .val (.int (Int32.ofNat n)), .val (.ref ba), .val (.int (Int32.ofNat n)), .val (.int (Int32.ofNat n)), .val (.int (Int32.ofNat n)), s6_11] [])) t_
    refine XS.iload X11.here hx rfl (Jvm.hb hby d_jdk_52_method_21_44) rfl ?_
    show Steps p.tables e below (T11.setTop (mkF m 46 #[.val (.ref ca), .val (.int (Int32.ofNat n)), .val (.ref ba), .val (.int (Int32.ofNat n)), .val (.int (Int32.ofNat n)), .val (.int (Int32.ofNat n)), s6_11] [(.int (Int32.ofNat n))])) _
    show Steps p.tables e below (T11.setTop (mkF m 46 #[.val (.ref ca), .val (.int (Int32.ofNat n)), .val (.ref ba), .val (.int (Int32.ofNat n)), .val (.int (Int32.ofNat n)), .val (.int (Int32.ofNat n)), s6_11] [(.int (Int32.ofNat n))])) t_
    exact k_)
  obtain ⟨fs, hr, hrun, hended, hW, hsame⟩ := X11.leave (v := some (.int (Int32.ofNat n))) (fun h => by rw [Bd.returns] at h; cases h)
  refine ⟨_, _, s14 _ ?_, hrun, hended, _, _, rfl, ?_, ⟨_, rfl⟩, hW, hsame.mono (by decide) (by decide)⟩
  · show Steps p.tables e below (T11.setTop (mkF m 46 #[.val (.ref ca), .val (.int (Int32.ofNat n)), .val (.ref ba), .val (.int (Int32.ofNat n)), .val (.int (Int32.ofNat n)), .val (.int (Int32.ofNat n)), s6_11] [(.int (Int32.ofNat n))])) _
    exact retI X11 hx Bd.returns (Jvm.hb hby d_jdk_52_method_21_46) hr
  · show Q_rmCmpL Z _ _ _ _ _ _ _ h0 n0 _ T11.heap _
    rw [e11]
    exact ⟨rfl, N11, ((Keep.refl h0 [ba]).trans K11 (allS (Or.inl (by simp)) all0)), G11_0⟩
theorem os_rmCmpW_13 {z0 : Value} {z1 : Value} {z2 : Value} {z3 : Value} {z4 : Value} {z5 : Value} {s6 : Slot} {v : Int32} (h : One s6) : storeLocals #[.val z0, .val z1, .val z2, .val z3, .val z4, .val z5, s6] 6 (.int v) = some #[.val z0, .val z1, .val z2, .val z3, .val z4, .val z5, .val (.int v)] := by
  rcases h with rfl | ⟨w, rfl, hw⟩
  · rfl
  · cases w <;> first | rfl | (simp [Value.category] at hw)
theorem d_jdk_52_method_21_23 : decode jdk_52_method_21_code 23 = .ok (.iload 5, 2) := by decide +kernel
theorem d_jdk_52_method_21_25 : decode jdk_52_method_21_code 25 = .ok (.ireturn, 1) := by decide +kernel
theorem ef_rmCmpW (m : MethodId) (x0 : Addr) (x1 : Int32) (x2 : Addr) (x3 : Int32) (x4 : Int32) : entryFrame m #[(.ref x0), (.int x1), (.ref x2), (.int x3), (.int x4)] 7 = mkF m 0 #[.val (.ref x0), .val (.int x1), .val (.ref x2), .val (.int x3), .val (.int x4), .unset, .unset] [] := by first | (simp [entryFrame, mkF, argsToLocals, Value.category]; done) | rfl
def Q_rmCmpW (Z : State) (ca : Addr) (ba : Addr) (cs : List Int32) (kc : ClassId) (n : Nat) (kb : ClassId) (vs : List Value) (i : Nat) (h0 : Heap) (n0 : Nat) (v : Option Value) (h : Heap) (L : List Loc) : Prop := (v = some (.int (Int32.ofNat i))) ∧ (Fr n0 L) ∧ (Keep h0 h [ba]) ∧ (Arv Z h ba kb .byte (Int32.ofNat n) (own_mix (own_low cs) vs i) (.int (0 : Int32)))
set_option maxRecDepth 65536 in
set_option maxHeartbeats 40000000 in
theorem rmCmpW (l : Launch) (Z : State) (a0 : Array Value) (hw : ∀ d ∈ tables_1, d.before a0 Z = true) (ws : List Jvm.Cond) (ca : Addr) (ba : Addr) (cs : List Int32) (kc : ClassId) (n : Nat) (kb : ClassId) (vs : List Value) (i : Nat) (h0 : Heap) (n0 : Nat) (Z0 : n0 ≤ h0.size) (I1 : Arv Z h0 ca kc .char (Int32.ofNat n) (cs.map Value.int) (.int (0 : Int32))) (I2 : Arv Z h0 ba kb .byte (Int32.ofNat n) vs (.int (0 : Int32))) (hn : cs.length = n) (hb : n ≤ 4) (hvs : vs.length = n) (gb : n0 ≤ ba) (hne : @Ne Nat ca ba) (hi : i < n) (hbad : (255 : Int32) < (cs.getD i 0)) (hpre : ∀ j, j < i → ¬ ((255 : Int32) < cs.getD j 0)) :
    MetFree l (⟨"java/lang/StringUTF16", "compress", "([CI[BII)I"⟩ : MethodName) (head1 (Jvm.Cond.code (⟨"java/lang/StringUTF16", "compress", "([CI[BII)I"⟩ : MethodName) jdk_52_method_21_code 7 (some .int) :: ws) ({ frames := 0, cells := 0, slots := 0, locals := 0 } : Room)) (fun ar_ U => ar_ = #[(.ref ca), (.int (0 : Int32)), (.ref ba), (.int (0 : Int32)), (.int (Int32.ofNat n))] ∧ Z.Warmed39 U.vm ∧ U.heap = h0) (fun _ _ _ _ _ => True) (fun _ U o U' => ∃ v L, o = .returned v ∧ Q_rmCmpW Z ca ba cs kc n kb vs i h0 n0 v U'.heap L ∧ FrameEnd U o U' L ({ frames := 0, cells := 0, slots := 0, locals := 0 } : Room).cells ({ frames := 0, cells := 0, slots := 0, locals := 0 } : Room).slots) := by
  refine MetFree.of_bodySF (plainFor_of_name pn_java_lang_StringUTF16) hisR ?_
  intro p e s m args below meth c s₁ Bd hml0 hP hK
  obtain ⟨rfl, hZ, hh⟩ := hP
  have hx := Bd.exec
  have hby := Bd.bytes
  have hml : c.maxLocals = 7 := hml0
  have hown : s.vm.findClass "java/lang/StringUTF16" = some m.cls := findClass_of_methodNamed Bd.named
  have hnm := (name_of_methodNamed Bd.named Bd.method).1
  have X0 : Stand p l e ({ frames := 0, cells := 0, slots := 0, locals := 0 } : Room) s m #[(.ref ca), (.int (0 : Int32)), (.ref ba), (.int (0 : Int32)), (.int (Int32.ofNat n))] below meth c s₁ [] 0 0 := Stand.of_body Bd
  have e0 : s₁.heap = h0 := by rw [← hh, Bd.state]; rfl
  have N0 := Fr.nil n0
  have pre0 : ∀ t_, Steps p.tables e below (s₁.setTop (mkF m 0 #[.val (.ref ca), .val (.int (0 : Int32)), .val (.ref ba), .val (.int (0 : Int32)), .val (.int (Int32.ofNat n)), .unset, .unset] [])) t_ → Steps p.tables e below (s₁.setTop (entryFrame m #[(.ref ca), (.int (0 : Int32)), (.ref ba), (.int (0 : Int32)), (.int (Int32.ofNat n))] 7)) t_ := fun t_ k_ => castTop (ef_rmCmpW m ca (0 : Int32) ba (0 : Int32) (Int32.ofNat n)) k_
  have lt_I1 : @LT.lt Nat _ ca h0.size := I1.lt
  have lt_I2 : @LT.lt Nat _ ba h0.size := I2.lt
  have s1 : ∀ t_, Steps p.tables e below (s₁.setTop (mkF m 3 #[.val (.ref ca), .val (.int (0 : Int32)), .val (.ref ba), .val (.int (0 : Int32)), .val (.int (Int32.ofNat n)), .val (.int (0 : Int32)), .unset] [])) t_ → Steps p.tables e below (s₁.setTop (entryFrame m #[(.ref ca), (.int (0 : Int32)), (.ref ba), (.int (0 : Int32)), (.int (Int32.ofNat n))] 7)) t_ := fun t_ k_ => pre0 t_ (by
    show Steps p.tables e below (s₁.setTop (mkF m 0 #[.val (.ref ca), .val (.int (0 : Int32)), .val (.ref ba), .val (.int (0 : Int32)), .val (.int (Int32.ofNat n)), .unset, .unset] [])) t_
    refine XS.iconst X0.here hx rfl (Jvm.hb hby d_jdk_52_method_21_0) ?_
    show Steps p.tables e below (s₁.setTop (mkF m 1 #[.val (.ref ca), .val (.int (0 : Int32)), .val (.ref ba), .val (.int (0 : Int32)), .val (.int (Int32.ofNat n)), .unset, .unset] [(.int (0 : Int32))])) _
    refine XS.istore X0.here hx rfl (Jvm.hb hby d_jdk_52_method_21_1) rfl (l' := #[.val (.ref ca), .val (.int (0 : Int32)), .val (.ref ba), .val (.int (0 : Int32)), .val (.int (Int32.ofNat n)), .val (.int (0 : Int32)), .unset]) rfl ?_
    show Steps p.tables e below (s₁.setTop (mkF m 3 #[.val (.ref ca), .val (.int (0 : Int32)), .val (.ref ba), .val (.int (0 : Int32)), .val (.int (Int32.ofNat n)), .val (.int (0 : Int32)), .unset] [])) _
    show Steps p.tables e below (s₁.setTop (mkF m 3 #[.val (.ref ca), .val (.int (0 : Int32)), .val (.ref ba), .val (.int (0 : Int32)), .val (.int (Int32.ofNat n)), .val (.int (0 : Int32)), .unset] [])) t_
    exact k_)
  have lp2 : ∀ (k_ : Nat) (j : Nat) (s6 : Slot) (T_ : State) (lo_ : List Loc) (hh2 : Heap), j + k_ = i → Stand p l e ({ frames := 0, cells := 0, slots := 0, locals := 0 } : Room) s m #[(.ref ca), (.int (0 : Int32)), (.ref ba), (.int (0 : Int32)), (.int (Int32.ofNat n))] below meth c T_ lo_ 0 0 → T_.heap = hh2 → Fr n0 lo_ → Keep h0 hh2 [ba] → Arv Z hh2 ba kb .byte (Int32.ofNat n) (own_mix (own_low cs) vs j) (.int (0 : Int32)) → One s6 → ∃ (T' : State) (lo' : List Loc) (hx_ : Heap) (fe_ : JFrame), Stand p l e ({ frames := 0, cells := 0, slots := 0, locals := 0 } : Room) s m #[(.ref ca), (.int (0 : Int32)), (.ref ba), (.int (0 : Int32)), (.int (Int32.ofNat n))] below meth c T' lo' 0 0 ∧ T'.heap = hx_ ∧ Fr n0 lo' ∧ Keep h0 hx_ [ba] ∧ ((fe_ = (mkF m 23 #[.val (.ref ca), .val (.int (Int32.ofNat i)), .val (.ref ba), .val (.int (Int32.ofNat i)), .val (.int (Int32.ofNat n)), .val (.int (Int32.ofNat i)), .val (.int (cs.getD i 0))] []) ∧ Arv Z hx_ ba kb .byte (Int32.ofNat n) (own_mix (own_low cs) vs i) (.int (0 : Int32)))) ∧ ∀ t_, Steps p.tables e below (T'.setTop fe_) t_ → Steps p.tables e below (T_.setTop (mkF m 3 #[.val (.ref ca), .val (.int (Int32.ofNat j)), .val (.ref ba), .val (.int (Int32.ofNat j)), .val (.int (Int32.ofNat n)), .val (.int (Int32.ofNat j)), s6] [])) t_ := by
    intro k_
    induction k_ with
    | zero => 
      intro j s6 T_ lo_ hh2 hm_ X_ e_ N_ K_ F_0 hs6
      have zk_ : h0.size ≤ hh2.size := K_.1
      have f3 : Arv Z hh2 ca kc .char (Int32.ofNat n) (cs.map Value.int) (.int (0 : Int32)) := (I1.keep K_ (ninS (show @Ne Nat ca ba by omega) nin0))
      obtain ⟨cl4, Ar4, -, S4, M4, H4, -⟩ := id f3
      have hin4 : ¬ ((Int32.ofNat j) < 0 ∨ cl4.slots.size ≤ ((Int32.ofNat j)).toNatClampNeg) := inb_of S4 (own_in (by omega) (by omega))
      have hat4 : cl4.slots[((Int32.ofNat j)).toNatClampNeg]? = some (.int (cs.getD j 0)) := H4.at hin4 (own_getc cs j _ (by omega) (by omega))
      have s5 : ∀ t_, Steps p.tables e below (T_.setTop (mkF m 23 #[.val (.ref ca), .val (.int (Int32.ofNat j)), .val (.ref ba), .val (.int (Int32.ofNat j)), .val (.int (Int32.ofNat n)), .val (.int (Int32.ofNat j)), .val (.int (cs.getD j 0))] [])) t_ → Steps p.tables e below (T_.setTop (mkF m 3 #[.val (.ref ca), .val (.int (Int32.ofNat j)), .val (.ref ba), .val (.int (Int32.ofNat j)), .val (.int (Int32.ofNat n)), .val (.int (Int32.ofNat j)), s6] [])) t_ := fun t_ k_ => (fun _ k_ => k_) t_ (by
        show Steps p.tables e below (T_.setTop (mkF m 3 #[.val (.ref ca), .val (.int (Int32.ofNat j)), .val (.ref ba), .val (.int (Int32.ofNat j)), .val (.int (Int32.ofNat n)), .val (.int (Int32.ofNat j)), s6] [])) t_
        refine XS.iload X_.here hx rfl (Jvm.hb hby d_jdk_52_method_21_3) rfl ?_
        show Steps p.tables e below (T_.setTop (mkF m 5 #[.val (.ref ca), .val (.int (Int32.ofNat j)), .val (.ref ba), .val (.int (Int32.ofNat j)), .val (.int (Int32.ofNat n)), .val (.int (Int32.ofNat j)), s6] [(.int (Int32.ofNat j))])) _
        refine XS.iload X_.here hx rfl (Jvm.hb hby d_jdk_52_method_21_5) rfl ?_
        show Steps p.tables e below (T_.setTop (mkF m 7 #[.val (.ref ca), .val (.int (Int32.ofNat j)), .val (.ref ba), .val (.int (Int32.ofNat j)), .val (.int (Int32.ofNat n)), .val (.int (Int32.ofNat j)), s6] [(.int (Int32.ofNat n)), (.int (Int32.ofNat j))])) _
        refine XS.icmpNo X_.here hx rfl (Jvm.hb hby d_jdk_52_method_21_7) rfl (tlt (own_lt (by omega) (by omega))).2.1 ?_
        show Steps p.tables e below (T_.setTop (mkF m 10 #[.val (.ref ca), .val (.int (Int32.ofNat j)), .val (.ref ba), .val (.int (Int32.ofNat j)), .val (.int (Int32.ofNat n)), .val (.int (Int32.ofNat j)), s6] [])) _
        refine XS.aloadN X_.here hx rfl (Jvm.hb hby d_jdk_52_method_21_10) rfl rfl ?_
        show Steps p.tables e below (T_.setTop (mkF m 11 #[.val (.ref ca), .val (.int (Int32.ofNat j)), .val (.ref ba), .val (.int (Int32.ofNat j)), .val (.int (Int32.ofNat n)), .val (.int (Int32.ofNat j)), s6] [(.ref ca)])) _
        refine XS.iloadN X_.here hx rfl (Jvm.hb hby d_jdk_52_method_21_11) rfl ?_
        show Steps p.tables e below (T_.setTop (mkF m 12 #[.val (.ref ca), .val (.int (Int32.ofNat j)), .val (.ref ba), .val (.int (Int32.ofNat j)), .val (.int (Int32.ofNat n)), .val (.int (Int32.ofNat j)), s6] [(.int (Int32.ofNat j)), (.ref ca)])) _
        refine X_.caload hx (j := (Int32.ofNat j)) (v := (.int (cs.getD j 0))) (by rw [e_]; exact Ar4.1) (State.isArrayOf_alike hZ.alike Ar4.2.1) Ar4.2.2 hin4 hat4 (g := (mkF m 12 #[.val (.ref ca), .val (.int (Int32.ofNat j)), .val (.ref ba), .val (.int (Int32.ofNat j)), .val (.int (Int32.ofNat n)), .val (.int (Int32.ofNat j)), s6] [(.int (Int32.ofNat j)), (.ref ca)])) rfl rfl (Jvm.hb hby d_jdk_52_method_21_12) _ ?_
        show Steps p.tables e below (T_.setTop (mkF m 13 #[.val (.ref ca), .val (.int (Int32.ofNat j)), .val (.ref ba), .val (.int (Int32.ofNat j)), .val (.int (Int32.ofNat n)), .val (.int (Int32.ofNat j)), s6] [(.int (cs.getD j 0))])) _
        refine XS.istore X_.here hx rfl (Jvm.hb hby d_jdk_52_method_21_13) rfl (l' := #[.val (.ref ca), .val (.int (Int32.ofNat j)), .val (.ref ba), .val (.int (Int32.ofNat j)), .val (.int (Int32.ofNat n)), .val (.int (Int32.ofNat j)), .val (.int (cs.getD j 0))]) (os_rmCmpW_13 hs6) ?_
        show Steps p.tables e below (T_.setTop (mkF m 15 #[.val (.ref ca), .val (.int (Int32.ofNat j)), .val (.ref ba), .val (.int (Int32.ofNat j)), .val (.int (Int32.ofNat n)), .val (.int (Int32.ofNat j)), .val (.int (cs.getD j 0))] [])) _
        refine XS.iload X_.here hx rfl (Jvm.hb hby d_jdk_52_method_21_15) rfl ?_
        show Steps p.tables e below (T_.setTop (mkF m 17 #[.val (.ref ca), .val (.int (Int32.ofNat j)), .val (.ref ba), .val (.int (Int32.ofNat j)), .val (.int (Int32.ofNat n)), .val (.int (Int32.ofNat j)), .val (.int (cs.getD j 0))] [(.int (cs.getD j 0))])) _
        refine XS.sipush X_.here hx rfl (Jvm.hb hby d_jdk_52_method_21_17) ?_
        show Steps p.tables e below (T_.setTop (mkF m 20 #[.val (.ref ca), .val (.int (Int32.ofNat j)), .val (.ref ba), .val (.int (Int32.ofNat j)), .val (.int (Int32.ofNat n)), .val (.int (Int32.ofNat j)), .val (.int (cs.getD j 0))] [(.int (255 : Int32)), (.int (cs.getD j 0))])) _
        refine XS.icmpNo X_.here hx rfl (Jvm.hb hby d_jdk_52_method_21_20) rfl (tlt (by rw [show j = i by omega]; exact hbad)).2.2.2 ?_
        show Steps p.tables e below (T_.setTop (mkF m 23 #[.val (.ref ca), .val (.int (Int32.ofNat j)), .val (.ref ba), .val (.int (Int32.ofNat j)), .val (.int (Int32.ofNat n)), .val (.int (Int32.ofNat j)), .val (.int (cs.getD j 0))] [])) _
        show Steps p.tables e below (T_.setTop (mkF m 23 #[.val (.ref ca), .val (.int (Int32.ofNat j)), .val (.ref ba), .val (.int (Int32.ofNat j)), .val (.int (Int32.ofNat n)), .val (.int (Int32.ofNat j)), .val (.int (cs.getD j 0))] [])) t_
        exact k_)
      exact ⟨T_, _, _, _, X_, e_, N_, ((Keep.refl h0 [ba]).trans K_ (allS (Or.inl (by simp)) all0)), ⟨(by rw [show j = i by omega]), (by obtain rfl : j = i := (by omega); exact F_0)⟩, s5⟩
    | succ k_ ih => 
      intro j s6 T_ lo_ hh2 hm_ X_ e_ N_ K_ F_0 hs6
      have zk_ : h0.size ≤ hh2.size := K_.1
      have f6 : Arv Z hh2 ca kc .char (Int32.ofNat n) (cs.map Value.int) (.int (0 : Int32)) := (I1.keep K_ (ninS (show @Ne Nat ca ba by omega) nin0))
      obtain ⟨cl7, Ar7, -, S7, M7, H7, -⟩ := id f6
      have hin7 : ¬ ((Int32.ofNat j) < 0 ∨ cl7.slots.size ≤ ((Int32.ofNat j)).toNatClampNeg) := inb_of S7 (own_in (by omega) (by omega))
      have hat7 : cl7.slots[((Int32.ofNat j)).toNatClampNeg]? = some (.int (cs.getD j 0)) := H7.at hin7 (own_getc cs j _ (by omega) (by omega))
      obtain ⟨cl8, Ar8, q8, S8, M8, H8, G8⟩ := id F_0
      have hin8 : ¬ ((Int32.ofNat j) < 0 ∨ cl8.slots.size ≤ ((Int32.ofNat j)).toNatClampNeg) := inb_of S8 (own_in (by omega) (by omega))
      obtain ⟨T9, h9, X9, e9, W9, st9⟩ := stB X_ hx hZ e_ Ar8 (j := (Int32.ofNat j)) hin8 (g := (mkF m 31 #[.val (.ref ca), .val (.int (Int32.ofNat j)), .val (.ref ba), .val (.int (Int32.ofNat j)), .val (.int (Int32.ofNat n)), .val (.int (Int32.ofNat j)), .val (.int (cs.getD j 0))] [(.int (own_lo (cs.getD j 0))), (.int (Int32.ofNat j)), (.ref ba)])) rfl rfl (Jvm.hb hby d_jdk_52_method_21_31)
      have z10 : hh2.size ≤ h9.size := Nat.le_of_eq W9.size.symm
      have V9 : Arv Z h9 ba kb .byte (Int32.ofNat n) (own_mix (own_low cs) vs (j + 1)) (.int (0 : Int32)) := by
        have q : Arv Z h9 ba kb .byte (Int32.ofNat n) ((own_mix (own_low cs) vs j).set j (.int (nar .byte (own_lo (cs.getD j 0))))) (.int (0 : Int32)) := Arv.set Ar8 q8 S8 M8 H8 G8 (fits_nar_byte _) W9 j (own_tn (by omega)) (by rw [own_mixl _ _ _ (by rw [own_lowl]; omega)]; omega)
        rw [own_mixc cs vs j (by omega) (by omega)] at q
        exact q
      have N9 := Fr.snoc X9 N_ (show n0 ≤ ba by omega)
      have s11 : ∀ t_, Steps p.tables e below (T9.setTop (mkF m 3 #[.val (.ref ca), .val (.int ((Int32.ofNat j) + (1 : Int32))), .val (.ref ba), .val (.int ((Int32.ofNat j) + (1 : Int32))), .val (.int (Int32.ofNat n)), .val (.int ((Int32.ofNat j) + (1 : Int32))), .val (.int (cs.getD j 0))] [])) t_ → Steps p.tables e below (T_.setTop (mkF m 3 #[.val (.ref ca), .val (.int (Int32.ofNat j)), .val (.ref ba), .val (.int (Int32.ofNat j)), .val (.int (Int32.ofNat n)), .val (.int (Int32.ofNat j)), s6] [])) t_ := fun t_ k_ => (fun _ k_ => k_) t_ (by
        show Steps p.tables e below (T_.setTop (mkF m 3 #[.val (.ref ca), .val (.int (Int32.ofNat j)), .val (.ref ba), .val (.int (Int32.ofNat j)), .val (.int (Int32.ofNat n)), .val (.int (Int32.ofNat j)), s6] [])) t_
        refine XS.iload X_.here hx rfl (Jvm.hb hby d_jdk_52_method_21_3) rfl ?_
        show Steps p.tables e below (T_.setTop (mkF m 5 #[.val (.ref ca), .val (.int (Int32.ofNat j)), .val (.ref ba), .val (.int (Int32.ofNat j)), .val (.int (Int32.ofNat n)), .val (.int (Int32.ofNat j)), s6] [(.int (Int32.ofNat j))])) _
        refine XS.iload X_.here hx rfl (Jvm.hb hby d_jdk_52_method_21_5) rfl ?_
        show Steps p.tables e below (T_.setTop (mkF m 7 #[.val (.ref ca), .val (.int (Int32.ofNat j)), .val (.ref ba), .val (.int (Int32.ofNat j)), .val (.int (Int32.ofNat n)), .val (.int (Int32.ofNat j)), s6] [(.int (Int32.ofNat n)), (.int (Int32.ofNat j))])) _
        refine XS.icmpNo X_.here hx rfl (Jvm.hb hby d_jdk_52_method_21_7) rfl (tlt (own_lt (by omega) (by omega))).2.1 ?_
        show Steps p.tables e below (T_.setTop (mkF m 10 #[.val (.ref ca), .val (.int (Int32.ofNat j)), .val (.ref ba), .val (.int (Int32.ofNat j)), .val (.int (Int32.ofNat n)), .val (.int (Int32.ofNat j)), s6] [])) _
        refine XS.aloadN X_.here hx rfl (Jvm.hb hby d_jdk_52_method_21_10) rfl rfl ?_
        show Steps p.tables e below (T_.setTop (mkF m 11 #[.val (.ref ca), .val (.int (Int32.ofNat j)), .val (.ref ba), .val (.int (Int32.ofNat j)), .val (.int (Int32.ofNat n)), .val (.int (Int32.ofNat j)), s6] [(.ref ca)])) _
        refine XS.iloadN X_.here hx rfl (Jvm.hb hby d_jdk_52_method_21_11) rfl ?_
        show Steps p.tables e below (T_.setTop (mkF m 12 #[.val (.ref ca), .val (.int (Int32.ofNat j)), .val (.ref ba), .val (.int (Int32.ofNat j)), .val (.int (Int32.ofNat n)), .val (.int (Int32.ofNat j)), s6] [(.int (Int32.ofNat j)), (.ref ca)])) _
        refine X_.caload hx (j := (Int32.ofNat j)) (v := (.int (cs.getD j 0))) (by rw [e_]; exact Ar7.1) (State.isArrayOf_alike hZ.alike Ar7.2.1) Ar7.2.2 hin7 hat7 (g := (mkF m 12 #[.val (.ref ca), .val (.int (Int32.ofNat j)), .val (.ref ba), .val (.int (Int32.ofNat j)), .val (.int (Int32.ofNat n)), .val (.int (Int32.ofNat j)), s6] [(.int (Int32.ofNat j)), (.ref ca)])) rfl rfl (Jvm.hb hby d_jdk_52_method_21_12) _ ?_
        show Steps p.tables e below (T_.setTop (mkF m 13 #[.val (.ref ca), .val (.int (Int32.ofNat j)), .val (.ref ba), .val (.int (Int32.ofNat j)), .val (.int (Int32.ofNat n)), .val (.int (Int32.ofNat j)), s6] [(.int (cs.getD j 0))])) _
        refine XS.istore X_.here hx rfl (Jvm.hb hby d_jdk_52_method_21_13) rfl (l' := #[.val (.ref ca), .val (.int (Int32.ofNat j)), .val (.ref ba), .val (.int (Int32.ofNat j)), .val (.int (Int32.ofNat n)), .val (.int (Int32.ofNat j)), .val (.int (cs.getD j 0))]) (os_rmCmpW_13 hs6) ?_
        show Steps p.tables e below (T_.setTop (mkF m 15 #[.val (.ref ca), .val (.int (Int32.ofNat j)), .val (.ref ba), .val (.int (Int32.ofNat j)), .val (.int (Int32.ofNat n)), .val (.int (Int32.ofNat j)), .val (.int (cs.getD j 0))] [])) _
        refine XS.iload X_.here hx rfl (Jvm.hb hby d_jdk_52_method_21_15) rfl ?_
        show Steps p.tables e below (T_.setTop (mkF m 17 #[.val (.ref ca), .val (.int (Int32.ofNat j)), .val (.ref ba), .val (.int (Int32.ofNat j)), .val (.int (Int32.ofNat n)), .val (.int (Int32.ofNat j)), .val (.int (cs.getD j 0))] [(.int (cs.getD j 0))])) _
        refine XS.sipush X_.here hx rfl (Jvm.hb hby d_jdk_52_method_21_17) ?_
        show Steps p.tables e below (T_.setTop (mkF m 20 #[.val (.ref ca), .val (.int (Int32.ofNat j)), .val (.ref ba), .val (.int (Int32.ofNat j)), .val (.int (Int32.ofNat n)), .val (.int (Int32.ofNat j)), .val (.int (cs.getD j 0))] [(.int (255 : Int32)), (.int (cs.getD j 0))])) _
        refine XS.icmpYes X_.here hx rfl (pc0 := 20) (pc' := 26) rfl (Jvm.hb hby d_jdk_52_method_21_20) rfl (flt (hpre j (by omega))).2.2.2 (by decide) (by decide) ?_
        show Steps p.tables e below (T_.setTop (mkF m 26 #[.val (.ref ca), .val (.int (Int32.ofNat j)), .val (.ref ba), .val (.int (Int32.ofNat j)), .val (.int (Int32.ofNat n)), .val (.int (Int32.ofNat j)), .val (.int (cs.getD j 0))] [])) _
        refine XS.aloadN X_.here hx rfl (Jvm.hb hby d_jdk_52_method_21_26) rfl rfl ?_
        show Steps p.tables e below (T_.setTop (mkF m 27 #[.val (.ref ca), .val (.int (Int32.ofNat j)), .val (.ref ba), .val (.int (Int32.ofNat j)), .val (.int (Int32.ofNat n)), .val (.int (Int32.ofNat j)), .val (.int (cs.getD j 0))] [(.ref ba)])) _
        refine XS.iloadN X_.here hx rfl (Jvm.hb hby d_jdk_52_method_21_27) rfl ?_
        show Steps p.tables e below (T_.setTop (mkF m 28 #[.val (.ref ca), .val (.int (Int32.ofNat j)), .val (.ref ba), .val (.int (Int32.ofNat j)), .val (.int (Int32.ofNat n)), .val (.int (Int32.ofNat j)), .val (.int (cs.getD j 0))] [(.int (Int32.ofNat j)), (.ref ba)])) _
        refine XS.iload X_.here hx rfl (Jvm.hb hby d_jdk_52_method_21_28) rfl ?_
        show Steps p.tables e below (T_.setTop (mkF m 30 #[.val (.ref ca), .val (.int (Int32.ofNat j)), .val (.ref ba), .val (.int (Int32.ofNat j)), .val (.int (Int32.ofNat n)), .val (.int (Int32.ofNat j)), .val (.int (cs.getD j 0))] [(.int (cs.getD j 0)), (.int (Int32.ofNat j)), (.ref ba)])) _
        refine XS.i2b X_.here hx rfl (Jvm.hb hby d_jdk_52_method_21_30) rfl ?_
        show Steps p.tables e below (T_.setTop (mkF m 31 #[.val (.ref ca), .val (.int (Int32.ofNat j)), .val (.ref ba), .val (.int (Int32.ofNat j)), .val (.int (Int32.ofNat n)), .val (.int (Int32.ofNat j)), .val (.int (cs.getD j 0))] [(.int (own_lo (cs.getD j 0))), (.int (Int32.ofNat j)), (.ref ba)])) _
        refine st9 _ ?_
        show Steps p.tables e below (T9.setTop (mkF m 32 #[.val (.ref ca), .val (.int (Int32.ofNat j)), .val (.ref ba), .val (.int (Int32.ofNat j)), .val (.int (Int32.ofNat n)), .val (.int (Int32.ofNat j)), .val (.int (cs.getD j 0))] [])) _
        refine XS.iinc X9.here hx rfl (Jvm.hb hby d_jdk_52_method_21_32) rfl (l' := #[.val (.ref ca), .val (.int ((Int32.ofNat j) + (1 : Int32))), .val (.ref ba), .val (.int (Int32.ofNat j)), .val (.int (Int32.ofNat n)), .val (.int (Int32.ofNat j)), .val (.int (cs.getD j 0))]) rfl ?_
        show Steps p.tables e below (T9.setTop (mkF m 35 #[.val (.ref ca), .val (.int ((Int32.ofNat j) + (1 : Int32))), .val (.ref ba), .val (.int (Int32.ofNat j)), .val (.int (Int32.ofNat n)), .val (.int (Int32.ofNat j)), .val (.int (cs.getD j 0))] [])) _
        refine XS.iinc X9.here hx rfl (Jvm.hb hby d_jdk_52_method_21_35) rfl (l' := #[.val (.ref ca), .val (.int ((Int32.ofNat j) + (1 : Int32))), .val (.ref ba), .val (.int ((Int32.ofNat j) + (1 : Int32))), .val (.int (Int32.ofNat n)), .val (.int (Int32.ofNat j)), .val (.int (cs.getD j 0))]) rfl ?_
        show Steps p.tables e below (T9.setTop (mkF m 38 #[.val (.ref ca), .val (.int ((Int32.ofNat j) + (1 : Int32))), .val (.ref ba), .val (.int ((Int32.ofNat j) + (1 : Int32))), .val (.int (Int32.ofNat n)), .val (.int (Int32.ofNat j)), .val (.int (cs.getD j 0))] [])) _
        refine XS.iinc X9.here hx rfl (Jvm.hb hby d_jdk_52_method_21_38) rfl (l' := #[.val (.ref ca), .val (.int ((Int32.ofNat j) + (1 : Int32))), .val (.ref ba), .val (.int ((Int32.ofNat j) + (1 : Int32))), .val (.int (Int32.ofNat n)), .val (.int ((Int32.ofNat j) + (1 : Int32))), .val (.int (cs.getD j 0))]) rfl ?_
        show Steps p.tables e below (T9.setTop (mkF m 41 #[.val (.ref ca), .val (.int ((Int32.ofNat j) + (1 : Int32))), .val (.ref ba), .val (.int ((Int32.ofNat j) + (1 : Int32))), .val (.int (Int32.ofNat n)), .val (.int ((Int32.ofNat j) + (1 : Int32))), .val (.int (cs.getD j 0))] [])) _
        refine XS.goto X9.here hx rfl (pc0 := 41) (pc' := 3) rfl (Jvm.hb hby d_jdk_52_method_21_41) (by decide) (by decide) ?_
        show Steps p.tables e below (T9.setTop (mkF m 3 #[.val (.ref ca), .val (.int ((Int32.ofNat j) + (1 : Int32))), .val (.ref ba), .val (.int ((Int32.ofNat j) + (1 : Int32))), .val (.int (Int32.ofNat n)), .val (.int ((Int32.ofNat j) + (1 : Int32))), .val (.int (cs.getD j 0))] [])) _
        show Steps p.tables e below (T9.setTop (mkF m 3 #[.val (.ref ca), .val (.int ((Int32.ofNat j) + (1 : Int32))), .val (.ref ba), .val (.int ((Int32.ofNat j) + (1 : Int32))), .val (.int (Int32.ofNat n)), .val (.int ((Int32.ofNat j) + (1 : Int32))), .val (.int (cs.getD j 0))] [])) t_
        exact k_)
      obtain ⟨T12, lo12, h12, fe12, X12, e12, N12, K12, A12, st12⟩ := ih (j + 1) (.val (.int (cs.getD j 0))) T9 _ h9 (by omega) X9 e9 N9 (((Keep.refl h0 [ba]).trans K_ (allS (Or.inl (by simp)) all0)).wr W9 (Or.inl (by simp))) V9 (One.val rfl)
      exact ⟨T12, lo12, h12, fe12, X12, e12, N12, K12, A12, fun t_ k_ => s11 t_ (castTop (by rw [own_up]) (st12 t_ k_))⟩
  obtain ⟨T13, lo13, h13, fe13, X13, e13, N13, K13, A13, st13⟩ := lp2 i 0 .unset s₁ _ h0 (by omega) X0 e0 N0 (Keep.refl _ _) (by rw [own_mix0]; exact I2) One.u
  have z14 : h0.size ≤ h13.size := K13.1
  obtain ⟨rfl, G13_0⟩ := A13
  have s15 : ∀ t_, Steps p.tables e below (T13.setTop (mkF m 23 #[.val (.ref ca), .val (.int (Int32.ofNat i)), .val (.ref ba), .val (.int (Int32.ofNat i)), .val (.int (Int32.ofNat n)), .val (.int (Int32.ofNat i)), .val (.int (cs.getD i 0))] [])) t_ → Steps p.tables e below (s₁.setTop (entryFrame m #[(.ref ca), (.int (0 : Int32)), (.ref ba), (.int (0 : Int32)), (.int (Int32.ofNat n))] 7)) t_ := fun t_ k_ => s1 t_ (st13 t_ k_)
  have s16 : ∀ t_, Steps p.tables e below (T13.setTop (mkF m 25 #[.val (.ref ca), .val (.int (Int32.ofNat i)), .val (.ref ba), .val (.int (Int32.ofNat i)), .val (.int (Int32.ofNat n)), .val (.int (Int32.ofNat i)), .val (.int (cs.getD i 0))] [(.int (Int32.ofNat i))])) t_ → Steps p.tables e below (s₁.setTop (entryFrame m #[(.ref ca), (.int (0 : Int32)), (.ref ba), (.int (0 : Int32)), (.int (Int32.ofNat n))] 7)) t_ := fun t_ k_ => s15 t_ (by
    show Steps p.tables e below (T13.setTop (mkF m 23 #[.val (.ref ca), .val (.int (Int32.ofNat i)), .val (.ref ba), .val (.int (Int32.ofNat i)), .val (.int (Int32.ofNat n)), .val (.int (Int32.ofNat i)), .val (.int (cs.getD i 0))] [])) t_
    refine XS.iload X13.here hx rfl (Jvm.hb hby d_jdk_52_method_21_23) rfl ?_
    show Steps p.tables e below (T13.setTop (mkF m 25 #[.val (.ref ca), .val (.int (Int32.ofNat i)), .val (.ref ba), .val (.int (Int32.ofNat i)), .val (.int (Int32.ofNat n)), .val (.int (Int32.ofNat i)), .val (.int (cs.getD i 0))] [(.int (Int32.ofNat i))])) _
    show Steps p.tables e below (T13.setTop (mkF m 25 #[.val (.ref ca), .val (.int (Int32.ofNat i)), .val (.ref ba), .val (.int (Int32.ofNat i)), .val (.int (Int32.ofNat n)), .val (.int (Int32.ofNat i)), .val (.int (cs.getD i 0))] [(.int (Int32.ofNat i))])) t_
    exact k_)
  obtain ⟨fs, hr, hrun, hended, hW, hsame⟩ := X13.leave (v := some (.int (Int32.ofNat i))) (fun h => by rw [Bd.returns] at h; cases h)
  refine ⟨_, _, s16 _ ?_, hrun, hended, _, _, rfl, ?_, ⟨_, rfl⟩, hW, hsame.mono (by decide) (by decide)⟩
  · show Steps p.tables e below (T13.setTop (mkF m 25 #[.val (.ref ca), .val (.int (Int32.ofNat i)), .val (.ref ba), .val (.int (Int32.ofNat i)), .val (.int (Int32.ofNat n)), .val (.int (Int32.ofNat i)), .val (.int (cs.getD i 0))] [(.int (Int32.ofNat i))])) _
    exact retI X13 hx Bd.returns (Jvm.hb hby d_jdk_52_method_21_25) hr
  · show Q_rmCmpW Z _ _ _ _ _ _ _ _ h0 n0 _ T13.heap _
    rw [e13]
    exact ⟨rfl, N13, ((Keep.refl h0 [ba]).trans K13 (allS (Or.inl (by simp)) all0)), G13_0⟩
theorem d_jdk_52_method_15_0 : decode jdk_52_method_15_code 0 = .ok (.iload_n 1, 1) := by decide +kernel
theorem d_jdk_52_method_15_1 : decode jdk_52_method_15_code 1 = .ok (.aload_n 0, 1) := by decide +kernel
theorem d_jdk_52_method_15_2 : decode jdk_52_method_15_code 2 = .ok (.arraylength, 1) := by decide +kernel
theorem d_jdk_52_method_15_3 : decode jdk_52_method_15_code 3 = .ok (.isub, 1) := by decide +kernel
theorem d_jdk_52_method_15_4 : decode jdk_52_method_15_code 4 = .ok (.bipush 31, 2) := by decide +kernel
theorem d_jdk_52_method_15_6 : decode jdk_52_method_15_code 6 = .ok (.iushr, 1) := by decide +kernel
theorem d_jdk_52_method_15_7 : decode jdk_52_method_15_code 7 = .ok (.i2b, 1) := by decide +kernel
theorem d_jdk_52_method_15_8 : decode jdk_52_method_15_code 8 = .ok (.ireturn, 1) := by decide +kernel
theorem ef_rmCod (m : MethodId) (x0 : Addr) (x1 : Int32) : entryFrame m #[(.ref x0), (.int x1)] 2 = mkF m 0 #[.val (.ref x0), .val (.int x1)] [] := by first | (simp [entryFrame, mkF, argsToLocals, Value.category]; done) | rfl
def Q_rmCod (Z : State) (ba : Addr) (nn : Int32) (kb : ClassId) (zz : Int32) (vs : List Value) (h0 : Heap) (n0 : Nat) (v : Option Value) (h : Heap) (L : List Loc) : Prop := (v = some (.int (nar .byte (own_lo (ushr (nn - zz) (31 : Int32)))))) ∧ (Fr n0 L) ∧ (h = h0)
set_option maxRecDepth 65536 in
set_option maxHeartbeats 40000000 in
theorem rmCod (l : Launch) (Z : State) (a0 : Array Value) (hw : ∀ d ∈ tables_1, d.before a0 Z = true) (ws : List Jvm.Cond) (ba : Addr) (nn : Int32) (kb : ClassId) (zz : Int32) (vs : List Value) (h0 : Heap) (n0 : Nat) (Z0 : n0 ≤ h0.size) (I1 : Arv Z h0 ba kb .byte zz vs (.int (0 : Int32))) :
    MetFree l (⟨"java/lang/StringUTF16", "coderFromArrayLen", "([BI)B"⟩ : MethodName) (head1 (Jvm.Cond.code (⟨"java/lang/StringUTF16", "coderFromArrayLen", "([BI)B"⟩ : MethodName) jdk_52_method_15_code 2 (some .byte) :: ws) ({ frames := 0, cells := 0, slots := 0, locals := 0 } : Room)) (fun ar_ U => ar_ = #[(.ref ba), (.int nn)] ∧ Z.Warmed39 U.vm ∧ U.heap = h0) (fun _ _ _ _ _ => True) (fun _ U o U' => ∃ v L, o = .returned v ∧ Q_rmCod Z ba nn kb zz vs h0 n0 v U'.heap L ∧ FrameEnd U o U' L ({ frames := 0, cells := 0, slots := 0, locals := 0 } : Room).cells ({ frames := 0, cells := 0, slots := 0, locals := 0 } : Room).slots) := by
  refine MetFree.of_bodySF (plainFor_of_name pn_java_lang_StringUTF16) hisR ?_
  intro p e s m args below meth c s₁ Bd hml0 hP hK
  obtain ⟨rfl, hZ, hh⟩ := hP
  have hx := Bd.exec
  have hby := Bd.bytes
  have hml : c.maxLocals = 2 := hml0
  have hown : s.vm.findClass "java/lang/StringUTF16" = some m.cls := findClass_of_methodNamed Bd.named
  have hnm := (name_of_methodNamed Bd.named Bd.method).1
  have X0 : Stand p l e ({ frames := 0, cells := 0, slots := 0, locals := 0 } : Room) s m #[(.ref ba), (.int nn)] below meth c s₁ [] 0 0 := Stand.of_body Bd
  have e0 : s₁.heap = h0 := by rw [← hh, Bd.state]; rfl
  have N0 := Fr.nil n0
  have pre0 : ∀ t_, Steps p.tables e below (s₁.setTop (mkF m 0 #[.val (.ref ba), .val (.int nn)] [])) t_ → Steps p.tables e below (s₁.setTop (entryFrame m #[(.ref ba), (.int nn)] 2)) t_ := fun t_ k_ => castTop (ef_rmCod m ba nn) k_
  have lt_I1 : @LT.lt Nat _ ba h0.size := I1.lt
  obtain ⟨cl1, Ar1, -, S1, M1, -, -⟩ := id I1
  have s2 : ∀ t_, Steps p.tables e below (s₁.setTop (mkF m 8 #[.val (.ref ba), .val (.int nn)] [(.int (own_lo (ushr (nn - zz) (31 : Int32))))])) t_ → Steps p.tables e below (s₁.setTop (entryFrame m #[(.ref ba), (.int nn)] 2)) t_ := fun t_ k_ => pre0 t_ (by
    show Steps p.tables e below (s₁.setTop (mkF m 0 #[.val (.ref ba), .val (.int nn)] [])) t_
    refine XS.iloadN X0.here hx rfl (Jvm.hb hby d_jdk_52_method_15_0) rfl ?_
    show Steps p.tables e below (s₁.setTop (mkF m 1 #[.val (.ref ba), .val (.int nn)] [(.int nn)])) _
    refine XS.aloadN X0.here hx rfl (Jvm.hb hby d_jdk_52_method_15_1) rfl rfl ?_
    show Steps p.tables e below (s₁.setTop (mkF m 2 #[.val (.ref ba), .val (.int nn)] [(.ref ba), (.int nn)])) _
    refine X0.arraylength hx (by rw [e0]; exact Ar1.1) (State.isArrayOf_alike hZ.alike Ar1.2.1) (g := (mkF m 2 #[.val (.ref ba), .val (.int nn)] [(.ref ba), (.int nn)])) rfl rfl (Jvm.hb hby d_jdk_52_method_15_2) _ ?_
    rw [len_of S1 M1]
    show Steps p.tables e below (s₁.setTop (mkF m 3 #[.val (.ref ba), .val (.int nn)] [(.int zz), (.int nn)])) _
    refine XS.isub X0.here hx rfl (Jvm.hb hby d_jdk_52_method_15_3) rfl ?_
    show Steps p.tables e below (s₁.setTop (mkF m 4 #[.val (.ref ba), .val (.int nn)] [(.int (nn - zz))])) _
    refine XS.bipush X0.here hx rfl (Jvm.hb hby d_jdk_52_method_15_4) ?_
    show Steps p.tables e below (s₁.setTop (mkF m 6 #[.val (.ref ba), .val (.int nn)] [(.int (31 : Int32)), (.int (nn - zz))])) _
    refine XS.iushr X0.here hx rfl (Jvm.hb hby d_jdk_52_method_15_6) rfl ?_
    show Steps p.tables e below (s₁.setTop (mkF m 7 #[.val (.ref ba), .val (.int nn)] [(.int (ushr (nn - zz) (31 : Int32)))])) _
    refine XS.i2b X0.here hx rfl (Jvm.hb hby d_jdk_52_method_15_7) rfl ?_
    show Steps p.tables e below (s₁.setTop (mkF m 8 #[.val (.ref ba), .val (.int nn)] [(.int (own_lo (ushr (nn - zz) (31 : Int32))))])) _
    show Steps p.tables e below (s₁.setTop (mkF m 8 #[.val (.ref ba), .val (.int nn)] [(.int (own_lo (ushr (nn - zz) (31 : Int32))))])) t_
    exact k_)
  obtain ⟨fs, hr, hrun, hended, hW, hsame⟩ := X0.leave (v := some (.int (nar .byte (own_lo (ushr (nn - zz) (31 : Int32)))))) (fun h => by rw [Bd.returns] at h; cases h)
  refine ⟨_, _, s2 _ ?_, hrun, hended, _, _, rfl, ?_, ⟨_, rfl⟩, hW, hsame.mono (by decide) (by decide)⟩
  · show Steps p.tables e below (s₁.setTop (mkF m 8 #[.val (.ref ba), .val (.int nn)] [(.int (own_lo (ushr (nn - zz) (31 : Int32))))])) _
    exact retN X0 hx (t := .byte) Bd.returns (by simp) (Jvm.hb hby d_jdk_52_method_15_8) hr
  · show Q_rmCod Z _ _ _ _ _ h0 n0 _ s₁.heap _
    rw [e0]
    exact ⟨rfl, N0, rfl⟩
theorem d_jdk_52_method_3_0 : decode jdk_52_method_3_code 0 = .ok (.iload_n 0, 1) := by decide +kernel
theorem d_jdk_52_method_3_1 : decode jdk_52_method_3_code 1 = .ok (.ifCond .ge 11, 3) := by decide +kernel
theorem d_jdk_52_method_3_12 : decode jdk_52_method_3_code 12 = .ok (.iload_n 0, 1) := by decide +kernel
theorem d_jdk_52_method_3_13 : decode jdk_52_method_3_code 13 = .ok (.ldc 20, 2) := by decide +kernel
theorem d_jdk_52_method_3_15 : decode jdk_52_method_3_code 15 = .ok (.if_icmp .lt 40, 3) := by decide +kernel
theorem d_jdk_52_method_3_55 : decode jdk_52_method_3_code 55 = .ok (.iload_n 0, 1) := by decide +kernel
theorem d_jdk_52_method_3_56 : decode jdk_52_method_3_code 56 = .ok (.iconst 1, 1) := by decide +kernel
theorem d_jdk_52_method_3_57 : decode jdk_52_method_3_code 57 = .ok (.ishl, 1) := by decide +kernel
theorem d_jdk_52_method_3_58 : decode jdk_52_method_3_code 58 = .ok (.ireturn, 1) := by decide +kernel
theorem ef_rmNBL (m : MethodId) (x0 : Int32) : entryFrame m #[(.int x0)] 1 = mkF m 0 #[.val (.int x0)] [] := by first | (simp [entryFrame, mkF, argsToLocals, Value.category]; done) | rfl
def Q_rmNBL (Z : State) (n : Nat) (h0 : Heap) (n0 : Nat) (v : Option Value) (h : Heap) (L : List Loc) : Prop := (v = some (.int (Int32.ofNat (2 * n)))) ∧ (Fr n0 L) ∧ (h = h0)
set_option maxRecDepth 65536 in
set_option maxHeartbeats 40000000 in
theorem rmNBL (l : Launch) (Z : State) (a0 : Array Value) (hw : ∀ d ∈ tables_1, d.before a0 Z = true) (ws : List Jvm.Cond) (n : Nat) (h0 : Heap) (n0 : Nat) (Z0 : n0 ≤ h0.size) (hb : n ≤ 4) :
    MetFree l (⟨"java/lang/StringUTF16", "newBytesLength", "(I)I"⟩ : MethodName) (head1 (Jvm.Cond.code (⟨"java/lang/StringUTF16", "newBytesLength", "(I)I"⟩ : MethodName) jdk_52_method_3_code 1 (some .int) :: ws) ({ frames := 0, cells := 0, slots := 0, locals := 0 } : Room)) (fun ar_ U => ar_ = #[(.int (Int32.ofNat n))] ∧ Z.Warmed39 U.vm ∧ U.heap = h0) (fun _ _ _ _ _ => True) (fun _ U o U' => ∃ v L, o = .returned v ∧ Q_rmNBL Z n h0 n0 v U'.heap L ∧ FrameEnd U o U' L ({ frames := 0, cells := 0, slots := 0, locals := 0 } : Room).cells ({ frames := 0, cells := 0, slots := 0, locals := 0 } : Room).slots) := by
  refine MetFree.of_bodySF (plainFor_of_name pn_java_lang_StringUTF16) hisR ?_
  intro p e s m args below meth c s₁ Bd hml0 hP hK
  obtain ⟨rfl, hZ, hh⟩ := hP
  have hx := Bd.exec
  have hby := Bd.bytes
  have hml : c.maxLocals = 1 := hml0
  have hown : s.vm.findClass "java/lang/StringUTF16" = some m.cls := findClass_of_methodNamed Bd.named
  have hnm := (name_of_methodNamed Bd.named Bd.method).1
  have X0 : Stand p l e ({ frames := 0, cells := 0, slots := 0, locals := 0 } : Room) s m #[(.int (Int32.ofNat n))] below meth c s₁ [] 0 0 := Stand.of_body Bd
  have e0 : s₁.heap = h0 := by rw [← hh, Bd.state]; rfl
  have N0 := Fr.nil n0
  have pre0 : ∀ t_, Steps p.tables e below (s₁.setTop (mkF m 0 #[.val (.int (Int32.ofNat n))] [])) t_ → Steps p.tables e below (s₁.setTop (entryFrame m #[(.int (Int32.ofNat n))] 1)) t_ := fun t_ k_ => castTop (ef_rmNBL m (Int32.ofNat n)) k_
  have s1 : ∀ t_, Steps p.tables e below (s₁.setTop (mkF m 58 #[.val (.int (Int32.ofNat n))] [(.int ((Int32.ofNat n) <<< ((1 : Int32) &&& 31)))])) t_ → Steps p.tables e below (s₁.setTop (entryFrame m #[(.int (Int32.ofNat n))] 1)) t_ := fun t_ k_ => pre0 t_ (by
    show Steps p.tables e below (s₁.setTop (mkF m 0 #[.val (.int (Int32.ofNat n))] [])) t_
    refine XS.iloadN X0.here hx rfl (Jvm.hb hby d_jdk_52_method_3_0) rfl ?_
    show Steps p.tables e below (s₁.setTop (mkF m 1 #[.val (.int (Int32.ofNat n))] [(.int (Int32.ofNat n))])) _
    refine XS.ifYes X0.here hx rfl (pc0 := 1) (pc' := 12) rfl (Jvm.hb hby d_jdk_52_method_3_1) rfl ((if0 _ _).trans (flt (own_nn (by omega))).2.1) (by decide) (by decide) ?_
    show Steps p.tables e below (s₁.setTop (mkF m 12 #[.val (.int (Int32.ofNat n))] [])) _
    refine XS.iloadN X0.here hx rfl (Jvm.hb hby d_jdk_52_method_3_12) rfl ?_
    show Steps p.tables e below (s₁.setTop (mkF m 13 #[.val (.int (Int32.ofNat n))] [(.int (Int32.ofNat n))])) _
    refine X0.ldcInt hx hown (mvT hZ (hw _ (List.mem_of_getElem? (i := 84) rfl))) (g := (mkF m 13 #[.val (.int (Int32.ofNat n))] [(.int (Int32.ofNat n))])) rfl (Jvm.hb hby d_jdk_52_method_3_13) _ ?_
    show Steps p.tables e below (s₁.setTop (mkF m 15 #[.val (.int (Int32.ofNat n))] [(.int (1073741823 : Int32)), (.int (Int32.ofNat n))])) _
    refine XS.icmpYes X0.here hx rfl (pc0 := 15) (pc' := 55) rfl (Jvm.hb hby d_jdk_52_method_3_15) rfl (tlt (own_ltbig (by omega))).1 (by decide) (by decide) ?_
    show Steps p.tables e below (s₁.setTop (mkF m 55 #[.val (.int (Int32.ofNat n))] [])) _
    refine XS.iloadN X0.here hx rfl (Jvm.hb hby d_jdk_52_method_3_55) rfl ?_
    show Steps p.tables e below (s₁.setTop (mkF m 56 #[.val (.int (Int32.ofNat n))] [(.int (Int32.ofNat n))])) _
    refine XS.iconst X0.here hx rfl (Jvm.hb hby d_jdk_52_method_3_56) ?_
    show Steps p.tables e below (s₁.setTop (mkF m 57 #[.val (.int (Int32.ofNat n))] [(.int (1 : Int32)), (.int (Int32.ofNat n))])) _
    refine XS.ishl X0.here hx rfl (Jvm.hb hby d_jdk_52_method_3_57) rfl ?_
    show Steps p.tables e below (s₁.setTop (mkF m 58 #[.val (.int (Int32.ofNat n))] [(.int ((Int32.ofNat n) <<< ((1 : Int32) &&& 31)))])) _
    show Steps p.tables e below (s₁.setTop (mkF m 58 #[.val (.int (Int32.ofNat n))] [(.int ((Int32.ofNat n) <<< ((1 : Int32) &&& 31)))])) t_
    exact k_)
  obtain ⟨fs, hr, hrun, hended, hW, hsame⟩ := X0.leave (v := some (.int ((Int32.ofNat n) <<< ((1 : Int32) &&& 31)))) (fun h => by rw [Bd.returns] at h; cases h)
  refine ⟨_, _, s1 _ ?_, hrun, hended, _, _, rfl, ?_, ⟨_, rfl⟩, hW, hsame.mono (by decide) (by decide)⟩
  · show Steps p.tables e below (s₁.setTop (mkF m 58 #[.val (.int (Int32.ofNat n))] [(.int ((Int32.ofNat n) <<< ((1 : Int32) &&& 31)))])) _
    exact retI X0 hx Bd.returns (Jvm.hb hby d_jdk_52_method_3_58) hr
  · show Q_rmNBL Z _ h0 n0 _ s₁.heap _
    rw [e0]
    exact ⟨(by rw [own_shl1 (by omega)]), N0, rfl⟩
theorem d_jdk_52_method_2_0 : decode jdk_52_method_2_code 0 = .ok (.iload_n 0, 1) := by decide +kernel
theorem pd__I_I : parseMethodDescriptor "(I)I" = some ⟨[.int], some .int⟩ := by decide +kernel
theorem d_jdk_52_method_2_1 : decode jdk_52_method_2_code 1 = .ok (.invokestatic 11, 3) := by decide +kernel
theorem d_jdk_52_method_2_4 : decode jdk_52_method_2_code 4 = .ok (.newarray .byte, 2) := by decide +kernel
theorem d_jdk_52_method_2_6 : decode jdk_52_method_2_code 6 = .ok (.areturn, 1) := by decide +kernel
theorem ef_rmNBF (m : MethodId) (x0 : Int32) : entryFrame m #[(.int x0)] 1 = mkF m 0 #[.val (.int x0)] [] := by first | (simp [entryFrame, mkF, argsToLocals, Value.category]; done) | rfl
def Q_rmNBF (Z : State) (n : Nat) (h0 : Heap) (n0 : Nat) (v : Option Value) (h : Heap) (L : List Loc) : Prop := ∃ (b : Addr), ∃ (kb : ClassId), (v = some (.ref b)) ∧ (Fr n0 L) ∧ (Keep h0 h []) ∧ (Arv Z h b kb .byte (Int32.ofNat (2 * n)) (List.replicate (2 * n) (.int (0 : Int32))) (.int (0 : Int32))) ∧ (h0.size ≤ b)
set_option maxRecDepth 65536 in
set_option maxHeartbeats 40000000 in
theorem rmNBF (l : Launch) (Z : State) (a0 : Array Value) (hw : ∀ d ∈ tables_1, d.before a0 Z = true) (ws : List Jvm.Cond) (n : Nat) (h0 : Heap) (n0 : Nat) (Z0 : n0 ≤ h0.size) (hb : n ≤ 4) :
    MetFree l (⟨"java/lang/StringUTF16", "newBytesFor", "(I)[B"⟩ : MethodName) (head1 (Jvm.Cond.code (⟨"java/lang/StringUTF16", "newBytesFor", "(I)[B"⟩ : MethodName) jdk_52_method_2_code 1 (some (.array .byte)) :: ws) ({ frames := 1, cells := 1, slots := 8, locals := 12 } : Room)) (fun ar_ U => ar_ = #[(.int (Int32.ofNat n))] ∧ Z.Warmed39 U.vm ∧ U.heap = h0) (fun _ _ _ _ _ => True) (fun _ U o U' => ∃ v L, o = .returned v ∧ Q_rmNBF Z n h0 n0 v U'.heap L ∧ FrameEnd U o U' L ({ frames := 1, cells := 1, slots := 8, locals := 12 } : Room).cells ({ frames := 1, cells := 1, slots := 8, locals := 12 } : Room).slots) := by
  refine MetFree.of_bodySF (plainFor_of_name pn_java_lang_StringUTF16) hisR ?_
  intro p e s m args below meth c s₁ Bd hml0 hP hK
  obtain ⟨rfl, hZ, hh⟩ := hP
  have hx := Bd.exec
  have hby := Bd.bytes
  have hml : c.maxLocals = 1 := hml0
  have hown : s.vm.findClass "java/lang/StringUTF16" = some m.cls := findClass_of_methodNamed Bd.named
  have hnm := (name_of_methodNamed Bd.named Bd.method).1
  have X0 : Stand p l e ({ frames := 1, cells := 1, slots := 8, locals := 12 } : Room) s m #[(.int (Int32.ofNat n))] below meth c s₁ [] 0 0 := Stand.of_body Bd
  have e0 : s₁.heap = h0 := by rw [← hh, Bd.state]; rfl
  have N0 := Fr.nil n0
  have pre0 : ∀ t_, Steps p.tables e below (s₁.setTop (mkF m 0 #[.val (.int (Int32.ofNat n))] [])) t_ → Steps p.tables e below (s₁.setTop (entryFrame m #[(.int (Int32.ofNat n))] 1)) t_ := fun t_ k_ => castTop (ef_rmNBF m (Int32.ofNat n)) k_
  have Zc1 : n0 ≤ h0.size := by omega
  obtain ⟨_, _, ⟨T2, L2, k2, n2⟩, -, X2, ⟨Lc2, hQ2, l2, y2, z2⟩, st2⟩ := Jvm.LawKit.callS X0 hx (y := (⟨"java/lang/StringUTF16", "newBytesLength", "(I)I"⟩ : MethodName)) hown (mvT hZ (hw _ (List.mem_of_getElem? (i := 81) rfl))) (mvT hZ (hw _ (List.mem_of_getElem? (i := 82) rfl))) (mvT hZ (hw _ (List.mem_of_getElem? (i := 18) rfl))) (mvT hZ (hw _ (List.mem_of_getElem? (i := 83) rfl))) (by decide) (backOf (W := 0) (rmNBL l Z a0 hw [] n h0 n0 Zc1 (hb : n ≤ 4)) hZ (hw _ (List.mem_of_getElem? (i := 83) rfl)) (hw _ (List.mem_of_getElem? (i := 18) rfl)) (by decide) (by decide)) (g := (mkF m 1 #[.val (.int (Int32.ofNat n))] [(.int (Int32.ofNat n))])) rfl (by rw [hml]; rfl) (argsL := [(.int (Int32.ofNat n))]) (rest := []) (lenOf pd__I_I rfl) rfl (by show 2 * 0 + _ ≤ _; exact Nat.le_of_eq rfl) (Jvm.hb hby d_jdk_52_method_2_1) (fun _ _ => ⟨rfl, e0, (by decide : 0 + 0 ≤ _), (by decide : 0 + 0 ≤ _)⟩)
  dsimp only [Pt.U, Pt.locs, Pt.cells, Pt.slots] at X2 l2 y2 z2 st2 hQ2
  subst l2 y2 z2
  obtain ⟨rfl, N2q, e2⟩ := hQ2
  have N2 := Fr.app N0 N2q
  obtain ⟨T3, h3, k3, X3, e3, E3, A3, st3⟩ := newP X2 hx hZ (hw _ (List.mem_of_getElem? (i := 20) rfl)) e2 (g := (mkF m 4 #[.val (.int (Int32.ofNat n))] [(.int (Int32.ofNat (2 * n)))])) rfl (Jvm.hb hby d_jdk_52_method_2_4) rfl (own_nn (by omega)) (cap := 8) (by rw [own_tn (by omega)]; omega) (by decide) (by decide) (by decide)
  obtain ⟨b3, g3⟩ : ∃ z, z = h0.size := ⟨_, rfl⟩
  rw [← g3] at A3 st3
  have z4 : h0.size ≤ h3.size := E3.1
  have l3 : b3 < h3.size := A3.lt
  have V3 : Arv Z h3 b3 k3 .byte (Int32.ofNat (2 * n)) (List.replicate (2 * n) (.int (0 : Int32))) (.int (0 : Int32)) := (Arv.new A3 (own_nn (by omega))).pad (pad_rep [] _ (2 * n))
  have s5 : ∀ t_, Steps p.tables e below (T3.setTop (mkF m 6 #[.val (.int (Int32.ofNat n))] [(.ref b3)])) t_ → Steps p.tables e below (s₁.setTop (entryFrame m #[(.int (Int32.ofNat n))] 1)) t_ := fun t_ k_ => pre0 t_ (by
    show Steps p.tables e below (s₁.setTop (mkF m 0 #[.val (.int (Int32.ofNat n))] [])) t_
    refine XS.iloadN X0.here hx rfl (Jvm.hb hby d_jdk_52_method_2_0) rfl ?_
    show Steps p.tables e below (s₁.setTop (mkF m 1 #[.val (.int (Int32.ofNat n))] [(.int (Int32.ofNat n))])) _
    refine st2 _ ?_
    show Steps p.tables e below (T2.setTop (mkF m 4 #[.val (.int (Int32.ofNat n))] [(.int (Int32.ofNat (2 * n)))])) _
    refine st3 _ ?_
    show Steps p.tables e below (T3.setTop (mkF m 6 #[.val (.int (Int32.ofNat n))] [(.ref b3)])) _
    show Steps p.tables e below (T3.setTop (mkF m 6 #[.val (.int (Int32.ofNat n))] [(.ref b3)])) t_
    exact k_)
  obtain ⟨fs, hr, hrun, hended, hW, hsame⟩ := X3.leave (v := some (.ref b3)) (fun h => by rw [Bd.returns] at h; cases h)
  refine ⟨_, _, s5 _ ?_, hrun, hended, _, _, rfl, ?_, ⟨_, rfl⟩, hW, hsame.mono (by decide) (by decide)⟩
  · show Steps p.tables e below (T3.setTop (mkF m 6 #[.val (.int (Int32.ofNat n))] [(.ref b3)])) _
    jvm_step X3.here [X3.here.top, hx, (Jvm.hb hby d_jdk_52_method_2_6), X3.method', Bd.returns, Value.isRef, FieldType.isReference]
    first | (intro acts; rw [hr _ acts rfl rfl rfl]) | rw [hr _ _ rfl rfl rfl]
    exact Steps.refl _
  · show Q_rmNBF Z _ h0 n0 _ T3.heap _
    rw [e3]
    exact ⟨b3, k3, rfl, N2, ((Keep.refl h0 []).ext E3), V3, by omega⟩
theorem d_jdk_52_method_4_0 : decode jdk_52_method_4_code 0 = .ok (.getstatic 44, 3) := by decide +kernel
theorem d_jdk_52_method_4_3 : decode jdk_52_method_4_code 3 = .ok (.ifCond .ne 25, 3) := by decide +kernel
theorem d_jdk_52_method_4_28 : decode jdk_52_method_4_code 28 = .ok (.iload_n 1, 1) := by decide +kernel
theorem d_jdk_52_method_4_29 : decode jdk_52_method_4_code 29 = .ok (.iconst 1, 1) := by decide +kernel
theorem d_jdk_52_method_4_30 : decode jdk_52_method_4_code 30 = .ok (.ishl, 1) := by decide +kernel
theorem d_jdk_52_method_4_31 : decode jdk_52_method_4_code 31 = .ok (.istore_n 1, 1) := by decide +kernel
theorem d_jdk_52_method_4_32 : decode jdk_52_method_4_code 32 = .ok (.aload_n 0, 1) := by decide +kernel
theorem d_jdk_52_method_4_33 : decode jdk_52_method_4_code 33 = .ok (.iload_n 1, 1) := by decide +kernel
theorem d_jdk_52_method_4_34 : decode jdk_52_method_4_code 34 = .ok (.iinc 1 1, 3) := by decide +kernel
theorem d_jdk_52_method_4_37 : decode jdk_52_method_4_code 37 = .ok (.iload_n 2, 1) := by decide +kernel
theorem d_jdk_52_method_4_38 : decode jdk_52_method_4_code 38 = .ok (.getstatic 59, 3) := by decide +kernel
theorem d_jdk_52_method_4_41 : decode jdk_52_method_4_code 41 = .ok (.ishr, 1) := by decide +kernel
theorem d_jdk_52_method_4_42 : decode jdk_52_method_4_code 42 = .ok (.i2b, 1) := by decide +kernel
theorem d_jdk_52_method_4_43 : decode jdk_52_method_4_code 43 = .ok (.bastore, 1) := by decide +kernel
theorem d_jdk_52_method_4_44 : decode jdk_52_method_4_code 44 = .ok (.aload_n 0, 1) := by decide +kernel
theorem d_jdk_52_method_4_45 : decode jdk_52_method_4_code 45 = .ok (.iload_n 1, 1) := by decide +kernel
theorem d_jdk_52_method_4_46 : decode jdk_52_method_4_code 46 = .ok (.iload_n 2, 1) := by decide +kernel
theorem d_jdk_52_method_4_47 : decode jdk_52_method_4_code 47 = .ok (.getstatic 63, 3) := by decide +kernel
theorem d_jdk_52_method_4_50 : decode jdk_52_method_4_code 50 = .ok (.ishr, 1) := by decide +kernel
theorem d_jdk_52_method_4_51 : decode jdk_52_method_4_code 51 = .ok (.i2b, 1) := by decide +kernel
theorem d_jdk_52_method_4_52 : decode jdk_52_method_4_code 52 = .ok (.bastore, 1) := by decide +kernel
theorem d_jdk_52_method_4_53 : decode jdk_52_method_4_code 53 = .ok (.return_, 1) := by decide +kernel
theorem ef_rmPut (m : MethodId) (x0 : Addr) (x1 : Int32) (x2 : Int32) : entryFrame m #[(.ref x0), (.int x1), (.int x2)] 3 = mkF m 0 #[.val (.ref x0), .val (.int x1), .val (.int x2)] [] := by first | (simp [entryFrame, mkF, argsToLocals, Value.category]; done) | rfl
def Q_rmPut (Z : State) (ba : Addr) (ch : Int32) (kb : ClassId) (us : List Value) (n : Nat) (j : Nat) (h0 : Heap) (n0 : Nat) (v : Option Value) (h : Heap) (L : List Loc) : Prop := (v = none) ∧ (Fr n0 L) ∧ (Keep h0 h [ba]) ∧ (Arv Z h ba kb .byte (Int32.ofNat (2 * n)) ((us.set (2 * j) (.int (own_lo (ch >>> ((0 : Int32) &&& 31))))).set (2 * j + 1) (.int (own_lo (ch >>> ((8 : Int32) &&& 31))))) (.int (0 : Int32)))
set_option maxRecDepth 65536 in
set_option maxHeartbeats 40000000 in
theorem rmPut (l : Launch) (Z : State) (a0 : Array Value) (hw : ∀ d ∈ tables_1, d.before a0 Z = true) (ws : List Jvm.Cond) (ba : Addr) (ch : Int32) (kb : ClassId) (us : List Value) (n : Nat) (j : Nat) (h0 : Heap) (n0 : Nat) (Z0 : n0 ≤ h0.size) (I1 : Sta Z Z.heap "java/lang/StringUTF16" "$assertionsDisabled" "Z" (.int (1 : Int32))) (I2 : Sta Z Z.heap "java/lang/StringUTF16" "HI_BYTE_SHIFT" "I" (.int (0 : Int32))) (I3 : Sta Z Z.heap "java/lang/StringUTF16" "LO_BYTE_SHIFT" "I" (.int (8 : Int32))) (OX : Old Z n0 h0) (I4 : Arv Z h0 ba kb .byte (Int32.ofNat (2 * n)) us (.int (0 : Int32))) (hb : n ≤ 4) (hj : j < n) (hus : us.length = 2 * n) (gb : n0 ≤ ba) :
    MetFree l (⟨"java/lang/StringUTF16", "putChar", "([BII)V"⟩ : MethodName) (head1 (Jvm.Cond.code (⟨"java/lang/StringUTF16", "putChar", "([BII)V"⟩ : MethodName) jdk_52_method_4_code 3 none :: ws) ({ frames := 0, cells := 0, slots := 0, locals := 0 } : Room)) (fun ar_ U => ar_ = #[(.ref ba), (.int (Int32.ofNat j)), (.int ch)] ∧ Z.Warmed39 U.vm ∧ U.heap = h0) (fun _ _ _ _ _ => True) (fun _ U o U' => ∃ v L, o = .returned v ∧ Q_rmPut Z ba ch kb us n j h0 n0 v U'.heap L ∧ FrameEnd U o U' L ({ frames := 0, cells := 0, slots := 0, locals := 0 } : Room).cells ({ frames := 0, cells := 0, slots := 0, locals := 0 } : Room).slots) := by
  refine MetFree.of_bodySF (plainFor_of_name pn_java_lang_StringUTF16) hisR ?_
  intro p e s m args below meth c s₁ Bd hml0 hP hK
  obtain ⟨rfl, hZ, hh⟩ := hP
  have hx := Bd.exec
  have hby := Bd.bytes
  have hml : c.maxLocals = 3 := hml0
  have hown : s.vm.findClass "java/lang/StringUTF16" = some m.cls := findClass_of_methodNamed Bd.named
  have hnm := (name_of_methodNamed Bd.named Bd.method).1
  have X0 : Stand p l e ({ frames := 0, cells := 0, slots := 0, locals := 0 } : Room) s m #[(.ref ba), (.int (Int32.ofNat j)), (.int ch)] below meth c s₁ [] 0 0 := Stand.of_body Bd
  have e0 : s₁.heap = h0 := by rw [← hh, Bd.state]; rfl
  have N0 := Fr.nil n0
  have pre0 : ∀ t_, Steps p.tables e below (s₁.setTop (mkF m 0 #[.val (.ref ba), .val (.int (Int32.ofNat j)), .val (.int ch)] [])) t_ → Steps p.tables e below (s₁.setTop (entryFrame m #[(.ref ba), (.int (Int32.ofNat j)), (.int ch)] 3)) t_ := fun t_ k_ => castTop (ef_rmPut m ba (Int32.ofNat j) ch) k_
  have lt_I4 : @LT.lt Nat _ ba h0.size := I4.lt
  obtain ⟨T1, X1, e1, st1⟩ := getS2 X0 hx hZ hown (host := "") (Or.inl (hw _ (List.mem_of_getElem? (i := 88) rfl))) Via.refl e0 (I1.ext OX.2) (g := (mkF m 0 #[.val (.ref ba), .val (.int (Int32.ofNat j)), .val (.int ch)] [])) rfl (Jvm.hb hby d_jdk_52_method_4_0)
  obtain ⟨T2, X2, e2, st2⟩ := getS2 X1 hx hZ hown (host := "") (Or.inl (hw _ (List.mem_of_getElem? (i := 89) rfl))) Via.refl e1 (I2.ext OX.2) (g := (mkF m 38 #[.val (.ref ba), .val (.int ((Int32.ofNat (2 * j)) + (1 : Int32))), .val (.int ch)] [(.int ch), (.int (Int32.ofNat (2 * j))), (.ref ba)])) rfl (Jvm.hb hby d_jdk_52_method_4_38)
  obtain ⟨cl3, Ar3, q3, S3, M3, H3, G3⟩ := id I4
  have hin3 : ¬ ((Int32.ofNat (2 * j)) < 0 ∨ cl3.slots.size ≤ ((Int32.ofNat (2 * j))).toNatClampNeg) := inb_of S3 (own_in (by omega) (by omega))
  obtain ⟨T4, h4, X4, e4, W4, st4⟩ := stB X2 hx hZ e2 Ar3 (j := (Int32.ofNat (2 * j))) hin3 (g := (mkF m 43 #[.val (.ref ba), .val (.int ((Int32.ofNat (2 * j)) + (1 : Int32))), .val (.int ch)] [(.int (own_lo (ch >>> ((0 : Int32) &&& 31)))), (.int (Int32.ofNat (2 * j))), (.ref ba)])) rfl rfl (Jvm.hb hby d_jdk_52_method_4_43)
  have z5 : h0.size ≤ h4.size := Nat.le_of_eq W4.size.symm
  have V4 : Arv Z h4 ba kb .byte (Int32.ofNat (2 * n)) (us.set (2 * j) (.int (own_lo (ch >>> ((0 : Int32) &&& 31))))) (.int (0 : Int32)) := by
    have q : Arv Z h4 ba kb .byte (Int32.ofNat (2 * n)) (us.set (2 * j) (.int (nar .byte (own_lo (ch >>> ((0 : Int32) &&& 31)))))) (.int (0 : Int32)) := Arv.set Ar3 q3 S3 M3 H3 G3 (fits_nar_byte _) W4 ((2 * j)) (own_tn (by omega)) (by first | omega | (simp only [List.length_set]; omega))
    rw [own_lolo] at q
    exact q
  have N4 := Fr.snoc X4 N0 (show n0 ≤ ba by omega)
  have O6 : Old Z n0 h4 := (OX.wr W4 (show n0 ≤ ba by omega))
  obtain ⟨T7, X7, e7, st7⟩ := getS2 X4 hx hZ hown (host := "") (Or.inl (hw _ (List.mem_of_getElem? (i := 90) rfl))) Via.refl e4 (I3.ext O6.2) (g := (mkF m 47 #[.val (.ref ba), .val (.int (Int32.ofNat (2 * j + 1))), .val (.int ch)] [(.int ch), (.int (Int32.ofNat (2 * j + 1))), (.ref ba)])) rfl (Jvm.hb hby d_jdk_52_method_4_47)
  obtain ⟨cl8, Ar8, q8, S8, M8, H8, G8⟩ := id V4
  have hin8 : ¬ ((Int32.ofNat (2 * j + 1)) < 0 ∨ cl8.slots.size ≤ ((Int32.ofNat (2 * j + 1))).toNatClampNeg) := inb_of S8 (own_in (by omega) (by omega))
  obtain ⟨T9, h9, X9, e9, W9, st9⟩ := stB X7 hx hZ e7 Ar8 (j := (Int32.ofNat (2 * j + 1))) hin8 (g := (mkF m 52 #[.val (.ref ba), .val (.int (Int32.ofNat (2 * j + 1))), .val (.int ch)] [(.int (own_lo (ch >>> ((8 : Int32) &&& 31)))), (.int (Int32.ofNat (2 * j + 1))), (.ref ba)])) rfl rfl (Jvm.hb hby d_jdk_52_method_4_52)
  have z10 : h4.size ≤ h9.size := Nat.le_of_eq W9.size.symm
  have V9 : Arv Z h9 ba kb .byte (Int32.ofNat (2 * n)) ((us.set (2 * j) (.int (own_lo (ch >>> ((0 : Int32) &&& 31))))).set (2 * j + 1) (.int (own_lo (ch >>> ((8 : Int32) &&& 31))))) (.int (0 : Int32)) := by
    have q : Arv Z h9 ba kb .byte (Int32.ofNat (2 * n)) ((us.set (2 * j) (.int (own_lo (ch >>> ((0 : Int32) &&& 31))))).set (2 * j + 1) (.int (nar .byte (own_lo (ch >>> ((8 : Int32) &&& 31)))))) (.int (0 : Int32)) := Arv.set Ar8 q8 S8 M8 H8 G8 (fits_nar_byte _) W9 ((2 * j + 1)) (own_tn (by omega)) (by first | omega | (simp only [List.length_set]; omega))
    rw [own_lolo] at q
    exact q
  have N9 := Fr.snoc X9 N4 (show n0 ≤ ba by omega)
  have s11 : ∀ t_, Steps p.tables e below (T9.setTop (mkF m 53 #[.val (.ref ba), .val (.int (Int32.ofNat (2 * j + 1))), .val (.int ch)] [])) t_ → Steps p.tables e below (s₁.setTop (entryFrame m #[(.ref ba), (.int (Int32.ofNat j)), (.int ch)] 3)) t_ := fun t_ k_ => pre0 t_ (by
    show Steps p.tables e below (s₁.setTop (mkF m 0 #[.val (.ref ba), .val (.int (Int32.ofNat j)), .val (.int ch)] [])) t_
    refine st1 _ ?_
    show Steps p.tables e below (T1.setTop (mkF m 3 #[.val (.ref ba), .val (.int (Int32.ofNat j)), .val (.int ch)] [(.int (1 : Int32))])) _
    refine XS.ifYes X1.here hx rfl (pc0 := 3) (pc' := 28) rfl (Jvm.hb hby d_jdk_52_method_4_3) rfl ((if0 _ _).trans (feq (by decide : ¬ ((1 : Int32) = (0 : Int32)))).2) (by decide) (by decide) ?_
    show Steps p.tables e below (T1.setTop (mkF m 28 #[.val (.ref ba), .val (.int (Int32.ofNat j)), .val (.int ch)] [])) _
    refine XS.iloadN X1.here hx rfl (Jvm.hb hby d_jdk_52_method_4_28) rfl ?_
    show Steps p.tables e below (T1.setTop (mkF m 29 #[.val (.ref ba), .val (.int (Int32.ofNat j)), .val (.int ch)] [(.int (Int32.ofNat j))])) _
    refine XS.iconst X1.here hx rfl (Jvm.hb hby d_jdk_52_method_4_29) ?_
    show Steps p.tables e below (T1.setTop (mkF m 30 #[.val (.ref ba), .val (.int (Int32.ofNat j)), .val (.int ch)] [(.int (1 : Int32)), (.int (Int32.ofNat j))])) _
    refine XS.ishl X1.here hx rfl (Jvm.hb hby d_jdk_52_method_4_30) rfl ?_
    show Steps p.tables e below (T1.setTop (mkF m 31 #[.val (.ref ba), .val (.int (Int32.ofNat j)), .val (.int ch)] [(.int ((Int32.ofNat j) <<< ((1 : Int32) &&& 31)))])) _
    refine castTop (g' := (mkF m 31 #[.val (.ref ba), .val (.int (Int32.ofNat j)), .val (.int ch)] [(.int (Int32.ofNat (2 * j)))])) (by rw [own_shl1 (by omega)]) ?_
    show Steps p.tables e below (T1.setTop (mkF m 31 #[.val (.ref ba), .val (.int (Int32.ofNat j)), .val (.int ch)] [(.int (Int32.ofNat (2 * j)))])) _
    refine XS.istoreN X1.here hx rfl (Jvm.hb hby d_jdk_52_method_4_31) rfl (l' := #[.val (.ref ba), .val (.int (Int32.ofNat (2 * j))), .val (.int ch)]) rfl ?_
    show Steps p.tables e below (T1.setTop (mkF m 32 #[.val (.ref ba), .val (.int (Int32.ofNat (2 * j))), .val (.int ch)] [])) _
    refine XS.aloadN X1.here hx rfl (Jvm.hb hby d_jdk_52_method_4_32) rfl rfl ?_
    show Steps p.tables e below (T1.setTop (mkF m 33 #[.val (.ref ba), .val (.int (Int32.ofNat (2 * j))), .val (.int ch)] [(.ref ba)])) _
    refine XS.iloadN X1.here hx rfl (Jvm.hb hby d_jdk_52_method_4_33) rfl ?_
    show Steps p.tables e below (T1.setTop (mkF m 34 #[.val (.ref ba), .val (.int (Int32.ofNat (2 * j))), .val (.int ch)] [(.int (Int32.ofNat (2 * j))), (.ref ba)])) _
    refine XS.iinc X1.here hx rfl (Jvm.hb hby d_jdk_52_method_4_34) rfl (l' := #[.val (.ref ba), .val (.int ((Int32.ofNat (2 * j)) + (1 : Int32))), .val (.int ch)]) rfl ?_
    show Steps p.tables e below (T1.setTop (mkF m 37 #[.val (.ref ba), .val (.int ((Int32.ofNat (2 * j)) + (1 : Int32))), .val (.int ch)] [(.int (Int32.ofNat (2 * j))), (.ref ba)])) _
    refine XS.iloadN X1.here hx rfl (Jvm.hb hby d_jdk_52_method_4_37) rfl ?_
    show Steps p.tables e below (T1.setTop (mkF m 38 #[.val (.ref ba), .val (.int ((Int32.ofNat (2 * j)) + (1 : Int32))), .val (.int ch)] [(.int ch), (.int (Int32.ofNat (2 * j))), (.ref ba)])) _
    refine st2 _ ?_
    show Steps p.tables e below (T2.setTop (mkF m 41 #[.val (.ref ba), .val (.int ((Int32.ofNat (2 * j)) + (1 : Int32))), .val (.int ch)] [(.int (0 : Int32)), (.int ch), (.int (Int32.ofNat (2 * j))), (.ref ba)])) _
    refine XS.ishr X2.here hx rfl (Jvm.hb hby d_jdk_52_method_4_41) rfl ?_
    show Steps p.tables e below (T2.setTop (mkF m 42 #[.val (.ref ba), .val (.int ((Int32.ofNat (2 * j)) + (1 : Int32))), .val (.int ch)] [(.int (ch >>> ((0 : Int32) &&& 31))), (.int (Int32.ofNat (2 * j))), (.ref ba)])) _
    refine XS.i2b X2.here hx rfl (Jvm.hb hby d_jdk_52_method_4_42) rfl ?_
    show Steps p.tables e below (T2.setTop (mkF m 43 #[.val (.ref ba), .val (.int ((Int32.ofNat (2 * j)) + (1 : Int32))), .val (.int ch)] [(.int (own_lo (ch >>> ((0 : Int32) &&& 31)))), (.int (Int32.ofNat (2 * j))), (.ref ba)])) _
    refine st4 _ ?_
    show Steps p.tables e below (T4.setTop (mkF m 44 #[.val (.ref ba), .val (.int ((Int32.ofNat (2 * j)) + (1 : Int32))), .val (.int ch)] [])) _
    refine castTop (g' := (mkF m 44 #[.val (.ref ba), .val (.int (Int32.ofNat (2 * j + 1))), .val (.int ch)] [])) (by rw [← own_up]) ?_
    show Steps p.tables e below (T4.setTop (mkF m 44 #[.val (.ref ba), .val (.int (Int32.ofNat (2 * j + 1))), .val (.int ch)] [])) _
    refine XS.aloadN X4.here hx rfl (Jvm.hb hby d_jdk_52_method_4_44) rfl rfl ?_
    show Steps p.tables e below (T4.setTop (mkF m 45 #[.val (.ref ba), .val (.int (Int32.ofNat (2 * j + 1))), .val (.int ch)] [(.ref ba)])) _
    refine XS.iloadN X4.here hx rfl (Jvm.hb hby d_jdk_52_method_4_45) rfl ?_
    show Steps p.tables e below (T4.setTop (mkF m 46 #[.val (.ref ba), .val (.int (Int32.ofNat (2 * j + 1))), .val (.int ch)] [(.int (Int32.ofNat (2 * j + 1))), (.ref ba)])) _
    refine XS.iloadN X4.here hx rfl (Jvm.hb hby d_jdk_52_method_4_46) rfl ?_
    show Steps p.tables e below (T4.setTop (mkF m 47 #[.val (.ref ba), .val (.int (Int32.ofNat (2 * j + 1))), .val (.int ch)] [(.int ch), (.int (Int32.ofNat (2 * j + 1))), (.ref ba)])) _
    refine st7 _ ?_
    show Steps p.tables e below (T7.setTop (mkF m 50 #[.val (.ref ba), .val (.int (Int32.ofNat (2 * j + 1))), .val (.int ch)] [(.int (8 : Int32)), (.int ch), (.int (Int32.ofNat (2 * j + 1))), (.ref ba)])) _
    refine XS.ishr X7.here hx rfl (Jvm.hb hby d_jdk_52_method_4_50) rfl ?_
    show Steps p.tables e below (T7.setTop (mkF m 51 #[.val (.ref ba), .val (.int (Int32.ofNat (2 * j + 1))), .val (.int ch)] [(.int (ch >>> ((8 : Int32) &&& 31))), (.int (Int32.ofNat (2 * j + 1))), (.ref ba)])) _
    refine XS.i2b X7.here hx rfl (Jvm.hb hby d_jdk_52_method_4_51) rfl ?_
    show Steps p.tables e below (T7.setTop (mkF m 52 #[.val (.ref ba), .val (.int (Int32.ofNat (2 * j + 1))), .val (.int ch)] [(.int (own_lo (ch >>> ((8 : Int32) &&& 31)))), (.int (Int32.ofNat (2 * j + 1))), (.ref ba)])) _
    refine st9 _ ?_
    show Steps p.tables e below (T9.setTop (mkF m 53 #[.val (.ref ba), .val (.int (Int32.ofNat (2 * j + 1))), .val (.int ch)] [])) _
    show Steps p.tables e below (T9.setTop (mkF m 53 #[.val (.ref ba), .val (.int (Int32.ofNat (2 * j + 1))), .val (.int ch)] [])) t_
    exact k_)
  obtain ⟨fs, hr, hrun, hended, hW, hsame⟩ := X9.leave (v := none) (fun _ => rfl)
  refine ⟨_, _, s11 _ ?_, hrun, hended, _, _, rfl, ?_, ⟨_, rfl⟩, hW, hsame.mono (by decide) (by decide)⟩
  · show Steps p.tables e below (T9.setTop (mkF m 53 #[.val (.ref ba), .val (.int (Int32.ofNat (2 * j + 1))), .val (.int ch)] [])) _
    exact X9.returnOut hx Bd.returns (Jvm.hb hby d_jdk_52_method_4_53) hr
  · show Q_rmPut Z _ _ _ _ _ _ h0 n0 _ T9.heap _
    rw [e9]
    exact ⟨rfl, N9, (((Keep.refl h0 [ba]).wr W4 (Or.inl (by simp))).wr W9 (Or.inl (by simp))), V9⟩
theorem d_jdk_52_method_5_0 : decode jdk_52_method_5_code 0 = .ok (.getstatic 44, 3) := by decide +kernel
theorem d_jdk_52_method_5_3 : decode jdk_52_method_5_code 3 = .ok (.ifCond .ne 25, 3) := by decide +kernel
theorem d_jdk_52_method_5_28 : decode jdk_52_method_5_code 28 = .ok (.iload_n 1, 1) := by decide +kernel
theorem d_jdk_52_method_5_29 : decode jdk_52_method_5_code 29 = .ok (.iconst 1, 1) := by decide +kernel
theorem d_jdk_52_method_5_30 : decode jdk_52_method_5_code 30 = .ok (.ishl, 1) := by decide +kernel
theorem d_jdk_52_method_5_31 : decode jdk_52_method_5_code 31 = .ok (.istore_n 1, 1) := by decide +kernel
theorem d_jdk_52_method_5_32 : decode jdk_52_method_5_code 32 = .ok (.aload_n 0, 1) := by decide +kernel
theorem d_jdk_52_method_5_33 : decode jdk_52_method_5_code 33 = .ok (.iload_n 1, 1) := by decide +kernel
theorem d_jdk_52_method_5_34 : decode jdk_52_method_5_code 34 = .ok (.iinc 1 1, 3) := by decide +kernel
theorem d_jdk_52_method_5_37 : decode jdk_52_method_5_code 37 = .ok (.baload, 1) := by decide +kernel
theorem d_jdk_52_method_5_38 : decode jdk_52_method_5_code 38 = .ok (.sipush 255, 3) := by decide +kernel
theorem d_jdk_52_method_5_41 : decode jdk_52_method_5_code 41 = .ok (.iand, 1) := by decide +kernel
theorem d_jdk_52_method_5_42 : decode jdk_52_method_5_code 42 = .ok (.getstatic 59, 3) := by decide +kernel
theorem d_jdk_52_method_5_45 : decode jdk_52_method_5_code 45 = .ok (.ishl, 1) := by decide +kernel
theorem d_jdk_52_method_5_46 : decode jdk_52_method_5_code 46 = .ok (.aload_n 0, 1) := by decide +kernel
theorem d_jdk_52_method_5_47 : decode jdk_52_method_5_code 47 = .ok (.iload_n 1, 1) := by decide +kernel
theorem d_jdk_52_method_5_48 : decode jdk_52_method_5_code 48 = .ok (.baload, 1) := by decide +kernel
theorem d_jdk_52_method_5_49 : decode jdk_52_method_5_code 49 = .ok (.sipush 255, 3) := by decide +kernel
theorem d_jdk_52_method_5_52 : decode jdk_52_method_5_code 52 = .ok (.iand, 1) := by decide +kernel
theorem d_jdk_52_method_5_53 : decode jdk_52_method_5_code 53 = .ok (.getstatic 63, 3) := by decide +kernel
theorem d_jdk_52_method_5_56 : decode jdk_52_method_5_code 56 = .ok (.ishl, 1) := by decide +kernel
theorem d_jdk_52_method_5_57 : decode jdk_52_method_5_code 57 = .ok (.ior, 1) := by decide +kernel
theorem d_jdk_52_method_5_58 : decode jdk_52_method_5_code 58 = .ok (.i2c, 1) := by decide +kernel
theorem d_jdk_52_method_5_59 : decode jdk_52_method_5_code 59 = .ok (.ireturn, 1) := by decide +kernel
theorem ef_rmGet (m : MethodId) (x0 : Addr) (x1 : Int32) : entryFrame m #[(.ref x0), (.int x1)] 2 = mkF m 0 #[.val (.ref x0), .val (.int x1)] [] := by first | (simp [entryFrame, mkF, argsToLocals, Value.category]; done) | rfl
def Q_rmGet (Z : State) (ba : Addr) (kb : ClassId) (us : List Value) (n : Nat) (j : Nat) (ch : Int32) (h0 : Heap) (n0 : Nat) (v : Option Value) (h : Heap) (L : List Loc) : Prop := (v = some (.int ch)) ∧ (Fr n0 L) ∧ (h = h0)
set_option maxRecDepth 65536 in
set_option maxHeartbeats 40000000 in
theorem rmGet (l : Launch) (Z : State) (a0 : Array Value) (hw : ∀ d ∈ tables_1, d.before a0 Z = true) (ws : List Jvm.Cond) (ba : Addr) (kb : ClassId) (us : List Value) (n : Nat) (j : Nat) (ch : Int32) (h0 : Heap) (n0 : Nat) (Z0 : n0 ≤ h0.size) (I1 : Sta Z Z.heap "java/lang/StringUTF16" "$assertionsDisabled" "Z" (.int (1 : Int32))) (I2 : Sta Z Z.heap "java/lang/StringUTF16" "HI_BYTE_SHIFT" "I" (.int (0 : Int32))) (I3 : Sta Z Z.heap "java/lang/StringUTF16" "LO_BYTE_SHIFT" "I" (.int (8 : Int32))) (OX : Old Z n0 h0) (I4 : Arv Z h0 ba kb .byte (Int32.ofNat (2 * n)) us (.int (0 : Int32))) (hb : n ≤ 4) (hj : j < n) (hu0 : us.getD (2 * j) (.int (0 : Int32)) = .int (own_lo (ch >>> ((0 : Int32) &&& 31)))) (hu1 : us.getD (2 * j + 1) (.int (0 : Int32)) = .int (own_lo (ch >>> ((8 : Int32) &&& 31)))) (hc0 : ¬ (ch < (0 : Int32))) (hc1 : ¬ ((65535 : Int32) < ch)) :
    MetFree l (⟨"java/lang/StringUTF16", "getChar", "([BI)C"⟩ : MethodName) (head1 (Jvm.Cond.code (⟨"java/lang/StringUTF16", "getChar", "([BI)C"⟩ : MethodName) jdk_52_method_5_code 2 (some .char) :: ws) ({ frames := 0, cells := 0, slots := 0, locals := 0 } : Room)) (fun ar_ U => ar_ = #[(.ref ba), (.int (Int32.ofNat j))] ∧ Z.Warmed39 U.vm ∧ U.heap = h0) (fun _ _ _ _ _ => True) (fun _ U o U' => ∃ v L, o = .returned v ∧ Q_rmGet Z ba kb us n j ch h0 n0 v U'.heap L ∧ FrameEnd U o U' L ({ frames := 0, cells := 0, slots := 0, locals := 0 } : Room).cells ({ frames := 0, cells := 0, slots := 0, locals := 0 } : Room).slots) := by
  refine MetFree.of_bodySF (plainFor_of_name pn_java_lang_StringUTF16) hisR ?_
  intro p e s m args below meth c s₁ Bd hml0 hP hK
  obtain ⟨rfl, hZ, hh⟩ := hP
  have hx := Bd.exec
  have hby := Bd.bytes
  have hml : c.maxLocals = 2 := hml0
  have hown : s.vm.findClass "java/lang/StringUTF16" = some m.cls := findClass_of_methodNamed Bd.named
  have hnm := (name_of_methodNamed Bd.named Bd.method).1
  have X0 : Stand p l e ({ frames := 0, cells := 0, slots := 0, locals := 0 } : Room) s m #[(.ref ba), (.int (Int32.ofNat j))] below meth c s₁ [] 0 0 := Stand.of_body Bd
  have e0 : s₁.heap = h0 := by rw [← hh, Bd.state]; rfl
  have N0 := Fr.nil n0
  have pre0 : ∀ t_, Steps p.tables e below (s₁.setTop (mkF m 0 #[.val (.ref ba), .val (.int (Int32.ofNat j))] [])) t_ → Steps p.tables e below (s₁.setTop (entryFrame m #[(.ref ba), (.int (Int32.ofNat j))] 2)) t_ := fun t_ k_ => castTop (ef_rmGet m ba (Int32.ofNat j)) k_
  have lt_I4 : @LT.lt Nat _ ba h0.size := I4.lt
  obtain ⟨T1, X1, e1, st1⟩ := getS2 X0 hx hZ hown (host := "") (Or.inl (hw _ (List.mem_of_getElem? (i := 88) rfl))) Via.refl e0 (I1.ext OX.2) (g := (mkF m 0 #[.val (.ref ba), .val (.int (Int32.ofNat j))] [])) rfl (Jvm.hb hby d_jdk_52_method_5_0)
  obtain ⟨cl2, Ar2, -, S2, M2, H2, -⟩ := id I4
  have hin2 : ¬ ((Int32.ofNat (2 * j)) < 0 ∨ cl2.slots.size ≤ ((Int32.ofNat (2 * j))).toNatClampNeg) := inb_of S2 (own_in (by omega) (by omega))
  have hat2 : cl2.slots[((Int32.ofNat (2 * j))).toNatClampNeg]? = some (.int (own_lo (ch >>> ((0 : Int32) &&& 31)))) := H2.at hin2 (by rw [own_tn (by omega)]; exact hu0)
  obtain ⟨T3, X3, e3, st3⟩ := getS2 X1 hx hZ hown (host := "") (Or.inl (hw _ (List.mem_of_getElem? (i := 89) rfl))) Via.refl e1 (I2.ext OX.2) (g := (mkF m 42 #[.val (.ref ba), .val (.int (Int32.ofNat (2 * j + 1)))] [(.int ((own_lo (ch >>> ((0 : Int32) &&& 31))) &&& (255 : Int32)))])) rfl (Jvm.hb hby d_jdk_52_method_5_42)
  obtain ⟨cl4, Ar4, -, S4, M4, H4, -⟩ := id I4
  have hin4 : ¬ ((Int32.ofNat (2 * j + 1)) < 0 ∨ cl4.slots.size ≤ ((Int32.ofNat (2 * j + 1))).toNatClampNeg) := inb_of S4 (own_in (by omega) (by omega))
  have hat4 : cl4.slots[((Int32.ofNat (2 * j + 1))).toNatClampNeg]? = some (.int (own_lo (ch >>> ((8 : Int32) &&& 31)))) := H4.at hin4 (by rw [own_tn (by omega)]; exact hu1)
  obtain ⟨T5, X5, e5, st5⟩ := getS2 X3 hx hZ hown (host := "") (Or.inl (hw _ (List.mem_of_getElem? (i := 90) rfl))) Via.refl e3 (I3.ext OX.2) (g := (mkF m 53 #[.val (.ref ba), .val (.int (Int32.ofNat (2 * j + 1)))] [(.int ((own_lo (ch >>> ((8 : Int32) &&& 31))) &&& (255 : Int32))), (.int (((own_lo (ch >>> ((0 : Int32) &&& 31))) &&& (255 : Int32)) <<< ((0 : Int32) &&& 31)))])) rfl (Jvm.hb hby d_jdk_52_method_5_53)
  have s6 : ∀ t_, Steps p.tables e below (T5.setTop (mkF m 59 #[.val (.ref ba), .val (.int (Int32.ofNat (2 * j + 1)))] [(.int (i2c ((((own_lo (ch >>> ((0 : Int32) &&& 31))) &&& (255 : Int32)) <<< ((0 : Int32) &&& 31)) ||| (((own_lo (ch >>> ((8 : Int32) &&& 31))) &&& (255 : Int32)) <<< ((8 : Int32) &&& 31)))))])) t_ → Steps p.tables e below (s₁.setTop (entryFrame m #[(.ref ba), (.int (Int32.ofNat j))] 2)) t_ := fun t_ k_ => pre0 t_ (by
    show Steps p.tables e below (s₁.setTop (mkF m 0 #[.val (.ref ba), .val (.int (Int32.ofNat j))] [])) t_
    refine st1 _ ?_
    show Steps p.tables e below (T1.setTop (mkF m 3 #[.val (.ref ba), .val (.int (Int32.ofNat j))] [(.int (1 : Int32))])) _
    refine XS.ifYes X1.here hx rfl (pc0 := 3) (pc' := 28) rfl (Jvm.hb hby d_jdk_52_method_5_3) rfl ((if0 _ _).trans (feq (by decide : ¬ ((1 : Int32) = (0 : Int32)))).2) (by decide) (by decide) ?_
    show Steps p.tables e below (T1.setTop (mkF m 28 #[.val (.ref ba), .val (.int (Int32.ofNat j))] [])) _
    refine XS.iloadN X1.here hx rfl (Jvm.hb hby d_jdk_52_method_5_28) rfl ?_
    show Steps p.tables e below (T1.setTop (mkF m 29 #[.val (.ref ba), .val (.int (Int32.ofNat j))] [(.int (Int32.ofNat j))])) _
    refine XS.iconst X1.here hx rfl (Jvm.hb hby d_jdk_52_method_5_29) ?_
    show Steps p.tables e below (T1.setTop (mkF m 30 #[.val (.ref ba), .val (.int (Int32.ofNat j))] [(.int (1 : Int32)), (.int (Int32.ofNat j))])) _
    refine XS.ishl X1.here hx rfl (Jvm.hb hby d_jdk_52_method_5_30) rfl ?_
    show Steps p.tables e below (T1.setTop (mkF m 31 #[.val (.ref ba), .val (.int (Int32.ofNat j))] [(.int ((Int32.ofNat j) <<< ((1 : Int32) &&& 31)))])) _
    refine castTop (g' := (mkF m 31 #[.val (.ref ba), .val (.int (Int32.ofNat j))] [(.int (Int32.ofNat (2 * j)))])) (by rw [own_shl1 (by omega)]) ?_
    show Steps p.tables e below (T1.setTop (mkF m 31 #[.val (.ref ba), .val (.int (Int32.ofNat j))] [(.int (Int32.ofNat (2 * j)))])) _
    refine XS.istoreN X1.here hx rfl (Jvm.hb hby d_jdk_52_method_5_31) rfl (l' := #[.val (.ref ba), .val (.int (Int32.ofNat (2 * j)))]) rfl ?_
    show Steps p.tables e below (T1.setTop (mkF m 32 #[.val (.ref ba), .val (.int (Int32.ofNat (2 * j)))] [])) _
    refine XS.aloadN X1.here hx rfl (Jvm.hb hby d_jdk_52_method_5_32) rfl rfl ?_
    show Steps p.tables e below (T1.setTop (mkF m 33 #[.val (.ref ba), .val (.int (Int32.ofNat (2 * j)))] [(.ref ba)])) _
    refine XS.iloadN X1.here hx rfl (Jvm.hb hby d_jdk_52_method_5_33) rfl ?_
    show Steps p.tables e below (T1.setTop (mkF m 34 #[.val (.ref ba), .val (.int (Int32.ofNat (2 * j)))] [(.int (Int32.ofNat (2 * j))), (.ref ba)])) _
    refine XS.iinc X1.here hx rfl (Jvm.hb hby d_jdk_52_method_5_34) rfl (l' := #[.val (.ref ba), .val (.int ((Int32.ofNat (2 * j)) + (1 : Int32)))]) rfl ?_
    show Steps p.tables e below (T1.setTop (mkF m 37 #[.val (.ref ba), .val (.int ((Int32.ofNat (2 * j)) + (1 : Int32)))] [(.int (Int32.ofNat (2 * j))), (.ref ba)])) _
    refine castTop (g' := (mkF m 37 #[.val (.ref ba), .val (.int (Int32.ofNat (2 * j + 1)))] [(.int (Int32.ofNat (2 * j))), (.ref ba)])) (by rw [← own_up]) ?_
    show Steps p.tables e below (T1.setTop (mkF m 37 #[.val (.ref ba), .val (.int (Int32.ofNat (2 * j + 1)))] [(.int (Int32.ofNat (2 * j))), (.ref ba)])) _
    refine X1.baloadBytes hx (j := (Int32.ofNat (2 * j))) (v := (.int (own_lo (ch >>> ((0 : Int32) &&& 31))))) (by rw [e1]; exact Ar2.1) (State.isArrayOf_alike hZ.alike Ar2.2.1) Ar2.2.2 hin2 hat2 (g := (mkF m 37 #[.val (.ref ba), .val (.int (Int32.ofNat (2 * j + 1)))] [(.int (Int32.ofNat (2 * j))), (.ref ba)])) rfl rfl (Jvm.hb hby d_jdk_52_method_5_37) _ ?_
    show Steps p.tables e below (T1.setTop (mkF m 38 #[.val (.ref ba), .val (.int (Int32.ofNat (2 * j + 1)))] [(.int (own_lo (ch >>> ((0 : Int32) &&& 31))))])) _
    refine XS.sipush X1.here hx rfl (Jvm.hb hby d_jdk_52_method_5_38) ?_
    show Steps p.tables e below (T1.setTop (mkF m 41 #[.val (.ref ba), .val (.int (Int32.ofNat (2 * j + 1)))] [(.int (255 : Int32)), (.int (own_lo (ch >>> ((0 : Int32) &&& 31))))])) _
    refine XS.iand X1.here hx rfl (Jvm.hb hby d_jdk_52_method_5_41) rfl ?_
    show Steps p.tables e below (T1.setTop (mkF m 42 #[.val (.ref ba), .val (.int (Int32.ofNat (2 * j + 1)))] [(.int ((own_lo (ch >>> ((0 : Int32) &&& 31))) &&& (255 : Int32)))])) _
    refine st3 _ ?_
    show Steps p.tables e below (T3.setTop (mkF m 45 #[.val (.ref ba), .val (.int (Int32.ofNat (2 * j + 1)))] [(.int (0 : Int32)), (.int ((own_lo (ch >>> ((0 : Int32) &&& 31))) &&& (255 : Int32)))])) _
    refine XS.ishl X3.here hx rfl (Jvm.hb hby d_jdk_52_method_5_45) rfl ?_
    show Steps p.tables e below (T3.setTop (mkF m 46 #[.val (.ref ba), .val (.int (Int32.ofNat (2 * j + 1)))] [(.int (((own_lo (ch >>> ((0 : Int32) &&& 31))) &&& (255 : Int32)) <<< ((0 : Int32) &&& 31)))])) _
    refine XS.aloadN X3.here hx rfl (Jvm.hb hby d_jdk_52_method_5_46) rfl rfl ?_
    show Steps p.tables e below (T3.setTop (mkF m 47 #[.val (.ref ba), .val (.int (Int32.ofNat (2 * j + 1)))] [(.ref ba), (.int (((own_lo (ch >>> ((0 : Int32) &&& 31))) &&& (255 : Int32)) <<< ((0 : Int32) &&& 31)))])) _
    refine XS.iloadN X3.here hx rfl (Jvm.hb hby d_jdk_52_method_5_47) rfl ?_
    show Steps p.tables e below (T3.setTop (mkF m 48 #[.val (.ref ba), .val (.int (Int32.ofNat (2 * j + 1)))] [(.int (Int32.ofNat (2 * j + 1))), (.ref ba), (.int (((own_lo (ch >>> ((0 : Int32) &&& 31))) &&& (255 : Int32)) <<< ((0 : Int32) &&& 31)))])) _
    refine X3.baloadBytes hx (j := (Int32.ofNat (2 * j + 1))) (v := (.int (own_lo (ch >>> ((8 : Int32) &&& 31))))) (by rw [e3]; exact Ar4.1) (State.isArrayOf_alike hZ.alike Ar4.2.1) Ar4.2.2 hin4 hat4 (g := (mkF m 48 #[.val (.ref ba), .val (.int (Int32.ofNat (2 * j + 1)))] [(.int (Int32.ofNat (2 * j + 1))), (.ref ba), (.int (((own_lo (ch >>> ((0 : Int32) &&& 31))) &&& (255 : Int32)) <<< ((0 : Int32) &&& 31)))])) rfl rfl (Jvm.hb hby d_jdk_52_method_5_48) _ ?_
    show Steps p.tables e below (T3.setTop (mkF m 49 #[.val (.ref ba), .val (.int (Int32.ofNat (2 * j + 1)))] [(.int (own_lo (ch >>> ((8 : Int32) &&& 31)))), (.int (((own_lo (ch >>> ((0 : Int32) &&& 31))) &&& (255 : Int32)) <<< ((0 : Int32) &&& 31)))])) _
    refine XS.sipush X3.here hx rfl (Jvm.hb hby d_jdk_52_method_5_49) ?_
    show Steps p.tables e below (T3.setTop (mkF m 52 #[.val (.ref ba), .val (.int (Int32.ofNat (2 * j + 1)))] [(.int (255 : Int32)), (.int (own_lo (ch >>> ((8 : Int32) &&& 31)))), (.int (((own_lo (ch >>> ((0 : Int32) &&& 31))) &&& (255 : Int32)) <<< ((0 : Int32) &&& 31)))])) _
    refine XS.iand X3.here hx rfl (Jvm.hb hby d_jdk_52_method_5_52) rfl ?_
    show Steps p.tables e below (T3.setTop (mkF m 53 #[.val (.ref ba), .val (.int (Int32.ofNat (2 * j + 1)))] [(.int ((own_lo (ch >>> ((8 : Int32) &&& 31))) &&& (255 : Int32))), (.int (((own_lo (ch >>> ((0 : Int32) &&& 31))) &&& (255 : Int32)) <<< ((0 : Int32) &&& 31)))])) _
    refine st5 _ ?_
    show Steps p.tables e below (T5.setTop (mkF m 56 #[.val (.ref ba), .val (.int (Int32.ofNat (2 * j + 1)))] [(.int (8 : Int32)), (.int ((own_lo (ch >>> ((8 : Int32) &&& 31))) &&& (255 : Int32))), (.int (((own_lo (ch >>> ((0 : Int32) &&& 31))) &&& (255 : Int32)) <<< ((0 : Int32) &&& 31)))])) _
    refine XS.ishl X5.here hx rfl (Jvm.hb hby d_jdk_52_method_5_56) rfl ?_
    show Steps p.tables e below (T5.setTop (mkF m 57 #[.val (.ref ba), .val (.int (Int32.ofNat (2 * j + 1)))] [(.int (((own_lo (ch >>> ((8 : Int32) &&& 31))) &&& (255 : Int32)) <<< ((8 : Int32) &&& 31))), (.int (((own_lo (ch >>> ((0 : Int32) &&& 31))) &&& (255 : Int32)) <<< ((0 : Int32) &&& 31)))])) _
    refine XS.ior X5.here hx rfl (Jvm.hb hby d_jdk_52_method_5_57) rfl ?_
    show Steps p.tables e below (T5.setTop (mkF m 58 #[.val (.ref ba), .val (.int (Int32.ofNat (2 * j + 1)))] [(.int ((((own_lo (ch >>> ((0 : Int32) &&& 31))) &&& (255 : Int32)) <<< ((0 : Int32) &&& 31)) ||| (((own_lo (ch >>> ((8 : Int32) &&& 31))) &&& (255 : Int32)) <<< ((8 : Int32) &&& 31))))])) _
    refine XS.i2c X5.here hx rfl (Jvm.hb hby d_jdk_52_method_5_58) rfl ?_
    show Steps p.tables e below (T5.setTop (mkF m 59 #[.val (.ref ba), .val (.int (Int32.ofNat (2 * j + 1)))] [(.int (i2c ((((own_lo (ch >>> ((0 : Int32) &&& 31))) &&& (255 : Int32)) <<< ((0 : Int32) &&& 31)) ||| (((own_lo (ch >>> ((8 : Int32) &&& 31))) &&& (255 : Int32)) <<< ((8 : Int32) &&& 31)))))])) _
    show Steps p.tables e below (T5.setTop (mkF m 59 #[.val (.ref ba), .val (.int (Int32.ofNat (2 * j + 1)))] [(.int (i2c ((((own_lo (ch >>> ((0 : Int32) &&& 31))) &&& (255 : Int32)) <<< ((0 : Int32) &&& 31)) ||| (((own_lo (ch >>> ((8 : Int32) &&& 31))) &&& (255 : Int32)) <<< ((8 : Int32) &&& 31)))))])) t_
    exact k_)
  obtain ⟨fs, hr, hrun, hended, hW, hsame⟩ := X5.leave (v := some (.int (nar .char (i2c ((((own_lo (ch >>> ((0 : Int32) &&& 31))) &&& (255 : Int32)) <<< ((0 : Int32) &&& 31)) ||| (((own_lo (ch >>> ((8 : Int32) &&& 31))) &&& (255 : Int32)) <<< ((8 : Int32) &&& 31))))))) (fun h => by rw [Bd.returns] at h; cases h)
  refine ⟨_, _, s6 _ ?_, hrun, hended, _, _, rfl, ?_, ⟨_, rfl⟩, hW, hsame.mono (by decide) (by decide)⟩
  · show Steps p.tables e below (T5.setTop (mkF m 59 #[.val (.ref ba), .val (.int (Int32.ofNat (2 * j + 1)))] [(.int (i2c ((((own_lo (ch >>> ((0 : Int32) &&& 31))) &&& (255 : Int32)) <<< ((0 : Int32) &&& 31)) ||| (((own_lo (ch >>> ((8 : Int32) &&& 31))) &&& (255 : Int32)) <<< ((8 : Int32) &&& 31)))))])) _
    exact retN X5 hx (t := .char) Bd.returns (by simp) (Jvm.hb hby d_jdk_52_method_5_59) hr
  · show Q_rmGet Z _ _ _ _ _ _ h0 n0 _ T5.heap _
    rw [e5]
    exact ⟨(by rw [own_pair hc0 hc1, own_narc hc0 hc1]), N0, rfl⟩
theorem d_jdk_52_method_14_0 : decode jdk_52_method_14_code 0 = .ok (.iload_n 2, 1) := by decide +kernel
theorem pd__I__B : parseMethodDescriptor "(I)[B" = some ⟨[.int], some (.array .byte)⟩ := by decide +kernel
theorem d_jdk_52_method_14_1 : decode jdk_52_method_14_code 1 = .ok (.invokestatic 107, 3) := by decide +kernel
theorem d_jdk_52_method_14_4 : decode jdk_52_method_14_code 4 = .ok (.astore_n 3, 1) := by decide +kernel
theorem d_jdk_52_method_14_5 : decode jdk_52_method_14_code 5 = .ok (.iconst 0, 1) := by decide +kernel
theorem d_jdk_52_method_14_6 : decode jdk_52_method_14_code 6 = .ok (.istore 4, 2) := by decide +kernel
theorem d_jdk_52_method_14_8 : decode jdk_52_method_14_code 8 = .ok (.iload 4, 2) := by decide +kernel
theorem d_jdk_52_method_14_10 : decode jdk_52_method_14_code 10 = .ok (.iload_n 2, 1) := by decide +kernel
theorem d_jdk_52_method_14_11 : decode jdk_52_method_14_code 11 = .ok (.if_icmp .ge 21, 3) := by decide +kernel
theorem d_jdk_52_method_14_14 : decode jdk_52_method_14_code 14 = .ok (.aload_n 3, 1) := by decide +kernel
theorem d_jdk_52_method_14_15 : decode jdk_52_method_14_code 15 = .ok (.iload 4, 2) := by decide +kernel
theorem d_jdk_52_method_14_17 : decode jdk_52_method_14_code 17 = .ok (.aload_n 0, 1) := by decide +kernel
theorem d_jdk_52_method_14_18 : decode jdk_52_method_14_code 18 = .ok (.iload_n 1, 1) := by decide +kernel
theorem d_jdk_52_method_14_19 : decode jdk_52_method_14_code 19 = .ok (.caload, 1) := by decide +kernel
theorem pd___BII_V : parseMethodDescriptor "([BII)V" = some ⟨[(.array .byte), .int, .int], none⟩ := by decide +kernel
theorem d_jdk_52_method_14_20 : decode jdk_52_method_14_code 20 = .ok (.invokestatic 111, 3) := by decide +kernel
theorem d_jdk_52_method_14_23 : decode jdk_52_method_14_code 23 = .ok (.iinc 1 1, 3) := by decide +kernel
theorem d_jdk_52_method_14_26 : decode jdk_52_method_14_code 26 = .ok (.iinc 4 1, 3) := by decide +kernel
theorem d_jdk_52_method_14_29 : decode jdk_52_method_14_code 29 = .ok (.goto (-21), 3) := by decide +kernel
theorem d_jdk_52_method_14_32 : decode jdk_52_method_14_code 32 = .ok (.aload_n 3, 1) := by decide +kernel
theorem d_jdk_52_method_14_33 : decode jdk_52_method_14_code 33 = .ok (.areturn, 1) := by decide +kernel
theorem ef_rmTo (m : MethodId) (x0 : Addr) (x1 : Int32) (x2 : Int32) : entryFrame m #[(.ref x0), (.int x1), (.int x2)] 5 = mkF m 0 #[.val (.ref x0), .val (.int x1), .val (.int x2), .unset, .unset] [] := by first | (simp [entryFrame, mkF, argsToLocals, Value.category]; done) | rfl
def Q_rmTo (Z : State) (ca : Addr) (cs : List Int32) (kc : ClassId) (n : Nat) (h0 : Heap) (n0 : Nat) (v : Option Value) (h : Heap) (L : List Loc) : Prop := ∃ (b : Addr), ∃ (kb : ClassId), (v = some (.ref b)) ∧ (Fr n0 L) ∧ (Keep h0 h []) ∧ (Arv Z h b kb .byte (Int32.ofNat (2 * n)) (own_wide cs) (.int (0 : Int32))) ∧ (h0.size ≤ b)
set_option maxRecDepth 65536 in
set_option maxHeartbeats 40000000 in
theorem rmTo (l : Launch) (Z : State) (a0 : Array Value) (hw : ∀ d ∈ tables_1, d.before a0 Z = true) (ws : List Jvm.Cond) (ca : Addr) (cs : List Int32) (kc : ClassId) (n : Nat) (h0 : Heap) (n0 : Nat) (Z0 : n0 ≤ h0.size) (I1 : Sta Z Z.heap "java/lang/StringUTF16" "$assertionsDisabled" "Z" (.int (1 : Int32))) (I2 : Sta Z Z.heap "java/lang/StringUTF16" "HI_BYTE_SHIFT" "I" (.int (0 : Int32))) (I3 : Sta Z Z.heap "java/lang/StringUTF16" "LO_BYTE_SHIFT" "I" (.int (8 : Int32))) (OX : Old Z n0 h0) (I4 : Arv Z h0 ca kc .char (Int32.ofNat n) (cs.map Value.int) (.int (0 : Int32))) (hn : cs.length = n) (hb : n ≤ 4) :
    MetFree l (⟨"java/lang/StringUTF16", "toBytes", "([CII)[B"⟩ : MethodName) (head1 (Jvm.Cond.code (⟨"java/lang/StringUTF16", "toBytes", "([CII)[B"⟩ : MethodName) jdk_52_method_14_code 5 (some (.array .byte)) :: ws) ({ frames := 2, cells := 1, slots := 8, locals := 24 } : Room)) (fun ar_ U => ar_ = #[(.ref ca), (.int (0 : Int32)), (.int (Int32.ofNat n))] ∧ Z.Warmed39 U.vm ∧ U.heap = h0) (fun _ _ _ _ _ => True) (fun _ U o U' => ∃ v L, o = .returned v ∧ Q_rmTo Z ca cs kc n h0 n0 v U'.heap L ∧ FrameEnd U o U' L ({ frames := 2, cells := 1, slots := 8, locals := 24 } : Room).cells ({ frames := 2, cells := 1, slots := 8, locals := 24 } : Room).slots) := by
  refine MetFree.of_bodySF (plainFor_of_name pn_java_lang_StringUTF16) hisR ?_
  intro p e s m args below meth c s₁ Bd hml0 hP hK
  obtain ⟨rfl, hZ, hh⟩ := hP
  have hx := Bd.exec
  have hby := Bd.bytes
  have hml : c.maxLocals = 5 := hml0
  have hown : s.vm.findClass "java/lang/StringUTF16" = some m.cls := findClass_of_methodNamed Bd.named
  have hnm := (name_of_methodNamed Bd.named Bd.method).1
  have X0 : Stand p l e ({ frames := 2, cells := 1, slots := 8, locals := 24 } : Room) s m #[(.ref ca), (.int (0 : Int32)), (.int (Int32.ofNat n))] below meth c s₁ [] 0 0 := Stand.of_body Bd
  have e0 : s₁.heap = h0 := by rw [← hh, Bd.state]; rfl
  have N0 := Fr.nil n0
  have pre0 : ∀ t_, Steps p.tables e below (s₁.setTop (mkF m 0 #[.val (.ref ca), .val (.int (0 : Int32)), .val (.int (Int32.ofNat n)), .unset, .unset] [])) t_ → Steps p.tables e below (s₁.setTop (entryFrame m #[(.ref ca), (.int (0 : Int32)), (.int (Int32.ofNat n))] 5)) t_ := fun t_ k_ => castTop (ef_rmTo m ca (0 : Int32) (Int32.ofNat n)) k_
  have lt_I4 : @LT.lt Nat _ ca h0.size := I4.lt
  have Zc1 : n0 ≤ h0.size := by omega
  obtain ⟨_, _, ⟨T2, L2, k2, n2⟩, -, X2, ⟨Lc2, hQ2, l2, y2, z2⟩, st2⟩ := Jvm.LawKit.callS X0 hx (y := (⟨"java/lang/StringUTF16", "newBytesFor", "(I)[B"⟩ : MethodName)) hown (mvT hZ (hw _ (List.mem_of_getElem? (i := 78) rfl))) (mvT hZ (hw _ (List.mem_of_getElem? (i := 79) rfl))) (mvT hZ (hw _ (List.mem_of_getElem? (i := 18) rfl))) (mvT hZ (hw _ (List.mem_of_getElem? (i := 80) rfl))) (by decide) (backOf (W := 0) (rmNBF l Z a0 hw [] n h0 n0 Zc1 (hb : n ≤ 4)) hZ (hw _ (List.mem_of_getElem? (i := 80) rfl)) (hw _ (List.mem_of_getElem? (i := 18) rfl)) (by decide) (by decide)) (g := (mkF m 1 #[.val (.ref ca), .val (.int (0 : Int32)), .val (.int (Int32.ofNat n)), .unset, .unset] [(.int (Int32.ofNat n))])) rfl (by rw [hml]; rfl) (argsL := [(.int (Int32.ofNat n))]) (rest := []) (lenOf pd__I__B rfl) rfl (by show 2 * 0 + _ ≤ _; exact Nat.le_of_eq rfl) (Jvm.hb hby d_jdk_52_method_14_1) (fun _ _ => ⟨rfl, e0, (by decide : 0 + 1 ≤ _), (by decide : 0 + 8 ≤ _)⟩)
  dsimp only [Pt.U, Pt.locs, Pt.cells, Pt.slots] at X2 l2 y2 z2 st2 hQ2
  subst l2 y2 z2
  obtain ⟨b_2, kb_2, rfl, N2q, K2, Fq2_0, P2_0⟩ := hQ2
  have N2 := Fr.app N0 N2q
  obtain ⟨h2, e2⟩ : ∃ z, T2.heap = z := ⟨_, rfl⟩
  rw [e2] at K2 Fq2_0
  have z3 : h0.size ≤ h2.size := K2.1
  have lt2_0 : @LT.lt Nat _ b_2 h2.size := Fq2_0.lt
  have s4 : ∀ t_, Steps p.tables e below (T2.setTop (mkF m 8 #[.val (.ref ca), .val (.int (0 : Int32)), .val (.int (Int32.ofNat n)), .val (.ref b_2), .val (.int (0 : Int32))] [])) t_ → Steps p.tables e below (s₁.setTop (entryFrame m #[(.ref ca), (.int (0 : Int32)), (.int (Int32.ofNat n))] 5)) t_ := fun t_ k_ => pre0 t_ (by
    show Steps p.tables e below (s₁.setTop (mkF m 0 #[.val (.ref ca), .val (.int (0 : Int32)), .val (.int (Int32.ofNat n)), .unset, .unset] [])) t_
    refine XS.iloadN X0.here hx rfl (Jvm.hb hby d_jdk_52_method_14_0) rfl ?_
    show Steps p.tables e below (s₁.setTop (mkF m 1 #[.val (.ref ca), .val (.int (0 : Int32)), .val (.int (Int32.ofNat n)), .unset, .unset] [(.int (Int32.ofNat n))])) _
    refine st2 _ ?_
    show Steps p.tables e below (T2.setTop (mkF m 4 #[.val (.ref ca), .val (.int (0 : Int32)), .val (.int (Int32.ofNat n)), .unset, .unset] [(.ref b_2)])) _
    refine XS.astoreN X2.here hx rfl (Jvm.hb hby d_jdk_52_method_14_4) rfl rfl (l' := #[.val (.ref ca), .val (.int (0 : Int32)), .val (.int (Int32.ofNat n)), .val (.ref b_2), .unset]) rfl ?_
    show Steps p.tables e below (T2.setTop (mkF m 5 #[.val (.ref ca), .val (.int (0 : Int32)), .val (.int (Int32.ofNat n)), .val (.ref b_2), .unset] [])) _
    refine XS.iconst X2.here hx rfl (Jvm.hb hby d_jdk_52_method_14_5) ?_
    show Steps p.tables e below (T2.setTop (mkF m 6 #[.val (.ref ca), .val (.int (0 : Int32)), .val (.int (Int32.ofNat n)), .val (.ref b_2), .unset] [(.int (0 : Int32))])) _
    refine XS.istore X2.here hx rfl (Jvm.hb hby d_jdk_52_method_14_6) rfl (l' := #[.val (.ref ca), .val (.int (0 : Int32)), .val (.int (Int32.ofNat n)), .val (.ref b_2), .val (.int (0 : Int32))]) rfl ?_
    show Steps p.tables e below (T2.setTop (mkF m 8 #[.val (.ref ca), .val (.int (0 : Int32)), .val (.int (Int32.ofNat n)), .val (.ref b_2), .val (.int (0 : Int32))] [])) _
    show Steps p.tables e below (T2.setTop (mkF m 8 #[.val (.ref ca), .val (.int (0 : Int32)), .val (.int (Int32.ofNat n)), .val (.ref b_2), .val (.int (0 : Int32))] [])) t_
    exact k_)
  have lp5 : ∀ (k_ : Nat) (j : Nat) (T_ : State) (lo_ : List Loc) (hh5 : Heap), j + k_ = n → Stand p l e ({ frames := 2, cells := 1, slots := 8, locals := 24 } : Room) s m #[(.ref ca), (.int (0 : Int32)), (.int (Int32.ofNat n))] below meth c T_ lo_ 1 8 → T_.heap = hh5 → Fr n0 lo_ → Keep h2 hh5 [b_2] → Arv Z hh5 b_2 kb_2 .byte (Int32.ofNat (2 * n)) (own_mix (own_wide cs) (List.replicate (2 * n) (.int (0 : Int32))) (2 * j)) (.int (0 : Int32)) → ∃ (T' : State) (lo' : List Loc) (hx_ : Heap) (fe_ : JFrame), Stand p l e ({ frames := 2, cells := 1, slots := 8, locals := 24 } : Room) s m #[(.ref ca), (.int (0 : Int32)), (.int (Int32.ofNat n))] below meth c T' lo' 1 8 ∧ T'.heap = hx_ ∧ Fr n0 lo' ∧ Keep h2 hx_ [b_2] ∧ ((fe_ = (mkF m 32 #[.val (.ref ca), .val (.int (Int32.ofNat n)), .val (.int (Int32.ofNat n)), .val (.ref b_2), .val (.int (Int32.ofNat n))] []) ∧ Arv Z hx_ b_2 kb_2 .byte (Int32.ofNat (2 * n)) (own_mix (own_wide cs) (List.replicate (2 * n) (.int (0 : Int32))) (2 * n)) (.int (0 : Int32)))) ∧ ∀ t_, Steps p.tables e below (T'.setTop fe_) t_ → Steps p.tables e below (T_.setTop (mkF m 8 #[.val (.ref ca), .val (.int (Int32.ofNat j)), .val (.int (Int32.ofNat n)), .val (.ref b_2), .val (.int (Int32.ofNat j))] [])) t_ := by
    intro k_
    induction k_ with
    | zero => 
      intro j T_ lo_ hh5 hm_ X_ e_ N_ K_ F_0
      have zk_ : h2.size ≤ hh5.size := K_.1
      have s6 : ∀ t_, Steps p.tables e below (T_.setTop (mkF m 32 #[.val (.ref ca), .val (.int (Int32.ofNat j)), .val (.int (Int32.ofNat n)), .val (.ref b_2), .val (.int (Int32.ofNat j))] [])) t_ → Steps p.tables e below (T_.setTop (mkF m 8 #[.val (.ref ca), .val (.int (Int32.ofNat j)), .val (.int (Int32.ofNat n)), .val (.ref b_2), .val (.int (Int32.ofNat j))] [])) t_ := fun t_ k_ => (fun _ k_ => k_) t_ (by
        show Steps p.tables e below (T_.setTop (mkF m 8 #[.val (.ref ca), .val (.int (Int32.ofNat j)), .val (.int (Int32.ofNat n)), .val (.ref b_2), .val (.int (Int32.ofNat j))] [])) t_
        refine XS.iload X_.here hx rfl (Jvm.hb hby d_jdk_52_method_14_8) rfl ?_
        show Steps p.tables e below (T_.setTop (mkF m 10 #[.val (.ref ca), .val (.int (Int32.ofNat j)), .val (.int (Int32.ofNat n)), .val (.ref b_2), .val (.int (Int32.ofNat j))] [(.int (Int32.ofNat j))])) _
        refine XS.iloadN X_.here hx rfl (Jvm.hb hby d_jdk_52_method_14_10) rfl ?_
        show Steps p.tables e below (T_.setTop (mkF m 11 #[.val (.ref ca), .val (.int (Int32.ofNat j)), .val (.int (Int32.ofNat n)), .val (.ref b_2), .val (.int (Int32.ofNat j))] [(.int (Int32.ofNat n)), (.int (Int32.ofNat j))])) _
        refine XS.icmpYes X_.here hx rfl (pc0 := 11) (pc' := 32) rfl (Jvm.hb hby d_jdk_52_method_14_11) rfl (flt (own_nlt (by omega) (by omega))).2.1 (by decide) (by decide) ?_
        show Steps p.tables e below (T_.setTop (mkF m 32 #[.val (.ref ca), .val (.int (Int32.ofNat j)), .val (.int (Int32.ofNat n)), .val (.ref b_2), .val (.int (Int32.ofNat j))] [])) _
        show Steps p.tables e below (T_.setTop (mkF m 32 #[.val (.ref ca), .val (.int (Int32.ofNat j)), .val (.int (Int32.ofNat n)), .val (.ref b_2), .val (.int (Int32.ofNat j))] [])) t_
        exact k_)
      exact ⟨T_, _, _, _, X_, e_, N_, ((Keep.refl h2 [b_2]).trans K_ (allS (Or.inl (by simp)) all0)), ⟨(by rw [show j = n by omega]), (by obtain rfl : j = n := (by omega); exact F_0)⟩, s6⟩
    | succ k_ ih => 
      intro j T_ lo_ hh5 hm_ X_ e_ N_ K_ F_0
      have zk_ : h2.size ≤ hh5.size := K_.1
      have f7 : Arv Z hh5 ca kc .char (Int32.ofNat n) (cs.map Value.int) (.int (0 : Int32)) := ((I4.keep K2 nin0).keep K_ (ninS (show @Ne Nat ca b_2 by omega) nin0))
      obtain ⟨cl8, Ar8, -, S8, M8, H8, -⟩ := id f7
      have hin8 : ¬ ((Int32.ofNat j) < 0 ∨ cl8.slots.size ≤ ((Int32.ofNat j)).toNatClampNeg) := inb_of S8 (own_in (by omega) (by omega))
      have hat8 : cl8.slots[((Int32.ofNat j)).toNatClampNeg]? = some (.int (cs.getD j 0)) := H8.at hin8 (own_getc cs j _ (by omega) (by omega))
      have O9 : Old Z n0 hh5 := ((OX.keep K2 all0).keep K_ (allS (show n0 ≤ b_2 by omega) all0))
      have Zc10 : n0 ≤ hh5.size := by omega
      obtain ⟨_, _, ⟨T11, L11, k11, n11⟩, -, X11, ⟨Lc11, hQ11, l11, y11, z11⟩, st11⟩ := Jvm.LawKit.callS X_ hx (y := (⟨"java/lang/StringUTF16", "putChar", "([BII)V"⟩ : MethodName)) hown (mvT hZ (hw _ (List.mem_of_getElem? (i := 85) rfl))) (mvT hZ (hw _ (List.mem_of_getElem? (i := 86) rfl))) (mvT hZ (hw _ (List.mem_of_getElem? (i := 18) rfl))) (mvT hZ (hw _ (List.mem_of_getElem? (i := 87) rfl))) (by decide) (backOf (W := 0) (rmPut l Z a0 hw [] b_2 (cs.getD j 0) kb_2 (own_mix (own_wide cs) (List.replicate (2 * n) (.int (0 : Int32))) (2 * j)) n j hh5 n0 Zc10 I1 I2 I3 O9 F_0 (hb : n ≤ 4) (by first | assumption | rfl | decide | omega : j < n) (by rw [own_mixl _ _ _ (by rw [own_widel]; simp; omega)]; simp) (by first | assumption | rfl | decide | omega : n0 ≤ b_2)) hZ (hw _ (List.mem_of_getElem? (i := 87) rfl)) (hw _ (List.mem_of_getElem? (i := 18) rfl)) (by decide) (by decide)) (g := (mkF m 20 #[.val (.ref ca), .val (.int (Int32.ofNat j)), .val (.int (Int32.ofNat n)), .val (.ref b_2), .val (.int (Int32.ofNat j))] [(.int (cs.getD j 0)), (.int (Int32.ofNat j)), (.ref b_2)])) rfl (by rw [hml]; rfl) (argsL := [(.ref b_2), (.int (Int32.ofNat j)), (.int (cs.getD j 0))]) (rest := []) (lenOf pd___BII_V rfl) rfl (by show 2 * 0 + _ ≤ _; exact Nat.le_of_eq rfl) (Jvm.hb hby d_jdk_52_method_14_20) (fun _ _ => ⟨rfl, e_, (by decide : 1 + 0 ≤ _), (by decide : 8 + 0 ≤ _)⟩)
      dsimp only [Pt.U, Pt.locs, Pt.cells, Pt.slots] at X11 l11 y11 z11 st11 hQ11
      subst l11 y11 z11
      obtain ⟨rfl, N11q, K11, Fq11_0⟩ := hQ11
      have N11 := Fr.app N_ N11q
      obtain ⟨h11, e11⟩ : ∃ z, T11.heap = z := ⟨_, rfl⟩
      rw [e11] at K11 Fq11_0
      have z12 : hh5.size ≤ h11.size := K11.1
      have lt11_0 : @LT.lt Nat _ b_2 h11.size := Fq11_0.lt
      have V13 : Arv Z h11 b_2 kb_2 .byte (Int32.ofNat (2 * n)) (own_mix (own_wide cs) (List.replicate (2 * n) (.int (0 : Int32))) (2 * (j + 1))) (.int (0 : Int32)) := by have q := Fq11_0; rw [own_mixw cs _ j (by simp; omega) (by omega)] at q; exact q
      have s14 : ∀ t_, Steps p.tables e below (T11.setTop (mkF m 8 #[.val (.ref ca), .val (.int ((Int32.ofNat j) + (1 : Int32))), .val (.int (Int32.ofNat n)), .val (.ref b_2), .val (.int ((Int32.ofNat j) + (1 : Int32)))] [])) t_ → Steps p.tables e below (T_.setTop (mkF m 8 #[.val (.ref ca), .val (.int (Int32.ofNat j)), .val (.int (Int32.ofNat n)), .val (.ref b_2), .val (.int (Int32.ofNat j))] [])) t_ := fun t_ k_ => (fun _ k_ => k_) t_ (by
        show Steps p.tables e below (T_.setTop (mkF m 8 #[.val (.ref ca), .val (.int (Int32.ofNat j)), .val (.int (Int32.ofNat n)), .val (.ref b_2), .val (.int (Int32.ofNat j))] [])) t_
        refine XS.iload X_.here hx rfl (Jvm.hb hby d_jdk_52_method_14_8) rfl ?_
        show Steps p.tables e below (T_.setTop (mkF m 10 #[.val (.ref ca), .val (.int (Int32.ofNat j)), .val (.int (Int32.ofNat n)), .val (.ref b_2), .val (.int (Int32.ofNat j))] [(.int (Int32.ofNat j))])) _
        refine XS.iloadN X_.here hx rfl (Jvm.hb hby d_jdk_52_method_14_10) rfl ?_
        show Steps p.tables e below (T_.setTop (mkF m 11 #[.val (.ref ca), .val (.int (Int32.ofNat j)), .val (.int (Int32.ofNat n)), .val (.ref b_2), .val (.int (Int32.ofNat j))] [(.int (Int32.ofNat n)), (.int (Int32.ofNat j))])) _
        refine XS.icmpNo X_.here hx rfl (Jvm.hb hby d_jdk_52_method_14_11) rfl (tlt (own_lt (by omega) (by omega))).2.1 ?_
        show Steps p.tables e below (T_.setTop (mkF m 14 #[.val (.ref ca), .val (.int (Int32.ofNat j)), .val (.int (Int32.ofNat n)), .val (.ref b_2), .val (.int (Int32.ofNat j))] [])) _
        refine XS.aloadN X_.here hx rfl (Jvm.hb hby d_jdk_52_method_14_14) rfl rfl ?_
        show Steps p.tables e below (T_.setTop (mkF m 15 #[.val (.ref ca), .val (.int (Int32.ofNat j)), .val (.int (Int32.ofNat n)), .val (.ref b_2), .val (.int (Int32.ofNat j))] [(.ref b_2)])) _
        refine XS.iload X_.here hx rfl (Jvm.hb hby d_jdk_52_method_14_15) rfl ?_
        show Steps p.tables e below (T_.setTop (mkF m 17 #[.val (.ref ca), .val (.int (Int32.ofNat j)), .val (.int (Int32.ofNat n)), .val (.ref b_2), .val (.int (Int32.ofNat j))] [(.int (Int32.ofNat j)), (.ref b_2)])) _
        refine XS.aloadN X_.here hx rfl (Jvm.hb hby d_jdk_52_method_14_17) rfl rfl ?_
        show Steps p.tables e below (T_.setTop (mkF m 18 #[.val (.ref ca), .val (.int (Int32.ofNat j)), .val (.int (Int32.ofNat n)), .val (.ref b_2), .val (.int (Int32.ofNat j))] [(.ref ca), (.int (Int32.ofNat j)), (.ref b_2)])) _
        refine XS.iloadN X_.here hx rfl (Jvm.hb hby d_jdk_52_method_14_18) rfl ?_
        show Steps p.tables e below (T_.setTop (mkF m 19 #[.val (.ref ca), .val (.int (Int32.ofNat j)), .val (.int (Int32.ofNat n)), .val (.ref b_2), .val (.int (Int32.ofNat j))] [(.int (Int32.ofNat j)), (.ref ca), (.int (Int32.ofNat j)), (.ref b_2)])) _
        refine X_.caload hx (j := (Int32.ofNat j)) (v := (.int (cs.getD j 0))) (by rw [e_]; exact Ar8.1) (State.isArrayOf_alike hZ.alike Ar8.2.1) Ar8.2.2 hin8 hat8 (g := (mkF m 19 #[.val (.ref ca), .val (.int (Int32.ofNat j)), .val (.int (Int32.ofNat n)), .val (.ref b_2), .val (.int (Int32.ofNat j))] [(.int (Int32.ofNat j)), (.ref ca), (.int (Int32.ofNat j)), (.ref b_2)])) rfl rfl (Jvm.hb hby d_jdk_52_method_14_19) _ ?_
        show Steps p.tables e below (T_.setTop (mkF m 20 #[.val (.ref ca), .val (.int (Int32.ofNat j)), .val (.int (Int32.ofNat n)), .val (.ref b_2), .val (.int (Int32.ofNat j))] [(.int (cs.getD j 0)), (.int (Int32.ofNat j)), (.ref b_2)])) _
        refine st11 _ ?_
        show Steps p.tables e below (T11.setTop (mkF m 23 #[.val (.ref ca), .val (.int (Int32.ofNat j)), .val (.int (Int32.ofNat n)), .val (.ref b_2), .val (.int (Int32.ofNat j))] [])) _
        refine XS.iinc X11.here hx rfl (Jvm.hb hby d_jdk_52_method_14_23) rfl (l' := #[.val (.ref ca), .val (.int ((Int32.ofNat j) + (1 : Int32))), .val (.int (Int32.ofNat n)), .val (.ref b_2), .val (.int (Int32.ofNat j))]) rfl ?_
        show Steps p.tables e below (T11.setTop (mkF m 26 #[.val (.ref ca), .val (.int ((Int32.ofNat j) + (1 : Int32))), .val (.int (Int32.ofNat n)), .val (.ref b_2), .val (.int (Int32.ofNat j))] [])) _
        refine XS.iinc X11.here hx rfl (Jvm.hb hby d_jdk_52_method_14_26) rfl (l' := #[.val (.ref ca), .val (.int ((Int32.ofNat j) + (1 : Int32))), .val (.int (Int32.ofNat n)), .val (.ref b_2), .val (.int ((Int32.ofNat j) + (1 : Int32)))]) rfl ?_
        show Steps p.tables e below (T11.setTop (mkF m 29 #[.val (.ref ca), .val (.int ((Int32.ofNat j) + (1 : Int32))), .val (.int (Int32.ofNat n)), .val (.ref b_2), .val (.int ((Int32.ofNat j) + (1 : Int32)))] [])) _
        refine XS.goto X11.here hx rfl (pc0 := 29) (pc' := 8) rfl (Jvm.hb hby d_jdk_52_method_14_29) (by decide) (by decide) ?_
        show Steps p.tables e below (T11.setTop (mkF m 8 #[.val (.ref ca), .val (.int ((Int32.ofNat j) + (1 : Int32))), .val (.int (Int32.ofNat n)), .val (.ref b_2), .val (.int ((Int32.ofNat j) + (1 : Int32)))] [])) _
        show Steps p.tables e below (T11.setTop (mkF m 8 #[.val (.ref ca), .val (.int ((Int32.ofNat j) + (1 : Int32))), .val (.int (Int32.ofNat n)), .val (.ref b_2), .val (.int ((Int32.ofNat j) + (1 : Int32)))] [])) t_
        exact k_)
      obtain ⟨T15, lo15, h15, fe15, X15, e15, N15, K15, A15, st15⟩ := ih (j + 1) T11 _ h11 (by omega) X11 e11 N11 (((Keep.refl h2 [b_2]).trans K_ (allS (Or.inl (by simp)) all0)).trans K11 (allS (Or.inl (by simp)) all0)) V13 
      exact ⟨T15, lo15, h15, fe15, X15, e15, N15, K15, A15, fun t_ k_ => s14 t_ (castTop (by rw [own_up]) (st15 t_ k_))⟩
  obtain ⟨T16, lo16, h16, fe16, X16, e16, N16, K16, A16, st16⟩ := lp5 n 0 T2 _ h2 (by omega) X2 e2 N2 (Keep.refl _ _) (by rw [show 2 * 0 = 0 from rfl, own_mix0]; exact Fq2_0) 
  have z17 : h2.size ≤ h16.size := K16.1
  obtain ⟨rfl, G16_0⟩ := A16
  have s18 : ∀ t_, Steps p.tables e below (T16.setTop (mkF m 32 #[.val (.ref ca), .val (.int (Int32.ofNat n)), .val (.int (Int32.ofNat n)), .val (.ref b_2), .val (.int (Int32.ofNat n))] [])) t_ → Steps p.tables e below (s₁.setTop (entryFrame m #[(.ref ca), (.int (0 : Int32)), (.int (Int32.ofNat n))] 5)) t_ := fun t_ k_ => s4 t_ (st16 t_ k_)
  have s19 : ∀ t_, Steps p.tables e below (T16.setTop (mkF m 33 #[.val (.ref ca), .val (.int (Int32.ofNat n)), .val (.int (Int32.ofNat n)), .val (.ref b_2), .val (.int (Int32.ofNat n))] [(.ref b_2)])) t_ → Steps p.tables e below (s₁.setTop (entryFrame m #[(.ref ca), (.int (0 : Int32)), (.int (Int32.ofNat n))] 5)) t_ := fun t_ k_ => s18 t_ (by
    show Steps p.tables e below (T16.setTop (mkF m 32 #[.val (.ref ca), .val (.int (Int32.ofNat n)), .val (.int (Int32.ofNat n)), .val (.ref b_2), .val (.int (Int32.ofNat n))] [])) t_
    refine XS.aloadN X16.here hx rfl (Jvm.hb hby d_jdk_52_method_14_32) rfl rfl ?_
    show Steps p.tables e below (T16.setTop (mkF m 33 #[.val (.ref ca), .val (.int (Int32.ofNat n)), .val (.int (Int32.ofNat n)), .val (.ref b_2), .val (.int (Int32.ofNat n))] [(.ref b_2)])) _
    show Steps p.tables e below (T16.setTop (mkF m 33 #[.val (.ref ca), .val (.int (Int32.ofNat n)), .val (.int (Int32.ofNat n)), .val (.ref b_2), .val (.int (Int32.ofNat n))] [(.ref b_2)])) t_
    exact k_)
  obtain ⟨fs, hr, hrun, hended, hW, hsame⟩ := X16.leave (v := some (.ref b_2)) (fun h => by rw [Bd.returns] at h; cases h)
  refine ⟨_, _, s19 _ ?_, hrun, hended, _, _, rfl, ?_, ⟨_, rfl⟩, hW, hsame.mono (by decide) (by decide)⟩
  · show Steps p.tables e below (T16.setTop (mkF m 33 #[.val (.ref ca), .val (.int (Int32.ofNat n)), .val (.int (Int32.ofNat n)), .val (.ref b_2), .val (.int (Int32.ofNat n))] [(.ref b_2)])) _
    jvm_step X16.here [X16.here.top, hx, (Jvm.hb hby d_jdk_52_method_14_33), X16.method', Bd.returns, Value.isRef, FieldType.isReference]
    first | (intro acts; rw [hr _ acts rfl rfl rfl]) | rw [hr _ _ rfl rfl rfl]
    exact Steps.refl _
  · show Q_rmTo Z _ _ _ _ h0 n0 _ T16.heap _
    rw [e16]
    exact ⟨b_2, kb_2, rfl, N16, (((Keep.refl h0 []).trans K2 all0).trans K16 (allS (Or.inr (show h0.size ≤ b_2 by omega)) all0)), (by have q := G16_0; rw [own_mixn _ _ (2 * n) (by rw [own_widel]; omega) (by simp)] at q; exact q), by omega⟩
theorem d_jdk_52_method_16_0 : decode jdk_52_method_16_code 0 = .ok (.iload_n 2, 1) := by decide +kernel
theorem d_jdk_52_method_16_1 : decode jdk_52_method_16_code 1 = .ok (.newarray .byte, 2) := by decide +kernel
theorem d_jdk_52_method_16_3 : decode jdk_52_method_16_code 3 = .ok (.astore_n 3, 1) := by decide +kernel
theorem d_jdk_52_method_16_4 : decode jdk_52_method_16_code 4 = .ok (.aload_n 0, 1) := by decide +kernel
theorem d_jdk_52_method_16_5 : decode jdk_52_method_16_code 5 = .ok (.iload_n 1, 1) := by decide +kernel
theorem d_jdk_52_method_16_6 : decode jdk_52_method_16_code 6 = .ok (.aload_n 3, 1) := by decide +kernel
theorem d_jdk_52_method_16_7 : decode jdk_52_method_16_code 7 = .ok (.iconst 0, 1) := by decide +kernel
theorem d_jdk_52_method_16_8 : decode jdk_52_method_16_code 8 = .ok (.iload_n 2, 1) := by decide +kernel
theorem pd___CI_BII_I : parseMethodDescriptor "([CI[BII)I" = some ⟨[(.array .char), .int, (.array .byte), .int, .int], some .int⟩ := by decide +kernel
theorem d_jdk_52_method_16_9 : decode jdk_52_method_16_code 9 = .ok (.invokestatic 115, 3) := by decide +kernel
theorem d_jdk_52_method_16_12 : decode jdk_52_method_16_code 12 = .ok (.istore 4, 2) := by decide +kernel
theorem d_jdk_52_method_16_14 : decode jdk_52_method_16_code 14 = .ok (.iload 4, 2) := by decide +kernel
theorem d_jdk_52_method_16_16 : decode jdk_52_method_16_code 16 = .ok (.iload_n 2, 1) := by decide +kernel
theorem d_jdk_52_method_16_17 : decode jdk_52_method_16_code 17 = .ok (.if_icmp .eq 40, 3) := by decide +kernel
theorem d_jdk_52_method_16_57 : decode jdk_52_method_16_code 57 = .ok (.aload_n 3, 1) := by decide +kernel
theorem d_jdk_52_method_16_58 : decode jdk_52_method_16_code 58 = .ok (.areturn, 1) := by decide +kernel
theorem d_jdk_52_method_16_20 : decode jdk_52_method_16_code 20 = .ok (.aload_n 0, 1) := by decide +kernel
theorem d_jdk_52_method_16_21 : decode jdk_52_method_16_code 21 = .ok (.iload_n 1, 1) := by decide +kernel
theorem d_jdk_52_method_16_22 : decode jdk_52_method_16_code 22 = .ok (.iload_n 2, 1) := by decide +kernel
theorem pd___CII__B : parseMethodDescriptor "([CII)[B" = some ⟨[(.array .char), .int, .int], some (.array .byte)⟩ := by decide +kernel
theorem d_jdk_52_method_16_23 : decode jdk_52_method_16_code 23 = .ok (.invokestatic 119, 3) := by decide +kernel
theorem d_jdk_52_method_16_26 : decode jdk_52_method_16_code 26 = .ok (.astore 5, 2) := by decide +kernel
theorem d_jdk_52_method_16_28 : decode jdk_52_method_16_code 28 = .ok (.aload 5, 2) := by decide +kernel
theorem d_jdk_52_method_16_30 : decode jdk_52_method_16_code 30 = .ok (.iload 4, 2) := by decide +kernel
theorem pd___BI_C : parseMethodDescriptor "([BI)C" = some ⟨[(.array .byte), .int], some .char⟩ := by decide +kernel
theorem d_jdk_52_method_16_32 : decode jdk_52_method_16_code 32 = .ok (.invokestatic 71, 3) := by decide +kernel
theorem d_jdk_52_method_16_35 : decode jdk_52_method_16_code 35 = .ok (.sipush 255, 3) := by decide +kernel
theorem d_jdk_52_method_16_38 : decode jdk_52_method_16_code 38 = .ok (.if_icmp .gt 16, 3) := by decide +kernel
theorem d_jdk_52_method_16_54 : decode jdk_52_method_16_code 54 = .ok (.aload 5, 2) := by decide +kernel
theorem d_jdk_52_method_16_56 : decode jdk_52_method_16_code 56 = .ok (.areturn, 1) := by decide +kernel
theorem ef_rmComp (m : MethodId) (x0 : Addr) (x1 : Int32) (x2 : Int32) : entryFrame m #[(.ref x0), (.int x1), (.int x2)] 6 = mkF m 0 #[.val (.ref x0), .val (.int x1), .val (.int x2), .unset, .unset, .unset] [] := by first | (simp [entryFrame, mkF, argsToLocals, Value.category]; done) | rfl
def Q_rmComp (Z : State) (ca : Addr) (cs : List Int32) (kc : ClassId) (n : Nat) (h0 : Heap) (n0 : Nat) (v : Option Value) (h : Heap) (L : List Loc) : Prop := ∃ (b : Addr), ∃ (kb : ClassId), (v = some (.ref b)) ∧ (Fr n0 L) ∧ (Keep h0 h []) ∧ (Arv Z h b kb .byte (Int32.ofNat (own_enl cs)) (own_enc cs) (.int (0 : Int32))) ∧ (h0.size ≤ b)
set_option maxRecDepth 65536 in
set_option maxHeartbeats 40000000 in
theorem rmComp (l : Launch) (Z : State) (a0 : Array Value) (hw : ∀ d ∈ tables_1, d.before a0 Z = true) (ws : List Jvm.Cond) (ca : Addr) (cs : List Int32) (kc : ClassId) (n : Nat) (h0 : Heap) (n0 : Nat) (Z0 : n0 ≤ h0.size) (I1 : Sta Z Z.heap "java/lang/StringUTF16" "$assertionsDisabled" "Z" (.int (1 : Int32))) (I2 : Sta Z Z.heap "java/lang/StringUTF16" "HI_BYTE_SHIFT" "I" (.int (0 : Int32))) (I3 : Sta Z Z.heap "java/lang/StringUTF16" "LO_BYTE_SHIFT" "I" (.int (8 : Int32))) (OX : Old Z n0 h0) (I4 : Arv Z h0 ca kc .char (Int32.ofNat n) (cs.map Value.int) (.int (0 : Int32))) (hn : cs.length = n) (hb : n ≤ 4) (hchs : own_chs cs) :
    MetFree l (⟨"java/lang/StringUTF16", "compress", "([CII)[B"⟩ : MethodName) (head1 (Jvm.Cond.code (⟨"java/lang/StringUTF16", "compress", "([CII)[B"⟩ : MethodName) jdk_52_method_16_code 6 (some (.array .byte)) :: ws) ({ frames := 3, cells := 2, slots := 12, locals := 40 } : Room)) (fun ar_ U => ar_ = #[(.ref ca), (.int (0 : Int32)), (.int (Int32.ofNat n))] ∧ Z.Warmed39 U.vm ∧ U.heap = h0) (fun _ _ _ _ _ => True) (fun _ U o U' => ∃ v L, o = .returned v ∧ Q_rmComp Z ca cs kc n h0 n0 v U'.heap L ∧ FrameEnd U o U' L ({ frames := 3, cells := 2, slots := 12, locals := 40 } : Room).cells ({ frames := 3, cells := 2, slots := 12, locals := 40 } : Room).slots) := by
  refine MetFree.of_bodySF (plainFor_of_name pn_java_lang_StringUTF16) hisR ?_
  intro p e s m args below meth c s₁ Bd hml0 hP hK
  obtain ⟨rfl, hZ, hh⟩ := hP
  have hx := Bd.exec
  have hby := Bd.bytes
  have hml : c.maxLocals = 6 := hml0
  have hown : s.vm.findClass "java/lang/StringUTF16" = some m.cls := findClass_of_methodNamed Bd.named
  have hnm := (name_of_methodNamed Bd.named Bd.method).1
  have X0 : Stand p l e ({ frames := 3, cells := 2, slots := 12, locals := 40 } : Room) s m #[(.ref ca), (.int (0 : Int32)), (.int (Int32.ofNat n))] below meth c s₁ [] 0 0 := Stand.of_body Bd
  have e0 : s₁.heap = h0 := by rw [← hh, Bd.state]; rfl
  have N0 := Fr.nil n0
  have pre0 : ∀ t_, Steps p.tables e below (s₁.setTop (mkF m 0 #[.val (.ref ca), .val (.int (0 : Int32)), .val (.int (Int32.ofNat n)), .unset, .unset, .unset] [])) t_ → Steps p.tables e below (s₁.setTop (entryFrame m #[(.ref ca), (.int (0 : Int32)), (.int (Int32.ofNat n))] 6)) t_ := fun t_ k_ => castTop (ef_rmComp m ca (0 : Int32) (Int32.ofNat n)) k_
  have lt_I4 : @LT.lt Nat _ ca h0.size := I4.lt
  by_cases h1 : own_lat cs
  · have s2 : ∀ t_, Steps p.tables e below (s₁.setTop (mkF m 0 #[.val (.ref ca), .val (.int (0 : Int32)), .val (.int (Int32.ofNat n)), .unset, .unset, .unset] [])) t_ → Steps p.tables e below (s₁.setTop (entryFrame m #[(.ref ca), (.int (0 : Int32)), (.int (Int32.ofNat n))] 6)) t_ := fun t_ k_ => pre0 t_ (castTop (by rfl) k_)
    obtain ⟨T3, h3, k3, X3, e3, E3, A3, st3⟩ := newP X0 hx hZ (hw _ (List.mem_of_getElem? (i := 20) rfl)) e0 (g := (mkF m 1 #[.val (.ref ca), .val (.int (0 : Int32)), .val (.int (Int32.ofNat n)), .unset, .unset, .unset] [(.int (Int32.ofNat n))])) rfl (Jvm.hb hby d_jdk_52_method_16_1) rfl (own_nn (by omega)) (cap := 4) (by rw [own_tn (by omega)]; omega) (by decide) (by decide) (by decide)
    obtain ⟨b3, g3⟩ : ∃ z, z = h0.size := ⟨_, rfl⟩
    rw [← g3] at A3 st3
    have z4 : h0.size ≤ h3.size := E3.1
    have l3 : b3 < h3.size := A3.lt
    have V3 : Arv Z h3 b3 k3 .byte (Int32.ofNat n) (List.replicate n (.int (0 : Int32))) (.int (0 : Int32)) := (Arv.new A3 (own_nn (by omega))).pad (pad_rep [] _ n)
    have f5 : Arv Z h3 ca kc .char (Int32.ofNat n) (cs.map Value.int) (.int (0 : Int32)) := (I4.ext E3)
    have Zc6 : n0 ≤ h3.size := by omega
    obtain ⟨_, _, ⟨T7, L7, k7, n7⟩, -, X7, ⟨Lc7, hQ7, l7, y7, z7⟩, st7⟩ := Jvm.LawKit.callS X3 hx (y := (⟨"java/lang/StringUTF16", "compress", "([CI[BII)I"⟩ : MethodName)) hown (mvT hZ (hw _ (List.mem_of_getElem? (i := 21) rfl))) (mvT hZ (hw _ (List.mem_of_getElem? (i := 22) rfl))) (mvT hZ (hw _ (List.mem_of_getElem? (i := 18) rfl))) (mvT hZ (hw _ (List.mem_of_getElem? (i := 23) rfl))) (by decide) (backOf (W := 0) (rmCmpL l Z a0 hw [] ca b3 cs kc n k3 (List.replicate n (.int (0 : Int32))) h3 n0 Zc6 f5 V3 (hn : cs.length = n) (hb : n ≤ 4) (by simp) (by first | assumption | rfl | decide | omega : n0 ≤ b3) (by first | assumption | rfl | decide | omega : @Ne Nat ca b3) (by first | assumption | rfl | decide | omega : own_lat cs)) hZ (hw _ (List.mem_of_getElem? (i := 23) rfl)) (hw _ (List.mem_of_getElem? (i := 18) rfl)) (by decide) (by decide)) (g := (mkF m 9 #[.val (.ref ca), .val (.int (0 : Int32)), .val (.int (Int32.ofNat n)), .val (.ref b3), .unset, .unset] [(.int (Int32.ofNat n)), (.int (0 : Int32)), (.ref b3), (.int (0 : Int32)), (.ref ca)])) rfl (by rw [hml]; rfl) (argsL := [(.ref ca), (.int (0 : Int32)), (.ref b3), (.int (0 : Int32)), (.int (Int32.ofNat n))]) (rest := []) (lenOf pd___CI_BII_I rfl) rfl (by show 2 * 0 + _ ≤ _; exact Nat.le_of_eq rfl) (Jvm.hb hby d_jdk_52_method_16_9) (fun _ _ => ⟨rfl, e3, (by decide : 1 + 0 ≤ _), (by decide : 4 + 0 ≤ _)⟩)
    dsimp only [Pt.U, Pt.locs, Pt.cells, Pt.slots] at X7 l7 y7 z7 st7 hQ7
    subst l7 y7 z7
    obtain ⟨rfl, N7q, K7, Fq7_0⟩ := hQ7
    have N7 := Fr.app N0 N7q
    obtain ⟨h7, e7⟩ : ∃ z, T7.heap = z := ⟨_, rfl⟩
    rw [e7] at K7 Fq7_0
    have z8 : h3.size ≤ h7.size := K7.1
    have lt7_0 : @LT.lt Nat _ b3 h7.size := Fq7_0.lt
    have s9 : ∀ t_, Steps p.tables e below (T7.setTop (mkF m 58 #[.val (.ref ca), .val (.int (0 : Int32)), .val (.int (Int32.ofNat n)), .val (.ref b3), .val (.int (Int32.ofNat n)), .unset] [(.ref b3)])) t_ → Steps p.tables e below (s₁.setTop (entryFrame m #[(.ref ca), (.int (0 : Int32)), (.int (Int32.ofNat n))] 6)) t_ := fun t_ k_ => s2 t_ (by
      show Steps p.tables e below (s₁.setTop (mkF m 0 #[.val (.ref ca), .val (.int (0 : Int32)), .val (.int (Int32.ofNat n)), .unset, .unset, .unset] [])) t_
      refine XS.iloadN X0.here hx rfl (Jvm.hb hby d_jdk_52_method_16_0) rfl ?_
      show Steps p.tables e below (s₁.setTop (mkF m 1 #[.val (.ref ca), .val (.int (0 : Int32)), .val (.int (Int32.ofNat n)), .unset, .unset, .unset] [(.int (Int32.ofNat n))])) _
      refine st3 _ ?_
      show Steps p.tables e below (T3.setTop (mkF m 3 #[.val (.ref ca), .val (.int (0 : Int32)), .val (.int (Int32.ofNat n)), .unset, .unset, .unset] [(.ref b3)])) _
      refine XS.astoreN X3.here hx rfl (Jvm.hb hby d_jdk_52_method_16_3) rfl rfl (l' := #[.val (.ref ca), .val (.int (0 : Int32)), .val (.int (Int32.ofNat n)), .val (.ref b3), .unset, .unset]) rfl ?_
      show Steps p.tables e below (T3.setTop (mkF m 4 #[.val (.ref ca), .val (.int (0 : Int32)), .val (.int (Int32.ofNat n)), .val (.ref b3), .unset, .unset] [])) _
      refine XS.aloadN X3.here hx rfl (Jvm.hb hby d_jdk_52_method_16_4) rfl rfl ?_
      show Steps p.tables e below (T3.setTop (mkF m 5 #[.val (.ref ca), .val (.int (0 : Int32)), .val (.int (Int32.ofNat n)), .val (.ref b3), .unset, .unset] [(.ref ca)])) _
      refine XS.iloadN X3.here hx rfl (Jvm.hb hby d_jdk_52_method_16_5) rfl ?_
      show Steps p.tables e below (T3.setTop (mkF m 6 #[.val (.ref ca), .val (.int (0 : Int32)), .val (.int (Int32.ofNat n)), .val (.ref b3), .unset, .unset] [(.int (0 : Int32)), (.ref ca)])) _
      refine XS.aloadN X3.here hx rfl (Jvm.hb hby d_jdk_52_method_16_6) rfl rfl ?_
      show Steps p.tables e below (T3.setTop (mkF m 7 #[.val (.ref ca), .val (.int (0 : Int32)), .val (.int (Int32.ofNat n)), .val (.ref b3), .unset, .unset] [(.ref b3), (.int (0 : Int32)), (.ref ca)])) _
      refine XS.iconst X3.here hx rfl (Jvm.hb hby d_jdk_52_method_16_7) ?_
      show Steps p.tables e below (T3.setTop (mkF m 8 #[.val (.ref ca), .val (.int (0 : Int32)), .val (.int (Int32.ofNat n)), .val (.ref b3), .unset, .unset] [(.int (0 : Int32)), (.ref b3), (.int (0 : Int32)), (.ref ca)])) _
      refine XS.iloadN X3.here hx rfl (Jvm.hb hby d_jdk_52_method_16_8) rfl ?_
      show Steps p.tables e below (T3.setTop (mkF m 9 #[.val (.ref ca), .val (.int (0 : Int32)), .val (.int (Int32.ofNat n)), .val (.ref b3), .unset, .unset] [(.int (Int32.ofNat n)), (.int (0 : Int32)), (.ref b3), (.int (0 : Int32)), (.ref ca)])) _
      refine st7 _ ?_
      show Steps p.tables e below (T7.setTop (mkF m 12 #[.val (.ref ca), .val (.int (0 : Int32)), .val (.int (Int32.ofNat n)), .val (.ref b3), .unset, .unset] [(.int (Int32.ofNat n))])) _
      refine XS.istore X7.here hx rfl (Jvm.hb hby d_jdk_52_method_16_12) rfl (l' := #[.val (.ref ca), .val (.int (0 : Int32)), .val (.int (Int32.ofNat n)), .val (.ref b3), .val (.int (Int32.ofNat n)), .unset]) rfl ?_
      show Steps p.tables e below (T7.setTop (mkF m 14 #[.val (.ref ca), .val (.int (0 : Int32)), .val (.int (Int32.ofNat n)), .val (.ref b3), .val (.int (Int32.ofNat n)), .unset] [])) _
      refine XS.iload X7.here hx rfl (Jvm.hb hby d_jdk_52_method_16_14) rfl ?_
      show Steps p.tables e below (T7.setTop (mkF m 16 #[.val (.ref ca), .val (.int (0 : Int32)), .val (.int (Int32.ofNat n)), .val (.ref b3), .val (.int (Int32.ofNat n)), .unset] [(.int (Int32.ofNat n))])) _
      refine XS.iloadN X7.here hx rfl (Jvm.hb hby d_jdk_52_method_16_16) rfl ?_
      show Steps p.tables e below (T7.setTop (mkF m 17 #[.val (.ref ca), .val (.int (0 : Int32)), .val (.int (Int32.ofNat n)), .val (.ref b3), .val (.int (Int32.ofNat n)), .unset] [(.int (Int32.ofNat n)), (.int (Int32.ofNat n))])) _
      refine XS.icmpYes X7.here hx rfl (pc0 := 17) (pc' := 57) rfl (Jvm.hb hby d_jdk_52_method_16_17) rfl (teq rfl).1 (by decide) (by decide) ?_
      show Steps p.tables e below (T7.setTop (mkF m 57 #[.val (.ref ca), .val (.int (0 : Int32)), .val (.int (Int32.ofNat n)), .val (.ref b3), .val (.int (Int32.ofNat n)), .unset] [])) _
      refine XS.aloadN X7.here hx rfl (Jvm.hb hby d_jdk_52_method_16_57) rfl rfl ?_
      show Steps p.tables e below (T7.setTop (mkF m 58 #[.val (.ref ca), .val (.int (0 : Int32)), .val (.int (Int32.ofNat n)), .val (.ref b3), .val (.int (Int32.ofNat n)), .unset] [(.ref b3)])) _
      show Steps p.tables e below (T7.setTop (mkF m 58 #[.val (.ref ca), .val (.int (0 : Int32)), .val (.int (Int32.ofNat n)), .val (.ref b3), .val (.int (Int32.ofNat n)), .unset] [(.ref b3)])) t_
      exact k_)
    obtain ⟨fs, hr, hrun, hended, hW, hsame⟩ := X7.leave (v := some (.ref b3)) (fun h => by rw [Bd.returns] at h; cases h)
    refine ⟨_, _, s9 _ ?_, hrun, hended, _, _, rfl, ?_, ⟨_, rfl⟩, hW, hsame.mono (by decide) (by decide)⟩
    · show Steps p.tables e below (T7.setTop (mkF m 58 #[.val (.ref ca), .val (.int (0 : Int32)), .val (.int (Int32.ofNat n)), .val (.ref b3), .val (.int (Int32.ofNat n)), .unset] [(.ref b3)])) _
      jvm_step X7.here [X7.here.top, hx, (Jvm.hb hby d_jdk_52_method_16_58), X7.method', Bd.returns, Value.isRef, FieldType.isReference]
      first | (intro acts; rw [hr _ acts rfl rfl rfl]) | rw [hr _ _ rfl rfl rfl]
      exact Steps.refl _
    · show Q_rmComp Z _ _ _ _ h0 n0 _ T7.heap _
      rw [e7]
      exact ⟨b3, k3, rfl, N7, (((Keep.refl h0 []).ext E3).trans K7 (allS (Or.inr (show h0.size ≤ b3 by omega)) all0)), (own_fixL h1 Fq7_0 hn (by simp)), by omega⟩
  · have s10 : ∀ t_, Steps p.tables e below (s₁.setTop (mkF m 0 #[.val (.ref ca), .val (.int (0 : Int32)), .val (.int (Int32.ofNat n)), .unset, .unset, .unset] [])) t_ → Steps p.tables e below (s₁.setTop (entryFrame m #[(.ref ca), (.int (0 : Int32)), (.int (Int32.ofNat n))] 6)) t_ := fun t_ k_ => pre0 t_ (castTop (by rfl) k_)
    obtain ⟨i_, hi_, hbad_, hpre_⟩ := own_first h1
    rw [hn] at hi_
    obtain ⟨T11, h11, k11, X11, e11, E11, A11, st11⟩ := newP X0 hx hZ (hw _ (List.mem_of_getElem? (i := 20) rfl)) e0 (g := (mkF m 1 #[.val (.ref ca), .val (.int (0 : Int32)), .val (.int (Int32.ofNat n)), .unset, .unset, .unset] [(.int (Int32.ofNat n))])) rfl (Jvm.hb hby d_jdk_52_method_16_1) rfl (own_nn (by omega)) (cap := 4) (by rw [own_tn (by omega)]; omega) (by decide) (by decide) (by decide)
    obtain ⟨b11, g11⟩ : ∃ z, z = h0.size := ⟨_, rfl⟩
    rw [← g11] at A11 st11
    have z12 : h0.size ≤ h11.size := E11.1
    have l11 : b11 < h11.size := A11.lt
    have V11 : Arv Z h11 b11 k11 .byte (Int32.ofNat n) (List.replicate n (.int (0 : Int32))) (.int (0 : Int32)) := (Arv.new A11 (own_nn (by omega))).pad (pad_rep [] _ n)
    have f13 : Arv Z h11 ca kc .char (Int32.ofNat n) (cs.map Value.int) (.int (0 : Int32)) := (I4.ext E11)
    have Zc14 : n0 ≤ h11.size := by omega
    obtain ⟨_, _, ⟨T15, L15, k15, n15⟩, -, X15, ⟨Lc15, hQ15, l15, y15, z15⟩, st15⟩ := Jvm.LawKit.callS X11 hx (y := (⟨"java/lang/StringUTF16", "compress", "([CI[BII)I"⟩ : MethodName)) hown (mvT hZ (hw _ (List.mem_of_getElem? (i := 21) rfl))) (mvT hZ (hw _ (List.mem_of_getElem? (i := 22) rfl))) (mvT hZ (hw _ (List.mem_of_getElem? (i := 18) rfl))) (mvT hZ (hw _ (List.mem_of_getElem? (i := 23) rfl))) (by decide) (backOf (W := 0) (rmCmpW l Z a0 hw [] ca b11 cs kc n k11 (List.replicate n (.int (0 : Int32))) i_ h11 n0 Zc14 f13 V11 (hn : cs.length = n) (hb : n ≤ 4) (by simp) (by first | assumption | rfl | decide | omega : n0 ≤ b11) (by first | assumption | rfl | decide | omega : @Ne Nat ca b11) hi_ hbad_ hpre_) hZ (hw _ (List.mem_of_getElem? (i := 23) rfl)) (hw _ (List.mem_of_getElem? (i := 18) rfl)) (by decide) (by decide)) (g := (mkF m 9 #[.val (.ref ca), .val (.int (0 : Int32)), .val (.int (Int32.ofNat n)), .val (.ref b11), .unset, .unset] [(.int (Int32.ofNat n)), (.int (0 : Int32)), (.ref b11), (.int (0 : Int32)), (.ref ca)])) rfl (by rw [hml]; rfl) (argsL := [(.ref ca), (.int (0 : Int32)), (.ref b11), (.int (0 : Int32)), (.int (Int32.ofNat n))]) (rest := []) (lenOf pd___CI_BII_I rfl) rfl (by show 2 * 0 + _ ≤ _; exact Nat.le_of_eq rfl) (Jvm.hb hby d_jdk_52_method_16_9) (fun _ _ => ⟨rfl, e11, (by decide : 1 + 0 ≤ _), (by decide : 4 + 0 ≤ _)⟩)
    dsimp only [Pt.U, Pt.locs, Pt.cells, Pt.slots] at X15 l15 y15 z15 st15 hQ15
    subst l15 y15 z15
    obtain ⟨rfl, N15q, K15, Fq15_0⟩ := hQ15
    have N15 := Fr.app N0 N15q
    obtain ⟨h15, e15⟩ : ∃ z, T15.heap = z := ⟨_, rfl⟩
    rw [e15] at K15 Fq15_0
    have z16 : h11.size ≤ h15.size := K15.1
    have lt15_0 : @LT.lt Nat _ b11 h15.size := Fq15_0.lt
    have O17 : Old Z n0 h15 := ((OX.ext E11).keep K15 (allS (show n0 ≤ b11 by omega) all0))
    have f18 : Arv Z h15 ca kc .char (Int32.ofNat n) (cs.map Value.int) (.int (0 : Int32)) := (f13.keep K15 (ninS (show @Ne Nat ca b11 by omega) nin0))
    have Zc19 : n0 ≤ h15.size := by omega
    obtain ⟨_, _, ⟨T20, L20, k20, n20⟩, -, X20, ⟨Lc20, hQ20, l20, y20, z20⟩, st20⟩ := Jvm.LawKit.callS X15 hx (y := (⟨"java/lang/StringUTF16", "toBytes", "([CII)[B"⟩ : MethodName)) hown (mvT hZ (hw _ (List.mem_of_getElem? (i := 75) rfl))) (mvT hZ (hw _ (List.mem_of_getElem? (i := 76) rfl))) (mvT hZ (hw _ (List.mem_of_getElem? (i := 18) rfl))) (mvT hZ (hw _ (List.mem_of_getElem? (i := 77) rfl))) (by decide) (backOf (W := 0) (rmTo l Z a0 hw [] ca cs kc n h15 n0 Zc19 I1 I2 I3 O17 f18 (hn : cs.length = n) (hb : n ≤ 4)) hZ (hw _ (List.mem_of_getElem? (i := 77) rfl)) (hw _ (List.mem_of_getElem? (i := 18) rfl)) (by decide) (by decide)) (g := (mkF m 23 #[.val (.ref ca), .val (.int (0 : Int32)), .val (.int (Int32.ofNat n)), .val (.ref b11), .val (.int (Int32.ofNat i_)), .unset] [(.int (Int32.ofNat n)), (.int (0 : Int32)), (.ref ca)])) rfl (by rw [hml]; rfl) (argsL := [(.ref ca), (.int (0 : Int32)), (.int (Int32.ofNat n))]) (rest := []) (lenOf pd___CII__B rfl) rfl (by show 2 * 0 + _ ≤ _; exact Nat.le_of_eq rfl) (Jvm.hb hby d_jdk_52_method_16_23) (fun _ _ => ⟨rfl, e15, (by decide : 1 + 1 ≤ _), (by decide : 4 + 8 ≤ _)⟩)
    dsimp only [Pt.U, Pt.locs, Pt.cells, Pt.slots] at X20 l20 y20 z20 st20 hQ20
    subst l20 y20 z20
    obtain ⟨b_20, kb_20, rfl, N20q, K20, Fq20_0, P20_0⟩ := hQ20
    have N20 := Fr.app N15 N20q
    obtain ⟨h20, e20⟩ : ∃ z, T20.heap = z := ⟨_, rfl⟩
    rw [e20] at K20 Fq20_0
    have z21 : h15.size ≤ h20.size := K20.1
    have lt20_0 : @LT.lt Nat _ b_20 h20.size := Fq20_0.lt
    have O22 : Old Z n0 h20 := (O17.keep K20 all0)
    have Zc23 : n0 ≤ h20.size := by omega
    obtain ⟨_, _, ⟨T24, L24, k24, n24⟩, -, X24, ⟨Lc24, hQ24, l24, y24, z24⟩, st24⟩ := Jvm.LawKit.callS X20 hx (y := (⟨"java/lang/StringUTF16", "getChar", "([BI)C"⟩ : MethodName)) hown (mvT hZ (hw _ (List.mem_of_getElem? (i := 91) rfl))) (mvT hZ (hw _ (List.mem_of_getElem? (i := 92) rfl))) (mvT hZ (hw _ (List.mem_of_getElem? (i := 18) rfl))) (mvT hZ (hw _ (List.mem_of_getElem? (i := 93) rfl))) (by decide) (backOf (W := 0) (rmGet l Z a0 hw [] b_20 kb_20 (own_wide cs) n i_ (cs.getD i_ 0) h20 n0 Zc23 I1 I2 I3 O22 Fq20_0 (hb : n ≤ 4) hi_ (own_wide0 _ cs i_ (by omega)) (own_wide1 _ cs i_ (by omega)) (hchs _ (own_mem cs i_ (by omega))).1 (hchs _ (own_mem cs i_ (by omega))).2) hZ (hw _ (List.mem_of_getElem? (i := 93) rfl)) (hw _ (List.mem_of_getElem? (i := 18) rfl)) (by decide) (by decide)) (g := (mkF m 32 #[.val (.ref ca), .val (.int (0 : Int32)), .val (.int (Int32.ofNat n)), .val (.ref b11), .val (.int (Int32.ofNat i_)), .val (.ref b_20)] [(.int (Int32.ofNat i_)), (.ref b_20)])) rfl (by rw [hml]; rfl) (argsL := [(.ref b_20), (.int (Int32.ofNat i_))]) (rest := []) (lenOf pd___BI_C rfl) rfl (by show 2 * 0 + _ ≤ _; exact Nat.le_of_eq rfl) (Jvm.hb hby d_jdk_52_method_16_32) (fun _ _ => ⟨rfl, e20, (by decide : 2 + 0 ≤ _), (by decide : 12 + 0 ≤ _)⟩)
    dsimp only [Pt.U, Pt.locs, Pt.cells, Pt.slots] at X24 l24 y24 z24 st24 hQ24
    subst l24 y24 z24
    obtain ⟨rfl, N24q, e24⟩ := hQ24
    have N24 := Fr.app N20 N24q
    have s25 : ∀ t_, Steps p.tables e below (T24.setTop (mkF m 56 #[.val (.ref ca), .val (.int (0 : Int32)), .val (.int (Int32.ofNat n)), .val (.ref b11), .val (.int (Int32.ofNat i_)), .val (.ref b_20)] [(.ref b_20)])) t_ → Steps p.tables e below (s₁.setTop (entryFrame m #[(.ref ca), (.int (0 : Int32)), (.int (Int32.ofNat n))] 6)) t_ := fun t_ k_ => s10 t_ (by
      show Steps p.tables e below (s₁.setTop (mkF m 0 #[.val (.ref ca), .val (.int (0 : Int32)), .val (.int (Int32.ofNat n)), .unset, .unset, .unset] [])) t_
      refine XS.iloadN X0.here hx rfl (Jvm.hb hby d_jdk_52_method_16_0) rfl ?_
      show Steps p.tables e below (s₁.setTop (mkF m 1 #[.val (.ref ca), .val (.int (0 : Int32)), .val (.int (Int32.ofNat n)), .unset, .unset, .unset] [(.int (Int32.ofNat n))])) _
      refine st11 _ ?_
      show Steps p.tables e below (T11.setTop (mkF m 3 #[.val (.ref ca), .val (.int (0 : Int32)), .val (.int (Int32.ofNat n)), .unset, .unset, .unset] [(.ref b11)])) _
      refine XS.astoreN X11.here hx rfl (Jvm.hb hby d_jdk_52_method_16_3) rfl rfl (l' := #[.val (.ref ca), .val (.int (0 : Int32)), .val (.int (Int32.ofNat n)), .val (.ref b11), .unset, .unset]) rfl ?_
      show Steps p.tables e below (T11.setTop (mkF m 4 #[.val (.ref ca), .val (.int (0 : Int32)), .val (.int (Int32.ofNat n)), .val (.ref b11), .unset, .unset] [])) _
      refine XS.aloadN X11.here hx rfl (Jvm.hb hby d_jdk_52_method_16_4) rfl rfl ?_
      show Steps p.tables e below (T11.setTop (mkF m 5 #[.val (.ref ca), .val (.int (0 : Int32)), .val (.int (Int32.ofNat n)), .val (.ref b11), .unset, .unset] [(.ref ca)])) _
      refine XS.iloadN X11.here hx rfl (Jvm.hb hby d_jdk_52_method_16_5) rfl ?_
      show Steps p.tables e below (T11.setTop (mkF m 6 #[.val (.ref ca), .val (.int (0 : Int32)), .val (.int (Int32.ofNat n)), .val (.ref b11), .unset, .unset] [(.int (0 : Int32)), (.ref ca)])) _
      refine XS.aloadN X11.here hx rfl (Jvm.hb hby d_jdk_52_method_16_6) rfl rfl ?_
      show Steps p.tables e below (T11.setTop (mkF m 7 #[.val (.ref ca), .val (.int (0 : Int32)), .val (.int (Int32.ofNat n)), .val (.ref b11), .unset, .unset] [(.ref b11), (.int (0 : Int32)), (.ref ca)])) _
      refine XS.iconst X11.here hx rfl (Jvm.hb hby d_jdk_52_method_16_7) ?_
      show Steps p.tables e below (T11.setTop (mkF m 8 #[.val (.ref ca), .val (.int (0 : Int32)), .val (.int (Int32.ofNat n)), .val (.ref b11), .unset, .unset] [(.int (0 : Int32)), (.ref b11), (.int (0 : Int32)), (.ref ca)])) _
      refine XS.iloadN X11.here hx rfl (Jvm.hb hby d_jdk_52_method_16_8) rfl ?_
      show Steps p.tables e below (T11.setTop (mkF m 9 #[.val (.ref ca), .val (.int (0 : Int32)), .val (.int (Int32.ofNat n)), .val (.ref b11), .unset, .unset] [(.int (Int32.ofNat n)), (.int (0 : Int32)), (.ref b11), (.int (0 : Int32)), (.ref ca)])) _
      refine st15 _ ?_
      show Steps p.tables e below (T15.setTop (mkF m 12 #[.val (.ref ca), .val (.int (0 : Int32)), .val (.int (Int32.ofNat n)), .val (.ref b11), .unset, .unset] [(.int (Int32.ofNat i_))])) _
      refine XS.istore X15.here hx rfl (Jvm.hb hby d_jdk_52_method_16_12) rfl (l' := #[.val (.ref ca), .val (.int (0 : Int32)), .val (.int (Int32.ofNat n)), .val (.ref b11), .val (.int (Int32.ofNat i_)), .unset]) rfl ?_
      show Steps p.tables e below (T15.setTop (mkF m 14 #[.val (.ref ca), .val (.int (0 : Int32)), .val (.int (Int32.ofNat n)), .val (.ref b11), .val (.int (Int32.ofNat i_)), .unset] [])) _
      refine XS.iload X15.here hx rfl (Jvm.hb hby d_jdk_52_method_16_14) rfl ?_
      show Steps p.tables e below (T15.setTop (mkF m 16 #[.val (.ref ca), .val (.int (0 : Int32)), .val (.int (Int32.ofNat n)), .val (.ref b11), .val (.int (Int32.ofNat i_)), .unset] [(.int (Int32.ofNat i_))])) _
      refine XS.iloadN X15.here hx rfl (Jvm.hb hby d_jdk_52_method_16_16) rfl ?_
      show Steps p.tables e below (T15.setTop (mkF m 17 #[.val (.ref ca), .val (.int (0 : Int32)), .val (.int (Int32.ofNat n)), .val (.ref b11), .val (.int (Int32.ofNat i_)), .unset] [(.int (Int32.ofNat n)), (.int (Int32.ofNat i_))])) _
      refine XS.icmpNo X15.here hx rfl (Jvm.hb hby d_jdk_52_method_16_17) rfl (feq (fun e => by have := own_inj (by omega) (by omega) e; omega)).1 ?_
      show Steps p.tables e below (T15.setTop (mkF m 20 #[.val (.ref ca), .val (.int (0 : Int32)), .val (.int (Int32.ofNat n)), .val (.ref b11), .val (.int (Int32.ofNat i_)), .unset] [])) _
      refine XS.aloadN X15.here hx rfl (Jvm.hb hby d_jdk_52_method_16_20) rfl rfl ?_
      show Steps p.tables e below (T15.setTop (mkF m 21 #[.val (.ref ca), .val (.int (0 : Int32)), .val (.int (Int32.ofNat n)), .val (.ref b11), .val (.int (Int32.ofNat i_)), .unset] [(.ref ca)])) _
      refine XS.iloadN X15.here hx rfl (Jvm.hb hby d_jdk_52_method_16_21) rfl ?_
      show Steps p.tables e below (T15.setTop (mkF m 22 #[.val (.ref ca), .val (.int (0 : Int32)), .val (.int (Int32.ofNat n)), .val (.ref b11), .val (.int (Int32.ofNat i_)), .unset] [(.int (0 : Int32)), (.ref ca)])) _
      refine XS.iloadN X15.here hx rfl (Jvm.hb hby d_jdk_52_method_16_22) rfl ?_
      show Steps p.tables e below (T15.setTop (mkF m 23 #[.val (.ref ca), .val (.int (0 : Int32)), .val (.int (Int32.ofNat n)), .val (.ref b11), .val (.int (Int32.ofNat i_)), .unset] [(.int (Int32.ofNat n)), (.int (0 : Int32)), (.ref ca)])) _
      refine st20 _ ?_
      show Steps p.tables e below (T20.setTop (mkF m 26 #[.val (.ref ca), .val (.int (0 : Int32)), .val (.int (Int32.ofNat n)), .val (.ref b11), .val (.int (Int32.ofNat i_)), .unset] [(.ref b_20)])) _
      refine XS.astore X20.here hx rfl (Jvm.hb hby d_jdk_52_method_16_26) rfl rfl (l' := #[.val (.ref ca), .val (.int (0 : Int32)), .val (.int (Int32.ofNat n)), .val (.ref b11), .val (.int (Int32.ofNat i_)), .val (.ref b_20)]) rfl ?_
      show Steps p.tables e below (T20.setTop (mkF m 28 #[.val (.ref ca), .val (.int (0 : Int32)), .val (.int (Int32.ofNat n)), .val (.ref b11), .val (.int (Int32.ofNat i_)), .val (.ref b_20)] [])) _
      refine XS.aload X20.here hx rfl (Jvm.hb hby d_jdk_52_method_16_28) rfl rfl ?_
      show Steps p.tables e below (T20.setTop (mkF m 30 #[.val (.ref ca), .val (.int (0 : Int32)), .val (.int (Int32.ofNat n)), .val (.ref b11), .val (.int (Int32.ofNat i_)), .val (.ref b_20)] [(.ref b_20)])) _
      refine XS.iload X20.here hx rfl (Jvm.hb hby d_jdk_52_method_16_30) rfl ?_
      show Steps p.tables e below (T20.setTop (mkF m 32 #[.val (.ref ca), .val (.int (0 : Int32)), .val (.int (Int32.ofNat n)), .val (.ref b11), .val (.int (Int32.ofNat i_)), .val (.ref b_20)] [(.int (Int32.ofNat i_)), (.ref b_20)])) _
      refine st24 _ ?_
      show Steps p.tables e below (T24.setTop (mkF m 35 #[.val (.ref ca), .val (.int (0 : Int32)), .val (.int (Int32.ofNat n)), .val (.ref b11), .val (.int (Int32.ofNat i_)), .val (.ref b_20)] [(.int (cs.getD i_ 0))])) _
      refine XS.sipush X24.here hx rfl (Jvm.hb hby d_jdk_52_method_16_35) ?_
      show Steps p.tables e below (T24.setTop (mkF m 38 #[.val (.ref ca), .val (.int (0 : Int32)), .val (.int (Int32.ofNat n)), .val (.ref b11), .val (.int (Int32.ofNat i_)), .val (.ref b_20)] [(.int (255 : Int32)), (.int (cs.getD i_ 0))])) _
      refine XS.icmpYes X24.here hx rfl (pc0 := 38) (pc' := 54) rfl (Jvm.hb hby d_jdk_52_method_16_38) rfl (tlt hbad_).2.2.1 (by decide) (by decide) ?_
      show Steps p.tables e below (T24.setTop (mkF m 54 #[.val (.ref ca), .val (.int (0 : Int32)), .val (.int (Int32.ofNat n)), .val (.ref b11), .val (.int (Int32.ofNat i_)), .val (.ref b_20)] [])) _
      refine XS.aload X24.here hx rfl (Jvm.hb hby d_jdk_52_method_16_54) rfl rfl ?_
      show Steps p.tables e below (T24.setTop (mkF m 56 #[.val (.ref ca), .val (.int (0 : Int32)), .val (.int (Int32.ofNat n)), .val (.ref b11), .val (.int (Int32.ofNat i_)), .val (.ref b_20)] [(.ref b_20)])) _
      show Steps p.tables e below (T24.setTop (mkF m 56 #[.val (.ref ca), .val (.int (0 : Int32)), .val (.int (Int32.ofNat n)), .val (.ref b11), .val (.int (Int32.ofNat i_)), .val (.ref b_20)] [(.ref b_20)])) t_
      exact k_)
    obtain ⟨fs, hr, hrun, hended, hW, hsame⟩ := X24.leave (v := some (.ref b_20)) (fun h => by rw [Bd.returns] at h; cases h)
    refine ⟨_, _, s25 _ ?_, hrun, hended, _, _, rfl, ?_, ⟨_, rfl⟩, hW, hsame.mono (by decide) (by decide)⟩
    · show Steps p.tables e below (T24.setTop (mkF m 56 #[.val (.ref ca), .val (.int (0 : Int32)), .val (.int (Int32.ofNat n)), .val (.ref b11), .val (.int (Int32.ofNat i_)), .val (.ref b_20)] [(.ref b_20)])) _
      jvm_step X24.here [X24.here.top, hx, (Jvm.hb hby d_jdk_52_method_16_56), X24.method', Bd.returns, Value.isRef, FieldType.isReference]
      first | (intro acts; rw [hr _ acts rfl rfl rfl]) | rw [hr _ _ rfl rfl rfl]
      exact Steps.refl _
    · show Q_rmComp Z _ _ _ _ h0 n0 _ T24.heap _
      rw [e24]
      exact ⟨b_20, kb_20, rfl, N24, ((((Keep.refl h0 []).ext E11).trans K15 (allS (Or.inr (show h0.size ≤ b11 by omega)) all0)).trans K20 all0), (own_fixW h1 Fq20_0 hn), by omega⟩
theorem pn_java_lang_String : plainName "java/lang/String" = true := by first | (simp [plainName, overriddenIn]; done) | decide +kernel
theorem d_jdk_42_method_149_0 : decode jdk_42_method_149_code 0 = .ok (.aload_n 0, 1) := by decide +kernel
theorem d_jdk_42_method_149_1 : decode jdk_42_method_149_code 1 = .ok (.invokespecial 1, 3) := by decide +kernel
theorem d_jdk_42_method_149_4 : decode jdk_42_method_149_code 4 = .ok (.iload_n 3, 1) := by decide +kernel
theorem d_jdk_42_method_149_5 : decode jdk_42_method_149_code 5 = .ok (.ifCond .ne 22, 3) := by decide +kernel
theorem d_jdk_42_method_149_27 : decode jdk_42_method_149_code 27 = .ok (.getstatic 38, 3) := by decide +kernel
theorem d_jdk_42_method_149_30 : decode jdk_42_method_149_code 30 = .ok (.ifCond .eq 28, 3) := by decide +kernel
theorem d_jdk_42_method_149_33 : decode jdk_42_method_149_code 33 = .ok (.aload_n 1, 1) := by decide +kernel
theorem d_jdk_42_method_149_34 : decode jdk_42_method_149_code 34 = .ok (.iload_n 2, 1) := by decide +kernel
theorem d_jdk_42_method_149_35 : decode jdk_42_method_149_code 35 = .ok (.iload_n 3, 1) := by decide +kernel
theorem d_jdk_42_method_149_36 : decode jdk_42_method_149_code 36 = .ok (.invokestatic 177, 3) := by decide +kernel
theorem d_jdk_42_method_149_39 : decode jdk_42_method_149_code 39 = .ok (.astore 5, 2) := by decide +kernel
theorem d_jdk_42_method_149_41 : decode jdk_42_method_149_code 41 = .ok (.aload_n 0, 1) := by decide +kernel
theorem d_jdk_42_method_149_42 : decode jdk_42_method_149_code 42 = .ok (.aload 5, 2) := by decide +kernel
theorem d_jdk_42_method_149_44 : decode jdk_42_method_149_code 44 = .ok (.iload_n 3, 1) := by decide +kernel
theorem pd___BI_B : parseMethodDescriptor "([BI)B" = some ⟨[(.array .byte), .int], some .byte⟩ := by decide +kernel
theorem d_jdk_42_method_149_45 : decode jdk_42_method_149_code 45 = .ok (.invokestatic 47, 3) := by decide +kernel
theorem d_jdk_42_method_149_48 : decode jdk_42_method_149_code 48 = .ok (.putfield 15, 3) := by decide +kernel
theorem d_jdk_42_method_149_51 : decode jdk_42_method_149_code 51 = .ok (.aload_n 0, 1) := by decide +kernel
theorem d_jdk_42_method_149_52 : decode jdk_42_method_149_code 52 = .ok (.aload 5, 2) := by decide +kernel
theorem d_jdk_42_method_149_54 : decode jdk_42_method_149_code 54 = .ok (.putfield 9, 3) := by decide +kernel
theorem d_jdk_42_method_149_57 : decode jdk_42_method_149_code 57 = .ok (.return_, 1) := by decide +kernel
theorem ef_rmIni4 (m : MethodId) (x0 : Addr) (x1 : Addr) (x2 : Int32) (x3 : Int32) : entryFrame m #[(.ref x0), (.ref x1), (.int x2), (.int x3), .null] 6 = mkF m 0 #[.val (.ref x0), .val (.ref x1), .val (.int x2), .val (.int x3), .val .null, .unset] [] := by first | (simp [entryFrame, mkF, argsToLocals, Value.category]; done) | rfl
def Q_rmIni4 (Z : State) (a : Addr) (ca : Addr) (cst : Int32) (cs : List Int32) (kc : ClassId) (n : Nat) (h0 : Heap) (n0 : Nat) (v : Option Value) (h : Heap) (L : List Loc) : Prop := ∃ (b : Addr), ∃ (kb : ClassId), (v = none) ∧ (Fr n0 L) ∧ (Keep h0 h [a]) ∧ (Exa Z h a "java/lang/String") ∧ (Fld Z h a "java/lang/String" "value" "[B" (.ref b)) ∧ (Fld Z h a "java/lang/String" "coder" "B" (.int (own_cod cs))) ∧ (Arv Z h b kb .byte (Int32.ofNat (own_enl cs)) (own_enc cs) (.int (0 : Int32))) ∧ (h0.size ≤ b)
set_option maxRecDepth 65536 in
set_option maxHeartbeats 40000000 in
theorem rmIni4 (l : Launch) (Z : State) (a0 : Array Value) (hw : ∀ d ∈ tables_1, d.before a0 Z = true) (ws : List Jvm.Cond) (a : Addr) (ca : Addr) (cst : Int32) (cs : List Int32) (kc : ClassId) (n : Nat) (h0 : Heap) (n0 : Nat) (Z0 : n0 ≤ h0.size) (I1 : Sta Z Z.heap "java/lang/String" "COMPACT_STRINGS" "Z" (.int cst)) (I2 : Sta Z Z.heap "java/lang/StringUTF16" "$assertionsDisabled" "Z" (.int (1 : Int32))) (I3 : Sta Z Z.heap "java/lang/StringUTF16" "HI_BYTE_SHIFT" "I" (.int (0 : Int32))) (I4 : Sta Z Z.heap "java/lang/StringUTF16" "LO_BYTE_SHIFT" "I" (.int (8 : Int32))) (OX : Old Z n0 h0) (hcst : ¬ (cst = (0 : Int32))) (I5 : Exa Z h0 a "java/lang/String") (I6 : Fld Z h0 a "java/lang/String" "value" "[B" .null) (I7 : Fld Z h0 a "java/lang/String" "coder" "B" (.int (0 : Int32))) (I8 : Arv Z h0 ca kc .char (Int32.ofNat n) (cs.map Value.int) (.int (0 : Int32))) (hn : cs.length = n) (hb : n ≤ 4) (hpos : 0 < n) (hchs : own_chs cs) (ga : n0 ≤ a) (hac : @Ne Nat a ca) :
    MetFree l (⟨"java/lang/String", "<init>", "([CIILjava/lang/Void;)V"⟩ : MethodName) (head1 (Jvm.Cond.code (⟨"java/lang/String", "<init>", "([CIILjava/lang/Void;)V"⟩ : MethodName) jdk_42_method_149_code 6 none :: ws) ({ frames := 4, cells := 2, slots := 12, locals := 57 } : Room)) (fun ar_ U => ar_ = #[(.ref a), (.ref ca), (.int (0 : Int32)), (.int (Int32.ofNat n)), .null] ∧ Z.Warmed39 U.vm ∧ U.heap = h0) (fun _ _ _ _ _ => True) (fun _ U o U' => ∃ v L, o = .returned v ∧ Q_rmIni4 Z a ca cst cs kc n h0 n0 v U'.heap L ∧ FrameEnd U o U' L ({ frames := 4, cells := 2, slots := 12, locals := 57 } : Room).cells ({ frames := 4, cells := 2, slots := 12, locals := 57 } : Room).slots) := by
  refine MetFree.of_bodySF (plainFor_of_name pn_java_lang_String) hisR ?_
  intro p e s m args below meth c s₁ Bd hml0 hP hK
  obtain ⟨rfl, hZ, hh⟩ := hP
  have hx := Bd.exec
  have hby := Bd.bytes
  have hml : c.maxLocals = 6 := hml0
  have hown : s.vm.findClass "java/lang/String" = some m.cls := findClass_of_methodNamed Bd.named
  have hnm := (name_of_methodNamed Bd.named Bd.method).1
  have X0 : Stand p l e ({ frames := 4, cells := 2, slots := 12, locals := 57 } : Room) s m #[(.ref a), (.ref ca), (.int (0 : Int32)), (.int (Int32.ofNat n)), .null] below meth c s₁ [] 0 0 := Stand.of_body Bd
  have e0 : s₁.heap = h0 := by rw [← hh, Bd.state]; rfl
  have N0 := Fr.nil n0
  have pre0 : ∀ t_, Steps p.tables e below (s₁.setTop (mkF m 0 #[.val (.ref a), .val (.ref ca), .val (.int (0 : Int32)), .val (.int (Int32.ofNat n)), .val .null, .unset] [])) t_ → Steps p.tables e below (s₁.setTop (entryFrame m #[(.ref a), (.ref ca), (.int (0 : Int32)), (.int (Int32.ofNat n)), .null] 6)) t_ := fun t_ k_ => castTop (ef_rmIni4 m a ca (0 : Int32) (Int32.ofNat n)) k_
  have lt_I5 : @LT.lt Nat _ a h0.size := I5.lt
  have lt_I6 : @LT.lt Nat _ a h0.size := I6.lt
  have lt_I7 : @LT.lt Nat _ a h0.size := I7.lt
  have lt_I8 : @LT.lt Nat _ ca h0.size := I8.lt
  obtain ⟨T1, X1, e1, st1⟩ := initO X0 hx hZ hown (hw _ (List.mem_of_getElem? (i := 12) rfl)) (hw _ (List.mem_of_getElem? (i := 13) rfl)) (hw _ (List.mem_of_getElem? (i := 14) rfl)) e0 (g := (mkF m 1 #[.val (.ref a), .val (.ref ca), .val (.int (0 : Int32)), .val (.int (Int32.ofNat n)), .val .null, .unset] [(.ref a)])) rfl (by rw [hml]; rfl) rfl (Jvm.hb hby d_jdk_42_method_149_1) (by decide) (W := 0) (by show 2 * 0 + _ ≤ _; exact Nat.le_of_eq rfl) (by decide)
  obtain ⟨T2, X2, e2, st2⟩ := getS2 X1 hx hZ hown (host := "") (Or.inl (hw _ (List.mem_of_getElem? (i := 15) rfl))) Via.refl e1 (I1.ext OX.2) (g := (mkF m 27 #[.val (.ref a), .val (.ref ca), .val (.int (0 : Int32)), .val (.int (Int32.ofNat n)), .val .null, .unset] [])) rfl (Jvm.hb hby d_jdk_42_method_149_27)
  have Zc3 : n0 ≤ h0.size := by omega
  obtain ⟨_, _, ⟨T4, L4, k4, n4⟩, -, X4, ⟨Lc4, hQ4, l4, y4, z4⟩, st4⟩ := Jvm.LawKit.callS X2 hx (y := (⟨"java/lang/StringUTF16", "compress", "([CII)[B"⟩ : MethodName)) hown (mvT hZ (hw _ (List.mem_of_getElem? (i := 16) rfl))) (mvT hZ (hw _ (List.mem_of_getElem? (i := 17) rfl))) (mvT hZ (hw _ (List.mem_of_getElem? (i := 18) rfl))) (mvT hZ (hw _ (List.mem_of_getElem? (i := 19) rfl))) (by decide) (backOf (W := 0) (rmComp l Z a0 hw [] ca cs kc n h0 n0 Zc3 I2 I3 I4 OX I8 (hn : cs.length = n) (hb : n ≤ 4) (hchs : own_chs cs)) hZ (hw _ (List.mem_of_getElem? (i := 19) rfl)) (hw _ (List.mem_of_getElem? (i := 18) rfl)) (by decide) (by decide)) (g := (mkF m 36 #[.val (.ref a), .val (.ref ca), .val (.int (0 : Int32)), .val (.int (Int32.ofNat n)), .val .null, .unset] [(.int (Int32.ofNat n)), (.int (0 : Int32)), (.ref ca)])) rfl (by rw [hml]; rfl) (argsL := [(.ref ca), (.int (0 : Int32)), (.int (Int32.ofNat n))]) (rest := []) (lenOf pd___CII__B rfl) rfl (by show 2 * 0 + _ ≤ _; exact Nat.le_of_eq rfl) (Jvm.hb hby d_jdk_42_method_149_36) (fun _ _ => ⟨rfl, e2, (by decide : 0 + 2 ≤ _), (by decide : 0 + 12 ≤ _)⟩)
  dsimp only [Pt.U, Pt.locs, Pt.cells, Pt.slots] at X4 l4 y4 z4 st4 hQ4
  subst l4 y4 z4
  obtain ⟨b_4, kb_4, rfl, N4q, K4, Fq4_0, P4_0⟩ := hQ4
  have N4 := Fr.app N0 N4q
  obtain ⟨h4, e4⟩ : ∃ z, T4.heap = z := ⟨_, rfl⟩
  rw [e4] at K4 Fq4_0
  have z5 : h0.size ≤ h4.size := K4.1
  have lt4_0 : @LT.lt Nat _ b_4 h4.size := Fq4_0.lt
  have Zc6 : n0 ≤ h4.size := by omega
  obtain ⟨_, _, ⟨T7, L7, k7, n7⟩, -, X7, ⟨Lc7, hQ7, l7, y7, z7⟩, st7⟩ := Jvm.LawKit.callS X4 hx (y := (⟨"java/lang/StringUTF16", "coderFromArrayLen", "([BI)B"⟩ : MethodName)) hown (mvT hZ (hw _ (List.mem_of_getElem? (i := 24) rfl))) (mvT hZ (hw _ (List.mem_of_getElem? (i := 25) rfl))) (mvT hZ (hw _ (List.mem_of_getElem? (i := 18) rfl))) (mvT hZ (hw _ (List.mem_of_getElem? (i := 26) rfl))) (by decide) (backOf (W := 1) (rmCod l Z a0 hw [] b_4 (Int32.ofNat n) kb_4 (Int32.ofNat (own_enl cs)) (own_enc cs) h4 n0 Zc6 Fq4_0) hZ (hw _ (List.mem_of_getElem? (i := 26) rfl)) (hw _ (List.mem_of_getElem? (i := 18) rfl)) (by decide) (by decide)) (g := (mkF m 45 #[.val (.ref a), .val (.ref ca), .val (.int (0 : Int32)), .val (.int (Int32.ofNat n)), .val .null, .val (.ref b_4)] [(.int (Int32.ofNat n)), (.ref b_4), (.ref a)])) rfl (by rw [hml]; rfl) (argsL := [(.ref b_4), (.int (Int32.ofNat n))]) (rest := [(.ref a)]) (lenOf pd___BI_B rfl) rfl (by show 2 * 0 + _ ≤ _; exact Nat.le_of_eq rfl) (Jvm.hb hby d_jdk_42_method_149_45) (fun _ _ => ⟨rfl, e4, (by decide : 2 + 0 ≤ _), (by decide : 12 + 0 ≤ _)⟩)
  dsimp only [Pt.U, Pt.locs, Pt.cells, Pt.slots] at X7 l7 y7 z7 st7 hQ7
  subst l7 y7 z7
  obtain ⟨rfl, N7q, e7⟩ := hQ7
  have N7 := Fr.app N4 N7q
  have f8 : Exa Z h4 a "java/lang/String" := (I5.keep K4)
  have f9 : Fld Z h4 a "java/lang/String" "coder" "B" (.int (0 : Int32)) := (I7.keep K4 nin0)
  obtain ⟨T10, h10, X10, e10, W10, st10⟩ := putFN X7 hx hZ hown (hw _ (List.mem_of_getElem? (i := 27) rfl)) Via.refl e7 f9 f8 (Or.inr ⟨(hw _ (List.mem_of_getElem? (i := 28) rfl)), rfl, hnm⟩) (hw _ (List.mem_of_getElem? (i := 3) rfl)) (ty := .byte) (v' := (.int (own_cod cs))) (by decide) (own_cnar cs) (own_cfit cs) (g := (mkF m 48 #[.val (.ref a), .val (.ref ca), .val (.int (0 : Int32)), .val (.int (Int32.ofNat n)), .val .null, .val (.ref b_4)] [(.int (own_cod cs)), (.ref a)])) rfl rfl (Jvm.hb hby d_jdk_42_method_149_48)
  have z11 : h4.size ≤ h10.size := Nat.le_of_eq W10.size.symm
  have F10 : Fld Z h10 a "java/lang/String" "coder" "B" (.int (own_cod cs)) := f9.same W10
  have N10 := Fr.snoc X10 N7 (show n0 ≤ a by omega)
  have f12 : Exa Z h10 a "java/lang/String" := (f8.wr W10)
  have f13 : Fld Z h10 a "java/lang/String" "value" "[B" .null := ((I6.keep K4 nin0).other W10 (Or.inr (slot_ne (Or.inr (hw _ (List.mem_of_getElem? (i := 30) rfl))) (Or.inr (hw _ (List.mem_of_getElem? (i := 28) rfl))) (by decide) (t := (.array .byte)) (t' := .byte) (by decide) (by decide))))
  obtain ⟨T14, h14, X14, e14, W14, st14⟩ := putF X10 hx hZ hown (host := "") (Or.inl (hw _ (List.mem_of_getElem? (i := 29) rfl))) Via.refl e10 f13 f12 (Or.inr ⟨(hw _ (List.mem_of_getElem? (i := 30) rfl)), rfl, hnm⟩) (hw _ (List.mem_of_getElem? (i := 3) rfl)) (ty := (.array .byte)) (by decide) rfl rfl (g := (mkF m 54 #[.val (.ref a), .val (.ref ca), .val (.int (0 : Int32)), .val (.int (Int32.ofNat n)), .val .null, .val (.ref b_4)] [(.ref b_4), (.ref a)])) rfl rfl (Jvm.hb hby d_jdk_42_method_149_54)
  have z15 : h10.size ≤ h14.size := Nat.le_of_eq W14.size.symm
  have F14 : Fld Z h14 a "java/lang/String" "value" "[B" (.ref b_4) := f13.same W14
  have N14 := Fr.snoc X14 N10 (show n0 ≤ a by omega)
  have s16 : ∀ t_, Steps p.tables e below (T14.setTop (mkF m 57 #[.val (.ref a), .val (.ref ca), .val (.int (0 : Int32)), .val (.int (Int32.ofNat n)), .val .null, .val (.ref b_4)] [])) t_ → Steps p.tables e below (s₁.setTop (entryFrame m #[(.ref a), (.ref ca), (.int (0 : Int32)), (.int (Int32.ofNat n)), .null] 6)) t_ := fun t_ k_ => pre0 t_ (by
    show Steps p.tables e below (s₁.setTop (mkF m 0 #[.val (.ref a), .val (.ref ca), .val (.int (0 : Int32)), .val (.int (Int32.ofNat n)), .val .null, .unset] [])) t_
    refine XS.aloadN X0.here hx rfl (Jvm.hb hby d_jdk_42_method_149_0) rfl rfl ?_
    show Steps p.tables e below (s₁.setTop (mkF m 1 #[.val (.ref a), .val (.ref ca), .val (.int (0 : Int32)), .val (.int (Int32.ofNat n)), .val .null, .unset] [(.ref a)])) _
    refine st1 _ ?_
    show Steps p.tables e below (T1.setTop (mkF m 4 #[.val (.ref a), .val (.ref ca), .val (.int (0 : Int32)), .val (.int (Int32.ofNat n)), .val .null, .unset] [])) _
    refine XS.iloadN X1.here hx rfl (Jvm.hb hby d_jdk_42_method_149_4) rfl ?_
    show Steps p.tables e below (T1.setTop (mkF m 5 #[.val (.ref a), .val (.ref ca), .val (.int (0 : Int32)), .val (.int (Int32.ofNat n)), .val .null, .unset] [(.int (Int32.ofNat n))])) _
    refine XS.ifYes X1.here hx rfl (pc0 := 5) (pc' := 27) rfl (Jvm.hb hby d_jdk_42_method_149_5) rfl ((if0 _ _).trans (feq (own_ne0 hpos (by omega))).2) (by decide) (by decide) ?_
    show Steps p.tables e below (T1.setTop (mkF m 27 #[.val (.ref a), .val (.ref ca), .val (.int (0 : Int32)), .val (.int (Int32.ofNat n)), .val .null, .unset] [])) _
    refine st2 _ ?_
    show Steps p.tables e below (T2.setTop (mkF m 30 #[.val (.ref a), .val (.ref ca), .val (.int (0 : Int32)), .val (.int (Int32.ofNat n)), .val .null, .unset] [(.int cst)])) _
    refine XS.ifNo X2.here hx rfl (Jvm.hb hby d_jdk_42_method_149_30) rfl ((if0 _ _).trans (feq hcst).1) ?_
    show Steps p.tables e below (T2.setTop (mkF m 33 #[.val (.ref a), .val (.ref ca), .val (.int (0 : Int32)), .val (.int (Int32.ofNat n)), .val .null, .unset] [])) _
    refine XS.aloadN X2.here hx rfl (Jvm.hb hby d_jdk_42_method_149_33) rfl rfl ?_
    show Steps p.tables e below (T2.setTop (mkF m 34 #[.val (.ref a), .val (.ref ca), .val (.int (0 : Int32)), .val (.int (Int32.ofNat n)), .val .null, .unset] [(.ref ca)])) _
    refine XS.iloadN X2.here hx rfl (Jvm.hb hby d_jdk_42_method_149_34) rfl ?_
    show Steps p.tables e below (T2.setTop (mkF m 35 #[.val (.ref a), .val (.ref ca), .val (.int (0 : Int32)), .val (.int (Int32.ofNat n)), .val .null, .unset] [(.int (0 : Int32)), (.ref ca)])) _
    refine XS.iloadN X2.here hx rfl (Jvm.hb hby d_jdk_42_method_149_35) rfl ?_
    show Steps p.tables e below (T2.setTop (mkF m 36 #[.val (.ref a), .val (.ref ca), .val (.int (0 : Int32)), .val (.int (Int32.ofNat n)), .val .null, .unset] [(.int (Int32.ofNat n)), (.int (0 : Int32)), (.ref ca)])) _
    refine st4 _ ?_
    show Steps p.tables e below (T4.setTop (mkF m 39 #[.val (.ref a), .val (.ref ca), .val (.int (0 : Int32)), .val (.int (Int32.ofNat n)), .val .null, .unset] [(.ref b_4)])) _
    refine XS.astore X4.here hx rfl (Jvm.hb hby d_jdk_42_method_149_39) rfl rfl (l' := #[.val (.ref a), .val (.ref ca), .val (.int (0 : Int32)), .val (.int (Int32.ofNat n)), .val .null, .val (.ref b_4)]) rfl ?_
    show Steps p.tables e below (T4.setTop (mkF m 41 #[.val (.ref a), .val (.ref ca), .val (.int (0 : Int32)), .val (.int (Int32.ofNat n)), .val .null, .val (.ref b_4)] [])) _
    refine XS.aloadN X4.here hx rfl (Jvm.hb hby d_jdk_42_method_149_41) rfl rfl ?_
    show Steps p.tables e below (T4.setTop (mkF m 42 #[.val (.ref a), .val (.ref ca), .val (.int (0 : Int32)), .val (.int (Int32.ofNat n)), .val .null, .val (.ref b_4)] [(.ref a)])) _
    refine XS.aload X4.here hx rfl (Jvm.hb hby d_jdk_42_method_149_42) rfl rfl ?_
    show Steps p.tables e below (T4.setTop (mkF m 44 #[.val (.ref a), .val (.ref ca), .val (.int (0 : Int32)), .val (.int (Int32.ofNat n)), .val .null, .val (.ref b_4)] [(.ref b_4), (.ref a)])) _
    refine XS.iloadN X4.here hx rfl (Jvm.hb hby d_jdk_42_method_149_44) rfl ?_
    show Steps p.tables e below (T4.setTop (mkF m 45 #[.val (.ref a), .val (.ref ca), .val (.int (0 : Int32)), .val (.int (Int32.ofNat n)), .val .null, .val (.ref b_4)] [(.int (Int32.ofNat n)), (.ref b_4), (.ref a)])) _
    refine st7 _ ?_
    show Steps p.tables e below (T7.setTop (mkF m 48 #[.val (.ref a), .val (.ref ca), .val (.int (0 : Int32)), .val (.int (Int32.ofNat n)), .val .null, .val (.ref b_4)] [(.int (nar .byte (own_lo (ushr ((Int32.ofNat n) - (Int32.ofNat (own_enl cs))) (31 : Int32))))), (.ref a)])) _
    refine castTop (g' := (mkF m 48 #[.val (.ref a), .val (.ref ca), .val (.int (0 : Int32)), .val (.int (Int32.ofNat n)), .val .null, .val (.ref b_4)] [(.int (own_cod cs)), (.ref a)])) (by rw [own_codl hn hpos (by omega)]) ?_
    show Steps p.tables e below (T7.setTop (mkF m 48 #[.val (.ref a), .val (.ref ca), .val (.int (0 : Int32)), .val (.int (Int32.ofNat n)), .val .null, .val (.ref b_4)] [(.int (own_cod cs)), (.ref a)])) _
    refine st10 _ ?_
    show Steps p.tables e below (T10.setTop (mkF m 51 #[.val (.ref a), .val (.ref ca), .val (.int (0 : Int32)), .val (.int (Int32.ofNat n)), .val .null, .val (.ref b_4)] [])) _
    refine XS.aloadN X10.here hx rfl (Jvm.hb hby d_jdk_42_method_149_51) rfl rfl ?_
    show Steps p.tables e below (T10.setTop (mkF m 52 #[.val (.ref a), .val (.ref ca), .val (.int (0 : Int32)), .val (.int (Int32.ofNat n)), .val .null, .val (.ref b_4)] [(.ref a)])) _
    refine XS.aload X10.here hx rfl (Jvm.hb hby d_jdk_42_method_149_52) rfl rfl ?_
    show Steps p.tables e below (T10.setTop (mkF m 54 #[.val (.ref a), .val (.ref ca), .val (.int (0 : Int32)), .val (.int (Int32.ofNat n)), .val .null, .val (.ref b_4)] [(.ref b_4), (.ref a)])) _
    refine st14 _ ?_
    show Steps p.tables e below (T14.setTop (mkF m 57 #[.val (.ref a), .val (.ref ca), .val (.int (0 : Int32)), .val (.int (Int32.ofNat n)), .val .null, .val (.ref b_4)] [])) _
    show Steps p.tables e below (T14.setTop (mkF m 57 #[.val (.ref a), .val (.ref ca), .val (.int (0 : Int32)), .val (.int (Int32.ofNat n)), .val .null, .val (.ref b_4)] [])) t_
    exact k_)
  obtain ⟨fs, hr, hrun, hended, hW, hsame⟩ := X14.leave (v := none) (fun _ => rfl)
  have f17 : Arv Z h14 b_4 kb_4 .byte (Int32.ofNat (own_enl cs)) (own_enc cs) (.int (0 : Int32)) := ((Fq4_0.other W10 (show @Ne Nat b_4 a by omega)).other W14 (show @Ne Nat b_4 a by omega))
  have f18 : Exa Z h14 a "java/lang/String" := (f12.wr W14)
  have f19 : Fld Z h14 a "java/lang/String" "coder" "B" (.int (own_cod cs)) := (F10.other W14 (Or.inr (slot_ne (Or.inr (hw _ (List.mem_of_getElem? (i := 28) rfl))) (Or.inr (hw _ (List.mem_of_getElem? (i := 30) rfl))) (by decide) (t := .byte) (t' := (.array .byte)) (by decide) (by decide))))
  refine ⟨_, _, s16 _ ?_, hrun, hended, _, _, rfl, ?_, ⟨_, rfl⟩, hW, hsame.mono (by decide) (by decide)⟩
  · show Steps p.tables e below (T14.setTop (mkF m 57 #[.val (.ref a), .val (.ref ca), .val (.int (0 : Int32)), .val (.int (Int32.ofNat n)), .val .null, .val (.ref b_4)] [])) _
    exact X14.returnOut hx Bd.returns (Jvm.hb hby d_jdk_42_method_149_57) hr
  · show Q_rmIni4 Z _ _ _ _ _ _ h0 n0 _ T14.heap _
    rw [e14]
    exact ⟨b_4, kb_4, rfl, N14, ((((Keep.refl h0 [a]).trans K4 all0).wr W10 (Or.inl (by simp))).wr W14 (Or.inl (by simp))), f18, F14, f19, f17, by omega⟩
theorem d_jdk_42_method_3_0 : decode jdk_42_method_3_code 0 = .ok (.aload_n 0, 1) := by decide +kernel
theorem d_jdk_42_method_3_1 : decode jdk_42_method_3_code 1 = .ok (.aload_n 1, 1) := by decide +kernel
theorem d_jdk_42_method_3_2 : decode jdk_42_method_3_code 2 = .ok (.iconst 0, 1) := by decide +kernel
theorem d_jdk_42_method_3_3 : decode jdk_42_method_3_code 3 = .ok (.aload_n 1, 1) := by decide +kernel
theorem d_jdk_42_method_3_4 : decode jdk_42_method_3_code 4 = .ok (.arraylength, 1) := by decide +kernel
theorem d_jdk_42_method_3_5 : decode jdk_42_method_3_code 5 = .ok (.aconst_null, 1) := by decide +kernel
theorem pd___CIILjava_lang_Void__V : parseMethodDescriptor "([CIILjava/lang/Void;)V" = some ⟨[(.array .char), .int, .int, (.object "java/lang/Void")], none⟩ := by decide +kernel
theorem d_jdk_42_method_3_6 : decode jdk_42_method_3_code 6 = .ok (.invokespecial 27, 3) := by decide +kernel
theorem d_jdk_42_method_3_9 : decode jdk_42_method_3_code 9 = .ok (.return_, 1) := by decide +kernel
theorem ef_rmIni1 (m : MethodId) (x0 : Addr) (x1 : Addr) : entryFrame m #[(.ref x0), (.ref x1)] 2 = mkF m 0 #[.val (.ref x0), .val (.ref x1)] [] := by first | (simp [entryFrame, mkF, argsToLocals, Value.category]; done) | rfl
def Q_rmIni1 (Z : State) (a : Addr) (ca : Addr) (cst : Int32) (cs : List Int32) (kc : ClassId) (n : Nat) (h0 : Heap) (n0 : Nat) (v : Option Value) (h : Heap) (L : List Loc) : Prop := ∃ (b : Addr), ∃ (kb : ClassId), (v = none) ∧ (Fr n0 L) ∧ (Keep h0 h [a]) ∧ (Exa Z h a "java/lang/String") ∧ (Fld Z h a "java/lang/String" "value" "[B" (.ref b)) ∧ (Fld Z h a "java/lang/String" "coder" "B" (.int (own_cod cs))) ∧ (Arv Z h b kb .byte (Int32.ofNat (own_enl cs)) (own_enc cs) (.int (0 : Int32))) ∧ (h0.size ≤ b)
set_option maxRecDepth 65536 in
set_option maxHeartbeats 40000000 in
theorem rmIni1 (l : Launch) (Z : State) (a0 : Array Value) (hw : ∀ d ∈ tables_1, d.before a0 Z = true) (ws : List Jvm.Cond) (a : Addr) (ca : Addr) (cst : Int32) (cs : List Int32) (kc : ClassId) (n : Nat) (h0 : Heap) (n0 : Nat) (Z0 : n0 ≤ h0.size) (I1 : Sta Z Z.heap "java/lang/String" "COMPACT_STRINGS" "Z" (.int cst)) (I2 : Sta Z Z.heap "java/lang/StringUTF16" "$assertionsDisabled" "Z" (.int (1 : Int32))) (I3 : Sta Z Z.heap "java/lang/StringUTF16" "HI_BYTE_SHIFT" "I" (.int (0 : Int32))) (I4 : Sta Z Z.heap "java/lang/StringUTF16" "LO_BYTE_SHIFT" "I" (.int (8 : Int32))) (OX : Old Z n0 h0) (hcst : ¬ (cst = (0 : Int32))) (I5 : Exa Z h0 a "java/lang/String") (I6 : Fld Z h0 a "java/lang/String" "value" "[B" .null) (I7 : Fld Z h0 a "java/lang/String" "coder" "B" (.int (0 : Int32))) (I8 : Arv Z h0 ca kc .char (Int32.ofNat n) (cs.map Value.int) (.int (0 : Int32))) (hn : cs.length = n) (hb : n ≤ 4) (hpos : 0 < n) (hchs : own_chs cs) (ga : n0 ≤ a) (hac : @Ne Nat a ca) :
    MetFree l (⟨"java/lang/String", "<init>", "([C)V"⟩ : MethodName) (head1 (Jvm.Cond.code (⟨"java/lang/String", "<init>", "([C)V"⟩ : MethodName) jdk_42_method_3_code 2 none :: ws) ({ frames := 5, cells := 2, slots := 12, locals := 74 } : Room)) (fun ar_ U => ar_ = #[(.ref a), (.ref ca)] ∧ Z.Warmed39 U.vm ∧ U.heap = h0) (fun _ _ _ _ _ => True) (fun _ U o U' => ∃ v L, o = .returned v ∧ Q_rmIni1 Z a ca cst cs kc n h0 n0 v U'.heap L ∧ FrameEnd U o U' L ({ frames := 5, cells := 2, slots := 12, locals := 74 } : Room).cells ({ frames := 5, cells := 2, slots := 12, locals := 74 } : Room).slots) := by
  refine MetFree.of_bodySF (plainFor_of_name pn_java_lang_String) hisR ?_
  intro p e s m args below meth c s₁ Bd hml0 hP hK
  obtain ⟨rfl, hZ, hh⟩ := hP
  have hx := Bd.exec
  have hby := Bd.bytes
  have hml : c.maxLocals = 2 := hml0
  have hown : s.vm.findClass "java/lang/String" = some m.cls := findClass_of_methodNamed Bd.named
  have hnm := (name_of_methodNamed Bd.named Bd.method).1
  have X0 : Stand p l e ({ frames := 5, cells := 2, slots := 12, locals := 74 } : Room) s m #[(.ref a), (.ref ca)] below meth c s₁ [] 0 0 := Stand.of_body Bd
  have e0 : s₁.heap = h0 := by rw [← hh, Bd.state]; rfl
  have N0 := Fr.nil n0
  have pre0 : ∀ t_, Steps p.tables e below (s₁.setTop (mkF m 0 #[.val (.ref a), .val (.ref ca)] [])) t_ → Steps p.tables e below (s₁.setTop (entryFrame m #[(.ref a), (.ref ca)] 2)) t_ := fun t_ k_ => castTop (ef_rmIni1 m a ca) k_
  have lt_I5 : @LT.lt Nat _ a h0.size := I5.lt
  have lt_I6 : @LT.lt Nat _ a h0.size := I6.lt
  have lt_I7 : @LT.lt Nat _ a h0.size := I7.lt
  have lt_I8 : @LT.lt Nat _ ca h0.size := I8.lt
  obtain ⟨cl1, Ar1, -, S1, M1, -, -⟩ := id I8
  have Zc2 : n0 ≤ h0.size := by omega
  obtain ⟨_, _, ⟨T3, L3, k3, n3⟩, -, X3, ⟨Lc3, hQ3, l3, y3, z3⟩, st3⟩ := X0.specialBack hx (y := (⟨"java/lang/String", "<init>", "([CIILjava/lang/Void;)V"⟩ : MethodName)) rfl hown (mvT hZ (hw _ (List.mem_of_getElem? (i := 8) rfl))) (mvT hZ (hw _ (List.mem_of_getElem? (i := 9) rfl))) (mvT hZ (hw _ (List.mem_of_getElem? (i := 11) rfl))) (by decide) (backOf (W := 0) (rmIni4 l Z a0 hw [] a ca cst cs kc n h0 n0 Zc2 I1 I2 I3 I4 OX (hcst : ¬ (cst = (0 : Int32))) I5 I6 I7 I8 (hn : cs.length = n) (hb : n ≤ 4) (hpos : 0 < n) (hchs : own_chs cs) (ga : n0 ≤ a) (hac : @Ne Nat a ca)) hZ (hw _ (List.mem_of_getElem? (i := 11) rfl)) (hw _ (List.mem_of_getElem? (i := 4) rfl)) (by decide) (by decide)) (g := (mkF m 6 #[.val (.ref a), .val (.ref ca)] [.null, (.int (Int32.ofNat n)), (.int (0 : Int32)), (.ref ca), (.ref a)])) rfl (by rw [hml]; rfl) (Steps.refl _) (a := a) (argsL := [(.ref ca), (.int (0 : Int32)), (.int (Int32.ofNat n)), .null]) (rest := []) (lenOf pd___CIILjava_lang_Void__V rfl) rfl (by show 2 * 0 + _ ≤ _; exact Nat.le_of_eq rfl) (Jvm.hb hby d_jdk_42_method_3_6) (fun _ _ => ⟨rfl, e0, (by decide : 0 + 2 ≤ _), (by decide : 0 + 12 ≤ _)⟩)
  dsimp only [Pt.U, Pt.locs, Pt.cells, Pt.slots] at X3 l3 y3 z3 st3 hQ3
  subst l3 y3 z3
  obtain ⟨b_3, kb_3, rfl, N3q, K3, Fq3_0, Fq3_1, Fq3_2, Fq3_3, P3_0⟩ := hQ3
  have N3 := Fr.app N0 N3q
  obtain ⟨h3, e3⟩ : ∃ z, T3.heap = z := ⟨_, rfl⟩
  rw [e3] at K3 Fq3_0 Fq3_1 Fq3_2 Fq3_3
  have z4 : h0.size ≤ h3.size := K3.1
  have lt3_0 : @LT.lt Nat _ a h3.size := Fq3_0.lt
  have lt3_3 : @LT.lt Nat _ b_3 h3.size := Fq3_3.lt
  have s5 : ∀ t_, Steps p.tables e below (T3.setTop (mkF m 9 #[.val (.ref a), .val (.ref ca)] [])) t_ → Steps p.tables e below (s₁.setTop (entryFrame m #[(.ref a), (.ref ca)] 2)) t_ := fun t_ k_ => pre0 t_ (by
    show Steps p.tables e below (s₁.setTop (mkF m 0 #[.val (.ref a), .val (.ref ca)] [])) t_
    refine XS.aloadN X0.here hx rfl (Jvm.hb hby d_jdk_42_method_3_0) rfl rfl ?_
    show Steps p.tables e below (s₁.setTop (mkF m 1 #[.val (.ref a), .val (.ref ca)] [(.ref a)])) _
    refine XS.aloadN X0.here hx rfl (Jvm.hb hby d_jdk_42_method_3_1) rfl rfl ?_
    show Steps p.tables e below (s₁.setTop (mkF m 2 #[.val (.ref a), .val (.ref ca)] [(.ref ca), (.ref a)])) _
    refine XS.iconst X0.here hx rfl (Jvm.hb hby d_jdk_42_method_3_2) ?_
    show Steps p.tables e below (s₁.setTop (mkF m 3 #[.val (.ref a), .val (.ref ca)] [(.int (0 : Int32)), (.ref ca), (.ref a)])) _
    refine XS.aloadN X0.here hx rfl (Jvm.hb hby d_jdk_42_method_3_3) rfl rfl ?_
    show Steps p.tables e below (s₁.setTop (mkF m 4 #[.val (.ref a), .val (.ref ca)] [(.ref ca), (.int (0 : Int32)), (.ref ca), (.ref a)])) _
    refine X0.arraylength hx (by rw [e0]; exact Ar1.1) (State.isArrayOf_alike hZ.alike Ar1.2.1) (g := (mkF m 4 #[.val (.ref a), .val (.ref ca)] [(.ref ca), (.int (0 : Int32)), (.ref ca), (.ref a)])) rfl rfl (Jvm.hb hby d_jdk_42_method_3_4) _ ?_
    rw [len_of S1 M1]
    show Steps p.tables e below (s₁.setTop (mkF m 5 #[.val (.ref a), .val (.ref ca)] [(.int (Int32.ofNat n)), (.int (0 : Int32)), (.ref ca), (.ref a)])) _
    refine XS.aconstNull X0.here hx rfl (Jvm.hb hby d_jdk_42_method_3_5) ?_
    show Steps p.tables e below (s₁.setTop (mkF m 6 #[.val (.ref a), .val (.ref ca)] [.null, (.int (Int32.ofNat n)), (.int (0 : Int32)), (.ref ca), (.ref a)])) _
    refine st3.trans ?_
    show Steps p.tables e below (T3.setTop (mkF m 9 #[.val (.ref a), .val (.ref ca)] [])) _
    show Steps p.tables e below (T3.setTop (mkF m 9 #[.val (.ref a), .val (.ref ca)] [])) t_
    exact k_)
  obtain ⟨fs, hr, hrun, hended, hW, hsame⟩ := X3.leave (v := none) (fun _ => rfl)
  refine ⟨_, _, s5 _ ?_, hrun, hended, _, _, rfl, ?_, ⟨_, rfl⟩, hW, hsame.mono (by decide) (by decide)⟩
  · show Steps p.tables e below (T3.setTop (mkF m 9 #[.val (.ref a), .val (.ref ca)] [])) _
    exact X3.returnOut hx Bd.returns (Jvm.hb hby d_jdk_42_method_3_9) hr
  · show Q_rmIni1 Z _ _ _ _ _ _ h0 n0 _ T3.heap _
    rw [e3]
    exact ⟨b_3, kb_3, rfl, N3, ((Keep.refl h0 [a]).trans K3 (allS (Or.inl (by simp)) all0)), Fq3_0, Fq3_1, Fq3_2, Fq3_3, by omega⟩
theorem d_jdk_42_method_152_0 : decode jdk_42_method_152_code 0 = .ok (.getstatic 38, 3) := by decide +kernel
theorem d_jdk_42_method_152_3 : decode jdk_42_method_152_code 3 = .ok (.ifCond .eq 10, 3) := by decide +kernel
theorem d_jdk_42_method_152_6 : decode jdk_42_method_152_code 6 = .ok (.aload_n 0, 1) := by decide +kernel
theorem d_jdk_42_method_152_7 : decode jdk_42_method_152_code 7 = .ok (.getfield 15, 3) := by decide +kernel
theorem d_jdk_42_method_152_10 : decode jdk_42_method_152_code 10 = .ok (.goto 4, 3) := by decide +kernel
theorem d_jdk_42_method_152_14 : decode jdk_42_method_152_code 14 = .ok (.ireturn, 1) := by decide +kernel
theorem ef_rmCdr (m : MethodId) (x0 : Addr) : entryFrame m #[(.ref x0)] 1 = mkF m 0 #[.val (.ref x0)] [] := by first | (simp [entryFrame, mkF, argsToLocals, Value.category]; done) | rfl
def Q_rmCdr (Z : State) (a : Addr) (cst : Int32) (cs : List Int32) (h0 : Heap) (n0 : Nat) (v : Option Value) (h : Heap) (L : List Loc) : Prop := (v = some (.int (own_cod cs))) ∧ (Fr n0 L) ∧ (h = h0)
set_option maxRecDepth 65536 in
set_option maxHeartbeats 40000000 in
theorem rmCdr (l : Launch) (Z : State) (a0 : Array Value) (hw : ∀ d ∈ tables_1, d.before a0 Z = true) (ws : List Jvm.Cond) (a : Addr) (cst : Int32) (cs : List Int32) (h0 : Heap) (n0 : Nat) (Z0 : n0 ≤ h0.size) (I1 : Sta Z Z.heap "java/lang/String" "COMPACT_STRINGS" "Z" (.int cst)) (OX : Old Z n0 h0) (hcst : ¬ (cst = (0 : Int32))) (I2 : Fld Z h0 a "java/lang/String" "coder" "B" (.int (own_cod cs))) :
    MetFree l (⟨"java/lang/String", "coder", "()B"⟩ : MethodName) (head1 (Jvm.Cond.code (⟨"java/lang/String", "coder", "()B"⟩ : MethodName) jdk_42_method_152_code 1 (some .byte) :: ws) ({ frames := 0, cells := 0, slots := 0, locals := 0 } : Room)) (fun ar_ U => ar_ = #[(.ref a)] ∧ Z.Warmed39 U.vm ∧ U.heap = h0) (fun _ _ _ _ _ => True) (fun _ U o U' => ∃ v L, o = .returned v ∧ Q_rmCdr Z a cst cs h0 n0 v U'.heap L ∧ FrameEnd U o U' L ({ frames := 0, cells := 0, slots := 0, locals := 0 } : Room).cells ({ frames := 0, cells := 0, slots := 0, locals := 0 } : Room).slots) := by
  refine MetFree.of_bodySF (plainFor_of_name pn_java_lang_String) hisR ?_
  intro p e s m args below meth c s₁ Bd hml0 hP hK
  obtain ⟨rfl, hZ, hh⟩ := hP
  have hx := Bd.exec
  have hby := Bd.bytes
  have hml : c.maxLocals = 1 := hml0
  have hown : s.vm.findClass "java/lang/String" = some m.cls := findClass_of_methodNamed Bd.named
  have hnm := (name_of_methodNamed Bd.named Bd.method).1
  have X0 : Stand p l e ({ frames := 0, cells := 0, slots := 0, locals := 0 } : Room) s m #[(.ref a)] below meth c s₁ [] 0 0 := Stand.of_body Bd
  have e0 : s₁.heap = h0 := by rw [← hh, Bd.state]; rfl
  have N0 := Fr.nil n0
  have pre0 : ∀ t_, Steps p.tables e below (s₁.setTop (mkF m 0 #[.val (.ref a)] [])) t_ → Steps p.tables e below (s₁.setTop (entryFrame m #[(.ref a)] 1)) t_ := fun t_ k_ => castTop (ef_rmCdr m a) k_
  have lt_I2 : @LT.lt Nat _ a h0.size := I2.lt
  obtain ⟨T1, X1, e1, st1⟩ := getS2 X0 hx hZ hown (host := "") (Or.inl (hw _ (List.mem_of_getElem? (i := 15) rfl))) Via.refl e0 (I1.ext OX.2) (g := (mkF m 0 #[.val (.ref a)] [])) rfl (Jvm.hb hby d_jdk_42_method_152_0)
  obtain ⟨T2, X2, e2, st2⟩ := getF X1 hx hZ hown (host := "") (Or.inl (hw _ (List.mem_of_getElem? (i := 27) rfl))) Via.refl e1 I2 (g := (mkF m 7 #[.val (.ref a)] [(.ref a)])) rfl rfl (Jvm.hb hby d_jdk_42_method_152_7)
  have s3 : ∀ t_, Steps p.tables e below (T2.setTop (mkF m 14 #[.val (.ref a)] [(.int (own_cod cs))])) t_ → Steps p.tables e below (s₁.setTop (entryFrame m #[(.ref a)] 1)) t_ := fun t_ k_ => pre0 t_ (by
    show Steps p.tables e below (s₁.setTop (mkF m 0 #[.val (.ref a)] [])) t_
    refine st1 _ ?_
    show Steps p.tables e below (T1.setTop (mkF m 3 #[.val (.ref a)] [(.int cst)])) _
    refine XS.ifNo X1.here hx rfl (Jvm.hb hby d_jdk_42_method_152_3) rfl ((if0 _ _).trans (feq hcst).1) ?_
    show Steps p.tables e below (T1.setTop (mkF m 6 #[.val (.ref a)] [])) _
    refine XS.aloadN X1.here hx rfl (Jvm.hb hby d_jdk_42_method_152_6) rfl rfl ?_
    show Steps p.tables e below (T1.setTop (mkF m 7 #[.val (.ref a)] [(.ref a)])) _
    refine st2 _ ?_
    show Steps p.tables e below (T2.setTop (mkF m 10 #[.val (.ref a)] [(.int (own_cod cs))])) _
    refine XS.goto X2.here hx rfl (pc0 := 10) (pc' := 14) rfl (Jvm.hb hby d_jdk_42_method_152_10) (by decide) (by decide) ?_
    show Steps p.tables e below (T2.setTop (mkF m 14 #[.val (.ref a)] [(.int (own_cod cs))])) _
    show Steps p.tables e below (T2.setTop (mkF m 14 #[.val (.ref a)] [(.int (own_cod cs))])) t_
    exact k_)
  obtain ⟨fs, hr, hrun, hended, hW, hsame⟩ := X2.leave (v := some (.int (nar .byte (own_cod cs)))) (fun h => by rw [Bd.returns] at h; cases h)
  refine ⟨_, _, s3 _ ?_, hrun, hended, _, _, rfl, ?_, ⟨_, rfl⟩, hW, hsame.mono (by decide) (by decide)⟩
  · show Steps p.tables e below (T2.setTop (mkF m 14 #[.val (.ref a)] [(.int (own_cod cs))])) _
    exact retN X2 hx (t := .byte) Bd.returns (by simp) (Jvm.hb hby d_jdk_42_method_152_14) hr
  · show Q_rmCdr Z _ _ _ h0 n0 _ T2.heap _
    rw [e2]
    exact ⟨(by rw [own_cnarb]), N0, rfl⟩
theorem d_jdk_42_method_54_0 : decode jdk_42_method_54_code 0 = .ok (.aload_n 0, 1) := by decide +kernel
theorem d_jdk_42_method_54_1 : decode jdk_42_method_54_code 1 = .ok (.getfield 9, 3) := by decide +kernel
theorem d_jdk_42_method_54_4 : decode jdk_42_method_54_code 4 = .ok (.arraylength, 1) := by decide +kernel
theorem d_jdk_42_method_54_5 : decode jdk_42_method_54_code 5 = .ok (.aload_n 0, 1) := by decide +kernel
theorem pd___B : parseMethodDescriptor "()B" = some ⟨[], some .byte⟩ := by decide +kernel
theorem d_jdk_42_method_54_6 : decode jdk_42_method_54_code 6 = .ok (.invokevirtual 335, 3) := by decide +kernel
theorem d_jdk_42_method_54_9 : decode jdk_42_method_54_code 9 = .ok (.ishr, 1) := by decide +kernel
theorem d_jdk_42_method_54_10 : decode jdk_42_method_54_code 10 = .ok (.ireturn, 1) := by decide +kernel
theorem ef_rmLen (m : MethodId) (x0 : Addr) : entryFrame m #[(.ref x0)] 1 = mkF m 0 #[.val (.ref x0)] [] := by first | (simp [entryFrame, mkF, argsToLocals, Value.category]; done) | rfl
def Q_rmLen (Z : State) (a : Addr) (cst : Int32) (b : Addr) (kb : ClassId) (cs : List Int32) (h0 : Heap) (n0 : Nat) (v : Option Value) (h : Heap) (L : List Loc) : Prop := (v = some (.int (Int32.ofNat cs.length))) ∧ (Fr n0 L) ∧ (h = h0)
set_option maxRecDepth 65536 in
set_option maxHeartbeats 40000000 in
theorem rmLen (l : Launch) (Z : State) (a0 : Array Value) (hw : ∀ d ∈ tables_1, d.before a0 Z = true) (ws : List Jvm.Cond) (a : Addr) (cst : Int32) (b : Addr) (kb : ClassId) (cs : List Int32) (h0 : Heap) (n0 : Nat) (Z0 : n0 ≤ h0.size) (I1 : Sta Z Z.heap "java/lang/String" "COMPACT_STRINGS" "Z" (.int cst)) (OX : Old Z n0 h0) (hcst : ¬ (cst = (0 : Int32))) (I2 : Exa Z h0 a "java/lang/String") (I3 : Fld Z h0 a "java/lang/String" "value" "[B" (.ref b)) (I4 : Fld Z h0 a "java/lang/String" "coder" "B" (.int (own_cod cs))) (I5 : Arv Z h0 b kb .byte (Int32.ofNat (own_enl cs)) (own_enc cs) (.int (0 : Int32))) (hb : cs.length ≤ 4) :
    MetFree l (⟨"java/lang/String", "length", "()I"⟩ : MethodName) (head1 (Jvm.Cond.code (⟨"java/lang/String", "length", "()I"⟩ : MethodName) jdk_42_method_54_code 1 (some .int) :: ws) ({ frames := 1, cells := 0, slots := 0, locals := 13 } : Room)) (fun ar_ U => ar_ = #[(.ref a)] ∧ Z.Warmed39 U.vm ∧ U.heap = h0) (fun _ _ _ _ _ => True) (fun _ U o U' => ∃ v L, o = .returned v ∧ Q_rmLen Z a cst b kb cs h0 n0 v U'.heap L ∧ FrameEnd U o U' L ({ frames := 1, cells := 0, slots := 0, locals := 13 } : Room).cells ({ frames := 1, cells := 0, slots := 0, locals := 13 } : Room).slots) := by
  refine MetFree.of_bodySF (plainFor_of_name pn_java_lang_String) hisR ?_
  intro p e s m args below meth c s₁ Bd hml0 hP hK
  obtain ⟨rfl, hZ, hh⟩ := hP
  have hx := Bd.exec
  have hby := Bd.bytes
  have hml : c.maxLocals = 1 := hml0
  have hown : s.vm.findClass "java/lang/String" = some m.cls := findClass_of_methodNamed Bd.named
  have hnm := (name_of_methodNamed Bd.named Bd.method).1
  have X0 : Stand p l e ({ frames := 1, cells := 0, slots := 0, locals := 13 } : Room) s m #[(.ref a)] below meth c s₁ [] 0 0 := Stand.of_body Bd
  have e0 : s₁.heap = h0 := by rw [← hh, Bd.state]; rfl
  have N0 := Fr.nil n0
  have pre0 : ∀ t_, Steps p.tables e below (s₁.setTop (mkF m 0 #[.val (.ref a)] [])) t_ → Steps p.tables e below (s₁.setTop (entryFrame m #[(.ref a)] 1)) t_ := fun t_ k_ => castTop (ef_rmLen m a) k_
  have lt_I2 : @LT.lt Nat _ a h0.size := I2.lt
  have lt_I3 : @LT.lt Nat _ a h0.size := I3.lt
  have lt_I4 : @LT.lt Nat _ a h0.size := I4.lt
  have lt_I5 : @LT.lt Nat _ b h0.size := I5.lt
  obtain ⟨T1, X1, e1, st1⟩ := getF X0 hx hZ hown (host := "") (Or.inl (hw _ (List.mem_of_getElem? (i := 29) rfl))) Via.refl e0 I3 (g := (mkF m 1 #[.val (.ref a)] [(.ref a)])) rfl rfl (Jvm.hb hby d_jdk_42_method_54_1)
  obtain ⟨cl2, Ar2, -, S2, M2, -, -⟩ := id I5
  have Zc3 : n0 ≤ h0.size := by omega
  obtain ⟨cq4, kq4, q4a, q4b, q4c⟩ := isOf hZ e1 I2
  obtain ⟨_, _, ⟨T4, L4, k4, n4⟩, -, X4, ⟨Lc4, hQ4, l4, y4, z4⟩, st4⟩ := X1.virtualBack hx (y := (⟨"java/lang/String", "coder", "()B"⟩ : MethodName)) (z := (⟨"java/lang/String", "coder", "()B"⟩ : MethodName)) hown (mvT hZ (hw _ (List.mem_of_getElem? (i := 58) rfl))) (mvT hZ (hw _ (List.mem_of_getElem? (i := 59) rfl))) (notFace_of_selects (args := #[]) (mvT hZ (hw _ (List.mem_of_getElem? (i := 61) rfl)))) (mvT hZ (hw _ (List.mem_of_getElem? (i := 61) rfl))) (mvT hZ (hw _ (List.mem_of_getElem? (i := 60) rfl))) (by decide) (backOf (W := 1) (rmCdr l Z a0 hw [] a cst cs h0 n0 Zc3 I1 OX (hcst : ¬ (cst = (0 : Int32))) I4) hZ (hw _ (List.mem_of_getElem? (i := 62) rfl)) (hw _ (List.mem_of_getElem? (i := 4) rfl)) (by decide) (by decide)) q4a q4c (g := (mkF m 6 #[.val (.ref a)] [(.ref a), (.int (Int32.ofNat (own_enl cs)))])) rfl (by rw [hml]; rfl) (Steps.refl _) (argsL := []) (rest := [(.int (Int32.ofNat (own_enl cs)))]) (lenOf pd___B rfl) rfl (by show 2 * 0 + _ ≤ _; exact Nat.le_of_eq rfl) (Jvm.hb hby d_jdk_42_method_54_6) (fun _ _ => ⟨rfl, e1, (by decide : 0 + 0 ≤ _), (by decide : 0 + 0 ≤ _)⟩)
  dsimp only [Pt.U, Pt.locs, Pt.cells, Pt.slots] at X4 l4 y4 z4 st4 hQ4
  subst l4 y4 z4
  obtain ⟨rfl, N4q, e4⟩ := hQ4
  have N4 := Fr.app N0 N4q
  have s5 : ∀ t_, Steps p.tables e below (T4.setTop (mkF m 10 #[.val (.ref a)] [(.int ((Int32.ofNat (own_enl cs)) >>> ((own_cod cs) &&& 31)))])) t_ → Steps p.tables e below (s₁.setTop (entryFrame m #[(.ref a)] 1)) t_ := fun t_ k_ => pre0 t_ (by
    show Steps p.tables e below (s₁.setTop (mkF m 0 #[.val (.ref a)] [])) t_
    refine XS.aloadN X0.here hx rfl (Jvm.hb hby d_jdk_42_method_54_0) rfl rfl ?_
    show Steps p.tables e below (s₁.setTop (mkF m 1 #[.val (.ref a)] [(.ref a)])) _
    refine st1 _ ?_
    show Steps p.tables e below (T1.setTop (mkF m 4 #[.val (.ref a)] [(.ref b)])) _
    refine X1.arraylength hx (by rw [e1]; exact Ar2.1) (State.isArrayOf_alike hZ.alike Ar2.2.1) (g := (mkF m 4 #[.val (.ref a)] [(.ref b)])) rfl rfl (Jvm.hb hby d_jdk_42_method_54_4) _ ?_
    rw [len_of S2 M2]
    show Steps p.tables e below (T1.setTop (mkF m 5 #[.val (.ref a)] [(.int (Int32.ofNat (own_enl cs)))])) _
    refine XS.aloadN X1.here hx rfl (Jvm.hb hby d_jdk_42_method_54_5) rfl rfl ?_
    show Steps p.tables e below (T1.setTop (mkF m 6 #[.val (.ref a)] [(.ref a), (.int (Int32.ofNat (own_enl cs)))])) _
    refine st4.trans ?_
    show Steps p.tables e below (T4.setTop (mkF m 9 #[.val (.ref a)] [(.int (own_cod cs)), (.int (Int32.ofNat (own_enl cs)))])) _
    refine XS.ishr X4.here hx rfl (Jvm.hb hby d_jdk_42_method_54_9) rfl ?_
    show Steps p.tables e below (T4.setTop (mkF m 10 #[.val (.ref a)] [(.int ((Int32.ofNat (own_enl cs)) >>> ((own_cod cs) &&& 31)))])) _
    show Steps p.tables e below (T4.setTop (mkF m 10 #[.val (.ref a)] [(.int ((Int32.ofNat (own_enl cs)) >>> ((own_cod cs) &&& 31)))])) t_
    exact k_)
  obtain ⟨fs, hr, hrun, hended, hW, hsame⟩ := X4.leave (v := some (.int ((Int32.ofNat (own_enl cs)) >>> ((own_cod cs) &&& 31)))) (fun h => by rw [Bd.returns] at h; cases h)
  refine ⟨_, _, s5 _ ?_, hrun, hended, _, _, rfl, ?_, ⟨_, rfl⟩, hW, hsame.mono (by decide) (by decide)⟩
  · show Steps p.tables e below (T4.setTop (mkF m 10 #[.val (.ref a)] [(.int ((Int32.ofNat (own_enl cs)) >>> ((own_cod cs) &&& 31)))])) _
    exact retI X4 hx Bd.returns (Jvm.hb hby d_jdk_42_method_54_10) hr
  · show Q_rmLen Z _ _ _ _ _ h0 n0 _ T4.heap _
    rw [e4]
    exact ⟨(by rw [own_lenq cs (by omega)]), N4, rfl⟩
theorem d_jdk_42_method_154_0 : decode jdk_42_method_154_code 0 = .ok (.getstatic 38, 3) := by decide +kernel
theorem d_jdk_42_method_154_3 : decode jdk_42_method_154_code 3 = .ok (.ifCond .eq 14, 3) := by decide +kernel
theorem d_jdk_42_method_154_6 : decode jdk_42_method_154_code 6 = .ok (.aload_n 0, 1) := by decide +kernel
theorem d_jdk_42_method_154_7 : decode jdk_42_method_154_code 7 = .ok (.getfield 15, 3) := by decide +kernel
theorem d_jdk_42_method_154_10 : decode jdk_42_method_154_code 10 = .ok (.ifCond .ne 7, 3) := by decide +kernel
theorem d_jdk_42_method_154_13 : decode jdk_42_method_154_code 13 = .ok (.iconst 1, 1) := by decide +kernel
theorem d_jdk_42_method_154_14 : decode jdk_42_method_154_code 14 = .ok (.goto 4, 3) := by decide +kernel
theorem d_jdk_42_method_154_18 : decode jdk_42_method_154_code 18 = .ok (.ireturn, 1) := by decide +kernel
theorem d_jdk_42_method_154_17 : decode jdk_42_method_154_code 17 = .ok (.iconst 0, 1) := by decide +kernel
theorem ef_rmIsL (m : MethodId) (x0 : Addr) : entryFrame m #[(.ref x0)] 1 = mkF m 0 #[.val (.ref x0)] [] := by first | (simp [entryFrame, mkF, argsToLocals, Value.category]; done) | rfl
def Q_rmIsL (Z : State) (a : Addr) (cst : Int32) (cs : List Int32) (h0 : Heap) (n0 : Nat) (v : Option Value) (h : Heap) (L : List Loc) : Prop := (v = some (.int (if own_cod cs = (0 : Int32) then (1 : Int32) else (0 : Int32)))) ∧ (Fr n0 L) ∧ (h = h0)
set_option maxRecDepth 65536 in
set_option maxHeartbeats 40000000 in
theorem rmIsL (l : Launch) (Z : State) (a0 : Array Value) (hw : ∀ d ∈ tables_1, d.before a0 Z = true) (ws : List Jvm.Cond) (a : Addr) (cst : Int32) (cs : List Int32) (h0 : Heap) (n0 : Nat) (Z0 : n0 ≤ h0.size) (I1 : Sta Z Z.heap "java/lang/String" "COMPACT_STRINGS" "Z" (.int cst)) (OX : Old Z n0 h0) (hcst : ¬ (cst = (0 : Int32))) (I2 : Fld Z h0 a "java/lang/String" "coder" "B" (.int (own_cod cs))) :
    MetFree l (⟨"java/lang/String", "isLatin1", "()Z"⟩ : MethodName) (head1 (Jvm.Cond.code (⟨"java/lang/String", "isLatin1", "()Z"⟩ : MethodName) jdk_42_method_154_code 1 (some .boolean) :: ws) ({ frames := 0, cells := 0, slots := 0, locals := 0 } : Room)) (fun ar_ U => ar_ = #[(.ref a)] ∧ Z.Warmed39 U.vm ∧ U.heap = h0) (fun _ _ _ _ _ => True) (fun _ U o U' => ∃ v L, o = .returned v ∧ Q_rmIsL Z a cst cs h0 n0 v U'.heap L ∧ FrameEnd U o U' L ({ frames := 0, cells := 0, slots := 0, locals := 0 } : Room).cells ({ frames := 0, cells := 0, slots := 0, locals := 0 } : Room).slots) := by
  refine MetFree.of_bodySF (plainFor_of_name pn_java_lang_String) hisR ?_
  intro p e s m args below meth c s₁ Bd hml0 hP hK
  obtain ⟨rfl, hZ, hh⟩ := hP
  have hx := Bd.exec
  have hby := Bd.bytes
  have hml : c.maxLocals = 1 := hml0
  have hown : s.vm.findClass "java/lang/String" = some m.cls := findClass_of_methodNamed Bd.named
  have hnm := (name_of_methodNamed Bd.named Bd.method).1
  have X0 : Stand p l e ({ frames := 0, cells := 0, slots := 0, locals := 0 } : Room) s m #[(.ref a)] below meth c s₁ [] 0 0 := Stand.of_body Bd
  have e0 : s₁.heap = h0 := by rw [← hh, Bd.state]; rfl
  have N0 := Fr.nil n0
  have pre0 : ∀ t_, Steps p.tables e below (s₁.setTop (mkF m 0 #[.val (.ref a)] [])) t_ → Steps p.tables e below (s₁.setTop (entryFrame m #[(.ref a)] 1)) t_ := fun t_ k_ => castTop (ef_rmIsL m a) k_
  have lt_I2 : @LT.lt Nat _ a h0.size := I2.lt
  obtain ⟨T1, X1, e1, st1⟩ := getS2 X0 hx hZ hown (host := "") (Or.inl (hw _ (List.mem_of_getElem? (i := 15) rfl))) Via.refl e0 (I1.ext OX.2) (g := (mkF m 0 #[.val (.ref a)] [])) rfl (Jvm.hb hby d_jdk_42_method_154_0)
  obtain ⟨T2, X2, e2, st2⟩ := getF X1 hx hZ hown (host := "") (Or.inl (hw _ (List.mem_of_getElem? (i := 27) rfl))) Via.refl e1 I2 (g := (mkF m 7 #[.val (.ref a)] [(.ref a)])) rfl rfl (Jvm.hb hby d_jdk_42_method_154_7)
  have s3 : ∀ t_, Steps p.tables e below (T2.setTop (mkF m 10 #[.val (.ref a)] [(.int (own_cod cs))])) t_ → Steps p.tables e below (s₁.setTop (entryFrame m #[(.ref a)] 1)) t_ := fun t_ k_ => pre0 t_ (by
    show Steps p.tables e below (s₁.setTop (mkF m 0 #[.val (.ref a)] [])) t_
    refine st1 _ ?_
    show Steps p.tables e below (T1.setTop (mkF m 3 #[.val (.ref a)] [(.int cst)])) _
    refine XS.ifNo X1.here hx rfl (Jvm.hb hby d_jdk_42_method_154_3) rfl ((if0 _ _).trans (feq hcst).1) ?_
    show Steps p.tables e below (T1.setTop (mkF m 6 #[.val (.ref a)] [])) _
    refine XS.aloadN X1.here hx rfl (Jvm.hb hby d_jdk_42_method_154_6) rfl rfl ?_
    show Steps p.tables e below (T1.setTop (mkF m 7 #[.val (.ref a)] [(.ref a)])) _
    refine st2 _ ?_
    show Steps p.tables e below (T2.setTop (mkF m 10 #[.val (.ref a)] [(.int (own_cod cs))])) _
    show Steps p.tables e below (T2.setTop (mkF m 10 #[.val (.ref a)] [(.int (own_cod cs))])) t_
    exact k_)
  by_cases h4 : (own_cod cs) = (0 : Int32)
  · have s5 : ∀ t_, Steps p.tables e below (T2.setTop (mkF m 18 #[.val (.ref a)] [(.int (1 : Int32))])) t_ → Steps p.tables e below (s₁.setTop (entryFrame m #[(.ref a)] 1)) t_ := fun t_ k_ => s3 t_ (by
      show Steps p.tables e below (T2.setTop (mkF m 10 #[.val (.ref a)] [(.int (own_cod cs))])) t_
      refine XS.ifNo X2.here hx rfl (Jvm.hb hby d_jdk_42_method_154_10) rfl ((if0 _ _).trans (teq h4).2) ?_
      show Steps p.tables e below (T2.setTop (mkF m 13 #[.val (.ref a)] [])) _
      refine XS.iconst X2.here hx rfl (Jvm.hb hby d_jdk_42_method_154_13) ?_
      show Steps p.tables e below (T2.setTop (mkF m 14 #[.val (.ref a)] [(.int (1 : Int32))])) _
      refine XS.goto X2.here hx rfl (pc0 := 14) (pc' := 18) rfl (Jvm.hb hby d_jdk_42_method_154_14) (by decide) (by decide) ?_
      show Steps p.tables e below (T2.setTop (mkF m 18 #[.val (.ref a)] [(.int (1 : Int32))])) _
      show Steps p.tables e below (T2.setTop (mkF m 18 #[.val (.ref a)] [(.int (1 : Int32))])) t_
      exact k_)
    obtain ⟨fs, hr, hrun, hended, hW, hsame⟩ := X2.leave (v := some (.int (1 : Int32))) (fun h => by rw [Bd.returns] at h; cases h)
    refine ⟨_, _, s5 _ ?_, hrun, hended, _, _, rfl, ?_, ⟨_, rfl⟩, hW, hsame.mono (by decide) (by decide)⟩
    · show Steps p.tables e below (T2.setTop (mkF m 18 #[.val (.ref a)] [(.int (1 : Int32))])) _
      exact retN X2 hx (t := .boolean) Bd.returns (by simp) (Jvm.hb hby d_jdk_42_method_154_18) hr
    · show Q_rmIsL Z _ _ _ h0 n0 _ T2.heap _
      rw [e2]
      exact ⟨(by first | rfl | (simp only [if_pos h4]; done) | (simp only [if_pos h4]; rfl) | (simp only [if_pos h4, own_narb]; done)), N0, rfl⟩
  · have s6 : ∀ t_, Steps p.tables e below (T2.setTop (mkF m 18 #[.val (.ref a)] [(.int (0 : Int32))])) t_ → Steps p.tables e below (s₁.setTop (entryFrame m #[(.ref a)] 1)) t_ := fun t_ k_ => s3 t_ (by
      show Steps p.tables e below (T2.setTop (mkF m 10 #[.val (.ref a)] [(.int (own_cod cs))])) t_
      refine XS.ifYes X2.here hx rfl (pc0 := 10) (pc' := 17) rfl (Jvm.hb hby d_jdk_42_method_154_10) rfl ((if0 _ _).trans (feq h4).2) (by decide) (by decide) ?_
      show Steps p.tables e below (T2.setTop (mkF m 17 #[.val (.ref a)] [])) _
      refine XS.iconst X2.here hx rfl (Jvm.hb hby d_jdk_42_method_154_17) ?_
      show Steps p.tables e below (T2.setTop (mkF m 18 #[.val (.ref a)] [(.int (0 : Int32))])) _
      show Steps p.tables e below (T2.setTop (mkF m 18 #[.val (.ref a)] [(.int (0 : Int32))])) t_
      exact k_)
    obtain ⟨fs, hr, hrun, hended, hW, hsame⟩ := X2.leave (v := some (.int (0 : Int32))) (fun h => by rw [Bd.returns] at h; cases h)
    refine ⟨_, _, s6 _ ?_, hrun, hended, _, _, rfl, ?_, ⟨_, rfl⟩, hW, hsame.mono (by decide) (by decide)⟩
    · show Steps p.tables e below (T2.setTop (mkF m 18 #[.val (.ref a)] [(.int (0 : Int32))])) _
      exact retN X2 hx (t := .boolean) Bd.returns (by simp) (Jvm.hb hby d_jdk_42_method_154_18) hr
    · show Q_rmIsL Z _ _ _ h0 n0 _ T2.heap _
      rw [e2]
      exact ⟨(by first | rfl | (simp only [if_neg h4]; done) | (simp only [if_neg h4]; rfl) | (simp only [if_neg h4, own_narb]; done)), N0, rfl⟩
theorem d_jdk_29_method_69_0 : decode jdk_29_method_69_code 0 = .ok (.iload_n 0, 1) := by decide +kernel
theorem d_jdk_29_method_69_1 : decode jdk_29_method_69_code 1 = .ok (.iload_n 1, 1) := by decide +kernel
theorem d_jdk_29_method_69_2 : decode jdk_29_method_69_code 2 = .ok (.if_icmp .gt 7, 3) := by decide +kernel
theorem d_jdk_29_method_69_9 : decode jdk_29_method_69_code 9 = .ok (.iload_n 1, 1) := by decide +kernel
theorem d_jdk_29_method_69_10 : decode jdk_29_method_69_code 10 = .ok (.ireturn, 1) := by decide +kernel
theorem d_jdk_29_method_69_5 : decode jdk_29_method_69_code 5 = .ok (.iload_n 0, 1) := by decide +kernel
theorem d_jdk_29_method_69_6 : decode jdk_29_method_69_code 6 = .ok (.goto 4, 3) := by decide +kernel
theorem ef_rmMin (m : MethodId) (x0 : Int32) (x1 : Int32) : entryFrame m #[(.int x0), (.int x1)] 2 = mkF m 0 #[.val (.int x0), .val (.int x1)] [] := by first | (simp [entryFrame, mkF, argsToLocals, Value.category]; done) | rfl
def Q_rmMin (Z : State) (i : Nat) (j : Nat) (h0 : Heap) (n0 : Nat) (v : Option Value) (h : Heap) (L : List Loc) : Prop := (v = some (.int (Int32.ofNat (min i j)))) ∧ (Fr n0 L) ∧ (h = h0)
set_option maxRecDepth 65536 in
set_option maxHeartbeats 40000000 in
theorem rmMin (l : Launch) (Z : State) (a0 : Array Value) (hw : ∀ d ∈ tables_1, d.before a0 Z = true) (ws : List Jvm.Cond) (i : Nat) (j : Nat) (h0 : Heap) (n0 : Nat) (Z0 : n0 ≤ h0.size) (hi : i ≤ 8000) (hj : j ≤ 8000) :
    MetFree l (⟨"java/lang/Math", "min", "(II)I"⟩ : MethodName) (head1 (Jvm.Cond.code (⟨"java/lang/Math", "min", "(II)I"⟩ : MethodName) jdk_29_method_69_code 2 (some .int) :: ws) ({ frames := 0, cells := 0, slots := 0, locals := 0 } : Room)) (fun ar_ U => ar_ = #[(.int (Int32.ofNat i)), (.int (Int32.ofNat j))] ∧ Z.Warmed39 U.vm ∧ U.heap = h0) (fun _ _ _ _ _ => True) (fun _ U o U' => ∃ v L, o = .returned v ∧ Q_rmMin Z i j h0 n0 v U'.heap L ∧ FrameEnd U o U' L ({ frames := 0, cells := 0, slots := 0, locals := 0 } : Room).cells ({ frames := 0, cells := 0, slots := 0, locals := 0 } : Room).slots) := by
  refine MetFree.of_bodySF (Jvm.Free.JP.mathPlain rfl (by decide +kernel)) hisR ?_
  intro p e s m args below meth c s₁ Bd hml0 hP hK
  obtain ⟨rfl, hZ, hh⟩ := hP
  have hx := Bd.exec
  have hby := Bd.bytes
  have hml : c.maxLocals = 2 := hml0
  have hown : s.vm.findClass "java/lang/Math" = some m.cls := findClass_of_methodNamed Bd.named
  have hnm := (name_of_methodNamed Bd.named Bd.method).1
  have X0 : Stand p l e ({ frames := 0, cells := 0, slots := 0, locals := 0 } : Room) s m #[(.int (Int32.ofNat i)), (.int (Int32.ofNat j))] below meth c s₁ [] 0 0 := Stand.of_body Bd
  have e0 : s₁.heap = h0 := by rw [← hh, Bd.state]; rfl
  have N0 := Fr.nil n0
  have pre0 : ∀ t_, Steps p.tables e below (s₁.setTop (mkF m 0 #[.val (.int (Int32.ofNat i)), .val (.int (Int32.ofNat j))] [])) t_ → Steps p.tables e below (s₁.setTop (entryFrame m #[(.int (Int32.ofNat i)), (.int (Int32.ofNat j))] 2)) t_ := fun t_ k_ => castTop (ef_rmMin m (Int32.ofNat i) (Int32.ofNat j)) k_
  have s1 : ∀ t_, Steps p.tables e below (s₁.setTop (mkF m 2 #[.val (.int (Int32.ofNat i)), .val (.int (Int32.ofNat j))] [(.int (Int32.ofNat j)), (.int (Int32.ofNat i))])) t_ → Steps p.tables e below (s₁.setTop (entryFrame m #[(.int (Int32.ofNat i)), (.int (Int32.ofNat j))] 2)) t_ := fun t_ k_ => pre0 t_ (by
    show Steps p.tables e below (s₁.setTop (mkF m 0 #[.val (.int (Int32.ofNat i)), .val (.int (Int32.ofNat j))] [])) t_
    refine XS.iloadN X0.here hx rfl (Jvm.hb hby d_jdk_29_method_69_0) rfl ?_
    show Steps p.tables e below (s₁.setTop (mkF m 1 #[.val (.int (Int32.ofNat i)), .val (.int (Int32.ofNat j))] [(.int (Int32.ofNat i))])) _
    refine XS.iloadN X0.here hx rfl (Jvm.hb hby d_jdk_29_method_69_1) rfl ?_
    show Steps p.tables e below (s₁.setTop (mkF m 2 #[.val (.int (Int32.ofNat i)), .val (.int (Int32.ofNat j))] [(.int (Int32.ofNat j)), (.int (Int32.ofNat i))])) _
    show Steps p.tables e below (s₁.setTop (mkF m 2 #[.val (.int (Int32.ofNat i)), .val (.int (Int32.ofNat j))] [(.int (Int32.ofNat j)), (.int (Int32.ofNat i))])) t_
    exact k_)
  by_cases h2 : (Int32.ofNat j) < (Int32.ofNat i)
  · have s3 : ∀ t_, Steps p.tables e below (s₁.setTop (mkF m 10 #[.val (.int (Int32.ofNat i)), .val (.int (Int32.ofNat j))] [(.int (Int32.ofNat j))])) t_ → Steps p.tables e below (s₁.setTop (entryFrame m #[(.int (Int32.ofNat i)), (.int (Int32.ofNat j))] 2)) t_ := fun t_ k_ => s1 t_ (by
      show Steps p.tables e below (s₁.setTop (mkF m 2 #[.val (.int (Int32.ofNat i)), .val (.int (Int32.ofNat j))] [(.int (Int32.ofNat j)), (.int (Int32.ofNat i))])) t_
      refine XS.icmpYes X0.here hx rfl (pc0 := 2) (pc' := 9) rfl (Jvm.hb hby d_jdk_29_method_69_2) rfl (tlt h2).2.2.1 (by decide) (by decide) ?_
      show Steps p.tables e below (s₁.setTop (mkF m 9 #[.val (.int (Int32.ofNat i)), .val (.int (Int32.ofNat j))] [])) _
      refine XS.iloadN X0.here hx rfl (Jvm.hb hby d_jdk_29_method_69_9) rfl ?_
      show Steps p.tables e below (s₁.setTop (mkF m 10 #[.val (.int (Int32.ofNat i)), .val (.int (Int32.ofNat j))] [(.int (Int32.ofNat j))])) _
      show Steps p.tables e below (s₁.setTop (mkF m 10 #[.val (.int (Int32.ofNat i)), .val (.int (Int32.ofNat j))] [(.int (Int32.ofNat j))])) t_
      exact k_)
    obtain ⟨fs, hr, hrun, hended, hW, hsame⟩ := X0.leave (v := some (.int (Int32.ofNat j))) (fun h => by rw [Bd.returns] at h; cases h)
    refine ⟨_, _, s3 _ ?_, hrun, hended, _, _, rfl, ?_, ⟨_, rfl⟩, hW, hsame.mono (by decide) (by decide)⟩
    · show Steps p.tables e below (s₁.setTop (mkF m 10 #[.val (.int (Int32.ofNat i)), .val (.int (Int32.ofNat j))] [(.int (Int32.ofNat j))])) _
      exact retI X0 hx Bd.returns (Jvm.hb hby d_jdk_29_method_69_10) hr
    · show Q_rmMin Z _ _ h0 n0 _ s₁.heap _
      rw [e0]
      exact ⟨(by rw [own_minF hi hj h2]), N0, rfl⟩
  · have s4 : ∀ t_, Steps p.tables e below (s₁.setTop (mkF m 10 #[.val (.int (Int32.ofNat i)), .val (.int (Int32.ofNat j))] [(.int (Int32.ofNat i))])) t_ → Steps p.tables e below (s₁.setTop (entryFrame m #[(.int (Int32.ofNat i)), (.int (Int32.ofNat j))] 2)) t_ := fun t_ k_ => s1 t_ (by
      show Steps p.tables e below (s₁.setTop (mkF m 2 #[.val (.int (Int32.ofNat i)), .val (.int (Int32.ofNat j))] [(.int (Int32.ofNat j)), (.int (Int32.ofNat i))])) t_
      refine XS.icmpNo X0.here hx rfl (Jvm.hb hby d_jdk_29_method_69_2) rfl (flt h2).2.2.1 ?_
      show Steps p.tables e below (s₁.setTop (mkF m 5 #[.val (.int (Int32.ofNat i)), .val (.int (Int32.ofNat j))] [])) _
      refine XS.iloadN X0.here hx rfl (Jvm.hb hby d_jdk_29_method_69_5) rfl ?_
      show Steps p.tables e below (s₁.setTop (mkF m 6 #[.val (.int (Int32.ofNat i)), .val (.int (Int32.ofNat j))] [(.int (Int32.ofNat i))])) _
      refine XS.goto X0.here hx rfl (pc0 := 6) (pc' := 10) rfl (Jvm.hb hby d_jdk_29_method_69_6) (by decide) (by decide) ?_
      show Steps p.tables e below (s₁.setTop (mkF m 10 #[.val (.int (Int32.ofNat i)), .val (.int (Int32.ofNat j))] [(.int (Int32.ofNat i))])) _
      show Steps p.tables e below (s₁.setTop (mkF m 10 #[.val (.int (Int32.ofNat i)), .val (.int (Int32.ofNat j))] [(.int (Int32.ofNat i))])) t_
      exact k_)
    obtain ⟨fs, hr, hrun, hended, hW, hsame⟩ := X0.leave (v := some (.int (Int32.ofNat i))) (fun h => by rw [Bd.returns] at h; cases h)
    refine ⟨_, _, s4 _ ?_, hrun, hended, _, _, rfl, ?_, ⟨_, rfl⟩, hW, hsame.mono (by decide) (by decide)⟩
    · show Steps p.tables e below (s₁.setTop (mkF m 10 #[.val (.int (Int32.ofNat i)), .val (.int (Int32.ofNat j))] [(.int (Int32.ofNat i))])) _
      exact retI X0 hx Bd.returns (Jvm.hb hby d_jdk_29_method_69_10) hr
    · show Q_rmMin Z _ _ h0 n0 _ s₁.heap _
      rw [e0]
      exact ⟨(by rw [own_minT hi hj h2]), N0, rfl⟩
theorem d_jdk_29_method_65_0 : decode jdk_29_method_65_code 0 = .ok (.iload_n 0, 1) := by decide +kernel
theorem d_jdk_29_method_65_1 : decode jdk_29_method_65_code 1 = .ok (.iload_n 1, 1) := by decide +kernel
theorem d_jdk_29_method_65_2 : decode jdk_29_method_65_code 2 = .ok (.if_icmp .lt 7, 3) := by decide +kernel
theorem d_jdk_29_method_65_9 : decode jdk_29_method_65_code 9 = .ok (.iload_n 1, 1) := by decide +kernel
theorem d_jdk_29_method_65_10 : decode jdk_29_method_65_code 10 = .ok (.ireturn, 1) := by decide +kernel
theorem d_jdk_29_method_65_5 : decode jdk_29_method_65_code 5 = .ok (.iload_n 0, 1) := by decide +kernel
theorem d_jdk_29_method_65_6 : decode jdk_29_method_65_code 6 = .ok (.goto 4, 3) := by decide +kernel
theorem ef_rmMax (m : MethodId) (x0 : Int32) (x1 : Int32) : entryFrame m #[(.int x0), (.int x1)] 2 = mkF m 0 #[.val (.int x0), .val (.int x1)] [] := by first | (simp [entryFrame, mkF, argsToLocals, Value.category]; done) | rfl
def Q_rmMax (Z : State) (i : Nat) (j : Nat) (h0 : Heap) (n0 : Nat) (v : Option Value) (h : Heap) (L : List Loc) : Prop := (v = some (.int (Int32.ofNat (max i j)))) ∧ (Fr n0 L) ∧ (h = h0)
set_option maxRecDepth 65536 in
set_option maxHeartbeats 40000000 in
theorem rmMax (l : Launch) (Z : State) (a0 : Array Value) (hw : ∀ d ∈ tables_1, d.before a0 Z = true) (ws : List Jvm.Cond) (i : Nat) (j : Nat) (h0 : Heap) (n0 : Nat) (Z0 : n0 ≤ h0.size) (hi : i ≤ 8000) (hj : j ≤ 8000) :
    MetFree l (⟨"java/lang/Math", "max", "(II)I"⟩ : MethodName) (head1 (Jvm.Cond.code (⟨"java/lang/Math", "max", "(II)I"⟩ : MethodName) jdk_29_method_65_code 2 (some .int) :: ws) ({ frames := 0, cells := 0, slots := 0, locals := 0 } : Room)) (fun ar_ U => ar_ = #[(.int (Int32.ofNat i)), (.int (Int32.ofNat j))] ∧ Z.Warmed39 U.vm ∧ U.heap = h0) (fun _ _ _ _ _ => True) (fun _ U o U' => ∃ v L, o = .returned v ∧ Q_rmMax Z i j h0 n0 v U'.heap L ∧ FrameEnd U o U' L ({ frames := 0, cells := 0, slots := 0, locals := 0 } : Room).cells ({ frames := 0, cells := 0, slots := 0, locals := 0 } : Room).slots) := by
  refine MetFree.of_bodySF (Jvm.Free.JP.mathPlain rfl (by decide +kernel)) hisR ?_
  intro p e s m args below meth c s₁ Bd hml0 hP hK
  obtain ⟨rfl, hZ, hh⟩ := hP
  have hx := Bd.exec
  have hby := Bd.bytes
  have hml : c.maxLocals = 2 := hml0
  have hown : s.vm.findClass "java/lang/Math" = some m.cls := findClass_of_methodNamed Bd.named
  have hnm := (name_of_methodNamed Bd.named Bd.method).1
  have X0 : Stand p l e ({ frames := 0, cells := 0, slots := 0, locals := 0 } : Room) s m #[(.int (Int32.ofNat i)), (.int (Int32.ofNat j))] below meth c s₁ [] 0 0 := Stand.of_body Bd
  have e0 : s₁.heap = h0 := by rw [← hh, Bd.state]; rfl
  have N0 := Fr.nil n0
  have pre0 : ∀ t_, Steps p.tables e below (s₁.setTop (mkF m 0 #[.val (.int (Int32.ofNat i)), .val (.int (Int32.ofNat j))] [])) t_ → Steps p.tables e below (s₁.setTop (entryFrame m #[(.int (Int32.ofNat i)), (.int (Int32.ofNat j))] 2)) t_ := fun t_ k_ => castTop (ef_rmMax m (Int32.ofNat i) (Int32.ofNat j)) k_
  have s1 : ∀ t_, Steps p.tables e below (s₁.setTop (mkF m 2 #[.val (.int (Int32.ofNat i)), .val (.int (Int32.ofNat j))] [(.int (Int32.ofNat j)), (.int (Int32.ofNat i))])) t_ → Steps p.tables e below (s₁.setTop (entryFrame m #[(.int (Int32.ofNat i)), (.int (Int32.ofNat j))] 2)) t_ := fun t_ k_ => pre0 t_ (by
    show Steps p.tables e below (s₁.setTop (mkF m 0 #[.val (.int (Int32.ofNat i)), .val (.int (Int32.ofNat j))] [])) t_
    refine XS.iloadN X0.here hx rfl (Jvm.hb hby d_jdk_29_method_65_0) rfl ?_
    show Steps p.tables e below (s₁.setTop (mkF m 1 #[.val (.int (Int32.ofNat i)), .val (.int (Int32.ofNat j))] [(.int (Int32.ofNat i))])) _
    refine XS.iloadN X0.here hx rfl (Jvm.hb hby d_jdk_29_method_65_1) rfl ?_
    show Steps p.tables e below (s₁.setTop (mkF m 2 #[.val (.int (Int32.ofNat i)), .val (.int (Int32.ofNat j))] [(.int (Int32.ofNat j)), (.int (Int32.ofNat i))])) _
    show Steps p.tables e below (s₁.setTop (mkF m 2 #[.val (.int (Int32.ofNat i)), .val (.int (Int32.ofNat j))] [(.int (Int32.ofNat j)), (.int (Int32.ofNat i))])) t_
    exact k_)
  by_cases h2 : (Int32.ofNat i) < (Int32.ofNat j)
  · have s3 : ∀ t_, Steps p.tables e below (s₁.setTop (mkF m 10 #[.val (.int (Int32.ofNat i)), .val (.int (Int32.ofNat j))] [(.int (Int32.ofNat j))])) t_ → Steps p.tables e below (s₁.setTop (entryFrame m #[(.int (Int32.ofNat i)), (.int (Int32.ofNat j))] 2)) t_ := fun t_ k_ => s1 t_ (by
      show Steps p.tables e below (s₁.setTop (mkF m 2 #[.val (.int (Int32.ofNat i)), .val (.int (Int32.ofNat j))] [(.int (Int32.ofNat j)), (.int (Int32.ofNat i))])) t_
      refine XS.icmpYes X0.here hx rfl (pc0 := 2) (pc' := 9) rfl (Jvm.hb hby d_jdk_29_method_65_2) rfl (tlt h2).1 (by decide) (by decide) ?_
      show Steps p.tables e below (s₁.setTop (mkF m 9 #[.val (.int (Int32.ofNat i)), .val (.int (Int32.ofNat j))] [])) _
      refine XS.iloadN X0.here hx rfl (Jvm.hb hby d_jdk_29_method_65_9) rfl ?_
      show Steps p.tables e below (s₁.setTop (mkF m 10 #[.val (.int (Int32.ofNat i)), .val (.int (Int32.ofNat j))] [(.int (Int32.ofNat j))])) _
      show Steps p.tables e below (s₁.setTop (mkF m 10 #[.val (.int (Int32.ofNat i)), .val (.int (Int32.ofNat j))] [(.int (Int32.ofNat j))])) t_
      exact k_)
    obtain ⟨fs, hr, hrun, hended, hW, hsame⟩ := X0.leave (v := some (.int (Int32.ofNat j))) (fun h => by rw [Bd.returns] at h; cases h)
    refine ⟨_, _, s3 _ ?_, hrun, hended, _, _, rfl, ?_, ⟨_, rfl⟩, hW, hsame.mono (by decide) (by decide)⟩
    · show Steps p.tables e below (s₁.setTop (mkF m 10 #[.val (.int (Int32.ofNat i)), .val (.int (Int32.ofNat j))] [(.int (Int32.ofNat j))])) _
      exact retI X0 hx Bd.returns (Jvm.hb hby d_jdk_29_method_65_10) hr
    · show Q_rmMax Z _ _ h0 n0 _ s₁.heap _
      rw [e0]
      exact ⟨(by rw [own_maxT hi hj h2]), N0, rfl⟩
  · have s4 : ∀ t_, Steps p.tables e below (s₁.setTop (mkF m 10 #[.val (.int (Int32.ofNat i)), .val (.int (Int32.ofNat j))] [(.int (Int32.ofNat i))])) t_ → Steps p.tables e below (s₁.setTop (entryFrame m #[(.int (Int32.ofNat i)), (.int (Int32.ofNat j))] 2)) t_ := fun t_ k_ => s1 t_ (by
      show Steps p.tables e below (s₁.setTop (mkF m 2 #[.val (.int (Int32.ofNat i)), .val (.int (Int32.ofNat j))] [(.int (Int32.ofNat j)), (.int (Int32.ofNat i))])) t_
      refine XS.icmpNo X0.here hx rfl (Jvm.hb hby d_jdk_29_method_65_2) rfl (flt h2).1 ?_
      show Steps p.tables e below (s₁.setTop (mkF m 5 #[.val (.int (Int32.ofNat i)), .val (.int (Int32.ofNat j))] [])) _
      refine XS.iloadN X0.here hx rfl (Jvm.hb hby d_jdk_29_method_65_5) rfl ?_
      show Steps p.tables e below (s₁.setTop (mkF m 6 #[.val (.int (Int32.ofNat i)), .val (.int (Int32.ofNat j))] [(.int (Int32.ofNat i))])) _
      refine XS.goto X0.here hx rfl (pc0 := 6) (pc' := 10) rfl (Jvm.hb hby d_jdk_29_method_65_6) (by decide) (by decide) ?_
      show Steps p.tables e below (s₁.setTop (mkF m 10 #[.val (.int (Int32.ofNat i)), .val (.int (Int32.ofNat j))] [(.int (Int32.ofNat i))])) _
      show Steps p.tables e below (s₁.setTop (mkF m 10 #[.val (.int (Int32.ofNat i)), .val (.int (Int32.ofNat j))] [(.int (Int32.ofNat i))])) t_
      exact k_)
    obtain ⟨fs, hr, hrun, hended, hW, hsame⟩ := X0.leave (v := some (.int (Int32.ofNat i))) (fun h => by rw [Bd.returns] at h; cases h)
    refine ⟨_, _, s4 _ ?_, hrun, hended, _, _, rfl, ?_, ⟨_, rfl⟩, hW, hsame.mono (by decide) (by decide)⟩
    · show Steps p.tables e below (s₁.setTop (mkF m 10 #[.val (.int (Int32.ofNat i)), .val (.int (Int32.ofNat j))] [(.int (Int32.ofNat i))])) _
      exact retI X0 hx Bd.returns (Jvm.hb hby d_jdk_29_method_65_10) hr
    · show Q_rmMax Z _ _ h0 n0 _ s₁.heap _
      rw [e0]
      exact ⟨(by rw [own_maxF hi hj h2]), N0, rfl⟩
theorem pn_java_lang_StringLatin1 : plainName "java/lang/StringLatin1" = true := by first | (simp [plainName, overriddenIn]; done) | decide +kernel
theorem d_jdk_43_method_4_0 : decode jdk_43_method_4_code 0 = .ok (.iload_n 0, 1) := by decide +kernel
theorem d_jdk_43_method_4_1 : decode jdk_43_method_4_code 1 = .ok (.ifCond .lt 14, 3) := by decide +kernel
theorem d_jdk_43_method_4_4 : decode jdk_43_method_4_code 4 = .ok (.iload_n 0, 1) := by decide +kernel
theorem d_jdk_43_method_4_5 : decode jdk_43_method_4_code 5 = .ok (.sipush 255, 3) := by decide +kernel
theorem d_jdk_43_method_4_8 : decode jdk_43_method_4_code 8 = .ok (.if_icmp .gt 7, 3) := by decide +kernel
theorem d_jdk_43_method_4_15 : decode jdk_43_method_4_code 15 = .ok (.iconst 0, 1) := by decide +kernel
theorem d_jdk_43_method_4_16 : decode jdk_43_method_4_code 16 = .ok (.ireturn, 1) := by decide +kernel
theorem d_jdk_43_method_4_11 : decode jdk_43_method_4_code 11 = .ok (.iconst 1, 1) := by decide +kernel
theorem d_jdk_43_method_4_12 : decode jdk_43_method_4_code 12 = .ok (.goto 4, 3) := by decide +kernel
theorem ef_rmCanI (m : MethodId) (x0 : Int32) : entryFrame m #[(.int x0)] 1 = mkF m 0 #[.val (.int x0)] [] := by first | (simp [entryFrame, mkF, argsToLocals, Value.category]; done) | rfl
def Q_rmCanI (Z : State) (ch : Int32) (h0 : Heap) (n0 : Nat) (v : Option Value) (h : Heap) (L : List Loc) : Prop := (v = some (.int (if (255 : Int32) < ch then (0 : Int32) else (1 : Int32)))) ∧ (Fr n0 L) ∧ (h = h0)
set_option maxRecDepth 65536 in
set_option maxHeartbeats 40000000 in
theorem rmCanI (l : Launch) (Z : State) (a0 : Array Value) (hw : ∀ d ∈ tables_1, d.before a0 Z = true) (ws : List Jvm.Cond) (ch : Int32) (h0 : Heap) (n0 : Nat) (Z0 : n0 ≤ h0.size) (hc0 : ¬ (ch < (0 : Int32))) :
    MetFree l (⟨"java/lang/StringLatin1", "canEncode", "(I)Z"⟩ : MethodName) (head1 (Jvm.Cond.code (⟨"java/lang/StringLatin1", "canEncode", "(I)Z"⟩ : MethodName) jdk_43_method_4_code 1 (some .boolean) :: ws) ({ frames := 0, cells := 0, slots := 0, locals := 0 } : Room)) (fun ar_ U => ar_ = #[(.int ch)] ∧ Z.Warmed39 U.vm ∧ U.heap = h0) (fun _ _ _ _ _ => True) (fun _ U o U' => ∃ v L, o = .returned v ∧ Q_rmCanI Z ch h0 n0 v U'.heap L ∧ FrameEnd U o U' L ({ frames := 0, cells := 0, slots := 0, locals := 0 } : Room).cells ({ frames := 0, cells := 0, slots := 0, locals := 0 } : Room).slots) := by
  refine MetFree.of_bodySF (plainFor_of_name pn_java_lang_StringLatin1) hisR ?_
  intro p e s m args below meth c s₁ Bd hml0 hP hK
  obtain ⟨rfl, hZ, hh⟩ := hP
  have hx := Bd.exec
  have hby := Bd.bytes
  have hml : c.maxLocals = 1 := hml0
  have hown : s.vm.findClass "java/lang/StringLatin1" = some m.cls := findClass_of_methodNamed Bd.named
  have hnm := (name_of_methodNamed Bd.named Bd.method).1
  have X0 : Stand p l e ({ frames := 0, cells := 0, slots := 0, locals := 0 } : Room) s m #[(.int ch)] below meth c s₁ [] 0 0 := Stand.of_body Bd
  have e0 : s₁.heap = h0 := by rw [← hh, Bd.state]; rfl
  have N0 := Fr.nil n0
  have pre0 : ∀ t_, Steps p.tables e below (s₁.setTop (mkF m 0 #[.val (.int ch)] [])) t_ → Steps p.tables e below (s₁.setTop (entryFrame m #[(.int ch)] 1)) t_ := fun t_ k_ => castTop (ef_rmCanI m ch) k_
  have s1 : ∀ t_, Steps p.tables e below (s₁.setTop (mkF m 8 #[.val (.int ch)] [(.int (255 : Int32)), (.int ch)])) t_ → Steps p.tables e below (s₁.setTop (entryFrame m #[(.int ch)] 1)) t_ := fun t_ k_ => pre0 t_ (by
    show Steps p.tables e below (s₁.setTop (mkF m 0 #[.val (.int ch)] [])) t_
    refine XS.iloadN X0.here hx rfl (Jvm.hb hby d_jdk_43_method_4_0) rfl ?_
    show Steps p.tables e below (s₁.setTop (mkF m 1 #[.val (.int ch)] [(.int ch)])) _
    refine XS.ifNo X0.here hx rfl (Jvm.hb hby d_jdk_43_method_4_1) rfl ((if0 _ _).trans (flt hc0).1) ?_
    show Steps p.tables e below (s₁.setTop (mkF m 4 #[.val (.int ch)] [])) _
    refine XS.iloadN X0.here hx rfl (Jvm.hb hby d_jdk_43_method_4_4) rfl ?_
    show Steps p.tables e below (s₁.setTop (mkF m 5 #[.val (.int ch)] [(.int ch)])) _
    refine XS.sipush X0.here hx rfl (Jvm.hb hby d_jdk_43_method_4_5) ?_
    show Steps p.tables e below (s₁.setTop (mkF m 8 #[.val (.int ch)] [(.int (255 : Int32)), (.int ch)])) _
    show Steps p.tables e below (s₁.setTop (mkF m 8 #[.val (.int ch)] [(.int (255 : Int32)), (.int ch)])) t_
    exact k_)
  by_cases h2 : (255 : Int32) < ch
  · have s3 : ∀ t_, Steps p.tables e below (s₁.setTop (mkF m 16 #[.val (.int ch)] [(.int (0 : Int32))])) t_ → Steps p.tables e below (s₁.setTop (entryFrame m #[(.int ch)] 1)) t_ := fun t_ k_ => s1 t_ (by
      show Steps p.tables e below (s₁.setTop (mkF m 8 #[.val (.int ch)] [(.int (255 : Int32)), (.int ch)])) t_
      refine XS.icmpYes X0.here hx rfl (pc0 := 8) (pc' := 15) rfl (Jvm.hb hby d_jdk_43_method_4_8) rfl (tlt h2).2.2.1 (by decide) (by decide) ?_
      show Steps p.tables e below (s₁.setTop (mkF m 15 #[.val (.int ch)] [])) _
      refine XS.iconst X0.here hx rfl (Jvm.hb hby d_jdk_43_method_4_15) ?_
      show Steps p.tables e below (s₁.setTop (mkF m 16 #[.val (.int ch)] [(.int (0 : Int32))])) _
      show Steps p.tables e below (s₁.setTop (mkF m 16 #[.val (.int ch)] [(.int (0 : Int32))])) t_
      exact k_)
    obtain ⟨fs, hr, hrun, hended, hW, hsame⟩ := X0.leave (v := some (.int (0 : Int32))) (fun h => by rw [Bd.returns] at h; cases h)
    refine ⟨_, _, s3 _ ?_, hrun, hended, _, _, rfl, ?_, ⟨_, rfl⟩, hW, hsame.mono (by decide) (by decide)⟩
    · show Steps p.tables e below (s₁.setTop (mkF m 16 #[.val (.int ch)] [(.int (0 : Int32))])) _
      exact retN X0 hx (t := .boolean) Bd.returns (by simp) (Jvm.hb hby d_jdk_43_method_4_16) hr
    · show Q_rmCanI Z _ h0 n0 _ s₁.heap _
      rw [e0]
      exact ⟨(by first | rfl | (simp only [if_pos h2]; done) | (simp only [if_pos h2]; rfl) | (simp only [if_pos h2, own_narb]; done)), N0, rfl⟩
  · have s4 : ∀ t_, Steps p.tables e below (s₁.setTop (mkF m 16 #[.val (.int ch)] [(.int (1 : Int32))])) t_ → Steps p.tables e below (s₁.setTop (entryFrame m #[(.int ch)] 1)) t_ := fun t_ k_ => s1 t_ (by
      show Steps p.tables e below (s₁.setTop (mkF m 8 #[.val (.int ch)] [(.int (255 : Int32)), (.int ch)])) t_
      refine XS.icmpNo X0.here hx rfl (Jvm.hb hby d_jdk_43_method_4_8) rfl (flt h2).2.2.1 ?_
      show Steps p.tables e below (s₁.setTop (mkF m 11 #[.val (.int ch)] [])) _
      refine XS.iconst X0.here hx rfl (Jvm.hb hby d_jdk_43_method_4_11) ?_
      show Steps p.tables e below (s₁.setTop (mkF m 12 #[.val (.int ch)] [(.int (1 : Int32))])) _
      refine XS.goto X0.here hx rfl (pc0 := 12) (pc' := 16) rfl (Jvm.hb hby d_jdk_43_method_4_12) (by decide) (by decide) ?_
      show Steps p.tables e below (s₁.setTop (mkF m 16 #[.val (.int ch)] [(.int (1 : Int32))])) _
      show Steps p.tables e below (s₁.setTop (mkF m 16 #[.val (.int ch)] [(.int (1 : Int32))])) t_
      exact k_)
    obtain ⟨fs, hr, hrun, hended, hW, hsame⟩ := X0.leave (v := some (.int (1 : Int32))) (fun h => by rw [Bd.returns] at h; cases h)
    refine ⟨_, _, s4 _ ?_, hrun, hended, _, _, rfl, ?_, ⟨_, rfl⟩, hW, hsame.mono (by decide) (by decide)⟩
    · show Steps p.tables e below (s₁.setTop (mkF m 16 #[.val (.int ch)] [(.int (1 : Int32))])) _
      exact retN X0 hx (t := .boolean) Bd.returns (by simp) (Jvm.hb hby d_jdk_43_method_4_16) hr
    · show Q_rmCanI Z _ h0 n0 _ s₁.heap _
      rw [e0]
      exact ⟨(by first | rfl | (simp only [if_neg h2]; done) | (simp only [if_neg h2]; rfl) | (simp only [if_neg h2, own_narb]; done)), N0, rfl⟩
theorem d_jdk_43_method_23_0 : decode jdk_43_method_23_code 0 = .ok (.iload_n 1, 1) := by decide +kernel
theorem d_jdk_43_method_23_1 : decode jdk_43_method_23_code 1 = .ok (.i2b, 1) := by decide +kernel
theorem d_jdk_43_method_23_2 : decode jdk_43_method_23_code 2 = .ok (.istore 4, 2) := by decide +kernel
theorem d_jdk_43_method_23_4 : decode jdk_43_method_23_code 4 = .ok (.iload_n 2, 1) := by decide +kernel
theorem d_jdk_43_method_23_5 : decode jdk_43_method_23_code 5 = .ok (.istore 5, 2) := by decide +kernel
theorem d_jdk_43_method_23_7 : decode jdk_43_method_23_code 7 = .ok (.iload 5, 2) := by decide +kernel
theorem d_jdk_43_method_23_9 : decode jdk_43_method_23_code 9 = .ok (.iload_n 3, 1) := by decide +kernel
theorem d_jdk_43_method_23_10 : decode jdk_43_method_23_code 10 = .ok (.if_icmp .ge 21, 3) := by decide +kernel
theorem d_jdk_43_method_23_13 : decode jdk_43_method_23_code 13 = .ok (.aload_n 0, 1) := by decide +kernel
theorem d_jdk_43_method_23_14 : decode jdk_43_method_23_code 14 = .ok (.iload 5, 2) := by decide +kernel
theorem d_jdk_43_method_23_16 : decode jdk_43_method_23_code 16 = .ok (.baload, 1) := by decide +kernel
theorem d_jdk_43_method_23_17 : decode jdk_43_method_23_code 17 = .ok (.iload 4, 2) := by decide +kernel
theorem d_jdk_43_method_23_19 : decode jdk_43_method_23_code 19 = .ok (.if_icmp .ne 6, 3) := by decide +kernel
theorem d_jdk_43_method_23_25 : decode jdk_43_method_23_code 25 = .ok (.iinc 5 1, 3) := by decide +kernel
theorem d_jdk_43_method_23_28 : decode jdk_43_method_23_code 28 = .ok (.goto (-21), 3) := by decide +kernel
theorem d_jdk_43_method_23_31 : decode jdk_43_method_23_code 31 = .ok (.iconst (-1), 1) := by decide +kernel
theorem d_jdk_43_method_23_32 : decode jdk_43_method_23_code 32 = .ok (.ireturn, 1) := by decide +kernel
theorem d_jdk_43_method_23_22 : decode jdk_43_method_23_code 22 = .ok (.iload 5, 2) := by decide +kernel
theorem d_jdk_43_method_23_24 : decode jdk_43_method_23_code 24 = .ok (.ireturn, 1) := by decide +kernel
theorem ef_rmIxC (m : MethodId) (x0 : Addr) (x1 : Int32) (x2 : Int32) (x3 : Int32) : entryFrame m #[(.ref x0), (.int x1), (.int x2), (.int x3)] 6 = mkF m 0 #[.val (.ref x0), .val (.int x1), .val (.int x2), .val (.int x3), .unset, .unset] [] := by first | (simp [entryFrame, mkF, argsToLocals, Value.category]; done) | rfl
def Q_rmIxC (Z : State) (b : Addr) (ch : Int32) (kb : ClassId) (cs : List Int32) (j0 : Nat) (h0 : Heap) (n0 : Nat) (v : Option Value) (h : Heap) (L : List Loc) : Prop := (v = some (.int ((Int32.ofNat (own_ix cs ch j0 (cs.length - j0))) - (1 : Int32)))) ∧ (Fr n0 L) ∧ (h = h0)
set_option maxRecDepth 65536 in
set_option maxHeartbeats 40000000 in
theorem rmIxC (l : Launch) (Z : State) (a0 : Array Value) (hw : ∀ d ∈ tables_1, d.before a0 Z = true) (ws : List Jvm.Cond) (b : Addr) (ch : Int32) (kb : ClassId) (cs : List Int32) (j0 : Nat) (h0 : Heap) (n0 : Nat) (Z0 : n0 ≤ h0.size) (I1 : Arv Z h0 b kb .byte (Int32.ofNat cs.length) (own_enc cs) (.int (0 : Int32))) (hb : cs.length ≤ 4) (hj0 : j0 ≤ cs.length) (hlat : own_lat cs) (hchs : own_chs cs) (hc0 : ¬ (ch < (0 : Int32))) (hc1 : ¬ ((255 : Int32) < ch)) :
    MetFree l (⟨"java/lang/StringLatin1", "indexOfChar", "([BIII)I"⟩ : MethodName) (head1 (Jvm.Cond.code (⟨"java/lang/StringLatin1", "indexOfChar", "([BIII)I"⟩ : MethodName) jdk_43_method_23_code 6 (some .int) :: ws) ({ frames := 0, cells := 0, slots := 0, locals := 0 } : Room)) (fun ar_ U => ar_ = #[(.ref b), (.int ch), (.int (Int32.ofNat j0)), (.int (Int32.ofNat cs.length))] ∧ Z.Warmed39 U.vm ∧ U.heap = h0) (fun _ _ _ _ _ => True) (fun _ U o U' => ∃ v L, o = .returned v ∧ Q_rmIxC Z b ch kb cs j0 h0 n0 v U'.heap L ∧ FrameEnd U o U' L ({ frames := 0, cells := 0, slots := 0, locals := 0 } : Room).cells ({ frames := 0, cells := 0, slots := 0, locals := 0 } : Room).slots) := by
  refine MetFree.of_bodySF (plainFor_of_name pn_java_lang_StringLatin1) hisR ?_
  intro p e s m args below meth c s₁ Bd hml0 hP hK
  obtain ⟨rfl, hZ, hh⟩ := hP
  have hx := Bd.exec
  have hby := Bd.bytes
  have hml : c.maxLocals = 6 := hml0
  have hown : s.vm.findClass "java/lang/StringLatin1" = some m.cls := findClass_of_methodNamed Bd.named
  have hnm := (name_of_methodNamed Bd.named Bd.method).1
  have X0 : Stand p l e ({ frames := 0, cells := 0, slots := 0, locals := 0 } : Room) s m #[(.ref b), (.int ch), (.int (Int32.ofNat j0)), (.int (Int32.ofNat cs.length))] below meth c s₁ [] 0 0 := Stand.of_body Bd
  have e0 : s₁.heap = h0 := by rw [← hh, Bd.state]; rfl
  have N0 := Fr.nil n0
  have pre0 : ∀ t_, Steps p.tables e below (s₁.setTop (mkF m 0 #[.val (.ref b), .val (.int ch), .val (.int (Int32.ofNat j0)), .val (.int (Int32.ofNat cs.length)), .unset, .unset] [])) t_ → Steps p.tables e below (s₁.setTop (entryFrame m #[(.ref b), (.int ch), (.int (Int32.ofNat j0)), (.int (Int32.ofNat cs.length))] 6)) t_ := fun t_ k_ => castTop (ef_rmIxC m b ch (Int32.ofNat j0) (Int32.ofNat cs.length)) k_
  have lt_I1 : @LT.lt Nat _ b h0.size := I1.lt
  have s1 : ∀ t_, Steps p.tables e below (s₁.setTop (mkF m 7 #[.val (.ref b), .val (.int ch), .val (.int (Int32.ofNat j0)), .val (.int (Int32.ofNat cs.length)), .val (.int (own_lo ch)), .val (.int (Int32.ofNat j0))] [])) t_ → Steps p.tables e below (s₁.setTop (entryFrame m #[(.ref b), (.int ch), (.int (Int32.ofNat j0)), (.int (Int32.ofNat cs.length))] 6)) t_ := fun t_ k_ => pre0 t_ (by
    show Steps p.tables e below (s₁.setTop (mkF m 0 #[.val (.ref b), .val (.int ch), .val (.int (Int32.ofNat j0)), .val (.int (Int32.ofNat cs.length)), .unset, .unset] [])) t_
    refine XS.iloadN X0.here hx rfl (Jvm.hb hby d_jdk_43_method_23_0) rfl ?_
    show Steps p.tables e below (s₁.setTop (mkF m 1 #[.val (.ref b), .val (.int ch), .val (.int (Int32.ofNat j0)), .val (.int (Int32.ofNat cs.length)), .unset, .unset] [(.int ch)])) _
    refine XS.i2b X0.here hx rfl (Jvm.hb hby d_jdk_43_method_23_1) rfl ?_
    show Steps p.tables e below (s₁.setTop (mkF m 2 #[.val (.ref b), .val (.int ch), .val (.int (Int32.ofNat j0)), .val (.int (Int32.ofNat cs.length)), .unset, .unset] [(.int (own_lo ch))])) _
    refine XS.istore X0.here hx rfl (Jvm.hb hby d_jdk_43_method_23_2) rfl (l' := #[.val (.ref b), .val (.int ch), .val (.int (Int32.ofNat j0)), .val (.int (Int32.ofNat cs.length)), .val (.int (own_lo ch)), .unset]) rfl ?_
    show Steps p.tables e below (s₁.setTop (mkF m 4 #[.val (.ref b), .val (.int ch), .val (.int (Int32.ofNat j0)), .val (.int (Int32.ofNat cs.length)), .val (.int (own_lo ch)), .unset] [])) _
    refine XS.iloadN X0.here hx rfl (Jvm.hb hby d_jdk_43_method_23_4) rfl ?_
    show Steps p.tables e below (s₁.setTop (mkF m 5 #[.val (.ref b), .val (.int ch), .val (.int (Int32.ofNat j0)), .val (.int (Int32.ofNat cs.length)), .val (.int (own_lo ch)), .unset] [(.int (Int32.ofNat j0))])) _
    refine XS.istore X0.here hx rfl (Jvm.hb hby d_jdk_43_method_23_5) rfl (l' := #[.val (.ref b), .val (.int ch), .val (.int (Int32.ofNat j0)), .val (.int (Int32.ofNat cs.length)), .val (.int (own_lo ch)), .val (.int (Int32.ofNat j0))]) rfl ?_
    show Steps p.tables e below (s₁.setTop (mkF m 7 #[.val (.ref b), .val (.int ch), .val (.int (Int32.ofNat j0)), .val (.int (Int32.ofNat cs.length)), .val (.int (own_lo ch)), .val (.int (Int32.ofNat j0))] [])) _
    show Steps p.tables e below (s₁.setTop (mkF m 7 #[.val (.ref b), .val (.int ch), .val (.int (Int32.ofNat j0)), .val (.int (Int32.ofNat cs.length)), .val (.int (own_lo ch)), .val (.int (Int32.ofNat j0))] [])) t_
    exact k_)
  have lp2 : ∀ (k_ : Nat) (j : Nat) (T_ : State) (lo_ : List Loc), j + k_ = cs.length → Stand p l e ({ frames := 0, cells := 0, slots := 0, locals := 0 } : Room) s m #[(.ref b), (.int ch), (.int (Int32.ofNat j0)), (.int (Int32.ofNat cs.length))] below meth c T_ lo_ 0 0 → T_.heap = h0 → Fr n0 lo_ → own_ix cs ch j k_ = own_ix cs ch j0 (cs.length - j0) → ∃ (T' : State) (lo' : List Loc) (fe_ : JFrame), Stand p l e ({ frames := 0, cells := 0, slots := 0, locals := 0 } : Room) s m #[(.ref b), (.int ch), (.int (Int32.ofNat j0)), (.int (Int32.ofNat cs.length))] below meth c T' lo' 0 0 ∧ T'.heap = h0 ∧ Fr n0 lo' ∧ ((fe_ = (mkF m 31 #[.val (.ref b), .val (.int ch), .val (.int (Int32.ofNat j0)), .val (.int (Int32.ofNat cs.length)), .val (.int (own_lo ch)), .val (.int (Int32.ofNat cs.length))] []) ∧ own_ix cs ch j0 (cs.length - j0) = 0) ∨ (∃ (jj : Nat), fe_ = (mkF m 22 #[.val (.ref b), .val (.int ch), .val (.int (Int32.ofNat j0)), .val (.int (Int32.ofNat cs.length)), .val (.int (own_lo ch)), .val (.int (Int32.ofNat jj))] []) ∧ own_ix cs ch j0 (cs.length - j0) = jj + 1)) ∧ ∀ t_, Steps p.tables e below (T'.setTop fe_) t_ → Steps p.tables e below (T_.setTop (mkF m 7 #[.val (.ref b), .val (.int ch), .val (.int (Int32.ofNat j0)), .val (.int (Int32.ofNat cs.length)), .val (.int (own_lo ch)), .val (.int (Int32.ofNat j))] [])) t_ := by
    intro k_
    induction k_ with
    | zero => 
      intro j T_ lo_ hm_ X_ e_ N_ hr
      have s3 : ∀ t_, Steps p.tables e below (T_.setTop (mkF m 31 #[.val (.ref b), .val (.int ch), .val (.int (Int32.ofNat j0)), .val (.int (Int32.ofNat cs.length)), .val (.int (own_lo ch)), .val (.int (Int32.ofNat j))] [])) t_ → Steps p.tables e below (T_.setTop (mkF m 7 #[.val (.ref b), .val (.int ch), .val (.int (Int32.ofNat j0)), .val (.int (Int32.ofNat cs.length)), .val (.int (own_lo ch)), .val (.int (Int32.ofNat j))] [])) t_ := fun t_ k_ => (fun _ k_ => k_) t_ (by
        show Steps p.tables e below (T_.setTop (mkF m 7 #[.val (.ref b), .val (.int ch), .val (.int (Int32.ofNat j0)), .val (.int (Int32.ofNat cs.length)), .val (.int (own_lo ch)), .val (.int (Int32.ofNat j))] [])) t_
        refine XS.iload X_.here hx rfl (Jvm.hb hby d_jdk_43_method_23_7) rfl ?_
        show Steps p.tables e below (T_.setTop (mkF m 9 #[.val (.ref b), .val (.int ch), .val (.int (Int32.ofNat j0)), .val (.int (Int32.ofNat cs.length)), .val (.int (own_lo ch)), .val (.int (Int32.ofNat j))] [(.int (Int32.ofNat j))])) _
        refine XS.iloadN X_.here hx rfl (Jvm.hb hby d_jdk_43_method_23_9) rfl ?_
        show Steps p.tables e below (T_.setTop (mkF m 10 #[.val (.ref b), .val (.int ch), .val (.int (Int32.ofNat j0)), .val (.int (Int32.ofNat cs.length)), .val (.int (own_lo ch)), .val (.int (Int32.ofNat j))] [(.int (Int32.ofNat cs.length)), (.int (Int32.ofNat j))])) _
        refine XS.icmpYes X_.here hx rfl (pc0 := 10) (pc' := 31) rfl (Jvm.hb hby d_jdk_43_method_23_10) rfl (flt (own_nlt (by omega) (by omega))).2.1 (by decide) (by decide) ?_
        show Steps p.tables e below (T_.setTop (mkF m 31 #[.val (.ref b), .val (.int ch), .val (.int (Int32.ofNat j0)), .val (.int (Int32.ofNat cs.length)), .val (.int (own_lo ch)), .val (.int (Int32.ofNat j))] [])) _
        show Steps p.tables e below (T_.setTop (mkF m 31 #[.val (.ref b), .val (.int ch), .val (.int (Int32.ofNat j0)), .val (.int (Int32.ofNat cs.length)), .val (.int (own_lo ch)), .val (.int (Int32.ofNat j))] [])) t_
        exact k_)
      exact ⟨T_, _, _, X_, e_, N_, (Or.inl ⟨(by rw [show j = cs.length by omega]), hr.symm⟩), s3⟩
    | succ k_ ih => 
      intro j T_ lo_ hm_ X_ e_ N_ hr
      obtain ⟨cl4, Ar4, -, S4, M4, H4, -⟩ := id I1
      have hin4 : ¬ ((Int32.ofNat j) < 0 ∨ cl4.slots.size ≤ ((Int32.ofNat j)).toNatClampNeg) := inb_of S4 (own_in (by omega) (by omega))
      have hat4 : cl4.slots[((Int32.ofNat j)).toNatClampNeg]? = some (.int (own_lo (cs.getD j 0))) := H4.at hin4 (own_geth cs j _ hlat (by omega) (by omega))
      have s5 : ∀ t_, Steps p.tables e below (T_.setTop (mkF m 19 #[.val (.ref b), .val (.int ch), .val (.int (Int32.ofNat j0)), .val (.int (Int32.ofNat cs.length)), .val (.int (own_lo ch)), .val (.int (Int32.ofNat j))] [(.int (own_lo ch)), (.int (own_lo (cs.getD j 0)))])) t_ → Steps p.tables e below (T_.setTop (mkF m 7 #[.val (.ref b), .val (.int ch), .val (.int (Int32.ofNat j0)), .val (.int (Int32.ofNat cs.length)), .val (.int (own_lo ch)), .val (.int (Int32.ofNat j))] [])) t_ := fun t_ k_ => (fun _ k_ => k_) t_ (by
        show Steps p.tables e below (T_.setTop (mkF m 7 #[.val (.ref b), .val (.int ch), .val (.int (Int32.ofNat j0)), .val (.int (Int32.ofNat cs.length)), .val (.int (own_lo ch)), .val (.int (Int32.ofNat j))] [])) t_
        refine XS.iload X_.here hx rfl (Jvm.hb hby d_jdk_43_method_23_7) rfl ?_
        show Steps p.tables e below (T_.setTop (mkF m 9 #[.val (.ref b), .val (.int ch), .val (.int (Int32.ofNat j0)), .val (.int (Int32.ofNat cs.length)), .val (.int (own_lo ch)), .val (.int (Int32.ofNat j))] [(.int (Int32.ofNat j))])) _
        refine XS.iloadN X_.here hx rfl (Jvm.hb hby d_jdk_43_method_23_9) rfl ?_
        show Steps p.tables e below (T_.setTop (mkF m 10 #[.val (.ref b), .val (.int ch), .val (.int (Int32.ofNat j0)), .val (.int (Int32.ofNat cs.length)), .val (.int (own_lo ch)), .val (.int (Int32.ofNat j))] [(.int (Int32.ofNat cs.length)), (.int (Int32.ofNat j))])) _
        refine XS.icmpNo X_.here hx rfl (Jvm.hb hby d_jdk_43_method_23_10) rfl (tlt (own_lt (by omega) (by omega))).2.1 ?_
        show Steps p.tables e below (T_.setTop (mkF m 13 #[.val (.ref b), .val (.int ch), .val (.int (Int32.ofNat j0)), .val (.int (Int32.ofNat cs.length)), .val (.int (own_lo ch)), .val (.int (Int32.ofNat j))] [])) _
        refine XS.aloadN X_.here hx rfl (Jvm.hb hby d_jdk_43_method_23_13) rfl rfl ?_
        show Steps p.tables e below (T_.setTop (mkF m 14 #[.val (.ref b), .val (.int ch), .val (.int (Int32.ofNat j0)), .val (.int (Int32.ofNat cs.length)), .val (.int (own_lo ch)), .val (.int (Int32.ofNat j))] [(.ref b)])) _
        refine XS.iload X_.here hx rfl (Jvm.hb hby d_jdk_43_method_23_14) rfl ?_
        show Steps p.tables e below (T_.setTop (mkF m 16 #[.val (.ref b), .val (.int ch), .val (.int (Int32.ofNat j0)), .val (.int (Int32.ofNat cs.length)), .val (.int (own_lo ch)), .val (.int (Int32.ofNat j))] [(.int (Int32.ofNat j)), (.ref b)])) _
        refine X_.baloadBytes hx (j := (Int32.ofNat j)) (v := (.int (own_lo (cs.getD j 0)))) (by rw [e_]; exact Ar4.1) (State.isArrayOf_alike hZ.alike Ar4.2.1) Ar4.2.2 hin4 hat4 (g := (mkF m 16 #[.val (.ref b), .val (.int ch), .val (.int (Int32.ofNat j0)), .val (.int (Int32.ofNat cs.length)), .val (.int (own_lo ch)), .val (.int (Int32.ofNat j))] [(.int (Int32.ofNat j)), (.ref b)])) rfl rfl (Jvm.hb hby d_jdk_43_method_23_16) _ ?_
        show Steps p.tables e below (T_.setTop (mkF m 17 #[.val (.ref b), .val (.int ch), .val (.int (Int32.ofNat j0)), .val (.int (Int32.ofNat cs.length)), .val (.int (own_lo ch)), .val (.int (Int32.ofNat j))] [(.int (own_lo (cs.getD j 0)))])) _
        refine XS.iload X_.here hx rfl (Jvm.hb hby d_jdk_43_method_23_17) rfl ?_
        show Steps p.tables e below (T_.setTop (mkF m 19 #[.val (.ref b), .val (.int ch), .val (.int (Int32.ofNat j0)), .val (.int (Int32.ofNat cs.length)), .val (.int (own_lo ch)), .val (.int (Int32.ofNat j))] [(.int (own_lo ch)), (.int (own_lo (cs.getD j 0)))])) _
        show Steps p.tables e below (T_.setTop (mkF m 19 #[.val (.ref b), .val (.int ch), .val (.int (Int32.ofNat j0)), .val (.int (Int32.ofNat cs.length)), .val (.int (own_lo ch)), .val (.int (Int32.ofNat j))] [(.int (own_lo ch)), (.int (own_lo (cs.getD j 0)))])) t_
        exact k_)
      by_cases h6 : (own_lo (cs.getD j 0)) = (own_lo ch)
      · have s7 : ∀ t_, Steps p.tables e below (T_.setTop (mkF m 22 #[.val (.ref b), .val (.int ch), .val (.int (Int32.ofNat j0)), .val (.int (Int32.ofNat cs.length)), .val (.int (own_lo ch)), .val (.int (Int32.ofNat j))] [])) t_ → Steps p.tables e below (T_.setTop (mkF m 7 #[.val (.ref b), .val (.int ch), .val (.int (Int32.ofNat j0)), .val (.int (Int32.ofNat cs.length)), .val (.int (own_lo ch)), .val (.int (Int32.ofNat j))] [])) t_ := fun t_ k_ => s5 t_ (by
          show Steps p.tables e below (T_.setTop (mkF m 19 #[.val (.ref b), .val (.int ch), .val (.int (Int32.ofNat j0)), .val (.int (Int32.ofNat cs.length)), .val (.int (own_lo ch)), .val (.int (Int32.ofNat j))] [(.int (own_lo ch)), (.int (own_lo (cs.getD j 0)))])) t_
          refine XS.icmpNo X_.here hx rfl (Jvm.hb hby d_jdk_43_method_23_19) rfl (teq h6).2 ?_
          show Steps p.tables e below (T_.setTop (mkF m 22 #[.val (.ref b), .val (.int ch), .val (.int (Int32.ofNat j0)), .val (.int (Int32.ofNat cs.length)), .val (.int (own_lo ch)), .val (.int (Int32.ofNat j))] [])) _
          show Steps p.tables e below (T_.setTop (mkF m 22 #[.val (.ref b), .val (.int ch), .val (.int (Int32.ofNat j0)), .val (.int (Int32.ofNat cs.length)), .val (.int (own_lo ch)), .val (.int (Int32.ofNat j))] [])) t_
          exact k_)
        exact ⟨T_, _, _, X_, e_, N_, (Or.inr ⟨j, rfl, (by rw [← hr, own_ix, if_pos (own_lo_inj (hchs _ (own_mem cs j (by omega))).1 (hlat _ (own_mem cs j (by omega))) hc0 hc1 h6)])⟩), s7⟩
      · have s8 : ∀ t_, Steps p.tables e below (T_.setTop (mkF m 7 #[.val (.ref b), .val (.int ch), .val (.int (Int32.ofNat j0)), .val (.int (Int32.ofNat cs.length)), .val (.int (own_lo ch)), .val (.int ((Int32.ofNat j) + (1 : Int32)))] [])) t_ → Steps p.tables e below (T_.setTop (mkF m 7 #[.val (.ref b), .val (.int ch), .val (.int (Int32.ofNat j0)), .val (.int (Int32.ofNat cs.length)), .val (.int (own_lo ch)), .val (.int (Int32.ofNat j))] [])) t_ := fun t_ k_ => s5 t_ (by
          show Steps p.tables e below (T_.setTop (mkF m 19 #[.val (.ref b), .val (.int ch), .val (.int (Int32.ofNat j0)), .val (.int (Int32.ofNat cs.length)), .val (.int (own_lo ch)), .val (.int (Int32.ofNat j))] [(.int (own_lo ch)), (.int (own_lo (cs.getD j 0)))])) t_
          refine XS.icmpYes X_.here hx rfl (pc0 := 19) (pc' := 25) rfl (Jvm.hb hby d_jdk_43_method_23_19) rfl (feq h6).2 (by decide) (by decide) ?_
          show Steps p.tables e below (T_.setTop (mkF m 25 #[.val (.ref b), .val (.int ch), .val (.int (Int32.ofNat j0)), .val (.int (Int32.ofNat cs.length)), .val (.int (own_lo ch)), .val (.int (Int32.ofNat j))] [])) _
          refine XS.iinc X_.here hx rfl (Jvm.hb hby d_jdk_43_method_23_25) rfl (l' := #[.val (.ref b), .val (.int ch), .val (.int (Int32.ofNat j0)), .val (.int (Int32.ofNat cs.length)), .val (.int (own_lo ch)), .val (.int ((Int32.ofNat j) + (1 : Int32)))]) rfl ?_
          show Steps p.tables e below (T_.setTop (mkF m 28 #[.val (.ref b), .val (.int ch), .val (.int (Int32.ofNat j0)), .val (.int (Int32.ofNat cs.length)), .val (.int (own_lo ch)), .val (.int ((Int32.ofNat j) + (1 : Int32)))] [])) _
          refine XS.goto X_.here hx rfl (pc0 := 28) (pc' := 7) rfl (Jvm.hb hby d_jdk_43_method_23_28) (by decide) (by decide) ?_
          show Steps p.tables e below (T_.setTop (mkF m 7 #[.val (.ref b), .val (.int ch), .val (.int (Int32.ofNat j0)), .val (.int (Int32.ofNat cs.length)), .val (.int (own_lo ch)), .val (.int ((Int32.ofNat j) + (1 : Int32)))] [])) _
          show Steps p.tables e below (T_.setTop (mkF m 7 #[.val (.ref b), .val (.int ch), .val (.int (Int32.ofNat j0)), .val (.int (Int32.ofNat cs.length)), .val (.int (own_lo ch)), .val (.int ((Int32.ofNat j) + (1 : Int32)))] [])) t_
          exact k_)
        obtain ⟨T9, lo9, fe9, X9, e9, N9, A9, st9⟩ := ih (j + 1) T_ _  (by omega) X_ e_ N_   (by rw [own_ix, if_neg (fun q => h6 (by rw [q]))] at hr; exact hr)
        exact ⟨T9, lo9, fe9, X9, e9, N9, A9, fun t_ k_ => s8 t_ (castTop (by rw [own_up]) (st9 t_ k_))⟩
  obtain ⟨T10, lo10, fe10, X10, e10, N10, A10, st10⟩ := lp2 (cs.length - j0) j0 s₁ _  (by omega) X0 e0 N0   rfl
  rcases A10 with ⟨rfl, J10_0⟩ | ⟨jj_10, rfl, J10_0⟩
  · have s11 : ∀ t_, Steps p.tables e below (T10.setTop (mkF m 31 #[.val (.ref b), .val (.int ch), .val (.int (Int32.ofNat j0)), .val (.int (Int32.ofNat cs.length)), .val (.int (own_lo ch)), .val (.int (Int32.ofNat cs.length))] [])) t_ → Steps p.tables e below (s₁.setTop (entryFrame m #[(.ref b), (.int ch), (.int (Int32.ofNat j0)), (.int (Int32.ofNat cs.length))] 6)) t_ := fun t_ k_ => s1 t_ (st10 t_ k_)
    have s12 : ∀ t_, Steps p.tables e below (T10.setTop (mkF m 32 #[.val (.ref b), .val (.int ch), .val (.int (Int32.ofNat j0)), .val (.int (Int32.ofNat cs.length)), .val (.int (own_lo ch)), .val (.int (Int32.ofNat cs.length))] [(.int (-1 : Int32))])) t_ → Steps p.tables e below (s₁.setTop (entryFrame m #[(.ref b), (.int ch), (.int (Int32.ofNat j0)), (.int (Int32.ofNat cs.length))] 6)) t_ := fun t_ k_ => s11 t_ (by
      show Steps p.tables e below (T10.setTop (mkF m 31 #[.val (.ref b), .val (.int ch), .val (.int (Int32.ofNat j0)), .val (.int (Int32.ofNat cs.length)), .val (.int (own_lo ch)), .val (.int (Int32.ofNat cs.length))] [])) t_
      refine XS.iconst X10.here hx rfl (Jvm.hb hby d_jdk_43_method_23_31) ?_
      show Steps p.tables e below (T10.setTop (mkF m 32 #[.val (.ref b), .val (.int ch), .val (.int (Int32.ofNat j0)), .val (.int (Int32.ofNat cs.length)), .val (.int (own_lo ch)), .val (.int (Int32.ofNat cs.length))] [(.int (-1 : Int32))])) _
      show Steps p.tables e below (T10.setTop (mkF m 32 #[.val (.ref b), .val (.int ch), .val (.int (Int32.ofNat j0)), .val (.int (Int32.ofNat cs.length)), .val (.int (own_lo ch)), .val (.int (Int32.ofNat cs.length))] [(.int (-1 : Int32))])) t_
      exact k_)
    obtain ⟨fs, hr, hrun, hended, hW, hsame⟩ := X10.leave (v := some (.int (-1 : Int32))) (fun h => by rw [Bd.returns] at h; cases h)
    refine ⟨_, _, s12 _ ?_, hrun, hended, _, _, rfl, ?_, ⟨_, rfl⟩, hW, hsame.mono (by decide) (by decide)⟩
    · show Steps p.tables e below (T10.setTop (mkF m 32 #[.val (.ref b), .val (.int ch), .val (.int (Int32.ofNat j0)), .val (.int (Int32.ofNat cs.length)), .val (.int (own_lo ch)), .val (.int (Int32.ofNat cs.length))] [(.int (-1 : Int32))])) _
      exact retI X10 hx Bd.returns (Jvm.hb hby d_jdk_43_method_23_32) hr
    · show Q_rmIxC Z _ _ _ _ _ h0 n0 _ T10.heap _
      rw [e10]
      exact ⟨(by rw [J10_0]; rfl), N10, rfl⟩
  · have s13 : ∀ t_, Steps p.tables e below (T10.setTop (mkF m 22 #[.val (.ref b), .val (.int ch), .val (.int (Int32.ofNat j0)), .val (.int (Int32.ofNat cs.length)), .val (.int (own_lo ch)), .val (.int (Int32.ofNat jj_10))] [])) t_ → Steps p.tables e below (s₁.setTop (entryFrame m #[(.ref b), (.int ch), (.int (Int32.ofNat j0)), (.int (Int32.ofNat cs.length))] 6)) t_ := fun t_ k_ => s1 t_ (st10 t_ k_)
    have s14 : ∀ t_, Steps p.tables e below (T10.setTop (mkF m 24 #[.val (.ref b), .val (.int ch), .val (.int (Int32.ofNat j0)), .val (.int (Int32.ofNat cs.length)), .val (.int (own_lo ch)), .val (.int (Int32.ofNat jj_10))] [(.int (Int32.ofNat jj_10))])) t_ → Steps p.tables e below (s₁.setTop (entryFrame m #[(.ref b), (.int ch), (.int (Int32.ofNat j0)), (.int (Int32.ofNat cs.length))] 6)) t_ := fun t_ k_ => s13 t_ (by
      show Steps p.tables e below (T10.setTop (mkF m 22 #[.val (.ref b), .val (.int ch), .val (.int (Int32.ofNat j0)), .val (.int (Int32.ofNat cs.length)), .val (.int (own_lo ch)), .val (.int (Int32.ofNat jj_10))] [])) t_
      refine XS.iload X10.here hx rfl (Jvm.hb hby d_jdk_43_method_23_22) rfl ?_
      show Steps p.tables e below (T10.setTop (mkF m 24 #[.val (.ref b), .val (.int ch), .val (.int (Int32.ofNat j0)), .val (.int (Int32.ofNat cs.length)), .val (.int (own_lo ch)), .val (.int (Int32.ofNat jj_10))] [(.int (Int32.ofNat jj_10))])) _
      show Steps p.tables e below (T10.setTop (mkF m 24 #[.val (.ref b), .val (.int ch), .val (.int (Int32.ofNat j0)), .val (.int (Int32.ofNat cs.length)), .val (.int (own_lo ch)), .val (.int (Int32.ofNat jj_10))] [(.int (Int32.ofNat jj_10))])) t_
      exact k_)
    obtain ⟨fs, hr, hrun, hended, hW, hsame⟩ := X10.leave (v := some (.int (Int32.ofNat jj_10))) (fun h => by rw [Bd.returns] at h; cases h)
    refine ⟨_, _, s14 _ ?_, hrun, hended, _, _, rfl, ?_, ⟨_, rfl⟩, hW, hsame.mono (by decide) (by decide)⟩
    · show Steps p.tables e below (T10.setTop (mkF m 24 #[.val (.ref b), .val (.int ch), .val (.int (Int32.ofNat j0)), .val (.int (Int32.ofNat cs.length)), .val (.int (own_lo ch)), .val (.int (Int32.ofNat jj_10))] [(.int (Int32.ofNat jj_10))])) _
      exact retI X10 hx Bd.returns (Jvm.hb hby d_jdk_43_method_23_24) hr
    · show Q_rmIxC Z _ _ _ _ _ h0 n0 _ T10.heap _
      rw [e10]
      exact ⟨(by rw [J10_0, ← own_found]), N10, rfl⟩
theorem d_jdk_43_method_22_0 : decode jdk_43_method_22_code 0 = .ok (.iload_n 1, 1) := by decide +kernel
theorem pd__I_Z : parseMethodDescriptor "(I)Z" = some ⟨[.int], some .boolean⟩ := by decide +kernel
theorem d_jdk_43_method_22_1 : decode jdk_43_method_22_code 1 = .ok (.invokestatic 88, 3) := by decide +kernel
theorem d_jdk_43_method_22_4 : decode jdk_43_method_22_code 4 = .ok (.ifCond .ne 5, 3) := by decide +kernel
theorem d_jdk_43_method_22_7 : decode jdk_43_method_22_code 7 = .ok (.iconst (-1), 1) := by decide +kernel
theorem d_jdk_43_method_22_8 : decode jdk_43_method_22_code 8 = .ok (.ireturn, 1) := by decide +kernel
theorem d_jdk_43_method_22_9 : decode jdk_43_method_22_code 9 = .ok (.iload_n 2, 1) := by decide +kernel
theorem d_jdk_43_method_22_10 : decode jdk_43_method_22_code 10 = .ok (.iconst 0, 1) := by decide +kernel
theorem pd__II_I : parseMethodDescriptor "(II)I" = some ⟨[.int, .int], some .int⟩ := by decide +kernel
theorem d_jdk_43_method_22_11 : decode jdk_43_method_22_code 11 = .ok (.invokestatic 92, 3) := by decide +kernel
theorem d_jdk_43_method_22_14 : decode jdk_43_method_22_code 14 = .ok (.istore_n 2, 1) := by decide +kernel
theorem d_jdk_43_method_22_15 : decode jdk_43_method_22_code 15 = .ok (.iload_n 3, 1) := by decide +kernel
theorem d_jdk_43_method_22_16 : decode jdk_43_method_22_code 16 = .ok (.aload_n 0, 1) := by decide +kernel
theorem d_jdk_43_method_22_17 : decode jdk_43_method_22_code 17 = .ok (.arraylength, 1) := by decide +kernel
theorem d_jdk_43_method_22_18 : decode jdk_43_method_22_code 18 = .ok (.invokestatic 38, 3) := by decide +kernel
theorem d_jdk_43_method_22_21 : decode jdk_43_method_22_code 21 = .ok (.istore_n 3, 1) := by decide +kernel
theorem d_jdk_43_method_22_22 : decode jdk_43_method_22_code 22 = .ok (.iload_n 2, 1) := by decide +kernel
theorem d_jdk_43_method_22_23 : decode jdk_43_method_22_code 23 = .ok (.iload_n 3, 1) := by decide +kernel
theorem d_jdk_43_method_22_24 : decode jdk_43_method_22_code 24 = .ok (.if_icmp .lt 5, 3) := by decide +kernel
theorem d_jdk_43_method_22_29 : decode jdk_43_method_22_code 29 = .ok (.aload_n 0, 1) := by decide +kernel
theorem d_jdk_43_method_22_30 : decode jdk_43_method_22_code 30 = .ok (.iload_n 1, 1) := by decide +kernel
theorem d_jdk_43_method_22_31 : decode jdk_43_method_22_code 31 = .ok (.iload_n 2, 1) := by decide +kernel
theorem d_jdk_43_method_22_32 : decode jdk_43_method_22_code 32 = .ok (.iload_n 3, 1) := by decide +kernel
theorem pd___BIII_I : parseMethodDescriptor "([BIII)I" = some ⟨[(.array .byte), .int, .int, .int], some .int⟩ := by decide +kernel
theorem d_jdk_43_method_22_33 : decode jdk_43_method_22_code 33 = .ok (.invokestatic 95, 3) := by decide +kernel
theorem d_jdk_43_method_22_36 : decode jdk_43_method_22_code 36 = .ok (.ireturn, 1) := by decide +kernel
theorem d_jdk_43_method_22_27 : decode jdk_43_method_22_code 27 = .ok (.iconst (-1), 1) := by decide +kernel
theorem d_jdk_43_method_22_28 : decode jdk_43_method_22_code 28 = .ok (.ireturn, 1) := by decide +kernel
theorem ef_rmIxL (m : MethodId) (x0 : Addr) (x1 : Int32) (x2 : Int32) (x3 : Int32) : entryFrame m #[(.ref x0), (.int x1), (.int x2), (.int x3)] 4 = mkF m 0 #[.val (.ref x0), .val (.int x1), .val (.int x2), .val (.int x3)] [] := by first | (simp [entryFrame, mkF, argsToLocals, Value.category]; done) | rfl
def Q_rmIxL (Z : State) (b : Addr) (ch : Int32) (kb : ClassId) (cs : List Int32) (j0 : Nat) (h0 : Heap) (n0 : Nat) (v : Option Value) (h : Heap) (L : List Loc) : Prop := (v = some (.int ((Int32.ofNat (own_ix cs ch j0 (cs.length - j0))) - (1 : Int32)))) ∧ (Fr n0 L) ∧ (h = h0)
set_option maxRecDepth 65536 in
set_option maxHeartbeats 40000000 in
theorem rmIxL (l : Launch) (Z : State) (a0 : Array Value) (hw : ∀ d ∈ tables_1, d.before a0 Z = true) (ws : List Jvm.Cond) (b : Addr) (ch : Int32) (kb : ClassId) (cs : List Int32) (j0 : Nat) (h0 : Heap) (n0 : Nat) (Z0 : n0 ≤ h0.size) (I1 : Arv Z h0 b kb .byte (Int32.ofNat cs.length) (own_enc cs) (.int (0 : Int32))) (hb : cs.length ≤ 4) (hj0 : j0 ≤ cs.length) (hlat : own_lat cs) (hchs : own_chs cs) (hc0 : ¬ (ch < (0 : Int32))) (hc1 : ¬ ((65535 : Int32) < ch)) :
    MetFree l (⟨"java/lang/StringLatin1", "indexOf", "([BIII)I"⟩ : MethodName) (head1 (Jvm.Cond.code (⟨"java/lang/StringLatin1", "indexOf", "([BIII)I"⟩ : MethodName) jdk_43_method_22_code 4 (some .int) :: ws) ({ frames := 1, cells := 0, slots := 0, locals := 17 } : Room)) (fun ar_ U => ar_ = #[(.ref b), (.int ch), (.int (Int32.ofNat j0)), (.int (Int32.ofNat cs.length))] ∧ Z.Warmed39 U.vm ∧ U.heap = h0) (fun _ _ _ _ _ => True) (fun _ U o U' => ∃ v L, o = .returned v ∧ Q_rmIxL Z b ch kb cs j0 h0 n0 v U'.heap L ∧ FrameEnd U o U' L ({ frames := 1, cells := 0, slots := 0, locals := 17 } : Room).cells ({ frames := 1, cells := 0, slots := 0, locals := 17 } : Room).slots) := by
  refine MetFree.of_bodySF (plainFor_of_name pn_java_lang_StringLatin1) hisR ?_
  intro p e s m args below meth c s₁ Bd hml0 hP hK
  obtain ⟨rfl, hZ, hh⟩ := hP
  have hx := Bd.exec
  have hby := Bd.bytes
  have hml : c.maxLocals = 4 := hml0
  have hown : s.vm.findClass "java/lang/StringLatin1" = some m.cls := findClass_of_methodNamed Bd.named
  have hnm := (name_of_methodNamed Bd.named Bd.method).1
  have X0 : Stand p l e ({ frames := 1, cells := 0, slots := 0, locals := 17 } : Room) s m #[(.ref b), (.int ch), (.int (Int32.ofNat j0)), (.int (Int32.ofNat cs.length))] below meth c s₁ [] 0 0 := Stand.of_body Bd
  have e0 : s₁.heap = h0 := by rw [← hh, Bd.state]; rfl
  have N0 := Fr.nil n0
  have pre0 : ∀ t_, Steps p.tables e below (s₁.setTop (mkF m 0 #[.val (.ref b), .val (.int ch), .val (.int (Int32.ofNat j0)), .val (.int (Int32.ofNat cs.length))] [])) t_ → Steps p.tables e below (s₁.setTop (entryFrame m #[(.ref b), (.int ch), (.int (Int32.ofNat j0)), (.int (Int32.ofNat cs.length))] 4)) t_ := fun t_ k_ => castTop (ef_rmIxL m b ch (Int32.ofNat j0) (Int32.ofNat cs.length)) k_
  have lt_I1 : @LT.lt Nat _ b h0.size := I1.lt
  have Zc1 : n0 ≤ h0.size := by omega
  obtain ⟨_, _, ⟨T2, L2, k2, n2⟩, -, X2, ⟨Lc2, hQ2, l2, y2, z2⟩, st2⟩ := Jvm.LawKit.callS X0 hx (y := (⟨"java/lang/StringLatin1", "canEncode", "(I)Z"⟩ : MethodName)) hown (mvT hZ (hw _ (List.mem_of_getElem? (i := 67) rfl))) (mvT hZ (hw _ (List.mem_of_getElem? (i := 68) rfl))) (mvT hZ (hw _ (List.mem_of_getElem? (i := 65) rfl))) (mvT hZ (hw _ (List.mem_of_getElem? (i := 69) rfl))) (by decide) (backOf (W := 0) (rmCanI l Z a0 hw [] ch h0 n0 Zc1 (hc0 : ¬ (ch < (0 : Int32)))) hZ (hw _ (List.mem_of_getElem? (i := 69) rfl)) (hw _ (List.mem_of_getElem? (i := 65) rfl)) (by decide) (by decide)) (g := (mkF m 1 #[.val (.ref b), .val (.int ch), .val (.int (Int32.ofNat j0)), .val (.int (Int32.ofNat cs.length))] [(.int ch)])) rfl (by rw [hml]; rfl) (argsL := [(.int ch)]) (rest := []) (lenOf pd__I_Z rfl) rfl (by show 2 * 0 + _ ≤ _; exact Nat.le_of_eq rfl) (Jvm.hb hby d_jdk_43_method_22_1) (fun _ _ => ⟨rfl, e0, (by decide : 0 + 0 ≤ _), (by decide : 0 + 0 ≤ _)⟩)
  dsimp only [Pt.U, Pt.locs, Pt.cells, Pt.slots] at X2 l2 y2 z2 st2 hQ2
  subst l2 y2 z2
  obtain ⟨rfl, N2q, e2⟩ := hQ2
  have N2 := Fr.app N0 N2q
  have s3 : ∀ t_, Steps p.tables e below (T2.setTop (mkF m 4 #[.val (.ref b), .val (.int ch), .val (.int (Int32.ofNat j0)), .val (.int (Int32.ofNat cs.length))] [(.int (if (255 : Int32) < ch then (0 : Int32) else (1 : Int32)))])) t_ → Steps p.tables e below (s₁.setTop (entryFrame m #[(.ref b), (.int ch), (.int (Int32.ofNat j0)), (.int (Int32.ofNat cs.length))] 4)) t_ := fun t_ k_ => pre0 t_ (by
    show Steps p.tables e below (s₁.setTop (mkF m 0 #[.val (.ref b), .val (.int ch), .val (.int (Int32.ofNat j0)), .val (.int (Int32.ofNat cs.length))] [])) t_
    refine XS.iloadN X0.here hx rfl (Jvm.hb hby d_jdk_43_method_22_0) rfl ?_
    show Steps p.tables e below (s₁.setTop (mkF m 1 #[.val (.ref b), .val (.int ch), .val (.int (Int32.ofNat j0)), .val (.int (Int32.ofNat cs.length))] [(.int ch)])) _
    refine st2 _ ?_
    show Steps p.tables e below (T2.setTop (mkF m 4 #[.val (.ref b), .val (.int ch), .val (.int (Int32.ofNat j0)), .val (.int (Int32.ofNat cs.length))] [(.int (if (255 : Int32) < ch then (0 : Int32) else (1 : Int32)))])) _
    show Steps p.tables e below (T2.setTop (mkF m 4 #[.val (.ref b), .val (.int ch), .val (.int (Int32.ofNat j0)), .val (.int (Int32.ofNat cs.length))] [(.int (if (255 : Int32) < ch then (0 : Int32) else (1 : Int32)))])) t_
    exact k_)
  by_cases h4 : (255 : Int32) < ch
  · have s5 : ∀ t_, Steps p.tables e below (T2.setTop (mkF m 4 #[.val (.ref b), .val (.int ch), .val (.int (Int32.ofNat j0)), .val (.int (Int32.ofNat cs.length))] [(.int (0 : Int32))])) t_ → Steps p.tables e below (s₁.setTop (entryFrame m #[(.ref b), (.int ch), (.int (Int32.ofNat j0)), (.int (Int32.ofNat cs.length))] 4)) t_ := fun t_ k_ => s3 t_ (castTop (by simp only [if_pos h4]) k_)
    have s6 : ∀ t_, Steps p.tables e below (T2.setTop (mkF m 8 #[.val (.ref b), .val (.int ch), .val (.int (Int32.ofNat j0)), .val (.int (Int32.ofNat cs.length))] [(.int (-1 : Int32))])) t_ → Steps p.tables e below (s₁.setTop (entryFrame m #[(.ref b), (.int ch), (.int (Int32.ofNat j0)), (.int (Int32.ofNat cs.length))] 4)) t_ := fun t_ k_ => s5 t_ (by
      show Steps p.tables e below (T2.setTop (mkF m 4 #[.val (.ref b), .val (.int ch), .val (.int (Int32.ofNat j0)), .val (.int (Int32.ofNat cs.length))] [(.int (0 : Int32))])) t_
      refine XS.ifNo X2.here hx rfl (Jvm.hb hby d_jdk_43_method_22_4) rfl ((if0 _ _).trans (teq (rfl : (0 : Int32) = (0 : Int32))).2) ?_
      show Steps p.tables e below (T2.setTop (mkF m 7 #[.val (.ref b), .val (.int ch), .val (.int (Int32.ofNat j0)), .val (.int (Int32.ofNat cs.length))] [])) _
      refine XS.iconst X2.here hx rfl (Jvm.hb hby d_jdk_43_method_22_7) ?_
      show Steps p.tables e below (T2.setTop (mkF m 8 #[.val (.ref b), .val (.int ch), .val (.int (Int32.ofNat j0)), .val (.int (Int32.ofNat cs.length))] [(.int (-1 : Int32))])) _
      show Steps p.tables e below (T2.setTop (mkF m 8 #[.val (.ref b), .val (.int ch), .val (.int (Int32.ofNat j0)), .val (.int (Int32.ofNat cs.length))] [(.int (-1 : Int32))])) t_
      exact k_)
    obtain ⟨fs, hr, hrun, hended, hW, hsame⟩ := X2.leave (v := some (.int (-1 : Int32))) (fun h => by rw [Bd.returns] at h; cases h)
    refine ⟨_, _, s6 _ ?_, hrun, hended, _, _, rfl, ?_, ⟨_, rfl⟩, hW, hsame.mono (by decide) (by decide)⟩
    · show Steps p.tables e below (T2.setTop (mkF m 8 #[.val (.ref b), .val (.int ch), .val (.int (Int32.ofNat j0)), .val (.int (Int32.ofNat cs.length))] [(.int (-1 : Int32))])) _
      exact retI X2 hx Bd.returns (Jvm.hb hby d_jdk_43_method_22_8) hr
    · show Q_rmIxL Z _ _ _ _ _ h0 n0 _ T2.heap _
      rw [e2]
      exact ⟨(by rw [own_ix0 cs ch (fun c hc e => hlat c hc (e ▸ h4)) _ _ (by omega)]; rfl), N2, rfl⟩
  · have s7 : ∀ t_, Steps p.tables e below (T2.setTop (mkF m 4 #[.val (.ref b), .val (.int ch), .val (.int (Int32.ofNat j0)), .val (.int (Int32.ofNat cs.length))] [(.int (1 : Int32))])) t_ → Steps p.tables e below (s₁.setTop (entryFrame m #[(.ref b), (.int ch), (.int (Int32.ofNat j0)), (.int (Int32.ofNat cs.length))] 4)) t_ := fun t_ k_ => s3 t_ (castTop (by simp only [if_neg h4]) k_)
    have Zc8 : n0 ≤ h0.size := by omega
    obtain ⟨_, _, ⟨T9, L9, k9, n9⟩, -, X9, ⟨Lc9, hQ9, l9, y9, z9⟩, st9⟩ := Jvm.LawKit.callS X2 hx (y := (⟨"java/lang/Math", "max", "(II)I"⟩ : MethodName)) hown (mvT hZ (hw _ (List.mem_of_getElem? (i := 70) rfl))) (mvT hZ (hw _ (List.mem_of_getElem? (i := 37) rfl))) (mvT hZ (hw _ (List.mem_of_getElem? (i := 34) rfl))) (mvT hZ (hw _ (List.mem_of_getElem? (i := 38) rfl))) (by decide) (backOf (W := 0) (rmMax l Z a0 hw [] j0 0 h0 n0 Zc8 (by first | assumption | rfl | decide | omega : j0 ≤ 8000) (by first | assumption | rfl | decide | omega : 0 ≤ 8000)) hZ (hw _ (List.mem_of_getElem? (i := 38) rfl)) (hw _ (List.mem_of_getElem? (i := 34) rfl)) (by decide) (by decide)) (g := (mkF m 11 #[.val (.ref b), .val (.int ch), .val (.int (Int32.ofNat j0)), .val (.int (Int32.ofNat cs.length))] [(.int (0 : Int32)), (.int (Int32.ofNat j0))])) rfl (by rw [hml]; rfl) (argsL := [(.int (Int32.ofNat j0)), (.int (0 : Int32))]) (rest := []) (lenOf pd__II_I rfl) rfl (by show 2 * 0 + _ ≤ _; exact Nat.le_of_eq rfl) (Jvm.hb hby d_jdk_43_method_22_11) (fun _ _ => ⟨rfl, e2, (by decide : 0 + 0 ≤ _), (by decide : 0 + 0 ≤ _)⟩)
    dsimp only [Pt.U, Pt.locs, Pt.cells, Pt.slots] at X9 l9 y9 z9 st9 hQ9
    subst l9 y9 z9
    obtain ⟨rfl, N9q, e9⟩ := hQ9
    have N9 := Fr.app N2 N9q
    obtain ⟨cl10, Ar10, -, S10, M10, -, -⟩ := id I1
    have Zc11 : n0 ≤ h0.size := by omega
    obtain ⟨_, _, ⟨T12, L12, k12, n12⟩, -, X12, ⟨Lc12, hQ12, l12, y12, z12⟩, st12⟩ := Jvm.LawKit.callS X9 hx (y := (⟨"java/lang/Math", "min", "(II)I"⟩ : MethodName)) hown (mvT hZ (hw _ (List.mem_of_getElem? (i := 71) rfl))) (mvT hZ (hw _ (List.mem_of_getElem? (i := 33) rfl))) (mvT hZ (hw _ (List.mem_of_getElem? (i := 34) rfl))) (mvT hZ (hw _ (List.mem_of_getElem? (i := 35) rfl))) (by decide) (backOf (W := 0) (rmMin l Z a0 hw [] cs.length cs.length h0 n0 Zc11 (by first | assumption | rfl | decide | omega : cs.length ≤ 8000) (by first | assumption | rfl | decide | omega : cs.length ≤ 8000)) hZ (hw _ (List.mem_of_getElem? (i := 35) rfl)) (hw _ (List.mem_of_getElem? (i := 34) rfl)) (by decide) (by decide)) (g := (mkF m 18 #[.val (.ref b), .val (.int ch), .val (.int (Int32.ofNat j0)), .val (.int (Int32.ofNat cs.length))] [(.int (Int32.ofNat cs.length)), (.int (Int32.ofNat cs.length))])) rfl (by rw [hml]; rfl) (argsL := [(.int (Int32.ofNat cs.length)), (.int (Int32.ofNat cs.length))]) (rest := []) (lenOf pd__II_I rfl) rfl (by show 2 * 0 + _ ≤ _; exact Nat.le_of_eq rfl) (Jvm.hb hby d_jdk_43_method_22_18) (fun _ _ => ⟨rfl, e9, (by decide : 0 + 0 ≤ _), (by decide : 0 + 0 ≤ _)⟩)
    dsimp only [Pt.U, Pt.locs, Pt.cells, Pt.slots] at X12 l12 y12 z12 st12 hQ12
    subst l12 y12 z12
    obtain ⟨rfl, N12q, e12⟩ := hQ12
    have N12 := Fr.app N9 N12q
    have s13 : ∀ t_, Steps p.tables e below (T12.setTop (mkF m 24 #[.val (.ref b), .val (.int ch), .val (.int (Int32.ofNat j0)), .val (.int (Int32.ofNat cs.length))] [(.int (Int32.ofNat cs.length)), (.int (Int32.ofNat j0))])) t_ → Steps p.tables e below (s₁.setTop (entryFrame m #[(.ref b), (.int ch), (.int (Int32.ofNat j0)), (.int (Int32.ofNat cs.length))] 4)) t_ := fun t_ k_ => s7 t_ (by
      show Steps p.tables e below (T2.setTop (mkF m 4 #[.val (.ref b), .val (.int ch), .val (.int (Int32.ofNat j0)), .val (.int (Int32.ofNat cs.length))] [(.int (1 : Int32))])) t_
      refine XS.ifYes X2.here hx rfl (pc0 := 4) (pc' := 9) rfl (Jvm.hb hby d_jdk_43_method_22_4) rfl ((if0 _ _).trans (feq (by decide : ¬ ((1 : Int32) = (0 : Int32)))).2) (by decide) (by decide) ?_
      show Steps p.tables e below (T2.setTop (mkF m 9 #[.val (.ref b), .val (.int ch), .val (.int (Int32.ofNat j0)), .val (.int (Int32.ofNat cs.length))] [])) _
      refine XS.iloadN X2.here hx rfl (Jvm.hb hby d_jdk_43_method_22_9) rfl ?_
      show Steps p.tables e below (T2.setTop (mkF m 10 #[.val (.ref b), .val (.int ch), .val (.int (Int32.ofNat j0)), .val (.int (Int32.ofNat cs.length))] [(.int (Int32.ofNat j0))])) _
      refine XS.iconst X2.here hx rfl (Jvm.hb hby d_jdk_43_method_22_10) ?_
      show Steps p.tables e below (T2.setTop (mkF m 11 #[.val (.ref b), .val (.int ch), .val (.int (Int32.ofNat j0)), .val (.int (Int32.ofNat cs.length))] [(.int (0 : Int32)), (.int (Int32.ofNat j0))])) _
      refine st9 _ ?_
      show Steps p.tables e below (T9.setTop (mkF m 14 #[.val (.ref b), .val (.int ch), .val (.int (Int32.ofNat j0)), .val (.int (Int32.ofNat cs.length))] [(.int (Int32.ofNat (max j0 0)))])) _
      refine castTop (g' := (mkF m 14 #[.val (.ref b), .val (.int ch), .val (.int (Int32.ofNat j0)), .val (.int (Int32.ofNat cs.length))] [(.int (Int32.ofNat j0))])) (by rw [Nat.max_zero]) ?_
      show Steps p.tables e below (T9.setTop (mkF m 14 #[.val (.ref b), .val (.int ch), .val (.int (Int32.ofNat j0)), .val (.int (Int32.ofNat cs.length))] [(.int (Int32.ofNat j0))])) _
      refine XS.istoreN X9.here hx rfl (Jvm.hb hby d_jdk_43_method_22_14) rfl (l' := #[.val (.ref b), .val (.int ch), .val (.int (Int32.ofNat j0)), .val (.int (Int32.ofNat cs.length))]) rfl ?_
      show Steps p.tables e below (T9.setTop (mkF m 15 #[.val (.ref b), .val (.int ch), .val (.int (Int32.ofNat j0)), .val (.int (Int32.ofNat cs.length))] [])) _
      refine XS.iloadN X9.here hx rfl (Jvm.hb hby d_jdk_43_method_22_15) rfl ?_
      show Steps p.tables e below (T9.setTop (mkF m 16 #[.val (.ref b), .val (.int ch), .val (.int (Int32.ofNat j0)), .val (.int (Int32.ofNat cs.length))] [(.int (Int32.ofNat cs.length))])) _
      refine XS.aloadN X9.here hx rfl (Jvm.hb hby d_jdk_43_method_22_16) rfl rfl ?_
      show Steps p.tables e below (T9.setTop (mkF m 17 #[.val (.ref b), .val (.int ch), .val (.int (Int32.ofNat j0)), .val (.int (Int32.ofNat cs.length))] [(.ref b), (.int (Int32.ofNat cs.length))])) _
      refine X9.arraylength hx (by rw [e9]; exact Ar10.1) (State.isArrayOf_alike hZ.alike Ar10.2.1) (g := (mkF m 17 #[.val (.ref b), .val (.int ch), .val (.int (Int32.ofNat j0)), .val (.int (Int32.ofNat cs.length))] [(.ref b), (.int (Int32.ofNat cs.length))])) rfl rfl (Jvm.hb hby d_jdk_43_method_22_17) _ ?_
      rw [len_of S10 M10]
      show Steps p.tables e below (T9.setTop (mkF m 18 #[.val (.ref b), .val (.int ch), .val (.int (Int32.ofNat j0)), .val (.int (Int32.ofNat cs.length))] [(.int (Int32.ofNat cs.length)), (.int (Int32.ofNat cs.length))])) _
      refine st12 _ ?_
      show Steps p.tables e below (T12.setTop (mkF m 21 #[.val (.ref b), .val (.int ch), .val (.int (Int32.ofNat j0)), .val (.int (Int32.ofNat cs.length))] [(.int (Int32.ofNat (min cs.length cs.length)))])) _
      refine castTop (g' := (mkF m 21 #[.val (.ref b), .val (.int ch), .val (.int (Int32.ofNat j0)), .val (.int (Int32.ofNat cs.length))] [(.int (Int32.ofNat cs.length))])) (by rw [Nat.min_self]) ?_
      show Steps p.tables e below (T12.setTop (mkF m 21 #[.val (.ref b), .val (.int ch), .val (.int (Int32.ofNat j0)), .val (.int (Int32.ofNat cs.length))] [(.int (Int32.ofNat cs.length))])) _
      refine XS.istoreN X12.here hx rfl (Jvm.hb hby d_jdk_43_method_22_21) rfl (l' := #[.val (.ref b), .val (.int ch), .val (.int (Int32.ofNat j0)), .val (.int (Int32.ofNat cs.length))]) rfl ?_
      show Steps p.tables e below (T12.setTop (mkF m 22 #[.val (.ref b), .val (.int ch), .val (.int (Int32.ofNat j0)), .val (.int (Int32.ofNat cs.length))] [])) _
      refine XS.iloadN X12.here hx rfl (Jvm.hb hby d_jdk_43_method_22_22) rfl ?_
      show Steps p.tables e below (T12.setTop (mkF m 23 #[.val (.ref b), .val (.int ch), .val (.int (Int32.ofNat j0)), .val (.int (Int32.ofNat cs.length))] [(.int (Int32.ofNat j0))])) _
      refine XS.iloadN X12.here hx rfl (Jvm.hb hby d_jdk_43_method_22_23) rfl ?_
      show Steps p.tables e below (T12.setTop (mkF m 24 #[.val (.ref b), .val (.int ch), .val (.int (Int32.ofNat j0)), .val (.int (Int32.ofNat cs.length))] [(.int (Int32.ofNat cs.length)), (.int (Int32.ofNat j0))])) _
      show Steps p.tables e below (T12.setTop (mkF m 24 #[.val (.ref b), .val (.int ch), .val (.int (Int32.ofNat j0)), .val (.int (Int32.ofNat cs.length))] [(.int (Int32.ofNat cs.length)), (.int (Int32.ofNat j0))])) t_
      exact k_)
    by_cases h14 : (Int32.ofNat j0) < (Int32.ofNat cs.length)
    · have Zc15 : n0 ≤ h0.size := by omega
      obtain ⟨_, _, ⟨T16, L16, k16, n16⟩, -, X16, ⟨Lc16, hQ16, l16, y16, z16⟩, st16⟩ := Jvm.LawKit.callS X12 hx (y := (⟨"java/lang/StringLatin1", "indexOfChar", "([BIII)I"⟩ : MethodName)) hown (mvT hZ (hw _ (List.mem_of_getElem? (i := 72) rfl))) (mvT hZ (hw _ (List.mem_of_getElem? (i := 73) rfl))) (mvT hZ (hw _ (List.mem_of_getElem? (i := 65) rfl))) (mvT hZ (hw _ (List.mem_of_getElem? (i := 74) rfl))) (by decide) (backOf (W := 0) (rmIxC l Z a0 hw [] b ch kb cs j0 h0 n0 Zc15 I1 (hb : cs.length ≤ 4) (hj0 : j0 ≤ cs.length) (hlat : own_lat cs) (hchs : own_chs cs) (hc0 : ¬ (ch < (0 : Int32))) h4) hZ (hw _ (List.mem_of_getElem? (i := 74) rfl)) (hw _ (List.mem_of_getElem? (i := 65) rfl)) (by decide) (by decide)) (g := (mkF m 33 #[.val (.ref b), .val (.int ch), .val (.int (Int32.ofNat j0)), .val (.int (Int32.ofNat cs.length))] [(.int (Int32.ofNat cs.length)), (.int (Int32.ofNat j0)), (.int ch), (.ref b)])) rfl (by rw [hml]; rfl) (argsL := [(.ref b), (.int ch), (.int (Int32.ofNat j0)), (.int (Int32.ofNat cs.length))]) (rest := []) (lenOf pd___BIII_I rfl) rfl (by show 2 * 0 + _ ≤ _; exact Nat.le_of_eq rfl) (Jvm.hb hby d_jdk_43_method_22_33) (fun _ _ => ⟨rfl, e12, (by decide : 0 + 0 ≤ _), (by decide : 0 + 0 ≤ _)⟩)
      dsimp only [Pt.U, Pt.locs, Pt.cells, Pt.slots] at X16 l16 y16 z16 st16 hQ16
      subst l16 y16 z16
      obtain ⟨rfl, N16q, e16⟩ := hQ16
      have N16 := Fr.app N12 N16q
      have s17 : ∀ t_, Steps p.tables e below (T16.setTop (mkF m 36 #[.val (.ref b), .val (.int ch), .val (.int (Int32.ofNat j0)), .val (.int (Int32.ofNat cs.length))] [(.int ((Int32.ofNat (own_ix cs ch j0 (cs.length - j0))) - (1 : Int32)))])) t_ → Steps p.tables e below (s₁.setTop (entryFrame m #[(.ref b), (.int ch), (.int (Int32.ofNat j0)), (.int (Int32.ofNat cs.length))] 4)) t_ := fun t_ k_ => s13 t_ (by
        show Steps p.tables e below (T12.setTop (mkF m 24 #[.val (.ref b), .val (.int ch), .val (.int (Int32.ofNat j0)), .val (.int (Int32.ofNat cs.length))] [(.int (Int32.ofNat cs.length)), (.int (Int32.ofNat j0))])) t_
        refine XS.icmpYes X12.here hx rfl (pc0 := 24) (pc' := 29) rfl (Jvm.hb hby d_jdk_43_method_22_24) rfl (tlt h14).1 (by decide) (by decide) ?_
        show Steps p.tables e below (T12.setTop (mkF m 29 #[.val (.ref b), .val (.int ch), .val (.int (Int32.ofNat j0)), .val (.int (Int32.ofNat cs.length))] [])) _
        refine XS.aloadN X12.here hx rfl (Jvm.hb hby d_jdk_43_method_22_29) rfl rfl ?_
        show Steps p.tables e below (T12.setTop (mkF m 30 #[.val (.ref b), .val (.int ch), .val (.int (Int32.ofNat j0)), .val (.int (Int32.ofNat cs.length))] [(.ref b)])) _
        refine XS.iloadN X12.here hx rfl (Jvm.hb hby d_jdk_43_method_22_30) rfl ?_
        show Steps p.tables e below (T12.setTop (mkF m 31 #[.val (.ref b), .val (.int ch), .val (.int (Int32.ofNat j0)), .val (.int (Int32.ofNat cs.length))] [(.int ch), (.ref b)])) _
        refine XS.iloadN X12.here hx rfl (Jvm.hb hby d_jdk_43_method_22_31) rfl ?_
        show Steps p.tables e below (T12.setTop (mkF m 32 #[.val (.ref b), .val (.int ch), .val (.int (Int32.ofNat j0)), .val (.int (Int32.ofNat cs.length))] [(.int (Int32.ofNat j0)), (.int ch), (.ref b)])) _
        refine XS.iloadN X12.here hx rfl (Jvm.hb hby d_jdk_43_method_22_32) rfl ?_
        show Steps p.tables e below (T12.setTop (mkF m 33 #[.val (.ref b), .val (.int ch), .val (.int (Int32.ofNat j0)), .val (.int (Int32.ofNat cs.length))] [(.int (Int32.ofNat cs.length)), (.int (Int32.ofNat j0)), (.int ch), (.ref b)])) _
        refine st16 _ ?_
        show Steps p.tables e below (T16.setTop (mkF m 36 #[.val (.ref b), .val (.int ch), .val (.int (Int32.ofNat j0)), .val (.int (Int32.ofNat cs.length))] [(.int ((Int32.ofNat (own_ix cs ch j0 (cs.length - j0))) - (1 : Int32)))])) _
        show Steps p.tables e below (T16.setTop (mkF m 36 #[.val (.ref b), .val (.int ch), .val (.int (Int32.ofNat j0)), .val (.int (Int32.ofNat cs.length))] [(.int ((Int32.ofNat (own_ix cs ch j0 (cs.length - j0))) - (1 : Int32)))])) t_
        exact k_)
      obtain ⟨fs, hr, hrun, hended, hW, hsame⟩ := X16.leave (v := some (.int ((Int32.ofNat (own_ix cs ch j0 (cs.length - j0))) - (1 : Int32)))) (fun h => by rw [Bd.returns] at h; cases h)
      refine ⟨_, _, s17 _ ?_, hrun, hended, _, _, rfl, ?_, ⟨_, rfl⟩, hW, hsame.mono (by decide) (by decide)⟩
      · show Steps p.tables e below (T16.setTop (mkF m 36 #[.val (.ref b), .val (.int ch), .val (.int (Int32.ofNat j0)), .val (.int (Int32.ofNat cs.length))] [(.int ((Int32.ofNat (own_ix cs ch j0 (cs.length - j0))) - (1 : Int32)))])) _
        exact retI X16 hx Bd.returns (Jvm.hb hby d_jdk_43_method_22_36) hr
      · show Q_rmIxL Z _ _ _ _ _ h0 n0 _ T16.heap _
        rw [e16]
        exact ⟨rfl, N16, rfl⟩
    · have s18 : ∀ t_, Steps p.tables e below (T12.setTop (mkF m 28 #[.val (.ref b), .val (.int ch), .val (.int (Int32.ofNat j0)), .val (.int (Int32.ofNat cs.length))] [(.int (-1 : Int32))])) t_ → Steps p.tables e below (s₁.setTop (entryFrame m #[(.ref b), (.int ch), (.int (Int32.ofNat j0)), (.int (Int32.ofNat cs.length))] 4)) t_ := fun t_ k_ => s13 t_ (by
        show Steps p.tables e below (T12.setTop (mkF m 24 #[.val (.ref b), .val (.int ch), .val (.int (Int32.ofNat j0)), .val (.int (Int32.ofNat cs.length))] [(.int (Int32.ofNat cs.length)), (.int (Int32.ofNat j0))])) t_
        refine XS.icmpNo X12.here hx rfl (Jvm.hb hby d_jdk_43_method_22_24) rfl (flt h14).1 ?_
        show Steps p.tables e below (T12.setTop (mkF m 27 #[.val (.ref b), .val (.int ch), .val (.int (Int32.ofNat j0)), .val (.int (Int32.ofNat cs.length))] [])) _
        refine XS.iconst X12.here hx rfl (Jvm.hb hby d_jdk_43_method_22_27) ?_
        show Steps p.tables e below (T12.setTop (mkF m 28 #[.val (.ref b), .val (.int ch), .val (.int (Int32.ofNat j0)), .val (.int (Int32.ofNat cs.length))] [(.int (-1 : Int32))])) _
        show Steps p.tables e below (T12.setTop (mkF m 28 #[.val (.ref b), .val (.int ch), .val (.int (Int32.ofNat j0)), .val (.int (Int32.ofNat cs.length))] [(.int (-1 : Int32))])) t_
        exact k_)
      obtain ⟨fs, hr, hrun, hended, hW, hsame⟩ := X12.leave (v := some (.int (-1 : Int32))) (fun h => by rw [Bd.returns] at h; cases h)
      refine ⟨_, _, s18 _ ?_, hrun, hended, _, _, rfl, ?_, ⟨_, rfl⟩, hW, hsame.mono (by decide) (by decide)⟩
      · show Steps p.tables e below (T12.setTop (mkF m 28 #[.val (.ref b), .val (.int ch), .val (.int (Int32.ofNat j0)), .val (.int (Int32.ofNat cs.length))] [(.int (-1 : Int32))])) _
        exact retI X12 hx Bd.returns (Jvm.hb hby d_jdk_43_method_22_28) hr
      · show Q_rmIxL Z _ _ _ _ _ h0 n0 _ T12.heap _
        rw [e12]
        exact ⟨(by rw [show cs.length - j0 = 0 from own_sub0 h14 (by omega)]; rfl), N12, rfl⟩
theorem d_jdk_52_method_6_0 : decode jdk_52_method_6_code 0 = .ok (.aload_n 0, 1) := by decide +kernel
theorem d_jdk_52_method_6_1 : decode jdk_52_method_6_code 1 = .ok (.arraylength, 1) := by decide +kernel
theorem d_jdk_52_method_6_2 : decode jdk_52_method_6_code 2 = .ok (.iconst 1, 1) := by decide +kernel
theorem d_jdk_52_method_6_3 : decode jdk_52_method_6_code 3 = .ok (.ishr, 1) := by decide +kernel
theorem d_jdk_52_method_6_4 : decode jdk_52_method_6_code 4 = .ok (.ireturn, 1) := by decide +kernel
theorem ef_rmULen (m : MethodId) (x0 : Addr) : entryFrame m #[(.ref x0)] 1 = mkF m 0 #[.val (.ref x0)] [] := by first | (simp [entryFrame, mkF, argsToLocals, Value.category]; done) | rfl
def Q_rmULen (Z : State) (b : Addr) (kb : ClassId) (cs : List Int32) (h0 : Heap) (n0 : Nat) (v : Option Value) (h : Heap) (L : List Loc) : Prop := (v = some (.int (Int32.ofNat cs.length))) ∧ (Fr n0 L) ∧ (h = h0)
set_option maxRecDepth 65536 in
set_option maxHeartbeats 40000000 in
theorem rmULen (l : Launch) (Z : State) (a0 : Array Value) (hw : ∀ d ∈ tables_1, d.before a0 Z = true) (ws : List Jvm.Cond) (b : Addr) (kb : ClassId) (cs : List Int32) (h0 : Heap) (n0 : Nat) (Z0 : n0 ≤ h0.size) (I1 : Arv Z h0 b kb .byte (Int32.ofNat (2 * cs.length)) (own_wide cs) (.int (0 : Int32))) (hb : cs.length ≤ 4) :
    MetFree l (⟨"java/lang/StringUTF16", "length", "([B)I"⟩ : MethodName) (head1 (Jvm.Cond.code (⟨"java/lang/StringUTF16", "length", "([B)I"⟩ : MethodName) jdk_52_method_6_code 1 (some .int) :: ws) ({ frames := 0, cells := 0, slots := 0, locals := 0 } : Room)) (fun ar_ U => ar_ = #[(.ref b)] ∧ Z.Warmed39 U.vm ∧ U.heap = h0) (fun _ _ _ _ _ => True) (fun _ U o U' => ∃ v L, o = .returned v ∧ Q_rmULen Z b kb cs h0 n0 v U'.heap L ∧ FrameEnd U o U' L ({ frames := 0, cells := 0, slots := 0, locals := 0 } : Room).cells ({ frames := 0, cells := 0, slots := 0, locals := 0 } : Room).slots) := by
  refine MetFree.of_bodySF (plainFor_of_name pn_java_lang_StringUTF16) hisR ?_
  intro p e s m args below meth c s₁ Bd hml0 hP hK
  obtain ⟨rfl, hZ, hh⟩ := hP
  have hx := Bd.exec
  have hby := Bd.bytes
  have hml : c.maxLocals = 1 := hml0
  have hown : s.vm.findClass "java/lang/StringUTF16" = some m.cls := findClass_of_methodNamed Bd.named
  have hnm := (name_of_methodNamed Bd.named Bd.method).1
  have X0 : Stand p l e ({ frames := 0, cells := 0, slots := 0, locals := 0 } : Room) s m #[(.ref b)] below meth c s₁ [] 0 0 := Stand.of_body Bd
  have e0 : s₁.heap = h0 := by rw [← hh, Bd.state]; rfl
  have N0 := Fr.nil n0
  have pre0 : ∀ t_, Steps p.tables e below (s₁.setTop (mkF m 0 #[.val (.ref b)] [])) t_ → Steps p.tables e below (s₁.setTop (entryFrame m #[(.ref b)] 1)) t_ := fun t_ k_ => castTop (ef_rmULen m b) k_
  have lt_I1 : @LT.lt Nat _ b h0.size := I1.lt
  obtain ⟨cl1, Ar1, -, S1, M1, -, -⟩ := id I1
  have s2 : ∀ t_, Steps p.tables e below (s₁.setTop (mkF m 4 #[.val (.ref b)] [(.int ((Int32.ofNat (2 * cs.length)) >>> ((1 : Int32) &&& 31)))])) t_ → Steps p.tables e below (s₁.setTop (entryFrame m #[(.ref b)] 1)) t_ := fun t_ k_ => pre0 t_ (by
    show Steps p.tables e below (s₁.setTop (mkF m 0 #[.val (.ref b)] [])) t_
    refine XS.aloadN X0.here hx rfl (Jvm.hb hby d_jdk_52_method_6_0) rfl rfl ?_
    show Steps p.tables e below (s₁.setTop (mkF m 1 #[.val (.ref b)] [(.ref b)])) _
    refine X0.arraylength hx (by rw [e0]; exact Ar1.1) (State.isArrayOf_alike hZ.alike Ar1.2.1) (g := (mkF m 1 #[.val (.ref b)] [(.ref b)])) rfl rfl (Jvm.hb hby d_jdk_52_method_6_1) _ ?_
    rw [len_of S1 M1]
    show Steps p.tables e below (s₁.setTop (mkF m 2 #[.val (.ref b)] [(.int (Int32.ofNat (2 * cs.length)))])) _
    refine XS.iconst X0.here hx rfl (Jvm.hb hby d_jdk_52_method_6_2) ?_
    show Steps p.tables e below (s₁.setTop (mkF m 3 #[.val (.ref b)] [(.int (1 : Int32)), (.int (Int32.ofNat (2 * cs.length)))])) _
    refine XS.ishr X0.here hx rfl (Jvm.hb hby d_jdk_52_method_6_3) rfl ?_
    show Steps p.tables e below (s₁.setTop (mkF m 4 #[.val (.ref b)] [(.int ((Int32.ofNat (2 * cs.length)) >>> ((1 : Int32) &&& 31)))])) _
    show Steps p.tables e below (s₁.setTop (mkF m 4 #[.val (.ref b)] [(.int ((Int32.ofNat (2 * cs.length)) >>> ((1 : Int32) &&& 31)))])) t_
    exact k_)
  obtain ⟨fs, hr, hrun, hended, hW, hsame⟩ := X0.leave (v := some (.int ((Int32.ofNat (2 * cs.length)) >>> ((1 : Int32) &&& 31)))) (fun h => by rw [Bd.returns] at h; cases h)
  refine ⟨_, _, s2 _ ?_, hrun, hended, _, _, rfl, ?_, ⟨_, rfl⟩, hW, hsame.mono (by decide) (by decide)⟩
  · show Steps p.tables e below (s₁.setTop (mkF m 4 #[.val (.ref b)] [(.int ((Int32.ofNat (2 * cs.length)) >>> ((1 : Int32) &&& 31)))])) _
    exact retI X0 hx Bd.returns (Jvm.hb hby d_jdk_52_method_6_4) hr
  · show Q_rmULen Z _ _ _ h0 n0 _ s₁.heap _
    rw [e0]
    exact ⟨(by rw [own_shr1 (by omega)]), N0, rfl⟩
theorem pn_jdk_internal_util_Preconditions : plainName "jdk/internal/util/Preconditions" = true := by first | (simp [plainName, overriddenIn]; done) | decide +kernel
theorem d_jdk_41_method_12_0 : decode jdk_41_method_12_code 0 = .ok (.iload_n 0, 1) := by decide +kernel
theorem d_jdk_41_method_12_1 : decode jdk_41_method_12_code 1 = .ok (.ifCond .lt 13, 3) := by decide +kernel
theorem d_jdk_41_method_12_4 : decode jdk_41_method_12_code 4 = .ok (.iload_n 0, 1) := by decide +kernel
theorem d_jdk_41_method_12_5 : decode jdk_41_method_12_code 5 = .ok (.iload_n 1, 1) := by decide +kernel
theorem d_jdk_41_method_12_6 : decode jdk_41_method_12_code 6 = .ok (.if_icmp .gt 8, 3) := by decide +kernel
theorem d_jdk_41_method_12_9 : decode jdk_41_method_12_code 9 = .ok (.iload_n 1, 1) := by decide +kernel
theorem d_jdk_41_method_12_10 : decode jdk_41_method_12_code 10 = .ok (.iload_n 2, 1) := by decide +kernel
theorem d_jdk_41_method_12_11 : decode jdk_41_method_12_code 11 = .ok (.if_icmp .le 11, 3) := by decide +kernel
theorem d_jdk_41_method_12_22 : decode jdk_41_method_12_code 22 = .ok (.iload_n 0, 1) := by decide +kernel
theorem d_jdk_41_method_12_23 : decode jdk_41_method_12_code 23 = .ok (.ireturn, 1) := by decide +kernel
theorem ef_rmCFT (m : MethodId) (x0 : Int32) (x1 : Int32) (x2 : Int32) (x3 : Value) (hr_x3 : x3.isRef = true) : entryFrame m #[(.int x0), (.int x1), (.int x2), x3] 4 = mkF m 0 #[.val (.int x0), .val (.int x1), .val (.int x2), .val x3] [] := by first | (simp [entryFrame, mkF, argsToLocals, Value.category]; done) | rfl | (cases x3 <;> simp [Value.isRef] at hr_x3 <;> rfl)
def Q_rmCFT (Z : State) (fmt : Value) (i : Nat) (j : Nat) (n : Nat) (h0 : Heap) (n0 : Nat) (v : Option Value) (h : Heap) (L : List Loc) : Prop := (v = some (.int (Int32.ofNat i))) ∧ (Fr n0 L) ∧ (h = h0)
set_option maxRecDepth 65536 in
set_option maxHeartbeats 40000000 in
theorem rmCFT (l : Launch) (Z : State) (a0 : Array Value) (hw : ∀ d ∈ tables_1, d.before a0 Z = true) (ws : List Jvm.Cond) (fmt : Value) (i : Nat) (j : Nat) (n : Nat) (h0 : Heap) (n0 : Nat) (Z0 : n0 ≤ h0.size) (hfmt : fmt.isRef = true) (hij : i ≤ j) (hjn : j ≤ n) (hn : n ≤ 8000) :
    MetFree l (⟨"jdk/internal/util/Preconditions", "checkFromToIndex", "(IIILjava/util/function/BiFunction;)I"⟩ : MethodName) (head1 (Jvm.Cond.code (⟨"jdk/internal/util/Preconditions", "checkFromToIndex", "(IIILjava/util/function/BiFunction;)I"⟩ : MethodName) jdk_41_method_12_code 4 (some .int) :: ws) ({ frames := 0, cells := 0, slots := 0, locals := 0 } : Room)) (fun ar_ U => ar_ = #[(.int (Int32.ofNat i)), (.int (Int32.ofNat j)), (.int (Int32.ofNat n)), fmt] ∧ Z.Warmed39 U.vm ∧ U.heap = h0) (fun _ _ _ _ _ => True) (fun _ U o U' => ∃ v L, o = .returned v ∧ Q_rmCFT Z fmt i j n h0 n0 v U'.heap L ∧ FrameEnd U o U' L ({ frames := 0, cells := 0, slots := 0, locals := 0 } : Room).cells ({ frames := 0, cells := 0, slots := 0, locals := 0 } : Room).slots) := by
  refine MetFree.of_bodySF (plainFor_of_name pn_jdk_internal_util_Preconditions) hisR ?_
  intro p e s m args below meth c s₁ Bd hml0 hP hK
  obtain ⟨rfl, hZ, hh⟩ := hP
  have hx := Bd.exec
  have hby := Bd.bytes
  have hml : c.maxLocals = 4 := hml0
  have hown : s.vm.findClass "jdk/internal/util/Preconditions" = some m.cls := findClass_of_methodNamed Bd.named
  have hnm := (name_of_methodNamed Bd.named Bd.method).1
  have X0 : Stand p l e ({ frames := 0, cells := 0, slots := 0, locals := 0 } : Room) s m #[(.int (Int32.ofNat i)), (.int (Int32.ofNat j)), (.int (Int32.ofNat n)), fmt] below meth c s₁ [] 0 0 := Stand.of_body Bd
  have e0 : s₁.heap = h0 := by rw [← hh, Bd.state]; rfl
  have N0 := Fr.nil n0
  have pre0 : ∀ t_, Steps p.tables e below (s₁.setTop (mkF m 0 #[.val (.int (Int32.ofNat i)), .val (.int (Int32.ofNat j)), .val (.int (Int32.ofNat n)), .val fmt] [])) t_ → Steps p.tables e below (s₁.setTop (entryFrame m #[(.int (Int32.ofNat i)), (.int (Int32.ofNat j)), (.int (Int32.ofNat n)), fmt] 4)) t_ := fun t_ k_ => castTop (ef_rmCFT m (Int32.ofNat i) (Int32.ofNat j) (Int32.ofNat n) fmt hfmt) k_
  have s1 : ∀ t_, Steps p.tables e below (s₁.setTop (mkF m 23 #[.val (.int (Int32.ofNat i)), .val (.int (Int32.ofNat j)), .val (.int (Int32.ofNat n)), .val fmt] [(.int (Int32.ofNat i))])) t_ → Steps p.tables e below (s₁.setTop (entryFrame m #[(.int (Int32.ofNat i)), (.int (Int32.ofNat j)), (.int (Int32.ofNat n)), fmt] 4)) t_ := fun t_ k_ => pre0 t_ (by
    show Steps p.tables e below (s₁.setTop (mkF m 0 #[.val (.int (Int32.ofNat i)), .val (.int (Int32.ofNat j)), .val (.int (Int32.ofNat n)), .val fmt] [])) t_
    refine XS.iloadN X0.here hx rfl (Jvm.hb hby d_jdk_41_method_12_0) rfl ?_
    show Steps p.tables e below (s₁.setTop (mkF m 1 #[.val (.int (Int32.ofNat i)), .val (.int (Int32.ofNat j)), .val (.int (Int32.ofNat n)), .val fmt] [(.int (Int32.ofNat i))])) _
    refine XS.ifNo X0.here hx rfl (Jvm.hb hby d_jdk_41_method_12_1) rfl ((if0 _ _).trans (flt (own_nn (by omega))).1) ?_
    show Steps p.tables e below (s₁.setTop (mkF m 4 #[.val (.int (Int32.ofNat i)), .val (.int (Int32.ofNat j)), .val (.int (Int32.ofNat n)), .val fmt] [])) _
    refine XS.iloadN X0.here hx rfl (Jvm.hb hby d_jdk_41_method_12_4) rfl ?_
    show Steps p.tables e below (s₁.setTop (mkF m 5 #[.val (.int (Int32.ofNat i)), .val (.int (Int32.ofNat j)), .val (.int (Int32.ofNat n)), .val fmt] [(.int (Int32.ofNat i))])) _
    refine XS.iloadN X0.here hx rfl (Jvm.hb hby d_jdk_41_method_12_5) rfl ?_
    show Steps p.tables e below (s₁.setTop (mkF m 6 #[.val (.int (Int32.ofNat i)), .val (.int (Int32.ofNat j)), .val (.int (Int32.ofNat n)), .val fmt] [(.int (Int32.ofNat j)), (.int (Int32.ofNat i))])) _
    refine XS.icmpNo X0.here hx rfl (Jvm.hb hby d_jdk_41_method_12_6) rfl (flt (own_nlt (by omega) (by omega))).2.2.1 ?_
    show Steps p.tables e below (s₁.setTop (mkF m 9 #[.val (.int (Int32.ofNat i)), .val (.int (Int32.ofNat j)), .val (.int (Int32.ofNat n)), .val fmt] [])) _
    refine XS.iloadN X0.here hx rfl (Jvm.hb hby d_jdk_41_method_12_9) rfl ?_
    show Steps p.tables e below (s₁.setTop (mkF m 10 #[.val (.int (Int32.ofNat i)), .val (.int (Int32.ofNat j)), .val (.int (Int32.ofNat n)), .val fmt] [(.int (Int32.ofNat j))])) _
    refine XS.iloadN X0.here hx rfl (Jvm.hb hby d_jdk_41_method_12_10) rfl ?_
    show Steps p.tables e below (s₁.setTop (mkF m 11 #[.val (.int (Int32.ofNat i)), .val (.int (Int32.ofNat j)), .val (.int (Int32.ofNat n)), .val fmt] [(.int (Int32.ofNat n)), (.int (Int32.ofNat j))])) _
    refine XS.icmpYes X0.here hx rfl (pc0 := 11) (pc' := 22) rfl (Jvm.hb hby d_jdk_41_method_12_11) rfl (flt (own_nlt (by omega) (by omega))).2.2.2 (by decide) (by decide) ?_
    show Steps p.tables e below (s₁.setTop (mkF m 22 #[.val (.int (Int32.ofNat i)), .val (.int (Int32.ofNat j)), .val (.int (Int32.ofNat n)), .val fmt] [])) _
    refine XS.iloadN X0.here hx rfl (Jvm.hb hby d_jdk_41_method_12_22) rfl ?_
    show Steps p.tables e below (s₁.setTop (mkF m 23 #[.val (.int (Int32.ofNat i)), .val (.int (Int32.ofNat j)), .val (.int (Int32.ofNat n)), .val fmt] [(.int (Int32.ofNat i))])) _
    show Steps p.tables e below (s₁.setTop (mkF m 23 #[.val (.int (Int32.ofNat i)), .val (.int (Int32.ofNat j)), .val (.int (Int32.ofNat n)), .val fmt] [(.int (Int32.ofNat i))])) t_
    exact k_)
  obtain ⟨fs, hr, hrun, hended, hW, hsame⟩ := X0.leave (v := some (.int (Int32.ofNat i))) (fun h => by rw [Bd.returns] at h; cases h)
  refine ⟨_, _, s1 _ ?_, hrun, hended, _, _, rfl, ?_, ⟨_, rfl⟩, hW, hsame.mono (by decide) (by decide)⟩
  · show Steps p.tables e below (s₁.setTop (mkF m 23 #[.val (.int (Int32.ofNat i)), .val (.int (Int32.ofNat j)), .val (.int (Int32.ofNat n)), .val fmt] [(.int (Int32.ofNat i))])) _
    exact retI X0 hx Bd.returns (Jvm.hb hby d_jdk_41_method_12_23) hr
  · show Q_rmCFT Z _ _ _ _ h0 n0 _ s₁.heap _
    rw [e0]
    exact ⟨rfl, N0, rfl⟩
theorem d_jdk_42_method_158_0 : decode jdk_42_method_158_code 0 = .ok (.iload_n 0, 1) := by decide +kernel
theorem d_jdk_42_method_158_1 : decode jdk_42_method_158_code 1 = .ok (.iload_n 1, 1) := by decide +kernel
theorem d_jdk_42_method_158_2 : decode jdk_42_method_158_code 2 = .ok (.iload_n 2, 1) := by decide +kernel
theorem d_jdk_42_method_158_3 : decode jdk_42_method_158_code 3 = .ok (.getstatic 1053, 3) := by decide +kernel
theorem pd__IIILjava_util_function_BiFunction__I : parseMethodDescriptor "(IIILjava/util/function/BiFunction;)I" = some ⟨[.int, .int, .int, (.object "java/util/function/BiFunction")], some .int⟩ := by decide +kernel
theorem d_jdk_42_method_158_6 : decode jdk_42_method_158_code 6 = .ok (.invokestatic 1062, 3) := by decide +kernel
theorem d_jdk_42_method_158_9 : decode jdk_42_method_158_code 9 = .ok (.pop, 1) := by decide +kernel
theorem d_jdk_42_method_158_10 : decode jdk_42_method_158_code 10 = .ok (.return_, 1) := by decide +kernel
theorem ef_rmCBE (m : MethodId) (x0 : Int32) (x1 : Int32) (x2 : Int32) : entryFrame m #[(.int x0), (.int x1), (.int x2)] 3 = mkF m 0 #[.val (.int x0), .val (.int x1), .val (.int x2)] [] := by first | (simp [entryFrame, mkF, argsToLocals, Value.category]; done) | rfl
def Q_rmCBE (Z : State) (i : Nat) (j : Nat) (n : Nat) (fmt : Value) (h0 : Heap) (n0 : Nat) (v : Option Value) (h : Heap) (L : List Loc) : Prop := (v = none) ∧ (Fr n0 L) ∧ (h = h0)
set_option maxRecDepth 65536 in
set_option maxHeartbeats 40000000 in
theorem rmCBE (l : Launch) (Z : State) (a0 : Array Value) (hw : ∀ d ∈ tables_1, d.before a0 Z = true) (ws : List Jvm.Cond) (i : Nat) (j : Nat) (n : Nat) (fmt : Value) (h0 : Heap) (n0 : Nat) (Z0 : n0 ≤ h0.size) (hfmt : fmt.isRef = true) (I1 : Sta Z Z.heap "jdk/internal/util/Preconditions" "SIOOBE_FORMATTER" "Ljava/util/function/BiFunction;" fmt) (OX : Old Z n0 h0) (hij : i ≤ j) (hjn : j ≤ n) (hn : n ≤ 8000) :
    MetFree l (⟨"java/lang/String", "checkBoundsBeginEnd", "(III)V"⟩ : MethodName) (head1 (Jvm.Cond.code (⟨"java/lang/String", "checkBoundsBeginEnd", "(III)V"⟩ : MethodName) jdk_42_method_158_code 3 none :: ws) ({ frames := 1, cells := 0, slots := 0, locals := 15 } : Room)) (fun ar_ U => ar_ = #[(.int (Int32.ofNat i)), (.int (Int32.ofNat j)), (.int (Int32.ofNat n))] ∧ Z.Warmed39 U.vm ∧ U.heap = h0) (fun _ _ _ _ _ => True) (fun _ U o U' => ∃ v L, o = .returned v ∧ Q_rmCBE Z i j n fmt h0 n0 v U'.heap L ∧ FrameEnd U o U' L ({ frames := 1, cells := 0, slots := 0, locals := 15 } : Room).cells ({ frames := 1, cells := 0, slots := 0, locals := 15 } : Room).slots) := by
  refine MetFree.of_bodySF (plainFor_of_name pn_java_lang_String) hisR ?_
  intro p e s m args below meth c s₁ Bd hml0 hP hK
  obtain ⟨rfl, hZ, hh⟩ := hP
  have hx := Bd.exec
  have hby := Bd.bytes
  have hml : c.maxLocals = 3 := hml0
  have hown : s.vm.findClass "java/lang/String" = some m.cls := findClass_of_methodNamed Bd.named
  have hnm := (name_of_methodNamed Bd.named Bd.method).1
  have X0 : Stand p l e ({ frames := 1, cells := 0, slots := 0, locals := 15 } : Room) s m #[(.int (Int32.ofNat i)), (.int (Int32.ofNat j)), (.int (Int32.ofNat n))] below meth c s₁ [] 0 0 := Stand.of_body Bd
  have e0 : s₁.heap = h0 := by rw [← hh, Bd.state]; rfl
  have N0 := Fr.nil n0
  have pre0 : ∀ t_, Steps p.tables e below (s₁.setTop (mkF m 0 #[.val (.int (Int32.ofNat i)), .val (.int (Int32.ofNat j)), .val (.int (Int32.ofNat n))] [])) t_ → Steps p.tables e below (s₁.setTop (entryFrame m #[(.int (Int32.ofNat i)), (.int (Int32.ofNat j)), (.int (Int32.ofNat n))] 3)) t_ := fun t_ k_ => castTop (ef_rmCBE m (Int32.ofNat i) (Int32.ofNat j) (Int32.ofNat n)) k_
  obtain ⟨T1, X1, e1, st1⟩ := getS2 X0 hx hZ hown (host := "") (Or.inl (hw _ (List.mem_of_getElem? (i := 112) rfl))) Via.refl e0 (I1.ext OX.2) (g := (mkF m 3 #[.val (.int (Int32.ofNat i)), .val (.int (Int32.ofNat j)), .val (.int (Int32.ofNat n))] [(.int (Int32.ofNat n)), (.int (Int32.ofNat j)), (.int (Int32.ofNat i))])) rfl (Jvm.hb hby d_jdk_42_method_158_3)
  have Zc2 : n0 ≤ h0.size := by omega
  obtain ⟨_, _, ⟨T3, L3, k3, n3⟩, -, X3, ⟨Lc3, hQ3, l3, y3, z3⟩, st3⟩ := Jvm.LawKit.callS X1 hx (y := (⟨"jdk/internal/util/Preconditions", "checkFromToIndex", "(IIILjava/util/function/BiFunction;)I"⟩ : MethodName)) hown (mvT hZ (hw _ (List.mem_of_getElem? (i := 114) rfl))) (mvT hZ (hw _ (List.mem_of_getElem? (i := 115) rfl))) (mvT hZ (hw _ (List.mem_of_getElem? (i := 113) rfl))) (mvT hZ (hw _ (List.mem_of_getElem? (i := 116) rfl))) (by decide) (backOf (W := 0) (rmCFT l Z a0 hw [] fmt i j n h0 n0 Zc2 (hfmt : fmt.isRef = true) (hij : i ≤ j) (hjn : j ≤ n) (hn : n ≤ 8000)) hZ (hw _ (List.mem_of_getElem? (i := 116) rfl)) (hw _ (List.mem_of_getElem? (i := 113) rfl)) (by decide) (by decide)) (g := (mkF m 6 #[.val (.int (Int32.ofNat i)), .val (.int (Int32.ofNat j)), .val (.int (Int32.ofNat n))] [fmt, (.int (Int32.ofNat n)), (.int (Int32.ofNat j)), (.int (Int32.ofNat i))])) rfl (by rw [hml]; rfl) (argsL := [(.int (Int32.ofNat i)), (.int (Int32.ofNat j)), (.int (Int32.ofNat n)), fmt]) (rest := []) (lenOf pd__IIILjava_util_function_BiFunction__I rfl) rfl (by show 2 * 0 + _ ≤ _; exact Nat.le_of_eq rfl) (Jvm.hb hby d_jdk_42_method_158_6) (fun _ _ => ⟨rfl, e1, (by decide : 0 + 0 ≤ _), (by decide : 0 + 0 ≤ _)⟩)
  dsimp only [Pt.U, Pt.locs, Pt.cells, Pt.slots] at X3 l3 y3 z3 st3 hQ3
  subst l3 y3 z3
  obtain ⟨rfl, N3q, e3⟩ := hQ3
  have N3 := Fr.app N0 N3q
  have s4 : ∀ t_, Steps p.tables e below (T3.setTop (mkF m 10 #[.val (.int (Int32.ofNat i)), .val (.int (Int32.ofNat j)), .val (.int (Int32.ofNat n))] [])) t_ → Steps p.tables e below (s₁.setTop (entryFrame m #[(.int (Int32.ofNat i)), (.int (Int32.ofNat j)), (.int (Int32.ofNat n))] 3)) t_ := fun t_ k_ => pre0 t_ (by
    show Steps p.tables e below (s₁.setTop (mkF m 0 #[.val (.int (Int32.ofNat i)), .val (.int (Int32.ofNat j)), .val (.int (Int32.ofNat n))] [])) t_
    refine XS.iloadN X0.here hx rfl (Jvm.hb hby d_jdk_42_method_158_0) rfl ?_
    show Steps p.tables e below (s₁.setTop (mkF m 1 #[.val (.int (Int32.ofNat i)), .val (.int (Int32.ofNat j)), .val (.int (Int32.ofNat n))] [(.int (Int32.ofNat i))])) _
    refine XS.iloadN X0.here hx rfl (Jvm.hb hby d_jdk_42_method_158_1) rfl ?_
    show Steps p.tables e below (s₁.setTop (mkF m 2 #[.val (.int (Int32.ofNat i)), .val (.int (Int32.ofNat j)), .val (.int (Int32.ofNat n))] [(.int (Int32.ofNat j)), (.int (Int32.ofNat i))])) _
    refine XS.iloadN X0.here hx rfl (Jvm.hb hby d_jdk_42_method_158_2) rfl ?_
    show Steps p.tables e below (s₁.setTop (mkF m 3 #[.val (.int (Int32.ofNat i)), .val (.int (Int32.ofNat j)), .val (.int (Int32.ofNat n))] [(.int (Int32.ofNat n)), (.int (Int32.ofNat j)), (.int (Int32.ofNat i))])) _
    refine st1 _ ?_
    show Steps p.tables e below (T1.setTop (mkF m 6 #[.val (.int (Int32.ofNat i)), .val (.int (Int32.ofNat j)), .val (.int (Int32.ofNat n))] [fmt, (.int (Int32.ofNat n)), (.int (Int32.ofNat j)), (.int (Int32.ofNat i))])) _
    refine st3 _ ?_
    show Steps p.tables e below (T3.setTop (mkF m 9 #[.val (.int (Int32.ofNat i)), .val (.int (Int32.ofNat j)), .val (.int (Int32.ofNat n))] [(.int (Int32.ofNat i))])) _
    refine XS.pop X3.here hx rfl (Jvm.hb hby d_jdk_42_method_158_9) rfl rfl ?_
    show Steps p.tables e below (T3.setTop (mkF m 10 #[.val (.int (Int32.ofNat i)), .val (.int (Int32.ofNat j)), .val (.int (Int32.ofNat n))] [])) _
    show Steps p.tables e below (T3.setTop (mkF m 10 #[.val (.int (Int32.ofNat i)), .val (.int (Int32.ofNat j)), .val (.int (Int32.ofNat n))] [])) t_
    exact k_)
  obtain ⟨fs, hr, hrun, hended, hW, hsame⟩ := X3.leave (v := none) (fun _ => rfl)
  refine ⟨_, _, s4 _ ?_, hrun, hended, _, _, rfl, ?_, ⟨_, rfl⟩, hW, hsame.mono (by decide) (by decide)⟩
  · show Steps p.tables e below (T3.setTop (mkF m 10 #[.val (.int (Int32.ofNat i)), .val (.int (Int32.ofNat j)), .val (.int (Int32.ofNat n))] [])) _
    exact X3.returnOut hx Bd.returns (Jvm.hb hby d_jdk_42_method_158_10) hr
  · show Q_rmCBE Z _ _ _ _ h0 n0 _ T3.heap _
    rw [e3]
    exact ⟨rfl, N3, rfl⟩
theorem d_jdk_52_method_93_0 : decode jdk_52_method_93_code 0 = .ok (.iload_n 0, 1) := by decide +kernel
theorem d_jdk_52_method_93_1 : decode jdk_52_method_93_code 1 = .ok (.iload_n 1, 1) := by decide +kernel
theorem d_jdk_52_method_93_2 : decode jdk_52_method_93_code 2 = .ok (.aload_n 2, 1) := by decide +kernel
theorem pd___B_I : parseMethodDescriptor "([B)I" = some ⟨[(.array .byte)], some .int⟩ := by decide +kernel
theorem d_jdk_52_method_93_3 : decode jdk_52_method_93_code 3 = .ok (.invokestatic 48, 3) := by decide +kernel
theorem pd__III_V : parseMethodDescriptor "(III)V" = some ⟨[.int, .int, .int], none⟩ := by decide +kernel
theorem d_jdk_52_method_93_6 : decode jdk_52_method_93_code 6 = .ok (.invokestatic 241, 3) := by decide +kernel
theorem d_jdk_52_method_93_9 : decode jdk_52_method_93_code 9 = .ok (.return_, 1) := by decide +kernel
theorem ef_rmCBU (m : MethodId) (x0 : Int32) (x1 : Int32) (x2 : Addr) : entryFrame m #[(.int x0), (.int x1), (.ref x2)] 3 = mkF m 0 #[.val (.int x0), .val (.int x1), .val (.ref x2)] [] := by first | (simp [entryFrame, mkF, argsToLocals, Value.category]; done) | rfl
def Q_rmCBU (Z : State) (b : Addr) (i : Nat) (j : Nat) (fmt : Value) (kb : ClassId) (cs : List Int32) (h0 : Heap) (n0 : Nat) (v : Option Value) (h : Heap) (L : List Loc) : Prop := (v = none) ∧ (Fr n0 L) ∧ (h = h0)
set_option maxRecDepth 65536 in
set_option maxHeartbeats 40000000 in
theorem rmCBU (l : Launch) (Z : State) (a0 : Array Value) (hw : ∀ d ∈ tables_1, d.before a0 Z = true) (ws : List Jvm.Cond) (b : Addr) (i : Nat) (j : Nat) (fmt : Value) (kb : ClassId) (cs : List Int32) (h0 : Heap) (n0 : Nat) (Z0 : n0 ≤ h0.size) (hfmt : fmt.isRef = true) (I1 : Sta Z Z.heap "jdk/internal/util/Preconditions" "SIOOBE_FORMATTER" "Ljava/util/function/BiFunction;" fmt) (OX : Old Z n0 h0) (I2 : Arv Z h0 b kb .byte (Int32.ofNat (2 * cs.length)) (own_wide cs) (.int (0 : Int32))) (hb : cs.length ≤ 4) (hij : i ≤ j) (hjn : j ≤ cs.length) :
    MetFree l (⟨"java/lang/StringUTF16", "checkBoundsBeginEnd", "(II[B)V"⟩ : MethodName) (head1 (Jvm.Cond.code (⟨"java/lang/StringUTF16", "checkBoundsBeginEnd", "(II[B)V"⟩ : MethodName) jdk_52_method_93_code 3 none :: ws) ({ frames := 2, cells := 0, slots := 0, locals := 29 } : Room)) (fun ar_ U => ar_ = #[(.int (Int32.ofNat i)), (.int (Int32.ofNat j)), (.ref b)] ∧ Z.Warmed39 U.vm ∧ U.heap = h0) (fun _ _ _ _ _ => True) (fun _ U o U' => ∃ v L, o = .returned v ∧ Q_rmCBU Z b i j fmt kb cs h0 n0 v U'.heap L ∧ FrameEnd U o U' L ({ frames := 2, cells := 0, slots := 0, locals := 29 } : Room).cells ({ frames := 2, cells := 0, slots := 0, locals := 29 } : Room).slots) := by
  refine MetFree.of_bodySF (plainFor_of_name pn_java_lang_StringUTF16) hisR ?_
  intro p e s m args below meth c s₁ Bd hml0 hP hK
  obtain ⟨rfl, hZ, hh⟩ := hP
  have hx := Bd.exec
  have hby := Bd.bytes
  have hml : c.maxLocals = 3 := hml0
  have hown : s.vm.findClass "java/lang/StringUTF16" = some m.cls := findClass_of_methodNamed Bd.named
  have hnm := (name_of_methodNamed Bd.named Bd.method).1
  have X0 : Stand p l e ({ frames := 2, cells := 0, slots := 0, locals := 29 } : Room) s m #[(.int (Int32.ofNat i)), (.int (Int32.ofNat j)), (.ref b)] below meth c s₁ [] 0 0 := Stand.of_body Bd
  have e0 : s₁.heap = h0 := by rw [← hh, Bd.state]; rfl
  have N0 := Fr.nil n0
  have pre0 : ∀ t_, Steps p.tables e below (s₁.setTop (mkF m 0 #[.val (.int (Int32.ofNat i)), .val (.int (Int32.ofNat j)), .val (.ref b)] [])) t_ → Steps p.tables e below (s₁.setTop (entryFrame m #[(.int (Int32.ofNat i)), (.int (Int32.ofNat j)), (.ref b)] 3)) t_ := fun t_ k_ => castTop (ef_rmCBU m (Int32.ofNat i) (Int32.ofNat j) b) k_
  have lt_I2 : @LT.lt Nat _ b h0.size := I2.lt
  have Zc1 : n0 ≤ h0.size := by omega
  obtain ⟨_, _, ⟨T2, L2, k2, n2⟩, -, X2, ⟨Lc2, hQ2, l2, y2, z2⟩, st2⟩ := Jvm.LawKit.callS X0 hx (y := (⟨"java/lang/StringUTF16", "length", "([B)I"⟩ : MethodName)) hown (mvT hZ (hw _ (List.mem_of_getElem? (i := 106) rfl))) (mvT hZ (hw _ (List.mem_of_getElem? (i := 107) rfl))) (mvT hZ (hw _ (List.mem_of_getElem? (i := 18) rfl))) (mvT hZ (hw _ (List.mem_of_getElem? (i := 108) rfl))) (by decide) (backOf (W := 2) (rmULen l Z a0 hw [] b kb cs h0 n0 Zc1 I2 (hb : cs.length ≤ 4)) hZ (hw _ (List.mem_of_getElem? (i := 108) rfl)) (hw _ (List.mem_of_getElem? (i := 18) rfl)) (by decide) (by decide)) (g := (mkF m 3 #[.val (.int (Int32.ofNat i)), .val (.int (Int32.ofNat j)), .val (.ref b)] [(.ref b), (.int (Int32.ofNat j)), (.int (Int32.ofNat i))])) rfl (by rw [hml]; rfl) (argsL := [(.ref b)]) (rest := [(.int (Int32.ofNat j)), (.int (Int32.ofNat i))]) (lenOf pd___B_I rfl) rfl (by show 2 * 0 + _ ≤ _; exact Nat.le_of_eq rfl) (Jvm.hb hby d_jdk_52_method_93_3) (fun _ _ => ⟨rfl, e0, (by decide : 0 + 0 ≤ _), (by decide : 0 + 0 ≤ _)⟩)
  dsimp only [Pt.U, Pt.locs, Pt.cells, Pt.slots] at X2 l2 y2 z2 st2 hQ2
  subst l2 y2 z2
  obtain ⟨rfl, N2q, e2⟩ := hQ2
  have N2 := Fr.app N0 N2q
  have Zc3 : n0 ≤ h0.size := by omega
  obtain ⟨_, _, ⟨T4, L4, k4, n4⟩, -, X4, ⟨Lc4, hQ4, l4, y4, z4⟩, st4⟩ := Jvm.LawKit.callS X2 hx (y := (⟨"java/lang/String", "checkBoundsBeginEnd", "(III)V"⟩ : MethodName)) hown (mvT hZ (hw _ (List.mem_of_getElem? (i := 109) rfl))) (mvT hZ (hw _ (List.mem_of_getElem? (i := 110) rfl))) (mvT hZ (hw _ (List.mem_of_getElem? (i := 4) rfl))) (mvT hZ (hw _ (List.mem_of_getElem? (i := 111) rfl))) (by decide) (backOf (W := 0) (rmCBE l Z a0 hw [] i j cs.length fmt h0 n0 Zc3 (hfmt : fmt.isRef = true) I1 OX (hij : i ≤ j) (hjn : j ≤ cs.length) (by first | assumption | rfl | decide | omega : cs.length ≤ 8000)) hZ (hw _ (List.mem_of_getElem? (i := 111) rfl)) (hw _ (List.mem_of_getElem? (i := 4) rfl)) (by decide) (by decide)) (g := (mkF m 6 #[.val (.int (Int32.ofNat i)), .val (.int (Int32.ofNat j)), .val (.ref b)] [(.int (Int32.ofNat cs.length)), (.int (Int32.ofNat j)), (.int (Int32.ofNat i))])) rfl (by rw [hml]; rfl) (argsL := [(.int (Int32.ofNat i)), (.int (Int32.ofNat j)), (.int (Int32.ofNat cs.length))]) (rest := []) (lenOf pd__III_V rfl) rfl (by show 2 * 0 + _ ≤ _; exact Nat.le_of_eq rfl) (Jvm.hb hby d_jdk_52_method_93_6) (fun _ _ => ⟨rfl, e2, (by decide : 0 + 0 ≤ _), (by decide : 0 + 0 ≤ _)⟩)
  dsimp only [Pt.U, Pt.locs, Pt.cells, Pt.slots] at X4 l4 y4 z4 st4 hQ4
  subst l4 y4 z4
  obtain ⟨rfl, N4q, e4⟩ := hQ4
  have N4 := Fr.app N2 N4q
  have s5 : ∀ t_, Steps p.tables e below (T4.setTop (mkF m 9 #[.val (.int (Int32.ofNat i)), .val (.int (Int32.ofNat j)), .val (.ref b)] [])) t_ → Steps p.tables e below (s₁.setTop (entryFrame m #[(.int (Int32.ofNat i)), (.int (Int32.ofNat j)), (.ref b)] 3)) t_ := fun t_ k_ => pre0 t_ (by
    show Steps p.tables e below (s₁.setTop (mkF m 0 #[.val (.int (Int32.ofNat i)), .val (.int (Int32.ofNat j)), .val (.ref b)] [])) t_
    refine XS.iloadN X0.here hx rfl (Jvm.hb hby d_jdk_52_method_93_0) rfl ?_
    show Steps p.tables e below (s₁.setTop (mkF m 1 #[.val (.int (Int32.ofNat i)), .val (.int (Int32.ofNat j)), .val (.ref b)] [(.int (Int32.ofNat i))])) _
    refine XS.iloadN X0.here hx rfl (Jvm.hb hby d_jdk_52_method_93_1) rfl ?_
    show Steps p.tables e below (s₁.setTop (mkF m 2 #[.val (.int (Int32.ofNat i)), .val (.int (Int32.ofNat j)), .val (.ref b)] [(.int (Int32.ofNat j)), (.int (Int32.ofNat i))])) _
    refine XS.aloadN X0.here hx rfl (Jvm.hb hby d_jdk_52_method_93_2) rfl rfl ?_
    show Steps p.tables e below (s₁.setTop (mkF m 3 #[.val (.int (Int32.ofNat i)), .val (.int (Int32.ofNat j)), .val (.ref b)] [(.ref b), (.int (Int32.ofNat j)), (.int (Int32.ofNat i))])) _
    refine st2 _ ?_
    show Steps p.tables e below (T2.setTop (mkF m 6 #[.val (.int (Int32.ofNat i)), .val (.int (Int32.ofNat j)), .val (.ref b)] [(.int (Int32.ofNat cs.length)), (.int (Int32.ofNat j)), (.int (Int32.ofNat i))])) _
    refine st4 _ ?_
    show Steps p.tables e below (T4.setTop (mkF m 9 #[.val (.int (Int32.ofNat i)), .val (.int (Int32.ofNat j)), .val (.ref b)] [])) _
    show Steps p.tables e below (T4.setTop (mkF m 9 #[.val (.int (Int32.ofNat i)), .val (.int (Int32.ofNat j)), .val (.ref b)] [])) t_
    exact k_)
  obtain ⟨fs, hr, hrun, hended, hW, hsame⟩ := X4.leave (v := none) (fun _ => rfl)
  refine ⟨_, _, s5 _ ?_, hrun, hended, _, _, rfl, ?_, ⟨_, rfl⟩, hW, hsame.mono (by decide) (by decide)⟩
  · show Steps p.tables e below (T4.setTop (mkF m 9 #[.val (.int (Int32.ofNat i)), .val (.int (Int32.ofNat j)), .val (.ref b)] [])) _
    exact X4.returnOut hx Bd.returns (Jvm.hb hby d_jdk_52_method_93_9) hr
  · show Q_rmCBU Z _ _ _ _ _ _ h0 n0 _ T4.heap _
    rw [e4]
    exact ⟨rfl, N4, rfl⟩
theorem d_jdk_52_method_48_0 : decode jdk_52_method_48_code 0 = .ok (.iload_n 2, 1) := by decide +kernel
theorem d_jdk_52_method_48_1 : decode jdk_52_method_48_code 1 = .ok (.istore 4, 2) := by decide +kernel
theorem d_jdk_52_method_48_3 : decode jdk_52_method_48_code 3 = .ok (.iload 4, 2) := by decide +kernel
theorem d_jdk_52_method_48_5 : decode jdk_52_method_48_code 5 = .ok (.iload_n 3, 1) := by decide +kernel
theorem d_jdk_52_method_48_6 : decode jdk_52_method_48_code 6 = .ok (.if_icmp .ge 22, 3) := by decide +kernel
theorem d_jdk_52_method_48_9 : decode jdk_52_method_48_code 9 = .ok (.aload_n 0, 1) := by decide +kernel
theorem d_jdk_52_method_48_10 : decode jdk_52_method_48_code 10 = .ok (.iload 4, 2) := by decide +kernel
theorem d_jdk_52_method_48_12 : decode jdk_52_method_48_code 12 = .ok (.invokestatic 71, 3) := by decide +kernel
theorem d_jdk_52_method_48_15 : decode jdk_52_method_48_code 15 = .ok (.iload_n 1, 1) := by decide +kernel
theorem d_jdk_52_method_48_16 : decode jdk_52_method_48_code 16 = .ok (.if_icmp .ne 6, 3) := by decide +kernel
theorem d_jdk_52_method_48_22 : decode jdk_52_method_48_code 22 = .ok (.iinc 4 1, 3) := by decide +kernel
theorem d_jdk_52_method_48_25 : decode jdk_52_method_48_code 25 = .ok (.goto (-22), 3) := by decide +kernel
theorem d_jdk_52_method_48_28 : decode jdk_52_method_48_code 28 = .ok (.iconst (-1), 1) := by decide +kernel
theorem d_jdk_52_method_48_29 : decode jdk_52_method_48_code 29 = .ok (.ireturn, 1) := by decide +kernel
theorem d_jdk_52_method_48_19 : decode jdk_52_method_48_code 19 = .ok (.iload 4, 2) := by decide +kernel
theorem d_jdk_52_method_48_21 : decode jdk_52_method_48_code 21 = .ok (.ireturn, 1) := by decide +kernel
theorem ef_rmIxU (m : MethodId) (x0 : Addr) (x1 : Int32) (x2 : Int32) (x3 : Int32) : entryFrame m #[(.ref x0), (.int x1), (.int x2), (.int x3)] 5 = mkF m 0 #[.val (.ref x0), .val (.int x1), .val (.int x2), .val (.int x3), .unset] [] := by first | (simp [entryFrame, mkF, argsToLocals, Value.category]; done) | rfl
def Q_rmIxU (Z : State) (b : Addr) (ch : Int32) (kb : ClassId) (cs : List Int32) (j0 : Nat) (h0 : Heap) (n0 : Nat) (v : Option Value) (h : Heap) (L : List Loc) : Prop := (v = some (.int ((Int32.ofNat (own_ix cs ch j0 (cs.length - j0))) - (1 : Int32)))) ∧ (Fr n0 L) ∧ (h = h0)
set_option maxRecDepth 65536 in
set_option maxHeartbeats 40000000 in
theorem rmIxU (l : Launch) (Z : State) (a0 : Array Value) (hw : ∀ d ∈ tables_1, d.before a0 Z = true) (ws : List Jvm.Cond) (b : Addr) (ch : Int32) (kb : ClassId) (cs : List Int32) (j0 : Nat) (h0 : Heap) (n0 : Nat) (Z0 : n0 ≤ h0.size) (I1 : Sta Z Z.heap "java/lang/StringUTF16" "$assertionsDisabled" "Z" (.int (1 : Int32))) (I2 : Sta Z Z.heap "java/lang/StringUTF16" "HI_BYTE_SHIFT" "I" (.int (0 : Int32))) (I3 : Sta Z Z.heap "java/lang/StringUTF16" "LO_BYTE_SHIFT" "I" (.int (8 : Int32))) (OX : Old Z n0 h0) (I4 : Arv Z h0 b kb .byte (Int32.ofNat (2 * cs.length)) (own_wide cs) (.int (0 : Int32))) (hb : cs.length ≤ 4) (hj0 : j0 ≤ cs.length) (hchs : own_chs cs) :
    MetFree l (⟨"java/lang/StringUTF16", "indexOfCharUnsafe", "([BIII)I"⟩ : MethodName) (head1 (Jvm.Cond.code (⟨"java/lang/StringUTF16", "indexOfCharUnsafe", "([BIII)I"⟩ : MethodName) jdk_52_method_48_code 5 (some .int) :: ws) ({ frames := 1, cells := 0, slots := 0, locals := 13 } : Room)) (fun ar_ U => ar_ = #[(.ref b), (.int ch), (.int (Int32.ofNat j0)), (.int (Int32.ofNat cs.length))] ∧ Z.Warmed39 U.vm ∧ U.heap = h0) (fun _ _ _ _ _ => True) (fun _ U o U' => ∃ v L, o = .returned v ∧ Q_rmIxU Z b ch kb cs j0 h0 n0 v U'.heap L ∧ FrameEnd U o U' L ({ frames := 1, cells := 0, slots := 0, locals := 13 } : Room).cells ({ frames := 1, cells := 0, slots := 0, locals := 13 } : Room).slots) := by
  refine MetFree.of_bodySF (plainFor_of_name pn_java_lang_StringUTF16) hisR ?_
  intro p e s m args below meth c s₁ Bd hml0 hP hK
  obtain ⟨rfl, hZ, hh⟩ := hP
  have hx := Bd.exec
  have hby := Bd.bytes
  have hml : c.maxLocals = 5 := hml0
  have hown : s.vm.findClass "java/lang/StringUTF16" = some m.cls := findClass_of_methodNamed Bd.named
  have hnm := (name_of_methodNamed Bd.named Bd.method).1
  have X0 : Stand p l e ({ frames := 1, cells := 0, slots := 0, locals := 13 } : Room) s m #[(.ref b), (.int ch), (.int (Int32.ofNat j0)), (.int (Int32.ofNat cs.length))] below meth c s₁ [] 0 0 := Stand.of_body Bd
  have e0 : s₁.heap = h0 := by rw [← hh, Bd.state]; rfl
  have N0 := Fr.nil n0
  have pre0 : ∀ t_, Steps p.tables e below (s₁.setTop (mkF m 0 #[.val (.ref b), .val (.int ch), .val (.int (Int32.ofNat j0)), .val (.int (Int32.ofNat cs.length)), .unset] [])) t_ → Steps p.tables e below (s₁.setTop (entryFrame m #[(.ref b), (.int ch), (.int (Int32.ofNat j0)), (.int (Int32.ofNat cs.length))] 5)) t_ := fun t_ k_ => castTop (ef_rmIxU m b ch (Int32.ofNat j0) (Int32.ofNat cs.length)) k_
  have lt_I4 : @LT.lt Nat _ b h0.size := I4.lt
  have s1 : ∀ t_, Steps p.tables e below (s₁.setTop (mkF m 3 #[.val (.ref b), .val (.int ch), .val (.int (Int32.ofNat j0)), .val (.int (Int32.ofNat cs.length)), .val (.int (Int32.ofNat j0))] [])) t_ → Steps p.tables e below (s₁.setTop (entryFrame m #[(.ref b), (.int ch), (.int (Int32.ofNat j0)), (.int (Int32.ofNat cs.length))] 5)) t_ := fun t_ k_ => pre0 t_ (by
    show Steps p.tables e below (s₁.setTop (mkF m 0 #[.val (.ref b), .val (.int ch), .val (.int (Int32.ofNat j0)), .val (.int (Int32.ofNat cs.length)), .unset] [])) t_
    refine XS.iloadN X0.here hx rfl (Jvm.hb hby d_jdk_52_method_48_0) rfl ?_
    show Steps p.tables e below (s₁.setTop (mkF m 1 #[.val (.ref b), .val (.int ch), .val (.int (Int32.ofNat j0)), .val (.int (Int32.ofNat cs.length)), .unset] [(.int (Int32.ofNat j0))])) _
    refine XS.istore X0.here hx rfl (Jvm.hb hby d_jdk_52_method_48_1) rfl (l' := #[.val (.ref b), .val (.int ch), .val (.int (Int32.ofNat j0)), .val (.int (Int32.ofNat cs.length)), .val (.int (Int32.ofNat j0))]) rfl ?_
    show Steps p.tables e below (s₁.setTop (mkF m 3 #[.val (.ref b), .val (.int ch), .val (.int (Int32.ofNat j0)), .val (.int (Int32.ofNat cs.length)), .val (.int (Int32.ofNat j0))] [])) _
    show Steps p.tables e below (s₁.setTop (mkF m 3 #[.val (.ref b), .val (.int ch), .val (.int (Int32.ofNat j0)), .val (.int (Int32.ofNat cs.length)), .val (.int (Int32.ofNat j0))] [])) t_
    exact k_)
  have lp2 : ∀ (k_ : Nat) (j : Nat) (T_ : State) (lo_ : List Loc), j + k_ = cs.length → Stand p l e ({ frames := 1, cells := 0, slots := 0, locals := 13 } : Room) s m #[(.ref b), (.int ch), (.int (Int32.ofNat j0)), (.int (Int32.ofNat cs.length))] below meth c T_ lo_ 0 0 → T_.heap = h0 → Fr n0 lo_ → own_ix cs ch j k_ = own_ix cs ch j0 (cs.length - j0) → ∃ (T' : State) (lo' : List Loc) (fe_ : JFrame), Stand p l e ({ frames := 1, cells := 0, slots := 0, locals := 13 } : Room) s m #[(.ref b), (.int ch), (.int (Int32.ofNat j0)), (.int (Int32.ofNat cs.length))] below meth c T' lo' 0 0 ∧ T'.heap = h0 ∧ Fr n0 lo' ∧ ((fe_ = (mkF m 28 #[.val (.ref b), .val (.int ch), .val (.int (Int32.ofNat j0)), .val (.int (Int32.ofNat cs.length)), .val (.int (Int32.ofNat cs.length))] []) ∧ own_ix cs ch j0 (cs.length - j0) = 0) ∨ (∃ (jj : Nat), fe_ = (mkF m 19 #[.val (.ref b), .val (.int ch), .val (.int (Int32.ofNat j0)), .val (.int (Int32.ofNat cs.length)), .val (.int (Int32.ofNat jj))] []) ∧ own_ix cs ch j0 (cs.length - j0) = jj + 1)) ∧ ∀ t_, Steps p.tables e below (T'.setTop fe_) t_ → Steps p.tables e below (T_.setTop (mkF m 3 #[.val (.ref b), .val (.int ch), .val (.int (Int32.ofNat j0)), .val (.int (Int32.ofNat cs.length)), .val (.int (Int32.ofNat j))] [])) t_ := by
    intro k_
    induction k_ with
    | zero => 
      intro j T_ lo_ hm_ X_ e_ N_ hr
      have s3 : ∀ t_, Steps p.tables e below (T_.setTop (mkF m 28 #[.val (.ref b), .val (.int ch), .val (.int (Int32.ofNat j0)), .val (.int (Int32.ofNat cs.length)), .val (.int (Int32.ofNat j))] [])) t_ → Steps p.tables e below (T_.setTop (mkF m 3 #[.val (.ref b), .val (.int ch), .val (.int (Int32.ofNat j0)), .val (.int (Int32.ofNat cs.length)), .val (.int (Int32.ofNat j))] [])) t_ := fun t_ k_ => (fun _ k_ => k_) t_ (by
        show Steps p.tables e below (T_.setTop (mkF m 3 #[.val (.ref b), .val (.int ch), .val (.int (Int32.ofNat j0)), .val (.int (Int32.ofNat cs.length)), .val (.int (Int32.ofNat j))] [])) t_
        refine XS.iload X_.here hx rfl (Jvm.hb hby d_jdk_52_method_48_3) rfl ?_
        show Steps p.tables e below (T_.setTop (mkF m 5 #[.val (.ref b), .val (.int ch), .val (.int (Int32.ofNat j0)), .val (.int (Int32.ofNat cs.length)), .val (.int (Int32.ofNat j))] [(.int (Int32.ofNat j))])) _
        refine XS.iloadN X_.here hx rfl (Jvm.hb hby d_jdk_52_method_48_5) rfl ?_
        show Steps p.tables e below (T_.setTop (mkF m 6 #[.val (.ref b), .val (.int ch), .val (.int (Int32.ofNat j0)), .val (.int (Int32.ofNat cs.length)), .val (.int (Int32.ofNat j))] [(.int (Int32.ofNat cs.length)), (.int (Int32.ofNat j))])) _
        refine XS.icmpYes X_.here hx rfl (pc0 := 6) (pc' := 28) rfl (Jvm.hb hby d_jdk_52_method_48_6) rfl (flt (own_nlt (by omega) (by omega))).2.1 (by decide) (by decide) ?_
        show Steps p.tables e below (T_.setTop (mkF m 28 #[.val (.ref b), .val (.int ch), .val (.int (Int32.ofNat j0)), .val (.int (Int32.ofNat cs.length)), .val (.int (Int32.ofNat j))] [])) _
        show Steps p.tables e below (T_.setTop (mkF m 28 #[.val (.ref b), .val (.int ch), .val (.int (Int32.ofNat j0)), .val (.int (Int32.ofNat cs.length)), .val (.int (Int32.ofNat j))] [])) t_
        exact k_)
      exact ⟨T_, _, _, X_, e_, N_, (Or.inl ⟨(by rw [show j = cs.length by omega]), hr.symm⟩), s3⟩
    | succ k_ ih => 
      intro j T_ lo_ hm_ X_ e_ N_ hr
      have Zc4 : n0 ≤ h0.size := by omega
      obtain ⟨_, _, ⟨T5, L5, k5, n5⟩, -, X5, ⟨Lc5, hQ5, l5, y5, z5⟩, st5⟩ := Jvm.LawKit.callS X_ hx (y := (⟨"java/lang/StringUTF16", "getChar", "([BI)C"⟩ : MethodName)) hown (mvT hZ (hw _ (List.mem_of_getElem? (i := 91) rfl))) (mvT hZ (hw _ (List.mem_of_getElem? (i := 92) rfl))) (mvT hZ (hw _ (List.mem_of_getElem? (i := 18) rfl))) (mvT hZ (hw _ (List.mem_of_getElem? (i := 93) rfl))) (by decide) (backOf (W := 0) (rmGet l Z a0 hw [] b kb (own_wide cs) cs.length j (cs.getD j 0) h0 n0 Zc4 I1 I2 I3 OX I4 (hb : cs.length ≤ 4) (by omega) (own_wide0 _ cs j (by omega)) (own_wide1 _ cs j (by omega)) (hchs _ (own_mem cs j (by omega))).1 (hchs _ (own_mem cs j (by omega))).2) hZ (hw _ (List.mem_of_getElem? (i := 93) rfl)) (hw _ (List.mem_of_getElem? (i := 18) rfl)) (by decide) (by decide)) (g := (mkF m 12 #[.val (.ref b), .val (.int ch), .val (.int (Int32.ofNat j0)), .val (.int (Int32.ofNat cs.length)), .val (.int (Int32.ofNat j))] [(.int (Int32.ofNat j)), (.ref b)])) rfl (by rw [hml]; rfl) (argsL := [(.ref b), (.int (Int32.ofNat j))]) (rest := []) (lenOf pd___BI_C rfl) rfl (by show 2 * 0 + _ ≤ _; exact Nat.le_of_eq rfl) (Jvm.hb hby d_jdk_52_method_48_12) (fun _ _ => ⟨rfl, e_, (by decide : 0 + 0 ≤ _), (by decide : 0 + 0 ≤ _)⟩)
      dsimp only [Pt.U, Pt.locs, Pt.cells, Pt.slots] at X5 l5 y5 z5 st5 hQ5
      subst l5 y5 z5
      obtain ⟨rfl, N5q, e5⟩ := hQ5
      have N5 := Fr.app N_ N5q
      have s6 : ∀ t_, Steps p.tables e below (T5.setTop (mkF m 16 #[.val (.ref b), .val (.int ch), .val (.int (Int32.ofNat j0)), .val (.int (Int32.ofNat cs.length)), .val (.int (Int32.ofNat j))] [(.int ch), (.int (cs.getD j 0))])) t_ → Steps p.tables e below (T_.setTop (mkF m 3 #[.val (.ref b), .val (.int ch), .val (.int (Int32.ofNat j0)), .val (.int (Int32.ofNat cs.length)), .val (.int (Int32.ofNat j))] [])) t_ := fun t_ k_ => (fun _ k_ => k_) t_ (by
        show Steps p.tables e below (T_.setTop (mkF m 3 #[.val (.ref b), .val (.int ch), .val (.int (Int32.ofNat j0)), .val (.int (Int32.ofNat cs.length)), .val (.int (Int32.ofNat j))] [])) t_
        refine XS.iload X_.here hx rfl (Jvm.hb hby d_jdk_52_method_48_3) rfl ?_
        show Steps p.tables e below (T_.setTop (mkF m 5 #[.val (.ref b), .val (.int ch), .val (.int (Int32.ofNat j0)), .val (.int (Int32.ofNat cs.length)), .val (.int (Int32.ofNat j))] [(.int (Int32.ofNat j))])) _
        refine XS.iloadN X_.here hx rfl (Jvm.hb hby d_jdk_52_method_48_5) rfl ?_
        show Steps p.tables e below (T_.setTop (mkF m 6 #[.val (.ref b), .val (.int ch), .val (.int (Int32.ofNat j0)), .val (.int (Int32.ofNat cs.length)), .val (.int (Int32.ofNat j))] [(.int (Int32.ofNat cs.length)), (.int (Int32.ofNat j))])) _
        refine XS.icmpNo X_.here hx rfl (Jvm.hb hby d_jdk_52_method_48_6) rfl (tlt (own_lt (by omega) (by omega))).2.1 ?_
        show Steps p.tables e below (T_.setTop (mkF m 9 #[.val (.ref b), .val (.int ch), .val (.int (Int32.ofNat j0)), .val (.int (Int32.ofNat cs.length)), .val (.int (Int32.ofNat j))] [])) _
        refine XS.aloadN X_.here hx rfl (Jvm.hb hby d_jdk_52_method_48_9) rfl rfl ?_
        show Steps p.tables e below (T_.setTop (mkF m 10 #[.val (.ref b), .val (.int ch), .val (.int (Int32.ofNat j0)), .val (.int (Int32.ofNat cs.length)), .val (.int (Int32.ofNat j))] [(.ref b)])) _
        refine XS.iload X_.here hx rfl (Jvm.hb hby d_jdk_52_method_48_10) rfl ?_
        show Steps p.tables e below (T_.setTop (mkF m 12 #[.val (.ref b), .val (.int ch), .val (.int (Int32.ofNat j0)), .val (.int (Int32.ofNat cs.length)), .val (.int (Int32.ofNat j))] [(.int (Int32.ofNat j)), (.ref b)])) _
        refine st5 _ ?_
        show Steps p.tables e below (T5.setTop (mkF m 15 #[.val (.ref b), .val (.int ch), .val (.int (Int32.ofNat j0)), .val (.int (Int32.ofNat cs.length)), .val (.int (Int32.ofNat j))] [(.int (cs.getD j 0))])) _
        refine XS.iloadN X5.here hx rfl (Jvm.hb hby d_jdk_52_method_48_15) rfl ?_
        show Steps p.tables e below (T5.setTop (mkF m 16 #[.val (.ref b), .val (.int ch), .val (.int (Int32.ofNat j0)), .val (.int (Int32.ofNat cs.length)), .val (.int (Int32.ofNat j))] [(.int ch), (.int (cs.getD j 0))])) _
        show Steps p.tables e below (T5.setTop (mkF m 16 #[.val (.ref b), .val (.int ch), .val (.int (Int32.ofNat j0)), .val (.int (Int32.ofNat cs.length)), .val (.int (Int32.ofNat j))] [(.int ch), (.int (cs.getD j 0))])) t_
        exact k_)
      by_cases h7 : (cs.getD j 0) = ch
      · have s8 : ∀ t_, Steps p.tables e below (T5.setTop (mkF m 19 #[.val (.ref b), .val (.int ch), .val (.int (Int32.ofNat j0)), .val (.int (Int32.ofNat cs.length)), .val (.int (Int32.ofNat j))] [])) t_ → Steps p.tables e below (T_.setTop (mkF m 3 #[.val (.ref b), .val (.int ch), .val (.int (Int32.ofNat j0)), .val (.int (Int32.ofNat cs.length)), .val (.int (Int32.ofNat j))] [])) t_ := fun t_ k_ => s6 t_ (by
          show Steps p.tables e below (T5.setTop (mkF m 16 #[.val (.ref b), .val (.int ch), .val (.int (Int32.ofNat j0)), .val (.int (Int32.ofNat cs.length)), .val (.int (Int32.ofNat j))] [(.int ch), (.int (cs.getD j 0))])) t_
          refine XS.icmpNo X5.here hx rfl (Jvm.hb hby d_jdk_52_method_48_16) rfl (teq h7).2 ?_
          show Steps p.tables e below (T5.setTop (mkF m 19 #[.val (.ref b), .val (.int ch), .val (.int (Int32.ofNat j0)), .val (.int (Int32.ofNat cs.length)), .val (.int (Int32.ofNat j))] [])) _
          show Steps p.tables e below (T5.setTop (mkF m 19 #[.val (.ref b), .val (.int ch), .val (.int (Int32.ofNat j0)), .val (.int (Int32.ofNat cs.length)), .val (.int (Int32.ofNat j))] [])) t_
          exact k_)
        exact ⟨T5, _, _, X5, e5, N5, (Or.inr ⟨j, rfl, (by rw [← hr, own_ix, if_pos h7])⟩), s8⟩
      · have s9 : ∀ t_, Steps p.tables e below (T5.setTop (mkF m 3 #[.val (.ref b), .val (.int ch), .val (.int (Int32.ofNat j0)), .val (.int (Int32.ofNat cs.length)), .val (.int ((Int32.ofNat j) + (1 : Int32)))] [])) t_ → Steps p.tables e below (T_.setTop (mkF m 3 #[.val (.ref b), .val (.int ch), .val (.int (Int32.ofNat j0)), .val (.int (Int32.ofNat cs.length)), .val (.int (Int32.ofNat j))] [])) t_ := fun t_ k_ => s6 t_ (by
          show Steps p.tables e below (T5.setTop (mkF m 16 #[.val (.ref b), .val (.int ch), .val (.int (Int32.ofNat j0)), .val (.int (Int32.ofNat cs.length)), .val (.int (Int32.ofNat j))] [(.int ch), (.int (cs.getD j 0))])) t_
          refine XS.icmpYes X5.here hx rfl (pc0 := 16) (pc' := 22) rfl (Jvm.hb hby d_jdk_52_method_48_16) rfl (feq h7).2 (by decide) (by decide) ?_
          show Steps p.tables e below (T5.setTop (mkF m 22 #[.val (.ref b), .val (.int ch), .val (.int (Int32.ofNat j0)), .val (.int (Int32.ofNat cs.length)), .val (.int (Int32.ofNat j))] [])) _
          refine XS.iinc X5.here hx rfl (Jvm.hb hby d_jdk_52_method_48_22) rfl (l' := #[.val (.ref b), .val (.int ch), .val (.int (Int32.ofNat j0)), .val (.int (Int32.ofNat cs.length)), .val (.int ((Int32.ofNat j) + (1 : Int32)))]) rfl ?_
          show Steps p.tables e below (T5.setTop (mkF m 25 #[.val (.ref b), .val (.int ch), .val (.int (Int32.ofNat j0)), .val (.int (Int32.ofNat cs.length)), .val (.int ((Int32.ofNat j) + (1 : Int32)))] [])) _
          refine XS.goto X5.here hx rfl (pc0 := 25) (pc' := 3) rfl (Jvm.hb hby d_jdk_52_method_48_25) (by decide) (by decide) ?_
          show Steps p.tables e below (T5.setTop (mkF m 3 #[.val (.ref b), .val (.int ch), .val (.int (Int32.ofNat j0)), .val (.int (Int32.ofNat cs.length)), .val (.int ((Int32.ofNat j) + (1 : Int32)))] [])) _
          show Steps p.tables e below (T5.setTop (mkF m 3 #[.val (.ref b), .val (.int ch), .val (.int (Int32.ofNat j0)), .val (.int (Int32.ofNat cs.length)), .val (.int ((Int32.ofNat j) + (1 : Int32)))] [])) t_
          exact k_)
        obtain ⟨T10, lo10, fe10, X10, e10, N10, A10, st10⟩ := ih (j + 1) T5 _  (by omega) X5 e5 N5   (by rw [own_ix, if_neg h7] at hr; exact hr)
        exact ⟨T10, lo10, fe10, X10, e10, N10, A10, fun t_ k_ => s9 t_ (castTop (by rw [own_up]) (st10 t_ k_))⟩
  obtain ⟨T11, lo11, fe11, X11, e11, N11, A11, st11⟩ := lp2 (cs.length - j0) j0 s₁ _  (by omega) X0 e0 N0   rfl
  rcases A11 with ⟨rfl, J11_0⟩ | ⟨jj_11, rfl, J11_0⟩
  · have s12 : ∀ t_, Steps p.tables e below (T11.setTop (mkF m 28 #[.val (.ref b), .val (.int ch), .val (.int (Int32.ofNat j0)), .val (.int (Int32.ofNat cs.length)), .val (.int (Int32.ofNat cs.length))] [])) t_ → Steps p.tables e below (s₁.setTop (entryFrame m #[(.ref b), (.int ch), (.int (Int32.ofNat j0)), (.int (Int32.ofNat cs.length))] 5)) t_ := fun t_ k_ => s1 t_ (st11 t_ k_)
    have s13 : ∀ t_, Steps p.tables e below (T11.setTop (mkF m 29 #[.val (.ref b), .val (.int ch), .val (.int (Int32.ofNat j0)), .val (.int (Int32.ofNat cs.length)), .val (.int (Int32.ofNat cs.length))] [(.int (-1 : Int32))])) t_ → Steps p.tables e below (s₁.setTop (entryFrame m #[(.ref b), (.int ch), (.int (Int32.ofNat j0)), (.int (Int32.ofNat cs.length))] 5)) t_ := fun t_ k_ => s12 t_ (by
      show Steps p.tables e below (T11.setTop (mkF m 28 #[.val (.ref b), .val (.int ch), .val (.int (Int32.ofNat j0)), .val (.int (Int32.ofNat cs.length)), .val (.int (Int32.ofNat cs.length))] [])) t_
      refine XS.iconst X11.here hx rfl (Jvm.hb hby d_jdk_52_method_48_28) ?_
      show Steps p.tables e below (T11.setTop (mkF m 29 #[.val (.ref b), .val (.int ch), .val (.int (Int32.ofNat j0)), .val (.int (Int32.ofNat cs.length)), .val (.int (Int32.ofNat cs.length))] [(.int (-1 : Int32))])) _
      show Steps p.tables e below (T11.setTop (mkF m 29 #[.val (.ref b), .val (.int ch), .val (.int (Int32.ofNat j0)), .val (.int (Int32.ofNat cs.length)), .val (.int (Int32.ofNat cs.length))] [(.int (-1 : Int32))])) t_
      exact k_)
    obtain ⟨fs, hr, hrun, hended, hW, hsame⟩ := X11.leave (v := some (.int (-1 : Int32))) (fun h => by rw [Bd.returns] at h; cases h)
    refine ⟨_, _, s13 _ ?_, hrun, hended, _, _, rfl, ?_, ⟨_, rfl⟩, hW, hsame.mono (by decide) (by decide)⟩
    · show Steps p.tables e below (T11.setTop (mkF m 29 #[.val (.ref b), .val (.int ch), .val (.int (Int32.ofNat j0)), .val (.int (Int32.ofNat cs.length)), .val (.int (Int32.ofNat cs.length))] [(.int (-1 : Int32))])) _
      exact retI X11 hx Bd.returns (Jvm.hb hby d_jdk_52_method_48_29) hr
    · show Q_rmIxU Z _ _ _ _ _ h0 n0 _ T11.heap _
      rw [e11]
      exact ⟨(by rw [J11_0]; rfl), N11, rfl⟩
  · have s14 : ∀ t_, Steps p.tables e below (T11.setTop (mkF m 19 #[.val (.ref b), .val (.int ch), .val (.int (Int32.ofNat j0)), .val (.int (Int32.ofNat cs.length)), .val (.int (Int32.ofNat jj_11))] [])) t_ → Steps p.tables e below (s₁.setTop (entryFrame m #[(.ref b), (.int ch), (.int (Int32.ofNat j0)), (.int (Int32.ofNat cs.length))] 5)) t_ := fun t_ k_ => s1 t_ (st11 t_ k_)
    have s15 : ∀ t_, Steps p.tables e below (T11.setTop (mkF m 21 #[.val (.ref b), .val (.int ch), .val (.int (Int32.ofNat j0)), .val (.int (Int32.ofNat cs.length)), .val (.int (Int32.ofNat jj_11))] [(.int (Int32.ofNat jj_11))])) t_ → Steps p.tables e below (s₁.setTop (entryFrame m #[(.ref b), (.int ch), (.int (Int32.ofNat j0)), (.int (Int32.ofNat cs.length))] 5)) t_ := fun t_ k_ => s14 t_ (by
      show Steps p.tables e below (T11.setTop (mkF m 19 #[.val (.ref b), .val (.int ch), .val (.int (Int32.ofNat j0)), .val (.int (Int32.ofNat cs.length)), .val (.int (Int32.ofNat jj_11))] [])) t_
      refine XS.iload X11.here hx rfl (Jvm.hb hby d_jdk_52_method_48_19) rfl ?_
      show Steps p.tables e below (T11.setTop (mkF m 21 #[.val (.ref b), .val (.int ch), .val (.int (Int32.ofNat j0)), .val (.int (Int32.ofNat cs.length)), .val (.int (Int32.ofNat jj_11))] [(.int (Int32.ofNat jj_11))])) _
      show Steps p.tables e below (T11.setTop (mkF m 21 #[.val (.ref b), .val (.int ch), .val (.int (Int32.ofNat j0)), .val (.int (Int32.ofNat cs.length)), .val (.int (Int32.ofNat jj_11))] [(.int (Int32.ofNat jj_11))])) t_
      exact k_)
    obtain ⟨fs, hr, hrun, hended, hW, hsame⟩ := X11.leave (v := some (.int (Int32.ofNat jj_11))) (fun h => by rw [Bd.returns] at h; cases h)
    refine ⟨_, _, s15 _ ?_, hrun, hended, _, _, rfl, ?_, ⟨_, rfl⟩, hW, hsame.mono (by decide) (by decide)⟩
    · show Steps p.tables e below (T11.setTop (mkF m 21 #[.val (.ref b), .val (.int ch), .val (.int (Int32.ofNat j0)), .val (.int (Int32.ofNat cs.length)), .val (.int (Int32.ofNat jj_11))] [(.int (Int32.ofNat jj_11))])) _
      exact retI X11 hx Bd.returns (Jvm.hb hby d_jdk_52_method_48_21) hr
    · show Q_rmIxU Z _ _ _ _ _ h0 n0 _ T11.heap _
      rw [e11]
      exact ⟨(by rw [J11_0, ← own_found]), N11, rfl⟩
theorem d_jdk_52_method_47_0 : decode jdk_52_method_47_code 0 = .ok (.iload_n 2, 1) := by decide +kernel
theorem d_jdk_52_method_47_1 : decode jdk_52_method_47_code 1 = .ok (.iload_n 3, 1) := by decide +kernel
theorem d_jdk_52_method_47_2 : decode jdk_52_method_47_code 2 = .ok (.aload_n 0, 1) := by decide +kernel
theorem pd__II_B_V : parseMethodDescriptor "(II[B)V" = some ⟨[.int, .int, (.array .byte)], none⟩ := by decide +kernel
theorem d_jdk_52_method_47_3 : decode jdk_52_method_47_code 3 = .ok (.invokestatic 96, 3) := by decide +kernel
theorem d_jdk_52_method_47_6 : decode jdk_52_method_47_code 6 = .ok (.aload_n 0, 1) := by decide +kernel
theorem d_jdk_52_method_47_7 : decode jdk_52_method_47_code 7 = .ok (.iload_n 1, 1) := by decide +kernel
theorem d_jdk_52_method_47_8 : decode jdk_52_method_47_code 8 = .ok (.iload_n 2, 1) := by decide +kernel
theorem d_jdk_52_method_47_9 : decode jdk_52_method_47_code 9 = .ok (.iload_n 3, 1) := by decide +kernel
theorem d_jdk_52_method_47_10 : decode jdk_52_method_47_code 10 = .ok (.invokestatic 244, 3) := by decide +kernel
theorem d_jdk_52_method_47_13 : decode jdk_52_method_47_code 13 = .ok (.ireturn, 1) := by decide +kernel
theorem ef_rmIxUC (m : MethodId) (x0 : Addr) (x1 : Int32) (x2 : Int32) (x3 : Int32) : entryFrame m #[(.ref x0), (.int x1), (.int x2), (.int x3)] 4 = mkF m 0 #[.val (.ref x0), .val (.int x1), .val (.int x2), .val (.int x3)] [] := by first | (simp [entryFrame, mkF, argsToLocals, Value.category]; done) | rfl
def Q_rmIxUC (Z : State) (b : Addr) (ch : Int32) (kb : ClassId) (cs : List Int32) (j0 : Nat) (fmt : Value) (h0 : Heap) (n0 : Nat) (v : Option Value) (h : Heap) (L : List Loc) : Prop := (v = some (.int ((Int32.ofNat (own_ix cs ch j0 (cs.length - j0))) - (1 : Int32)))) ∧ (Fr n0 L) ∧ (h = h0)
set_option maxRecDepth 65536 in
set_option maxHeartbeats 40000000 in
theorem rmIxUC (l : Launch) (Z : State) (a0 : Array Value) (hw : ∀ d ∈ tables_1, d.before a0 Z = true) (ws : List Jvm.Cond) (b : Addr) (ch : Int32) (kb : ClassId) (cs : List Int32) (j0 : Nat) (fmt : Value) (h0 : Heap) (n0 : Nat) (Z0 : n0 ≤ h0.size) (I1 : Sta Z Z.heap "java/lang/StringUTF16" "$assertionsDisabled" "Z" (.int (1 : Int32))) (I2 : Sta Z Z.heap "java/lang/StringUTF16" "HI_BYTE_SHIFT" "I" (.int (0 : Int32))) (I3 : Sta Z Z.heap "java/lang/StringUTF16" "LO_BYTE_SHIFT" "I" (.int (8 : Int32))) (hfmt : fmt.isRef = true) (I4 : Sta Z Z.heap "jdk/internal/util/Preconditions" "SIOOBE_FORMATTER" "Ljava/util/function/BiFunction;" fmt) (OX : Old Z n0 h0) (I5 : Arv Z h0 b kb .byte (Int32.ofNat (2 * cs.length)) (own_wide cs) (.int (0 : Int32))) (hb : cs.length ≤ 4) (hj0 : j0 ≤ cs.length) (hchs : own_chs cs) :
    MetFree l (⟨"java/lang/StringUTF16", "indexOfChar", "([BIII)I"⟩ : MethodName) (head1 (Jvm.Cond.code (⟨"java/lang/StringUTF16", "indexOfChar", "([BIII)I"⟩ : MethodName) jdk_52_method_47_code 4 (some .int) :: ws) ({ frames := 3, cells := 0, slots := 0, locals := 43 } : Room)) (fun ar_ U => ar_ = #[(.ref b), (.int ch), (.int (Int32.ofNat j0)), (.int (Int32.ofNat cs.length))] ∧ Z.Warmed39 U.vm ∧ U.heap = h0) (fun _ _ _ _ _ => True) (fun _ U o U' => ∃ v L, o = .returned v ∧ Q_rmIxUC Z b ch kb cs j0 fmt h0 n0 v U'.heap L ∧ FrameEnd U o U' L ({ frames := 3, cells := 0, slots := 0, locals := 43 } : Room).cells ({ frames := 3, cells := 0, slots := 0, locals := 43 } : Room).slots) := by
  refine MetFree.of_bodySF (plainFor_of_name pn_java_lang_StringUTF16) hisR ?_
  intro p e s m args below meth c s₁ Bd hml0 hP hK
  obtain ⟨rfl, hZ, hh⟩ := hP
  have hx := Bd.exec
  have hby := Bd.bytes
  have hml : c.maxLocals = 4 := hml0
  have hown : s.vm.findClass "java/lang/StringUTF16" = some m.cls := findClass_of_methodNamed Bd.named
  have hnm := (name_of_methodNamed Bd.named Bd.method).1
  have X0 : Stand p l e ({ frames := 3, cells := 0, slots := 0, locals := 43 } : Room) s m #[(.ref b), (.int ch), (.int (Int32.ofNat j0)), (.int (Int32.ofNat cs.length))] below meth c s₁ [] 0 0 := Stand.of_body Bd
  have e0 : s₁.heap = h0 := by rw [← hh, Bd.state]; rfl
  have N0 := Fr.nil n0
  have pre0 : ∀ t_, Steps p.tables e below (s₁.setTop (mkF m 0 #[.val (.ref b), .val (.int ch), .val (.int (Int32.ofNat j0)), .val (.int (Int32.ofNat cs.length))] [])) t_ → Steps p.tables e below (s₁.setTop (entryFrame m #[(.ref b), (.int ch), (.int (Int32.ofNat j0)), (.int (Int32.ofNat cs.length))] 4)) t_ := fun t_ k_ => castTop (ef_rmIxUC m b ch (Int32.ofNat j0) (Int32.ofNat cs.length)) k_
  have lt_I5 : @LT.lt Nat _ b h0.size := I5.lt
  have Zc1 : n0 ≤ h0.size := by omega
  obtain ⟨_, _, ⟨T2, L2, k2, n2⟩, -, X2, ⟨Lc2, hQ2, l2, y2, z2⟩, st2⟩ := Jvm.LawKit.callS X0 hx (y := (⟨"java/lang/StringUTF16", "checkBoundsBeginEnd", "(II[B)V"⟩ : MethodName)) hown (mvT hZ (hw _ (List.mem_of_getElem? (i := 103) rfl))) (mvT hZ (hw _ (List.mem_of_getElem? (i := 104) rfl))) (mvT hZ (hw _ (List.mem_of_getElem? (i := 18) rfl))) (mvT hZ (hw _ (List.mem_of_getElem? (i := 105) rfl))) (by decide) (backOf (W := 0) (rmCBU l Z a0 hw [] b j0 cs.length fmt kb cs h0 n0 Zc1 (hfmt : fmt.isRef = true) I4 OX I5 (hb : cs.length ≤ 4) (hj0 : j0 ≤ cs.length) (by first | assumption | rfl | decide | omega : cs.length ≤ cs.length)) hZ (hw _ (List.mem_of_getElem? (i := 105) rfl)) (hw _ (List.mem_of_getElem? (i := 18) rfl)) (by decide) (by decide)) (g := (mkF m 3 #[.val (.ref b), .val (.int ch), .val (.int (Int32.ofNat j0)), .val (.int (Int32.ofNat cs.length))] [(.ref b), (.int (Int32.ofNat cs.length)), (.int (Int32.ofNat j0))])) rfl (by rw [hml]; rfl) (argsL := [(.int (Int32.ofNat j0)), (.int (Int32.ofNat cs.length)), (.ref b)]) (rest := []) (lenOf pd__II_B_V rfl) rfl (by show 2 * 0 + _ ≤ _; exact Nat.le_of_eq rfl) (Jvm.hb hby d_jdk_52_method_47_3) (fun _ _ => ⟨rfl, e0, (by decide : 0 + 0 ≤ _), (by decide : 0 + 0 ≤ _)⟩)
  dsimp only [Pt.U, Pt.locs, Pt.cells, Pt.slots] at X2 l2 y2 z2 st2 hQ2
  subst l2 y2 z2
  obtain ⟨rfl, N2q, e2⟩ := hQ2
  have N2 := Fr.app N0 N2q
  have Zc3 : n0 ≤ h0.size := by omega
  obtain ⟨_, _, ⟨T4, L4, k4, n4⟩, -, X4, ⟨Lc4, hQ4, l4, y4, z4⟩, st4⟩ := Jvm.LawKit.callS X2 hx (y := (⟨"java/lang/StringUTF16", "indexOfCharUnsafe", "([BIII)I"⟩ : MethodName)) hown (mvT hZ (hw _ (List.mem_of_getElem? (i := 117) rfl))) (mvT hZ (hw _ (List.mem_of_getElem? (i := 118) rfl))) (mvT hZ (hw _ (List.mem_of_getElem? (i := 18) rfl))) (mvT hZ (hw _ (List.mem_of_getElem? (i := 119) rfl))) (by decide) (backOf (W := 0) (rmIxU l Z a0 hw [] b ch kb cs j0 h0 n0 Zc3 I1 I2 I3 OX I5 (hb : cs.length ≤ 4) (hj0 : j0 ≤ cs.length) (hchs : own_chs cs)) hZ (hw _ (List.mem_of_getElem? (i := 119) rfl)) (hw _ (List.mem_of_getElem? (i := 18) rfl)) (by decide) (by decide)) (g := (mkF m 10 #[.val (.ref b), .val (.int ch), .val (.int (Int32.ofNat j0)), .val (.int (Int32.ofNat cs.length))] [(.int (Int32.ofNat cs.length)), (.int (Int32.ofNat j0)), (.int ch), (.ref b)])) rfl (by rw [hml]; rfl) (argsL := [(.ref b), (.int ch), (.int (Int32.ofNat j0)), (.int (Int32.ofNat cs.length))]) (rest := []) (lenOf pd___BIII_I rfl) rfl (by show 2 * 0 + _ ≤ _; exact Nat.le_of_eq rfl) (Jvm.hb hby d_jdk_52_method_47_10) (fun _ _ => ⟨rfl, e2, (by decide : 0 + 0 ≤ _), (by decide : 0 + 0 ≤ _)⟩)
  dsimp only [Pt.U, Pt.locs, Pt.cells, Pt.slots] at X4 l4 y4 z4 st4 hQ4
  subst l4 y4 z4
  obtain ⟨rfl, N4q, e4⟩ := hQ4
  have N4 := Fr.app N2 N4q
  have s5 : ∀ t_, Steps p.tables e below (T4.setTop (mkF m 13 #[.val (.ref b), .val (.int ch), .val (.int (Int32.ofNat j0)), .val (.int (Int32.ofNat cs.length))] [(.int ((Int32.ofNat (own_ix cs ch j0 (cs.length - j0))) - (1 : Int32)))])) t_ → Steps p.tables e below (s₁.setTop (entryFrame m #[(.ref b), (.int ch), (.int (Int32.ofNat j0)), (.int (Int32.ofNat cs.length))] 4)) t_ := fun t_ k_ => pre0 t_ (by
    show Steps p.tables e below (s₁.setTop (mkF m 0 #[.val (.ref b), .val (.int ch), .val (.int (Int32.ofNat j0)), .val (.int (Int32.ofNat cs.length))] [])) t_
    refine XS.iloadN X0.here hx rfl (Jvm.hb hby d_jdk_52_method_47_0) rfl ?_
    show Steps p.tables e below (s₁.setTop (mkF m 1 #[.val (.ref b), .val (.int ch), .val (.int (Int32.ofNat j0)), .val (.int (Int32.ofNat cs.length))] [(.int (Int32.ofNat j0))])) _
    refine XS.iloadN X0.here hx rfl (Jvm.hb hby d_jdk_52_method_47_1) rfl ?_
    show Steps p.tables e below (s₁.setTop (mkF m 2 #[.val (.ref b), .val (.int ch), .val (.int (Int32.ofNat j0)), .val (.int (Int32.ofNat cs.length))] [(.int (Int32.ofNat cs.length)), (.int (Int32.ofNat j0))])) _
    refine XS.aloadN X0.here hx rfl (Jvm.hb hby d_jdk_52_method_47_2) rfl rfl ?_
    show Steps p.tables e below (s₁.setTop (mkF m 3 #[.val (.ref b), .val (.int ch), .val (.int (Int32.ofNat j0)), .val (.int (Int32.ofNat cs.length))] [(.ref b), (.int (Int32.ofNat cs.length)), (.int (Int32.ofNat j0))])) _
    refine st2 _ ?_
    show Steps p.tables e below (T2.setTop (mkF m 6 #[.val (.ref b), .val (.int ch), .val (.int (Int32.ofNat j0)), .val (.int (Int32.ofNat cs.length))] [])) _
    refine XS.aloadN X2.here hx rfl (Jvm.hb hby d_jdk_52_method_47_6) rfl rfl ?_
    show Steps p.tables e below (T2.setTop (mkF m 7 #[.val (.ref b), .val (.int ch), .val (.int (Int32.ofNat j0)), .val (.int (Int32.ofNat cs.length))] [(.ref b)])) _
    refine XS.iloadN X2.here hx rfl (Jvm.hb hby d_jdk_52_method_47_7) rfl ?_
    show Steps p.tables e below (T2.setTop (mkF m 8 #[.val (.ref b), .val (.int ch), .val (.int (Int32.ofNat j0)), .val (.int (Int32.ofNat cs.length))] [(.int ch), (.ref b)])) _
    refine XS.iloadN X2.here hx rfl (Jvm.hb hby d_jdk_52_method_47_8) rfl ?_
    show Steps p.tables e below (T2.setTop (mkF m 9 #[.val (.ref b), .val (.int ch), .val (.int (Int32.ofNat j0)), .val (.int (Int32.ofNat cs.length))] [(.int (Int32.ofNat j0)), (.int ch), (.ref b)])) _
    refine XS.iloadN X2.here hx rfl (Jvm.hb hby d_jdk_52_method_47_9) rfl ?_
    show Steps p.tables e below (T2.setTop (mkF m 10 #[.val (.ref b), .val (.int ch), .val (.int (Int32.ofNat j0)), .val (.int (Int32.ofNat cs.length))] [(.int (Int32.ofNat cs.length)), (.int (Int32.ofNat j0)), (.int ch), (.ref b)])) _
    refine st4 _ ?_
    show Steps p.tables e below (T4.setTop (mkF m 13 #[.val (.ref b), .val (.int ch), .val (.int (Int32.ofNat j0)), .val (.int (Int32.ofNat cs.length))] [(.int ((Int32.ofNat (own_ix cs ch j0 (cs.length - j0))) - (1 : Int32)))])) _
    show Steps p.tables e below (T4.setTop (mkF m 13 #[.val (.ref b), .val (.int ch), .val (.int (Int32.ofNat j0)), .val (.int (Int32.ofNat cs.length))] [(.int ((Int32.ofNat (own_ix cs ch j0 (cs.length - j0))) - (1 : Int32)))])) t_
    exact k_)
  obtain ⟨fs, hr, hrun, hended, hW, hsame⟩ := X4.leave (v := some (.int ((Int32.ofNat (own_ix cs ch j0 (cs.length - j0))) - (1 : Int32)))) (fun h => by rw [Bd.returns] at h; cases h)
  refine ⟨_, _, s5 _ ?_, hrun, hended, _, _, rfl, ?_, ⟨_, rfl⟩, hW, hsame.mono (by decide) (by decide)⟩
  · show Steps p.tables e below (T4.setTop (mkF m 13 #[.val (.ref b), .val (.int ch), .val (.int (Int32.ofNat j0)), .val (.int (Int32.ofNat cs.length))] [(.int ((Int32.ofNat (own_ix cs ch j0 (cs.length - j0))) - (1 : Int32)))])) _
    exact retI X4 hx Bd.returns (Jvm.hb hby d_jdk_52_method_47_13) hr
  · show Q_rmIxUC Z _ _ _ _ _ _ h0 n0 _ T4.heap _
    rw [e4]
    exact ⟨rfl, N4, rfl⟩
theorem d_jdk_52_method_40_0 : decode jdk_52_method_40_code 0 = .ok (.iload_n 2, 1) := by decide +kernel
theorem d_jdk_52_method_40_1 : decode jdk_52_method_40_code 1 = .ok (.iconst 0, 1) := by decide +kernel
theorem d_jdk_52_method_40_2 : decode jdk_52_method_40_code 2 = .ok (.invokestatic 224, 3) := by decide +kernel
theorem d_jdk_52_method_40_5 : decode jdk_52_method_40_code 5 = .ok (.istore_n 2, 1) := by decide +kernel
theorem d_jdk_52_method_40_6 : decode jdk_52_method_40_code 6 = .ok (.iload_n 3, 1) := by decide +kernel
theorem d_jdk_52_method_40_7 : decode jdk_52_method_40_code 7 = .ok (.aload_n 0, 1) := by decide +kernel
theorem d_jdk_52_method_40_8 : decode jdk_52_method_40_code 8 = .ok (.arraylength, 1) := by decide +kernel
theorem d_jdk_52_method_40_9 : decode jdk_52_method_40_code 9 = .ok (.iconst 1, 1) := by decide +kernel
theorem d_jdk_52_method_40_10 : decode jdk_52_method_40_code 10 = .ok (.ishr, 1) := by decide +kernel
theorem d_jdk_52_method_40_11 : decode jdk_52_method_40_code 11 = .ok (.invokestatic 183, 3) := by decide +kernel
theorem d_jdk_52_method_40_14 : decode jdk_52_method_40_code 14 = .ok (.istore_n 3, 1) := by decide +kernel
theorem d_jdk_52_method_40_15 : decode jdk_52_method_40_code 15 = .ok (.iload_n 2, 1) := by decide +kernel
theorem d_jdk_52_method_40_16 : decode jdk_52_method_40_code 16 = .ok (.iload_n 3, 1) := by decide +kernel
theorem d_jdk_52_method_40_17 : decode jdk_52_method_40_code 17 = .ok (.if_icmp .lt 5, 3) := by decide +kernel
theorem d_jdk_52_method_40_22 : decode jdk_52_method_40_code 22 = .ok (.iload_n 1, 1) := by decide +kernel
theorem d_jdk_52_method_40_23 : decode jdk_52_method_40_code 23 = .ok (.ldc 227, 2) := by decide +kernel
theorem d_jdk_52_method_40_25 : decode jdk_52_method_40_code 25 = .ok (.if_icmp .ge 11, 3) := by decide +kernel
theorem d_jdk_52_method_40_28 : decode jdk_52_method_40_code 28 = .ok (.aload_n 0, 1) := by decide +kernel
theorem d_jdk_52_method_40_29 : decode jdk_52_method_40_code 29 = .ok (.iload_n 1, 1) := by decide +kernel
theorem d_jdk_52_method_40_30 : decode jdk_52_method_40_code 30 = .ok (.iload_n 2, 1) := by decide +kernel
theorem d_jdk_52_method_40_31 : decode jdk_52_method_40_code 31 = .ok (.iload_n 3, 1) := by decide +kernel
theorem d_jdk_52_method_40_32 : decode jdk_52_method_40_code 32 = .ok (.invokestatic 228, 3) := by decide +kernel
theorem d_jdk_52_method_40_35 : decode jdk_52_method_40_code 35 = .ok (.ireturn, 1) := by decide +kernel
theorem d_jdk_52_method_40_20 : decode jdk_52_method_40_code 20 = .ok (.iconst (-1), 1) := by decide +kernel
theorem d_jdk_52_method_40_21 : decode jdk_52_method_40_code 21 = .ok (.ireturn, 1) := by decide +kernel
theorem ef_rmIxW (m : MethodId) (x0 : Addr) (x1 : Int32) (x2 : Int32) (x3 : Int32) : entryFrame m #[(.ref x0), (.int x1), (.int x2), (.int x3)] 4 = mkF m 0 #[.val (.ref x0), .val (.int x1), .val (.int x2), .val (.int x3)] [] := by first | (simp [entryFrame, mkF, argsToLocals, Value.category]; done) | rfl
def Q_rmIxW (Z : State) (b : Addr) (ch : Int32) (kb : ClassId) (cs : List Int32) (j0 : Nat) (fmt : Value) (h0 : Heap) (n0 : Nat) (v : Option Value) (h : Heap) (L : List Loc) : Prop := (v = some (.int ((Int32.ofNat (own_ix cs ch j0 (cs.length - j0))) - (1 : Int32)))) ∧ (Fr n0 L) ∧ (h = h0)
set_option maxRecDepth 65536 in
set_option maxHeartbeats 40000000 in
theorem rmIxW (l : Launch) (Z : State) (a0 : Array Value) (hw : ∀ d ∈ tables_1, d.before a0 Z = true) (ws : List Jvm.Cond) (b : Addr) (ch : Int32) (kb : ClassId) (cs : List Int32) (j0 : Nat) (fmt : Value) (h0 : Heap) (n0 : Nat) (Z0 : n0 ≤ h0.size) (I1 : Sta Z Z.heap "java/lang/StringUTF16" "$assertionsDisabled" "Z" (.int (1 : Int32))) (I2 : Sta Z Z.heap "java/lang/StringUTF16" "HI_BYTE_SHIFT" "I" (.int (0 : Int32))) (I3 : Sta Z Z.heap "java/lang/StringUTF16" "LO_BYTE_SHIFT" "I" (.int (8 : Int32))) (hfmt : fmt.isRef = true) (I4 : Sta Z Z.heap "jdk/internal/util/Preconditions" "SIOOBE_FORMATTER" "Ljava/util/function/BiFunction;" fmt) (OX : Old Z n0 h0) (I5 : Arv Z h0 b kb .byte (Int32.ofNat (2 * cs.length)) (own_wide cs) (.int (0 : Int32))) (hb : cs.length ≤ 4) (hj0 : j0 ≤ cs.length) (hchs : own_chs cs) (hc0 : ¬ (ch < (0 : Int32))) (hc1 : ¬ ((65535 : Int32) < ch)) :
    MetFree l (⟨"java/lang/StringUTF16", "indexOf", "([BIII)I"⟩ : MethodName) (head1 (Jvm.Cond.code (⟨"java/lang/StringUTF16", "indexOf", "([BIII)I"⟩ : MethodName) jdk_52_method_40_code 4 (some .int) :: ws) ({ frames := 4, cells := 0, slots := 0, locals := 58 } : Room)) (fun ar_ U => ar_ = #[(.ref b), (.int ch), (.int (Int32.ofNat j0)), (.int (Int32.ofNat cs.length))] ∧ Z.Warmed39 U.vm ∧ U.heap = h0) (fun _ _ _ _ _ => True) (fun _ U o U' => ∃ v L, o = .returned v ∧ Q_rmIxW Z b ch kb cs j0 fmt h0 n0 v U'.heap L ∧ FrameEnd U o U' L ({ frames := 4, cells := 0, slots := 0, locals := 58 } : Room).cells ({ frames := 4, cells := 0, slots := 0, locals := 58 } : Room).slots) := by
  refine MetFree.of_bodySF (plainFor_of_name pn_java_lang_StringUTF16) hisR ?_
  intro p e s m args below meth c s₁ Bd hml0 hP hK
  obtain ⟨rfl, hZ, hh⟩ := hP
  have hx := Bd.exec
  have hby := Bd.bytes
  have hml : c.maxLocals = 4 := hml0
  have hown : s.vm.findClass "java/lang/StringUTF16" = some m.cls := findClass_of_methodNamed Bd.named
  have hnm := (name_of_methodNamed Bd.named Bd.method).1
  have X0 : Stand p l e ({ frames := 4, cells := 0, slots := 0, locals := 58 } : Room) s m #[(.ref b), (.int ch), (.int (Int32.ofNat j0)), (.int (Int32.ofNat cs.length))] below meth c s₁ [] 0 0 := Stand.of_body Bd
  have e0 : s₁.heap = h0 := by rw [← hh, Bd.state]; rfl
  have N0 := Fr.nil n0
  have pre0 : ∀ t_, Steps p.tables e below (s₁.setTop (mkF m 0 #[.val (.ref b), .val (.int ch), .val (.int (Int32.ofNat j0)), .val (.int (Int32.ofNat cs.length))] [])) t_ → Steps p.tables e below (s₁.setTop (entryFrame m #[(.ref b), (.int ch), (.int (Int32.ofNat j0)), (.int (Int32.ofNat cs.length))] 4)) t_ := fun t_ k_ => castTop (ef_rmIxW m b ch (Int32.ofNat j0) (Int32.ofNat cs.length)) k_
  have lt_I5 : @LT.lt Nat _ b h0.size := I5.lt
  have Zc1 : n0 ≤ h0.size := by omega
  obtain ⟨_, _, ⟨T2, L2, k2, n2⟩, -, X2, ⟨Lc2, hQ2, l2, y2, z2⟩, st2⟩ := Jvm.LawKit.callS X0 hx (y := (⟨"java/lang/Math", "max", "(II)I"⟩ : MethodName)) hown (mvT hZ (hw _ (List.mem_of_getElem? (i := 97) rfl))) (mvT hZ (hw _ (List.mem_of_getElem? (i := 37) rfl))) (mvT hZ (hw _ (List.mem_of_getElem? (i := 34) rfl))) (mvT hZ (hw _ (List.mem_of_getElem? (i := 38) rfl))) (by decide) (backOf (W := 0) (rmMax l Z a0 hw [] j0 0 h0 n0 Zc1 (by first | assumption | rfl | decide | omega : j0 ≤ 8000) (by first | assumption | rfl | decide | omega : 0 ≤ 8000)) hZ (hw _ (List.mem_of_getElem? (i := 38) rfl)) (hw _ (List.mem_of_getElem? (i := 34) rfl)) (by decide) (by decide)) (g := (mkF m 2 #[.val (.ref b), .val (.int ch), .val (.int (Int32.ofNat j0)), .val (.int (Int32.ofNat cs.length))] [(.int (0 : Int32)), (.int (Int32.ofNat j0))])) rfl (by rw [hml]; rfl) (argsL := [(.int (Int32.ofNat j0)), (.int (0 : Int32))]) (rest := []) (lenOf pd__II_I rfl) rfl (by show 2 * 0 + _ ≤ _; exact Nat.le_of_eq rfl) (Jvm.hb hby d_jdk_52_method_40_2) (fun _ _ => ⟨rfl, e0, (by decide : 0 + 0 ≤ _), (by decide : 0 + 0 ≤ _)⟩)
  dsimp only [Pt.U, Pt.locs, Pt.cells, Pt.slots] at X2 l2 y2 z2 st2 hQ2
  subst l2 y2 z2
  obtain ⟨rfl, N2q, e2⟩ := hQ2
  have N2 := Fr.app N0 N2q
  obtain ⟨cl3, Ar3, -, S3, M3, -, -⟩ := id I5
  have Zc4 : n0 ≤ h0.size := by omega
  obtain ⟨_, _, ⟨T5, L5, k5, n5⟩, -, X5, ⟨Lc5, hQ5, l5, y5, z5⟩, st5⟩ := Jvm.LawKit.callS X2 hx (y := (⟨"java/lang/Math", "min", "(II)I"⟩ : MethodName)) hown (mvT hZ (hw _ (List.mem_of_getElem? (i := 98) rfl))) (mvT hZ (hw _ (List.mem_of_getElem? (i := 33) rfl))) (mvT hZ (hw _ (List.mem_of_getElem? (i := 34) rfl))) (mvT hZ (hw _ (List.mem_of_getElem? (i := 35) rfl))) (by decide) (backOf (W := 0) (rmMin l Z a0 hw [] cs.length cs.length h0 n0 Zc4 (by first | assumption | rfl | decide | omega : cs.length ≤ 8000) (by first | assumption | rfl | decide | omega : cs.length ≤ 8000)) hZ (hw _ (List.mem_of_getElem? (i := 35) rfl)) (hw _ (List.mem_of_getElem? (i := 34) rfl)) (by decide) (by decide)) (g := (mkF m 11 #[.val (.ref b), .val (.int ch), .val (.int (Int32.ofNat j0)), .val (.int (Int32.ofNat cs.length))] [(.int (Int32.ofNat cs.length)), (.int (Int32.ofNat cs.length))])) rfl (by rw [hml]; rfl) (argsL := [(.int (Int32.ofNat cs.length)), (.int (Int32.ofNat cs.length))]) (rest := []) (lenOf pd__II_I rfl) rfl (by show 2 * 0 + _ ≤ _; exact Nat.le_of_eq rfl) (Jvm.hb hby d_jdk_52_method_40_11) (fun _ _ => ⟨rfl, e2, (by decide : 0 + 0 ≤ _), (by decide : 0 + 0 ≤ _)⟩)
  dsimp only [Pt.U, Pt.locs, Pt.cells, Pt.slots] at X5 l5 y5 z5 st5 hQ5
  subst l5 y5 z5
  obtain ⟨rfl, N5q, e5⟩ := hQ5
  have N5 := Fr.app N2 N5q
  have s6 : ∀ t_, Steps p.tables e below (T5.setTop (mkF m 17 #[.val (.ref b), .val (.int ch), .val (.int (Int32.ofNat j0)), .val (.int (Int32.ofNat cs.length))] [(.int (Int32.ofNat cs.length)), (.int (Int32.ofNat j0))])) t_ → Steps p.tables e below (s₁.setTop (entryFrame m #[(.ref b), (.int ch), (.int (Int32.ofNat j0)), (.int (Int32.ofNat cs.length))] 4)) t_ := fun t_ k_ => pre0 t_ (by
    show Steps p.tables e below (s₁.setTop (mkF m 0 #[.val (.ref b), .val (.int ch), .val (.int (Int32.ofNat j0)), .val (.int (Int32.ofNat cs.length))] [])) t_
    refine XS.iloadN X0.here hx rfl (Jvm.hb hby d_jdk_52_method_40_0) rfl ?_
    show Steps p.tables e below (s₁.setTop (mkF m 1 #[.val (.ref b), .val (.int ch), .val (.int (Int32.ofNat j0)), .val (.int (Int32.ofNat cs.length))] [(.int (Int32.ofNat j0))])) _
    refine XS.iconst X0.here hx rfl (Jvm.hb hby d_jdk_52_method_40_1) ?_
    show Steps p.tables e below (s₁.setTop (mkF m 2 #[.val (.ref b), .val (.int ch), .val (.int (Int32.ofNat j0)), .val (.int (Int32.ofNat cs.length))] [(.int (0 : Int32)), (.int (Int32.ofNat j0))])) _
    refine st2 _ ?_
    show Steps p.tables e below (T2.setTop (mkF m 5 #[.val (.ref b), .val (.int ch), .val (.int (Int32.ofNat j0)), .val (.int (Int32.ofNat cs.length))] [(.int (Int32.ofNat (max j0 0)))])) _
    refine castTop (g' := (mkF m 5 #[.val (.ref b), .val (.int ch), .val (.int (Int32.ofNat j0)), .val (.int (Int32.ofNat cs.length))] [(.int (Int32.ofNat j0))])) (by rw [Nat.max_zero]) ?_
    show Steps p.tables e below (T2.setTop (mkF m 5 #[.val (.ref b), .val (.int ch), .val (.int (Int32.ofNat j0)), .val (.int (Int32.ofNat cs.length))] [(.int (Int32.ofNat j0))])) _
    refine XS.istoreN X2.here hx rfl (Jvm.hb hby d_jdk_52_method_40_5) rfl (l' := #[.val (.ref b), .val (.int ch), .val (.int (Int32.ofNat j0)), .val (.int (Int32.ofNat cs.length))]) rfl ?_
    show Steps p.tables e below (T2.setTop (mkF m 6 #[.val (.ref b), .val (.int ch), .val (.int (Int32.ofNat j0)), .val (.int (Int32.ofNat cs.length))] [])) _
    refine XS.iloadN X2.here hx rfl (Jvm.hb hby d_jdk_52_method_40_6) rfl ?_
    show Steps p.tables e below (T2.setTop (mkF m 7 #[.val (.ref b), .val (.int ch), .val (.int (Int32.ofNat j0)), .val (.int (Int32.ofNat cs.length))] [(.int (Int32.ofNat cs.length))])) _
    refine XS.aloadN X2.here hx rfl (Jvm.hb hby d_jdk_52_method_40_7) rfl rfl ?_
    show Steps p.tables e below (T2.setTop (mkF m 8 #[.val (.ref b), .val (.int ch), .val (.int (Int32.ofNat j0)), .val (.int (Int32.ofNat cs.length))] [(.ref b), (.int (Int32.ofNat cs.length))])) _
    refine X2.arraylength hx (by rw [e2]; exact Ar3.1) (State.isArrayOf_alike hZ.alike Ar3.2.1) (g := (mkF m 8 #[.val (.ref b), .val (.int ch), .val (.int (Int32.ofNat j0)), .val (.int (Int32.ofNat cs.length))] [(.ref b), (.int (Int32.ofNat cs.length))])) rfl rfl (Jvm.hb hby d_jdk_52_method_40_8) _ ?_
    rw [len_of S3 M3]
    show Steps p.tables e below (T2.setTop (mkF m 9 #[.val (.ref b), .val (.int ch), .val (.int (Int32.ofNat j0)), .val (.int (Int32.ofNat cs.length))] [(.int (Int32.ofNat (2 * cs.length))), (.int (Int32.ofNat cs.length))])) _
    refine XS.iconst X2.here hx rfl (Jvm.hb hby d_jdk_52_method_40_9) ?_
    show Steps p.tables e below (T2.setTop (mkF m 10 #[.val (.ref b), .val (.int ch), .val (.int (Int32.ofNat j0)), .val (.int (Int32.ofNat cs.length))] [(.int (1 : Int32)), (.int (Int32.ofNat (2 * cs.length))), (.int (Int32.ofNat cs.length))])) _
    refine XS.ishr X2.here hx rfl (Jvm.hb hby d_jdk_52_method_40_10) rfl ?_
    show Steps p.tables e below (T2.setTop (mkF m 11 #[.val (.ref b), .val (.int ch), .val (.int (Int32.ofNat j0)), .val (.int (Int32.ofNat cs.length))] [(.int ((Int32.ofNat (2 * cs.length)) >>> ((1 : Int32) &&& 31))), (.int (Int32.ofNat cs.length))])) _
    refine castTop (g' := (mkF m 11 #[.val (.ref b), .val (.int ch), .val (.int (Int32.ofNat j0)), .val (.int (Int32.ofNat cs.length))] [(.int (Int32.ofNat cs.length)), (.int (Int32.ofNat cs.length))])) (by rw [own_shr1 (by omega)]) ?_
    show Steps p.tables e below (T2.setTop (mkF m 11 #[.val (.ref b), .val (.int ch), .val (.int (Int32.ofNat j0)), .val (.int (Int32.ofNat cs.length))] [(.int (Int32.ofNat cs.length)), (.int (Int32.ofNat cs.length))])) _
    refine st5 _ ?_
    show Steps p.tables e below (T5.setTop (mkF m 14 #[.val (.ref b), .val (.int ch), .val (.int (Int32.ofNat j0)), .val (.int (Int32.ofNat cs.length))] [(.int (Int32.ofNat (min cs.length cs.length)))])) _
    refine castTop (g' := (mkF m 14 #[.val (.ref b), .val (.int ch), .val (.int (Int32.ofNat j0)), .val (.int (Int32.ofNat cs.length))] [(.int (Int32.ofNat cs.length))])) (by rw [Nat.min_self]) ?_
    show Steps p.tables e below (T5.setTop (mkF m 14 #[.val (.ref b), .val (.int ch), .val (.int (Int32.ofNat j0)), .val (.int (Int32.ofNat cs.length))] [(.int (Int32.ofNat cs.length))])) _
    refine XS.istoreN X5.here hx rfl (Jvm.hb hby d_jdk_52_method_40_14) rfl (l' := #[.val (.ref b), .val (.int ch), .val (.int (Int32.ofNat j0)), .val (.int (Int32.ofNat cs.length))]) rfl ?_
    show Steps p.tables e below (T5.setTop (mkF m 15 #[.val (.ref b), .val (.int ch), .val (.int (Int32.ofNat j0)), .val (.int (Int32.ofNat cs.length))] [])) _
    refine XS.iloadN X5.here hx rfl (Jvm.hb hby d_jdk_52_method_40_15) rfl ?_
    show Steps p.tables e below (T5.setTop (mkF m 16 #[.val (.ref b), .val (.int ch), .val (.int (Int32.ofNat j0)), .val (.int (Int32.ofNat cs.length))] [(.int (Int32.ofNat j0))])) _
    refine XS.iloadN X5.here hx rfl (Jvm.hb hby d_jdk_52_method_40_16) rfl ?_
    show Steps p.tables e below (T5.setTop (mkF m 17 #[.val (.ref b), .val (.int ch), .val (.int (Int32.ofNat j0)), .val (.int (Int32.ofNat cs.length))] [(.int (Int32.ofNat cs.length)), (.int (Int32.ofNat j0))])) _
    show Steps p.tables e below (T5.setTop (mkF m 17 #[.val (.ref b), .val (.int ch), .val (.int (Int32.ofNat j0)), .val (.int (Int32.ofNat cs.length))] [(.int (Int32.ofNat cs.length)), (.int (Int32.ofNat j0))])) t_
    exact k_)
  by_cases h7 : (Int32.ofNat j0) < (Int32.ofNat cs.length)
  · have Zc8 : n0 ≤ h0.size := by omega
    obtain ⟨_, _, ⟨T9, L9, k9, n9⟩, -, X9, ⟨Lc9, hQ9, l9, y9, z9⟩, st9⟩ := Jvm.LawKit.callS X5 hx (y := (⟨"java/lang/StringUTF16", "indexOfChar", "([BIII)I"⟩ : MethodName)) hown (mvT hZ (hw _ (List.mem_of_getElem? (i := 100) rfl))) (mvT hZ (hw _ (List.mem_of_getElem? (i := 101) rfl))) (mvT hZ (hw _ (List.mem_of_getElem? (i := 18) rfl))) (mvT hZ (hw _ (List.mem_of_getElem? (i := 102) rfl))) (by decide) (backOf (W := 0) (rmIxUC l Z a0 hw [] b ch kb cs j0 fmt h0 n0 Zc8 I1 I2 I3 (hfmt : fmt.isRef = true) I4 OX I5 (hb : cs.length ≤ 4) (hj0 : j0 ≤ cs.length) (hchs : own_chs cs)) hZ (hw _ (List.mem_of_getElem? (i := 102) rfl)) (hw _ (List.mem_of_getElem? (i := 18) rfl)) (by decide) (by decide)) (g := (mkF m 32 #[.val (.ref b), .val (.int ch), .val (.int (Int32.ofNat j0)), .val (.int (Int32.ofNat cs.length))] [(.int (Int32.ofNat cs.length)), (.int (Int32.ofNat j0)), (.int ch), (.ref b)])) rfl (by rw [hml]; rfl) (argsL := [(.ref b), (.int ch), (.int (Int32.ofNat j0)), (.int (Int32.ofNat cs.length))]) (rest := []) (lenOf pd___BIII_I rfl) rfl (by show 2 * 0 + _ ≤ _; exact Nat.le_of_eq rfl) (Jvm.hb hby d_jdk_52_method_40_32) (fun _ _ => ⟨rfl, e5, (by decide : 0 + 0 ≤ _), (by decide : 0 + 0 ≤ _)⟩)
    dsimp only [Pt.U, Pt.locs, Pt.cells, Pt.slots] at X9 l9 y9 z9 st9 hQ9
    subst l9 y9 z9
    obtain ⟨rfl, N9q, e9⟩ := hQ9
    have N9 := Fr.app N5 N9q
    have s10 : ∀ t_, Steps p.tables e below (T9.setTop (mkF m 35 #[.val (.ref b), .val (.int ch), .val (.int (Int32.ofNat j0)), .val (.int (Int32.ofNat cs.length))] [(.int ((Int32.ofNat (own_ix cs ch j0 (cs.length - j0))) - (1 : Int32)))])) t_ → Steps p.tables e below (s₁.setTop (entryFrame m #[(.ref b), (.int ch), (.int (Int32.ofNat j0)), (.int (Int32.ofNat cs.length))] 4)) t_ := fun t_ k_ => s6 t_ (by
      show Steps p.tables e below (T5.setTop (mkF m 17 #[.val (.ref b), .val (.int ch), .val (.int (Int32.ofNat j0)), .val (.int (Int32.ofNat cs.length))] [(.int (Int32.ofNat cs.length)), (.int (Int32.ofNat j0))])) t_
      refine XS.icmpYes X5.here hx rfl (pc0 := 17) (pc' := 22) rfl (Jvm.hb hby d_jdk_52_method_40_17) rfl (tlt h7).1 (by decide) (by decide) ?_
      show Steps p.tables e below (T5.setTop (mkF m 22 #[.val (.ref b), .val (.int ch), .val (.int (Int32.ofNat j0)), .val (.int (Int32.ofNat cs.length))] [])) _
      refine XS.iloadN X5.here hx rfl (Jvm.hb hby d_jdk_52_method_40_22) rfl ?_
      show Steps p.tables e below (T5.setTop (mkF m 23 #[.val (.ref b), .val (.int ch), .val (.int (Int32.ofNat j0)), .val (.int (Int32.ofNat cs.length))] [(.int ch)])) _
      refine X5.ldcInt hx hown (mvT hZ (hw _ (List.mem_of_getElem? (i := 99) rfl))) (g := (mkF m 23 #[.val (.ref b), .val (.int ch), .val (.int (Int32.ofNat j0)), .val (.int (Int32.ofNat cs.length))] [(.int ch)])) rfl (Jvm.hb hby d_jdk_52_method_40_23) _ ?_
      show Steps p.tables e below (T5.setTop (mkF m 25 #[.val (.ref b), .val (.int ch), .val (.int (Int32.ofNat j0)), .val (.int (Int32.ofNat cs.length))] [(.int (65536 : Int32)), (.int ch)])) _
      refine XS.icmpNo X5.here hx rfl (Jvm.hb hby d_jdk_52_method_40_25) rfl (tlt (own_lt16 hc1)).2.1 ?_
      show Steps p.tables e below (T5.setTop (mkF m 28 #[.val (.ref b), .val (.int ch), .val (.int (Int32.ofNat j0)), .val (.int (Int32.ofNat cs.length))] [])) _
      refine XS.aloadN X5.here hx rfl (Jvm.hb hby d_jdk_52_method_40_28) rfl rfl ?_
      show Steps p.tables e below (T5.setTop (mkF m 29 #[.val (.ref b), .val (.int ch), .val (.int (Int32.ofNat j0)), .val (.int (Int32.ofNat cs.length))] [(.ref b)])) _
      refine XS.iloadN X5.here hx rfl (Jvm.hb hby d_jdk_52_method_40_29) rfl ?_
      show Steps p.tables e below (T5.setTop (mkF m 30 #[.val (.ref b), .val (.int ch), .val (.int (Int32.ofNat j0)), .val (.int (Int32.ofNat cs.length))] [(.int ch), (.ref b)])) _
      refine XS.iloadN X5.here hx rfl (Jvm.hb hby d_jdk_52_method_40_30) rfl ?_
      show Steps p.tables e below (T5.setTop (mkF m 31 #[.val (.ref b), .val (.int ch), .val (.int (Int32.ofNat j0)), .val (.int (Int32.ofNat cs.length))] [(.int (Int32.ofNat j0)), (.int ch), (.ref b)])) _
      refine XS.iloadN X5.here hx rfl (Jvm.hb hby d_jdk_52_method_40_31) rfl ?_
      show Steps p.tables e below (T5.setTop (mkF m 32 #[.val (.ref b), .val (.int ch), .val (.int (Int32.ofNat j0)), .val (.int (Int32.ofNat cs.length))] [(.int (Int32.ofNat cs.length)), (.int (Int32.ofNat j0)), (.int ch), (.ref b)])) _
      refine st9 _ ?_
      show Steps p.tables e below (T9.setTop (mkF m 35 #[.val (.ref b), .val (.int ch), .val (.int (Int32.ofNat j0)), .val (.int (Int32.ofNat cs.length))] [(.int ((Int32.ofNat (own_ix cs ch j0 (cs.length - j0))) - (1 : Int32)))])) _
      show Steps p.tables e below (T9.setTop (mkF m 35 #[.val (.ref b), .val (.int ch), .val (.int (Int32.ofNat j0)), .val (.int (Int32.ofNat cs.length))] [(.int ((Int32.ofNat (own_ix cs ch j0 (cs.length - j0))) - (1 : Int32)))])) t_
      exact k_)
    obtain ⟨fs, hr, hrun, hended, hW, hsame⟩ := X9.leave (v := some (.int ((Int32.ofNat (own_ix cs ch j0 (cs.length - j0))) - (1 : Int32)))) (fun h => by rw [Bd.returns] at h; cases h)
    refine ⟨_, _, s10 _ ?_, hrun, hended, _, _, rfl, ?_, ⟨_, rfl⟩, hW, hsame.mono (by decide) (by decide)⟩
    · show Steps p.tables e below (T9.setTop (mkF m 35 #[.val (.ref b), .val (.int ch), .val (.int (Int32.ofNat j0)), .val (.int (Int32.ofNat cs.length))] [(.int ((Int32.ofNat (own_ix cs ch j0 (cs.length - j0))) - (1 : Int32)))])) _
      exact retI X9 hx Bd.returns (Jvm.hb hby d_jdk_52_method_40_35) hr
    · show Q_rmIxW Z _ _ _ _ _ _ h0 n0 _ T9.heap _
      rw [e9]
      exact ⟨rfl, N9, rfl⟩
  · have s11 : ∀ t_, Steps p.tables e below (T5.setTop (mkF m 21 #[.val (.ref b), .val (.int ch), .val (.int (Int32.ofNat j0)), .val (.int (Int32.ofNat cs.length))] [(.int (-1 : Int32))])) t_ → Steps p.tables e below (s₁.setTop (entryFrame m #[(.ref b), (.int ch), (.int (Int32.ofNat j0)), (.int (Int32.ofNat cs.length))] 4)) t_ := fun t_ k_ => s6 t_ (by
      show Steps p.tables e below (T5.setTop (mkF m 17 #[.val (.ref b), .val (.int ch), .val (.int (Int32.ofNat j0)), .val (.int (Int32.ofNat cs.length))] [(.int (Int32.ofNat cs.length)), (.int (Int32.ofNat j0))])) t_
      refine XS.icmpNo X5.here hx rfl (Jvm.hb hby d_jdk_52_method_40_17) rfl (flt h7).1 ?_
      show Steps p.tables e below (T5.setTop (mkF m 20 #[.val (.ref b), .val (.int ch), .val (.int (Int32.ofNat j0)), .val (.int (Int32.ofNat cs.length))] [])) _
      refine XS.iconst X5.here hx rfl (Jvm.hb hby d_jdk_52_method_40_20) ?_
      show Steps p.tables e below (T5.setTop (mkF m 21 #[.val (.ref b), .val (.int ch), .val (.int (Int32.ofNat j0)), .val (.int (Int32.ofNat cs.length))] [(.int (-1 : Int32))])) _
      show Steps p.tables e below (T5.setTop (mkF m 21 #[.val (.ref b), .val (.int ch), .val (.int (Int32.ofNat j0)), .val (.int (Int32.ofNat cs.length))] [(.int (-1 : Int32))])) t_
      exact k_)
    obtain ⟨fs, hr, hrun, hended, hW, hsame⟩ := X5.leave (v := some (.int (-1 : Int32))) (fun h => by rw [Bd.returns] at h; cases h)
    refine ⟨_, _, s11 _ ?_, hrun, hended, _, _, rfl, ?_, ⟨_, rfl⟩, hW, hsame.mono (by decide) (by decide)⟩
    · show Steps p.tables e below (T5.setTop (mkF m 21 #[.val (.ref b), .val (.int ch), .val (.int (Int32.ofNat j0)), .val (.int (Int32.ofNat cs.length))] [(.int (-1 : Int32))])) _
      exact retI X5 hx Bd.returns (Jvm.hb hby d_jdk_52_method_40_21) hr
    · show Q_rmIxW Z _ _ _ _ _ _ h0 n0 _ T5.heap _
      rw [e5]
      exact ⟨(by rw [show cs.length - j0 = 0 by have := h7; exact own_sub0 this (by omega)]; rfl), N5, rfl⟩
theorem d_jdk_42_method_80_0 : decode jdk_42_method_80_code 0 = .ok (.aload_n 0, 1) := by decide +kernel
theorem pd___Z : parseMethodDescriptor "()Z" = some ⟨[], some .boolean⟩ := by decide +kernel
theorem d_jdk_42_method_80_1 : decode jdk_42_method_80_code 1 = .ok (.invokevirtual 492, 3) := by decide +kernel
theorem d_jdk_42_method_80_4 : decode jdk_42_method_80_code 4 = .ok (.ifCond .eq 19, 3) := by decide +kernel
theorem d_jdk_42_method_80_7 : decode jdk_42_method_80_code 7 = .ok (.aload_n 0, 1) := by decide +kernel
theorem d_jdk_42_method_80_8 : decode jdk_42_method_80_code 8 = .ok (.getfield 9, 3) := by decide +kernel
theorem d_jdk_42_method_80_11 : decode jdk_42_method_80_code 11 = .ok (.iload_n 1, 1) := by decide +kernel
theorem d_jdk_42_method_80_12 : decode jdk_42_method_80_code 12 = .ok (.iload_n 2, 1) := by decide +kernel
theorem d_jdk_42_method_80_13 : decode jdk_42_method_80_code 13 = .ok (.aload_n 0, 1) := by decide +kernel
theorem pd___I : parseMethodDescriptor "()I" = some ⟨[], some .int⟩ := by decide +kernel
theorem d_jdk_42_method_80_14 : decode jdk_42_method_80_code 14 = .ok (.invokevirtual 505, 3) := by decide +kernel
theorem d_jdk_42_method_80_17 : decode jdk_42_method_80_code 17 = .ok (.invokestatic 637, 3) := by decide +kernel
theorem d_jdk_42_method_80_20 : decode jdk_42_method_80_code 20 = .ok (.goto 16, 3) := by decide +kernel
theorem d_jdk_42_method_80_36 : decode jdk_42_method_80_code 36 = .ok (.ireturn, 1) := by decide +kernel
theorem d_jdk_42_method_80_23 : decode jdk_42_method_80_code 23 = .ok (.aload_n 0, 1) := by decide +kernel
theorem d_jdk_42_method_80_24 : decode jdk_42_method_80_code 24 = .ok (.getfield 9, 3) := by decide +kernel
theorem d_jdk_42_method_80_27 : decode jdk_42_method_80_code 27 = .ok (.iload_n 1, 1) := by decide +kernel
theorem d_jdk_42_method_80_28 : decode jdk_42_method_80_code 28 = .ok (.iload_n 2, 1) := by decide +kernel
theorem d_jdk_42_method_80_29 : decode jdk_42_method_80_code 29 = .ok (.aload_n 0, 1) := by decide +kernel
theorem d_jdk_42_method_80_30 : decode jdk_42_method_80_code 30 = .ok (.invokevirtual 505, 3) := by decide +kernel
theorem d_jdk_42_method_80_33 : decode jdk_42_method_80_code 33 = .ok (.invokestatic 640, 3) := by decide +kernel
theorem ef_rmIxOf (m : MethodId) (x0 : Addr) (x1 : Int32) (x2 : Int32) : entryFrame m #[(.ref x0), (.int x1), (.int x2)] 3 = mkF m 0 #[.val (.ref x0), .val (.int x1), .val (.int x2)] [] := by first | (simp [entryFrame, mkF, argsToLocals, Value.category]; done) | rfl
def Q_rmIxOf (Z : State) (a : Addr) (ch : Int32) (cst : Int32) (b : Addr) (kb : ClassId) (cs : List Int32) (j0 : Nat) (fmt : Value) (h0 : Heap) (n0 : Nat) (v : Option Value) (h : Heap) (L : List Loc) : Prop := (v = some (.int ((Int32.ofNat (own_ix cs ch j0 (cs.length - j0))) - (1 : Int32)))) ∧ (Fr n0 L) ∧ (h = h0)
set_option maxRecDepth 65536 in
set_option maxHeartbeats 40000000 in
theorem rmIxOf (l : Launch) (Z : State) (a0 : Array Value) (hw : ∀ d ∈ tables_1, d.before a0 Z = true) (ws : List Jvm.Cond) (a : Addr) (ch : Int32) (cst : Int32) (b : Addr) (kb : ClassId) (cs : List Int32) (j0 : Nat) (fmt : Value) (h0 : Heap) (n0 : Nat) (Z0 : n0 ≤ h0.size) (I1 : Sta Z Z.heap "java/lang/String" "COMPACT_STRINGS" "Z" (.int cst)) (I2 : Sta Z Z.heap "java/lang/StringUTF16" "$assertionsDisabled" "Z" (.int (1 : Int32))) (I3 : Sta Z Z.heap "java/lang/StringUTF16" "HI_BYTE_SHIFT" "I" (.int (0 : Int32))) (I4 : Sta Z Z.heap "java/lang/StringUTF16" "LO_BYTE_SHIFT" "I" (.int (8 : Int32))) (hfmt : fmt.isRef = true) (I5 : Sta Z Z.heap "jdk/internal/util/Preconditions" "SIOOBE_FORMATTER" "Ljava/util/function/BiFunction;" fmt) (OX : Old Z n0 h0) (hcst : ¬ (cst = (0 : Int32))) (I6 : Exa Z h0 a "java/lang/String") (I7 : Fld Z h0 a "java/lang/String" "value" "[B" (.ref b)) (I8 : Fld Z h0 a "java/lang/String" "coder" "B" (.int (own_cod cs))) (I9 : Arv Z h0 b kb .byte (Int32.ofNat (own_enl cs)) (own_enc cs) (.int (0 : Int32))) (hb : cs.length ≤ 4) (hj0 : j0 ≤ cs.length) (hchs : own_chs cs) (hc0 : ¬ (ch < (0 : Int32))) (hc1 : ¬ ((65535 : Int32) < ch)) :
    MetFree l (⟨"java/lang/String", "indexOf", "(II)I"⟩ : MethodName) (head1 (Jvm.Cond.code (⟨"java/lang/String", "indexOf", "(II)I"⟩ : MethodName) jdk_42_method_80_code 3 (some .int) :: ws) ({ frames := 5, cells := 0, slots := 0, locals := 73 } : Room)) (fun ar_ U => ar_ = #[(.ref a), (.int ch), (.int (Int32.ofNat j0))] ∧ Z.Warmed39 U.vm ∧ U.heap = h0) (fun _ _ _ _ _ => True) (fun _ U o U' => ∃ v L, o = .returned v ∧ Q_rmIxOf Z a ch cst b kb cs j0 fmt h0 n0 v U'.heap L ∧ FrameEnd U o U' L ({ frames := 5, cells := 0, slots := 0, locals := 73 } : Room).cells ({ frames := 5, cells := 0, slots := 0, locals := 73 } : Room).slots) := by
  refine MetFree.of_bodySF (plainFor_of_name pn_java_lang_String) hisR ?_
  intro p e s m args below meth c s₁ Bd hml0 hP hK
  obtain ⟨rfl, hZ, hh⟩ := hP
  have hx := Bd.exec
  have hby := Bd.bytes
  have hml : c.maxLocals = 3 := hml0
  have hown : s.vm.findClass "java/lang/String" = some m.cls := findClass_of_methodNamed Bd.named
  have hnm := (name_of_methodNamed Bd.named Bd.method).1
  have X0 : Stand p l e ({ frames := 5, cells := 0, slots := 0, locals := 73 } : Room) s m #[(.ref a), (.int ch), (.int (Int32.ofNat j0))] below meth c s₁ [] 0 0 := Stand.of_body Bd
  have e0 : s₁.heap = h0 := by rw [← hh, Bd.state]; rfl
  have N0 := Fr.nil n0
  have pre0 : ∀ t_, Steps p.tables e below (s₁.setTop (mkF m 0 #[.val (.ref a), .val (.int ch), .val (.int (Int32.ofNat j0))] [])) t_ → Steps p.tables e below (s₁.setTop (entryFrame m #[(.ref a), (.int ch), (.int (Int32.ofNat j0))] 3)) t_ := fun t_ k_ => castTop (ef_rmIxOf m a ch (Int32.ofNat j0)) k_
  have lt_I6 : @LT.lt Nat _ a h0.size := I6.lt
  have lt_I7 : @LT.lt Nat _ a h0.size := I7.lt
  have lt_I8 : @LT.lt Nat _ a h0.size := I8.lt
  have lt_I9 : @LT.lt Nat _ b h0.size := I9.lt
  by_cases h1 : own_lat cs
  · have s2 : ∀ t_, Steps p.tables e below (s₁.setTop (mkF m 0 #[.val (.ref a), .val (.int ch), .val (.int (Int32.ofNat j0))] [])) t_ → Steps p.tables e below (s₁.setTop (entryFrame m #[(.ref a), (.int ch), (.int (Int32.ofNat j0))] 3)) t_ := fun t_ k_ => pre0 t_ (castTop (by rfl) k_)
    have Zc3 : n0 ≤ h0.size := by omega
    obtain ⟨cq4, kq4, q4a, q4b, q4c⟩ := isOf hZ e0 I6
    obtain ⟨_, _, ⟨T4, L4, k4, n4⟩, -, X4, ⟨Lc4, hQ4, l4, y4, z4⟩, st4⟩ := X0.virtualBack hx (y := (⟨"java/lang/String", "isLatin1", "()Z"⟩ : MethodName)) (z := (⟨"java/lang/String", "isLatin1", "()Z"⟩ : MethodName)) hown (mvT hZ (hw _ (List.mem_of_getElem? (i := 48) rfl))) (mvT hZ (hw _ (List.mem_of_getElem? (i := 49) rfl))) (notFace_of_selects (args := #[]) (mvT hZ (hw _ (List.mem_of_getElem? (i := 51) rfl)))) (mvT hZ (hw _ (List.mem_of_getElem? (i := 51) rfl))) (mvT hZ (hw _ (List.mem_of_getElem? (i := 50) rfl))) (by decide) (backOf (W := 0) (rmIsL l Z a0 hw [] a cst cs h0 n0 Zc3 I1 OX (hcst : ¬ (cst = (0 : Int32))) I8) hZ (hw _ (List.mem_of_getElem? (i := 52) rfl)) (hw _ (List.mem_of_getElem? (i := 4) rfl)) (by decide) (by decide)) q4a q4c (g := (mkF m 1 #[.val (.ref a), .val (.int ch), .val (.int (Int32.ofNat j0))] [(.ref a)])) rfl (by rw [hml]; rfl) (Steps.refl _) (argsL := []) (rest := []) (lenOf pd___Z rfl) rfl (by show 2 * 0 + _ ≤ _; exact Nat.le_of_eq rfl) (Jvm.hb hby d_jdk_42_method_80_1) (fun _ _ => ⟨rfl, e0, (by decide : 0 + 0 ≤ _), (by decide : 0 + 0 ≤ _)⟩)
    dsimp only [Pt.U, Pt.locs, Pt.cells, Pt.slots] at X4 l4 y4 z4 st4 hQ4
    subst l4 y4 z4
    obtain ⟨rfl, N4q, e4⟩ := hQ4
    have N4 := Fr.app N0 N4q
    obtain ⟨T5, X5, e5, st5⟩ := getF X4 hx hZ hown (host := "") (Or.inl (hw _ (List.mem_of_getElem? (i := 29) rfl))) Via.refl e4 I7 (g := (mkF m 8 #[.val (.ref a), .val (.int ch), .val (.int (Int32.ofNat j0))] [(.ref a)])) rfl rfl (Jvm.hb hby d_jdk_42_method_80_8)
    have Zc6 : n0 ≤ h0.size := by omega
    obtain ⟨cq7, kq7, q7a, q7b, q7c⟩ := isOf hZ e5 I6
    obtain ⟨_, _, ⟨T7, L7, k7, n7⟩, -, X7, ⟨Lc7, hQ7, l7, y7, z7⟩, st7⟩ := X5.virtualBack hx (y := (⟨"java/lang/String", "length", "()I"⟩ : MethodName)) (z := (⟨"java/lang/String", "length", "()I"⟩ : MethodName)) hown (mvT hZ (hw _ (List.mem_of_getElem? (i := 53) rfl))) (mvT hZ (hw _ (List.mem_of_getElem? (i := 54) rfl))) (notFace_of_selects (args := #[]) (mvT hZ (hw _ (List.mem_of_getElem? (i := 56) rfl)))) (mvT hZ (hw _ (List.mem_of_getElem? (i := 56) rfl))) (mvT hZ (hw _ (List.mem_of_getElem? (i := 55) rfl))) (by decide) (backOf (W := 3) (rmLen l Z a0 hw [] a cst b kb cs h0 n0 Zc6 I1 OX (hcst : ¬ (cst = (0 : Int32))) I6 I7 I8 I9 (hb : cs.length ≤ 4)) hZ (hw _ (List.mem_of_getElem? (i := 57) rfl)) (hw _ (List.mem_of_getElem? (i := 4) rfl)) (by decide) (by decide)) q7a q7c (g := (mkF m 14 #[.val (.ref a), .val (.int ch), .val (.int (Int32.ofNat j0))] [(.ref a), (.int (Int32.ofNat j0)), (.int ch), (.ref b)])) rfl (by rw [hml]; rfl) (Steps.refl _) (argsL := []) (rest := [(.int (Int32.ofNat j0)), (.int ch), (.ref b)]) (lenOf pd___I rfl) rfl (by show 2 * 0 + _ ≤ _; exact Nat.le_of_eq rfl) (Jvm.hb hby d_jdk_42_method_80_14) (fun _ _ => ⟨rfl, e5, (by decide : 0 + 0 ≤ _), (by decide : 0 + 0 ≤ _)⟩)
    dsimp only [Pt.U, Pt.locs, Pt.cells, Pt.slots] at X7 l7 y7 z7 st7 hQ7
    subst l7 y7 z7
    obtain ⟨rfl, N7q, e7⟩ := hQ7
    have N7 := Fr.app N4 N7q
    have V8 : Arv Z h0 b kb .byte (Int32.ofNat cs.length) (own_enc cs) (.int (0 : Int32)) := by have q := I9; rw [own_enl, if_pos h1] at q; exact q
    have Zc9 : n0 ≤ h0.size := by omega
    obtain ⟨_, _, ⟨T10, L10, k10, n10⟩, -, X10, ⟨Lc10, hQ10, l10, y10, z10⟩, st10⟩ := Jvm.LawKit.callS X7 hx (y := (⟨"java/lang/StringLatin1", "indexOf", "([BIII)I"⟩ : MethodName)) hown (mvT hZ (hw _ (List.mem_of_getElem? (i := 63) rfl))) (mvT hZ (hw _ (List.mem_of_getElem? (i := 64) rfl))) (mvT hZ (hw _ (List.mem_of_getElem? (i := 65) rfl))) (mvT hZ (hw _ (List.mem_of_getElem? (i := 66) rfl))) (by decide) (backOf (W := 0) (rmIxL l Z a0 hw [] b ch kb cs j0 h0 n0 Zc9 V8 (hb : cs.length ≤ 4) (hj0 : j0 ≤ cs.length) (by first | assumption | rfl | decide | omega : own_lat cs) (hchs : own_chs cs) (hc0 : ¬ (ch < (0 : Int32))) (hc1 : ¬ ((65535 : Int32) < ch))) hZ (hw _ (List.mem_of_getElem? (i := 66) rfl)) (hw _ (List.mem_of_getElem? (i := 65) rfl)) (by decide) (by decide)) (g := (mkF m 17 #[.val (.ref a), .val (.int ch), .val (.int (Int32.ofNat j0))] [(.int (Int32.ofNat cs.length)), (.int (Int32.ofNat j0)), (.int ch), (.ref b)])) rfl (by rw [hml]; rfl) (argsL := [(.ref b), (.int ch), (.int (Int32.ofNat j0)), (.int (Int32.ofNat cs.length))]) (rest := []) (lenOf pd___BIII_I rfl) rfl (by show 2 * 0 + _ ≤ _; exact Nat.le_of_eq rfl) (Jvm.hb hby d_jdk_42_method_80_17) (fun _ _ => ⟨rfl, e7, (by decide : 0 + 0 ≤ _), (by decide : 0 + 0 ≤ _)⟩)
    dsimp only [Pt.U, Pt.locs, Pt.cells, Pt.slots] at X10 l10 y10 z10 st10 hQ10
    subst l10 y10 z10
    obtain ⟨rfl, N10q, e10⟩ := hQ10
    have N10 := Fr.app N7 N10q
    have s11 : ∀ t_, Steps p.tables e below (T10.setTop (mkF m 36 #[.val (.ref a), .val (.int ch), .val (.int (Int32.ofNat j0))] [(.int ((Int32.ofNat (own_ix cs ch j0 (cs.length - j0))) - (1 : Int32)))])) t_ → Steps p.tables e below (s₁.setTop (entryFrame m #[(.ref a), (.int ch), (.int (Int32.ofNat j0))] 3)) t_ := fun t_ k_ => s2 t_ (by
      show Steps p.tables e below (s₁.setTop (mkF m 0 #[.val (.ref a), .val (.int ch), .val (.int (Int32.ofNat j0))] [])) t_
      refine XS.aloadN X0.here hx rfl (Jvm.hb hby d_jdk_42_method_80_0) rfl rfl ?_
      show Steps p.tables e below (s₁.setTop (mkF m 1 #[.val (.ref a), .val (.int ch), .val (.int (Int32.ofNat j0))] [(.ref a)])) _
      refine st4.trans ?_
      show Steps p.tables e below (T4.setTop (mkF m 4 #[.val (.ref a), .val (.int ch), .val (.int (Int32.ofNat j0))] [(.int (if own_cod cs = (0 : Int32) then (1 : Int32) else (0 : Int32)))])) _
      refine castTop (g' := (mkF m 4 #[.val (.ref a), .val (.int ch), .val (.int (Int32.ofNat j0))] [(.int (1 : Int32))])) (by rw [if_pos (own_cod0 h1)]) ?_
      show Steps p.tables e below (T4.setTop (mkF m 4 #[.val (.ref a), .val (.int ch), .val (.int (Int32.ofNat j0))] [(.int (1 : Int32))])) _
      refine XS.ifNo X4.here hx rfl (Jvm.hb hby d_jdk_42_method_80_4) rfl ((if0 _ _).trans (feq (by decide : ¬ ((1 : Int32) = (0 : Int32)))).1) ?_
      show Steps p.tables e below (T4.setTop (mkF m 7 #[.val (.ref a), .val (.int ch), .val (.int (Int32.ofNat j0))] [])) _
      refine XS.aloadN X4.here hx rfl (Jvm.hb hby d_jdk_42_method_80_7) rfl rfl ?_
      show Steps p.tables e below (T4.setTop (mkF m 8 #[.val (.ref a), .val (.int ch), .val (.int (Int32.ofNat j0))] [(.ref a)])) _
      refine st5 _ ?_
      show Steps p.tables e below (T5.setTop (mkF m 11 #[.val (.ref a), .val (.int ch), .val (.int (Int32.ofNat j0))] [(.ref b)])) _
      refine XS.iloadN X5.here hx rfl (Jvm.hb hby d_jdk_42_method_80_11) rfl ?_
      show Steps p.tables e below (T5.setTop (mkF m 12 #[.val (.ref a), .val (.int ch), .val (.int (Int32.ofNat j0))] [(.int ch), (.ref b)])) _
      refine XS.iloadN X5.here hx rfl (Jvm.hb hby d_jdk_42_method_80_12) rfl ?_
      show Steps p.tables e below (T5.setTop (mkF m 13 #[.val (.ref a), .val (.int ch), .val (.int (Int32.ofNat j0))] [(.int (Int32.ofNat j0)), (.int ch), (.ref b)])) _
      refine XS.aloadN X5.here hx rfl (Jvm.hb hby d_jdk_42_method_80_13) rfl rfl ?_
      show Steps p.tables e below (T5.setTop (mkF m 14 #[.val (.ref a), .val (.int ch), .val (.int (Int32.ofNat j0))] [(.ref a), (.int (Int32.ofNat j0)), (.int ch), (.ref b)])) _
      refine st7.trans ?_
      show Steps p.tables e below (T7.setTop (mkF m 17 #[.val (.ref a), .val (.int ch), .val (.int (Int32.ofNat j0))] [(.int (Int32.ofNat cs.length)), (.int (Int32.ofNat j0)), (.int ch), (.ref b)])) _
      refine st10 _ ?_
      show Steps p.tables e below (T10.setTop (mkF m 20 #[.val (.ref a), .val (.int ch), .val (.int (Int32.ofNat j0))] [(.int ((Int32.ofNat (own_ix cs ch j0 (cs.length - j0))) - (1 : Int32)))])) _
      refine XS.goto X10.here hx rfl (pc0 := 20) (pc' := 36) rfl (Jvm.hb hby d_jdk_42_method_80_20) (by decide) (by decide) ?_
      show Steps p.tables e below (T10.setTop (mkF m 36 #[.val (.ref a), .val (.int ch), .val (.int (Int32.ofNat j0))] [(.int ((Int32.ofNat (own_ix cs ch j0 (cs.length - j0))) - (1 : Int32)))])) _
      show Steps p.tables e below (T10.setTop (mkF m 36 #[.val (.ref a), .val (.int ch), .val (.int (Int32.ofNat j0))] [(.int ((Int32.ofNat (own_ix cs ch j0 (cs.length - j0))) - (1 : Int32)))])) t_
      exact k_)
    obtain ⟨fs, hr, hrun, hended, hW, hsame⟩ := X10.leave (v := some (.int ((Int32.ofNat (own_ix cs ch j0 (cs.length - j0))) - (1 : Int32)))) (fun h => by rw [Bd.returns] at h; cases h)
    refine ⟨_, _, s11 _ ?_, hrun, hended, _, _, rfl, ?_, ⟨_, rfl⟩, hW, hsame.mono (by decide) (by decide)⟩
    · show Steps p.tables e below (T10.setTop (mkF m 36 #[.val (.ref a), .val (.int ch), .val (.int (Int32.ofNat j0))] [(.int ((Int32.ofNat (own_ix cs ch j0 (cs.length - j0))) - (1 : Int32)))])) _
      exact retI X10 hx Bd.returns (Jvm.hb hby d_jdk_42_method_80_36) hr
    · show Q_rmIxOf Z _ _ _ _ _ _ _ _ h0 n0 _ T10.heap _
      rw [e10]
      exact ⟨rfl, N10, rfl⟩
  · have s12 : ∀ t_, Steps p.tables e below (s₁.setTop (mkF m 0 #[.val (.ref a), .val (.int ch), .val (.int (Int32.ofNat j0))] [])) t_ → Steps p.tables e below (s₁.setTop (entryFrame m #[(.ref a), (.int ch), (.int (Int32.ofNat j0))] 3)) t_ := fun t_ k_ => pre0 t_ (castTop (by rfl) k_)
    have Zc13 : n0 ≤ h0.size := by omega
    obtain ⟨cq14, kq14, q14a, q14b, q14c⟩ := isOf hZ e0 I6
    obtain ⟨_, _, ⟨T14, L14, k14, n14⟩, -, X14, ⟨Lc14, hQ14, l14, y14, z14⟩, st14⟩ := X0.virtualBack hx (y := (⟨"java/lang/String", "isLatin1", "()Z"⟩ : MethodName)) (z := (⟨"java/lang/String", "isLatin1", "()Z"⟩ : MethodName)) hown (mvT hZ (hw _ (List.mem_of_getElem? (i := 48) rfl))) (mvT hZ (hw _ (List.mem_of_getElem? (i := 49) rfl))) (notFace_of_selects (args := #[]) (mvT hZ (hw _ (List.mem_of_getElem? (i := 51) rfl)))) (mvT hZ (hw _ (List.mem_of_getElem? (i := 51) rfl))) (mvT hZ (hw _ (List.mem_of_getElem? (i := 50) rfl))) (by decide) (backOf (W := 0) (rmIsL l Z a0 hw [] a cst cs h0 n0 Zc13 I1 OX (hcst : ¬ (cst = (0 : Int32))) I8) hZ (hw _ (List.mem_of_getElem? (i := 52) rfl)) (hw _ (List.mem_of_getElem? (i := 4) rfl)) (by decide) (by decide)) q14a q14c (g := (mkF m 1 #[.val (.ref a), .val (.int ch), .val (.int (Int32.ofNat j0))] [(.ref a)])) rfl (by rw [hml]; rfl) (Steps.refl _) (argsL := []) (rest := []) (lenOf pd___Z rfl) rfl (by show 2 * 0 + _ ≤ _; exact Nat.le_of_eq rfl) (Jvm.hb hby d_jdk_42_method_80_1) (fun _ _ => ⟨rfl, e0, (by decide : 0 + 0 ≤ _), (by decide : 0 + 0 ≤ _)⟩)
    dsimp only [Pt.U, Pt.locs, Pt.cells, Pt.slots] at X14 l14 y14 z14 st14 hQ14
    subst l14 y14 z14
    obtain ⟨rfl, N14q, e14⟩ := hQ14
    have N14 := Fr.app N0 N14q
    obtain ⟨T15, X15, e15, st15⟩ := getF X14 hx hZ hown (host := "") (Or.inl (hw _ (List.mem_of_getElem? (i := 29) rfl))) Via.refl e14 I7 (g := (mkF m 24 #[.val (.ref a), .val (.int ch), .val (.int (Int32.ofNat j0))] [(.ref a)])) rfl rfl (Jvm.hb hby d_jdk_42_method_80_24)
    have Zc16 : n0 ≤ h0.size := by omega
    obtain ⟨cq17, kq17, q17a, q17b, q17c⟩ := isOf hZ e15 I6
    obtain ⟨_, _, ⟨T17, L17, k17, n17⟩, -, X17, ⟨Lc17, hQ17, l17, y17, z17⟩, st17⟩ := X15.virtualBack hx (y := (⟨"java/lang/String", "length", "()I"⟩ : MethodName)) (z := (⟨"java/lang/String", "length", "()I"⟩ : MethodName)) hown (mvT hZ (hw _ (List.mem_of_getElem? (i := 53) rfl))) (mvT hZ (hw _ (List.mem_of_getElem? (i := 54) rfl))) (notFace_of_selects (args := #[]) (mvT hZ (hw _ (List.mem_of_getElem? (i := 56) rfl)))) (mvT hZ (hw _ (List.mem_of_getElem? (i := 56) rfl))) (mvT hZ (hw _ (List.mem_of_getElem? (i := 55) rfl))) (by decide) (backOf (W := 3) (rmLen l Z a0 hw [] a cst b kb cs h0 n0 Zc16 I1 OX (hcst : ¬ (cst = (0 : Int32))) I6 I7 I8 I9 (hb : cs.length ≤ 4)) hZ (hw _ (List.mem_of_getElem? (i := 57) rfl)) (hw _ (List.mem_of_getElem? (i := 4) rfl)) (by decide) (by decide)) q17a q17c (g := (mkF m 30 #[.val (.ref a), .val (.int ch), .val (.int (Int32.ofNat j0))] [(.ref a), (.int (Int32.ofNat j0)), (.int ch), (.ref b)])) rfl (by rw [hml]; rfl) (Steps.refl _) (argsL := []) (rest := [(.int (Int32.ofNat j0)), (.int ch), (.ref b)]) (lenOf pd___I rfl) rfl (by show 2 * 0 + _ ≤ _; exact Nat.le_of_eq rfl) (Jvm.hb hby d_jdk_42_method_80_30) (fun _ _ => ⟨rfl, e15, (by decide : 0 + 0 ≤ _), (by decide : 0 + 0 ≤ _)⟩)
    dsimp only [Pt.U, Pt.locs, Pt.cells, Pt.slots] at X17 l17 y17 z17 st17 hQ17
    subst l17 y17 z17
    obtain ⟨rfl, N17q, e17⟩ := hQ17
    have N17 := Fr.app N14 N17q
    have V18 : Arv Z h0 b kb .byte (Int32.ofNat (2 * cs.length)) (own_wide cs) (.int (0 : Int32)) := by have q := I9; rw [own_enl, own_enc, if_neg h1, if_neg h1] at q; exact q
    have Zc19 : n0 ≤ h0.size := by omega
    obtain ⟨_, _, ⟨T20, L20, k20, n20⟩, -, X20, ⟨Lc20, hQ20, l20, y20, z20⟩, st20⟩ := Jvm.LawKit.callS X17 hx (y := (⟨"java/lang/StringUTF16", "indexOf", "([BIII)I"⟩ : MethodName)) hown (mvT hZ (hw _ (List.mem_of_getElem? (i := 94) rfl))) (mvT hZ (hw _ (List.mem_of_getElem? (i := 95) rfl))) (mvT hZ (hw _ (List.mem_of_getElem? (i := 18) rfl))) (mvT hZ (hw _ (List.mem_of_getElem? (i := 96) rfl))) (by decide) (backOf (W := 0) (rmIxW l Z a0 hw [] b ch kb cs j0 fmt h0 n0 Zc19 I2 I3 I4 (hfmt : fmt.isRef = true) I5 OX V18 (hb : cs.length ≤ 4) (hj0 : j0 ≤ cs.length) (hchs : own_chs cs) (hc0 : ¬ (ch < (0 : Int32))) (hc1 : ¬ ((65535 : Int32) < ch))) hZ (hw _ (List.mem_of_getElem? (i := 96) rfl)) (hw _ (List.mem_of_getElem? (i := 18) rfl)) (by decide) (by decide)) (g := (mkF m 33 #[.val (.ref a), .val (.int ch), .val (.int (Int32.ofNat j0))] [(.int (Int32.ofNat cs.length)), (.int (Int32.ofNat j0)), (.int ch), (.ref b)])) rfl (by rw [hml]; rfl) (argsL := [(.ref b), (.int ch), (.int (Int32.ofNat j0)), (.int (Int32.ofNat cs.length))]) (rest := []) (lenOf pd___BIII_I rfl) rfl (by show 2 * 0 + _ ≤ _; exact Nat.le_of_eq rfl) (Jvm.hb hby d_jdk_42_method_80_33) (fun _ _ => ⟨rfl, e17, (by decide : 0 + 0 ≤ _), (by decide : 0 + 0 ≤ _)⟩)
    dsimp only [Pt.U, Pt.locs, Pt.cells, Pt.slots] at X20 l20 y20 z20 st20 hQ20
    subst l20 y20 z20
    obtain ⟨rfl, N20q, e20⟩ := hQ20
    have N20 := Fr.app N17 N20q
    have s21 : ∀ t_, Steps p.tables e below (T20.setTop (mkF m 36 #[.val (.ref a), .val (.int ch), .val (.int (Int32.ofNat j0))] [(.int ((Int32.ofNat (own_ix cs ch j0 (cs.length - j0))) - (1 : Int32)))])) t_ → Steps p.tables e below (s₁.setTop (entryFrame m #[(.ref a), (.int ch), (.int (Int32.ofNat j0))] 3)) t_ := fun t_ k_ => s12 t_ (by
      show Steps p.tables e below (s₁.setTop (mkF m 0 #[.val (.ref a), .val (.int ch), .val (.int (Int32.ofNat j0))] [])) t_
      refine XS.aloadN X0.here hx rfl (Jvm.hb hby d_jdk_42_method_80_0) rfl rfl ?_
      show Steps p.tables e below (s₁.setTop (mkF m 1 #[.val (.ref a), .val (.int ch), .val (.int (Int32.ofNat j0))] [(.ref a)])) _
      refine st14.trans ?_
      show Steps p.tables e below (T14.setTop (mkF m 4 #[.val (.ref a), .val (.int ch), .val (.int (Int32.ofNat j0))] [(.int (if own_cod cs = (0 : Int32) then (1 : Int32) else (0 : Int32)))])) _
      refine castTop (g' := (mkF m 4 #[.val (.ref a), .val (.int ch), .val (.int (Int32.ofNat j0))] [(.int (0 : Int32))])) (by rw [if_neg (own_cod1 h1)]) ?_
      show Steps p.tables e below (T14.setTop (mkF m 4 #[.val (.ref a), .val (.int ch), .val (.int (Int32.ofNat j0))] [(.int (0 : Int32))])) _
      refine XS.ifYes X14.here hx rfl (pc0 := 4) (pc' := 23) rfl (Jvm.hb hby d_jdk_42_method_80_4) rfl ((if0 _ _).trans (teq (rfl : (0 : Int32) = (0 : Int32))).1) (by decide) (by decide) ?_
      show Steps p.tables e below (T14.setTop (mkF m 23 #[.val (.ref a), .val (.int ch), .val (.int (Int32.ofNat j0))] [])) _
      refine XS.aloadN X14.here hx rfl (Jvm.hb hby d_jdk_42_method_80_23) rfl rfl ?_
      show Steps p.tables e below (T14.setTop (mkF m 24 #[.val (.ref a), .val (.int ch), .val (.int (Int32.ofNat j0))] [(.ref a)])) _
      refine st15 _ ?_
      show Steps p.tables e below (T15.setTop (mkF m 27 #[.val (.ref a), .val (.int ch), .val (.int (Int32.ofNat j0))] [(.ref b)])) _
      refine XS.iloadN X15.here hx rfl (Jvm.hb hby d_jdk_42_method_80_27) rfl ?_
      show Steps p.tables e below (T15.setTop (mkF m 28 #[.val (.ref a), .val (.int ch), .val (.int (Int32.ofNat j0))] [(.int ch), (.ref b)])) _
      refine XS.iloadN X15.here hx rfl (Jvm.hb hby d_jdk_42_method_80_28) rfl ?_
      show Steps p.tables e below (T15.setTop (mkF m 29 #[.val (.ref a), .val (.int ch), .val (.int (Int32.ofNat j0))] [(.int (Int32.ofNat j0)), (.int ch), (.ref b)])) _
      refine XS.aloadN X15.here hx rfl (Jvm.hb hby d_jdk_42_method_80_29) rfl rfl ?_
      show Steps p.tables e below (T15.setTop (mkF m 30 #[.val (.ref a), .val (.int ch), .val (.int (Int32.ofNat j0))] [(.ref a), (.int (Int32.ofNat j0)), (.int ch), (.ref b)])) _
      refine st17.trans ?_
      show Steps p.tables e below (T17.setTop (mkF m 33 #[.val (.ref a), .val (.int ch), .val (.int (Int32.ofNat j0))] [(.int (Int32.ofNat cs.length)), (.int (Int32.ofNat j0)), (.int ch), (.ref b)])) _
      refine st20 _ ?_
      show Steps p.tables e below (T20.setTop (mkF m 36 #[.val (.ref a), .val (.int ch), .val (.int (Int32.ofNat j0))] [(.int ((Int32.ofNat (own_ix cs ch j0 (cs.length - j0))) - (1 : Int32)))])) _
      show Steps p.tables e below (T20.setTop (mkF m 36 #[.val (.ref a), .val (.int ch), .val (.int (Int32.ofNat j0))] [(.int ((Int32.ofNat (own_ix cs ch j0 (cs.length - j0))) - (1 : Int32)))])) t_
      exact k_)
    obtain ⟨fs, hr, hrun, hended, hW, hsame⟩ := X20.leave (v := some (.int ((Int32.ofNat (own_ix cs ch j0 (cs.length - j0))) - (1 : Int32)))) (fun h => by rw [Bd.returns] at h; cases h)
    refine ⟨_, _, s21 _ ?_, hrun, hended, _, _, rfl, ?_, ⟨_, rfl⟩, hW, hsame.mono (by decide) (by decide)⟩
    · show Steps p.tables e below (T20.setTop (mkF m 36 #[.val (.ref a), .val (.int ch), .val (.int (Int32.ofNat j0))] [(.int ((Int32.ofNat (own_ix cs ch j0 (cs.length - j0))) - (1 : Int32)))])) _
      exact retI X20 hx Bd.returns (Jvm.hb hby d_jdk_42_method_80_36) hr
    · show Q_rmIxOf Z _ _ _ _ _ _ _ _ h0 n0 _ T20.heap _
      rw [e20]
      exact ⟨rfl, N20, rfl⟩
theorem pn_com_example_odysseus_odysseus_UrlParser : plainName "com/example/odysseus/odysseus/UrlParser" = true := by first | (simp [plainName, overriddenIn]; done) | decide +kernel
theorem d_prog_12_method_24_0 : decode prog_12_method_24_code 0 = .ok (.aload_n 0, 1) := by decide +kernel
theorem d_prog_12_method_24_1 : decode prog_12_method_24_code 1 = .ok (.iload_n 1, 1) := by decide +kernel
theorem d_prog_12_method_24_2 : decode prog_12_method_24_code 2 = .ok (.iload_n 2, 1) := by decide +kernel
theorem d_prog_12_method_24_3 : decode prog_12_method_24_code 3 = .ok (.invokevirtual 47, 3) := by decide +kernel
theorem d_prog_12_method_24_6 : decode prog_12_method_24_code 6 = .ok (.istore 4, 2) := by decide +kernel
theorem d_prog_12_method_24_8 : decode prog_12_method_24_code 8 = .ok (.iload 4, 2) := by decide +kernel
theorem d_prog_12_method_24_10 : decode prog_12_method_24_code 10 = .ok (.ifCond .lt 9, 3) := by decide +kernel
theorem d_prog_12_method_24_19 : decode prog_12_method_24_code 19 = .ok (.iload_n 3, 1) := by decide +kernel
theorem d_prog_12_method_24_20 : decode prog_12_method_24_code 20 = .ok (.goto 5, 3) := by decide +kernel
theorem d_prog_12_method_24_25 : decode prog_12_method_24_code 25 = .ok (.ireturn, 1) := by decide +kernel
theorem d_prog_12_method_24_13 : decode prog_12_method_24_code 13 = .ok (.iload 4, 2) := by decide +kernel
theorem d_prog_12_method_24_15 : decode prog_12_method_24_code 15 = .ok (.iload_n 3, 1) := by decide +kernel
theorem d_prog_12_method_24_16 : decode prog_12_method_24_code 16 = .ok (.if_icmp .lt 7, 3) := by decide +kernel
theorem d_prog_12_method_24_23 : decode prog_12_method_24_code 23 = .ok (.iload 4, 2) := by decide +kernel
theorem ef_rmFind (m : MethodId) (x0 : Addr) (x1 : Int32) (x2 : Int32) (x3 : Int32) : entryFrame m #[(.ref x0), (.int x1), (.int x2), (.int x3)] 5 = mkF m 0 #[.val (.ref x0), .val (.int x1), .val (.int x2), .val (.int x3), .unset] [] := by first | (simp [entryFrame, mkF, argsToLocals, Value.category]; done) | rfl
def Q_rmFind (Z : State) (a : Addr) (ch : Int32) (cst : Int32) (b : Addr) (kb : ClassId) (cs : List Int32) (j0 : Nat) (fmt : Value) (en : Nat) (h0 : Heap) (n0 : Nat) (v : Option Value) (h : Heap) (L : List Loc) : Prop := (v = some (.int (if ((Int32.ofNat (own_ix cs ch j0 (cs.length - j0))) - (1 : Int32)) < (0 : Int32) then (Int32.ofNat en) else (if ((Int32.ofNat (own_ix cs ch j0 (cs.length - j0))) - (1 : Int32)) < (Int32.ofNat en) then ((Int32.ofNat (own_ix cs ch j0 (cs.length - j0))) - (1 : Int32)) else (Int32.ofNat en))))) ∧ (Fr n0 L) ∧ (h = h0)
set_option maxRecDepth 65536 in
set_option maxHeartbeats 40000000 in
theorem rmFind (l : Launch) (Z : State) (a0 : Array Value) (hw : ∀ d ∈ tables_1, d.before a0 Z = true) (ws : List Jvm.Cond) (a : Addr) (ch : Int32) (cst : Int32) (b : Addr) (kb : ClassId) (cs : List Int32) (j0 : Nat) (fmt : Value) (en : Nat) (h0 : Heap) (n0 : Nat) (Z0 : n0 ≤ h0.size) (I1 : Sta Z Z.heap "java/lang/String" "COMPACT_STRINGS" "Z" (.int cst)) (I2 : Sta Z Z.heap "java/lang/StringUTF16" "$assertionsDisabled" "Z" (.int (1 : Int32))) (I3 : Sta Z Z.heap "java/lang/StringUTF16" "HI_BYTE_SHIFT" "I" (.int (0 : Int32))) (I4 : Sta Z Z.heap "java/lang/StringUTF16" "LO_BYTE_SHIFT" "I" (.int (8 : Int32))) (hfmt : fmt.isRef = true) (I5 : Sta Z Z.heap "jdk/internal/util/Preconditions" "SIOOBE_FORMATTER" "Ljava/util/function/BiFunction;" fmt) (OX : Old Z n0 h0) (hcst : ¬ (cst = (0 : Int32))) (I6 : Exa Z h0 a "java/lang/String") (I7 : Fld Z h0 a "java/lang/String" "value" "[B" (.ref b)) (I8 : Fld Z h0 a "java/lang/String" "coder" "B" (.int (own_cod cs))) (I9 : Arv Z h0 b kb .byte (Int32.ofNat (own_enl cs)) (own_enc cs) (.int (0 : Int32))) (hb : cs.length ≤ 4) (hj0 : j0 ≤ cs.length) (hchs : own_chs cs) (hc0 : ¬ (ch < (0 : Int32))) (hc1 : ¬ ((65535 : Int32) < ch)) :
    MetFree l (⟨"com/example/odysseus/odysseus/UrlParser", "find", "(Ljava/lang/String;CII)I"⟩ : MethodName) (head1 (Jvm.Cond.code (⟨"com/example/odysseus/odysseus/UrlParser", "find", "(Ljava/lang/String;CII)I"⟩ : MethodName) prog_12_method_24_code 5 (some .int) :: ws) ({ frames := 6, cells := 0, slots := 0, locals := 87 } : Room)) (fun ar_ U => ar_ = #[(.ref a), (.int ch), (.int (Int32.ofNat j0)), (.int (Int32.ofNat en))] ∧ Z.Warmed39 U.vm ∧ U.heap = h0) (fun _ _ _ _ _ => True) (fun _ U o U' => ∃ v L, o = .returned v ∧ Q_rmFind Z a ch cst b kb cs j0 fmt en h0 n0 v U'.heap L ∧ FrameEnd U o U' L ({ frames := 6, cells := 0, slots := 0, locals := 87 } : Room).cells ({ frames := 6, cells := 0, slots := 0, locals := 87 } : Room).slots) := by
  refine MetFree.of_bodySF (plainFor_of_name pn_com_example_odysseus_odysseus_UrlParser) hisR ?_
  intro p e s m args below meth c s₁ Bd hml0 hP hK
  obtain ⟨rfl, hZ, hh⟩ := hP
  have hx := Bd.exec
  have hby := Bd.bytes
  have hml : c.maxLocals = 5 := hml0
  have hown : s.vm.findClass "com/example/odysseus/odysseus/UrlParser" = some m.cls := findClass_of_methodNamed Bd.named
  have hnm := (name_of_methodNamed Bd.named Bd.method).1
  have X0 : Stand p l e ({ frames := 6, cells := 0, slots := 0, locals := 87 } : Room) s m #[(.ref a), (.int ch), (.int (Int32.ofNat j0)), (.int (Int32.ofNat en))] below meth c s₁ [] 0 0 := Stand.of_body Bd
  have e0 : s₁.heap = h0 := by rw [← hh, Bd.state]; rfl
  have N0 := Fr.nil n0
  have pre0 : ∀ t_, Steps p.tables e below (s₁.setTop (mkF m 0 #[.val (.ref a), .val (.int ch), .val (.int (Int32.ofNat j0)), .val (.int (Int32.ofNat en)), .unset] [])) t_ → Steps p.tables e below (s₁.setTop (entryFrame m #[(.ref a), (.int ch), (.int (Int32.ofNat j0)), (.int (Int32.ofNat en))] 5)) t_ := fun t_ k_ => castTop (ef_rmFind m a ch (Int32.ofNat j0) (Int32.ofNat en)) k_
  have lt_I6 : @LT.lt Nat _ a h0.size := I6.lt
  have lt_I7 : @LT.lt Nat _ a h0.size := I7.lt
  have lt_I8 : @LT.lt Nat _ a h0.size := I8.lt
  have lt_I9 : @LT.lt Nat _ b h0.size := I9.lt
  have Zc1 : n0 ≤ h0.size := by omega
  obtain ⟨cq2, kq2, q2a, q2b, q2c⟩ := isOf hZ e0 I6
  obtain ⟨_, _, ⟨T2, L2, k2, n2⟩, -, X2, ⟨Lc2, hQ2, l2, y2, z2⟩, st2⟩ := X0.virtualBack hx (y := (⟨"java/lang/String", "indexOf", "(II)I"⟩ : MethodName)) (z := (⟨"java/lang/String", "indexOf", "(II)I"⟩ : MethodName)) hown (mvT hZ (hw _ (List.mem_of_getElem? (i := 43) rfl))) (mvT hZ (hw _ (List.mem_of_getElem? (i := 44) rfl))) (notFace_of_selects (args := #[]) (mvT hZ (hw _ (List.mem_of_getElem? (i := 46) rfl)))) (mvT hZ (hw _ (List.mem_of_getElem? (i := 46) rfl))) (mvT hZ (hw _ (List.mem_of_getElem? (i := 45) rfl))) (by decide) (backOf (W := 0) (rmIxOf l Z a0 hw [] a ch cst b kb cs j0 fmt h0 n0 Zc1 I1 I2 I3 I4 (hfmt : fmt.isRef = true) I5 OX (hcst : ¬ (cst = (0 : Int32))) I6 I7 I8 I9 (hb : cs.length ≤ 4) (hj0 : j0 ≤ cs.length) (hchs : own_chs cs) (hc0 : ¬ (ch < (0 : Int32))) (hc1 : ¬ ((65535 : Int32) < ch))) hZ (hw _ (List.mem_of_getElem? (i := 47) rfl)) (hw _ (List.mem_of_getElem? (i := 4) rfl)) (by decide) (by decide)) q2a q2c (g := (mkF m 3 #[.val (.ref a), .val (.int ch), .val (.int (Int32.ofNat j0)), .val (.int (Int32.ofNat en)), .unset] [(.int (Int32.ofNat j0)), (.int ch), (.ref a)])) rfl (by rw [hml]; rfl) (Steps.refl _) (argsL := [(.int ch), (.int (Int32.ofNat j0))]) (rest := []) (lenOf pd__II_I rfl) rfl (by show 2 * 0 + _ ≤ _; exact Nat.le_of_eq rfl) (Jvm.hb hby d_prog_12_method_24_3) (fun _ _ => ⟨rfl, e0, (by decide : 0 + 0 ≤ _), (by decide : 0 + 0 ≤ _)⟩)
  dsimp only [Pt.U, Pt.locs, Pt.cells, Pt.slots] at X2 l2 y2 z2 st2 hQ2
  subst l2 y2 z2
  obtain ⟨rfl, N2q, e2⟩ := hQ2
  have N2 := Fr.app N0 N2q
  have s3 : ∀ t_, Steps p.tables e below (T2.setTop (mkF m 10 #[.val (.ref a), .val (.int ch), .val (.int (Int32.ofNat j0)), .val (.int (Int32.ofNat en)), .val (.int ((Int32.ofNat (own_ix cs ch j0 (cs.length - j0))) - (1 : Int32)))] [(.int ((Int32.ofNat (own_ix cs ch j0 (cs.length - j0))) - (1 : Int32)))])) t_ → Steps p.tables e below (s₁.setTop (entryFrame m #[(.ref a), (.int ch), (.int (Int32.ofNat j0)), (.int (Int32.ofNat en))] 5)) t_ := fun t_ k_ => pre0 t_ (by
    show Steps p.tables e below (s₁.setTop (mkF m 0 #[.val (.ref a), .val (.int ch), .val (.int (Int32.ofNat j0)), .val (.int (Int32.ofNat en)), .unset] [])) t_
    refine XS.aloadN X0.here hx rfl (Jvm.hb hby d_prog_12_method_24_0) rfl rfl ?_
    show Steps p.tables e below (s₁.setTop (mkF m 1 #[.val (.ref a), .val (.int ch), .val (.int (Int32.ofNat j0)), .val (.int (Int32.ofNat en)), .unset] [(.ref a)])) _
    refine XS.iloadN X0.here hx rfl (Jvm.hb hby d_prog_12_method_24_1) rfl ?_
    show Steps p.tables e below (s₁.setTop (mkF m 2 #[.val (.ref a), .val (.int ch), .val (.int (Int32.ofNat j0)), .val (.int (Int32.ofNat en)), .unset] [(.int ch), (.ref a)])) _
    refine XS.iloadN X0.here hx rfl (Jvm.hb hby d_prog_12_method_24_2) rfl ?_
    show Steps p.tables e below (s₁.setTop (mkF m 3 #[.val (.ref a), .val (.int ch), .val (.int (Int32.ofNat j0)), .val (.int (Int32.ofNat en)), .unset] [(.int (Int32.ofNat j0)), (.int ch), (.ref a)])) _
    refine st2.trans ?_
    show Steps p.tables e below (T2.setTop (mkF m 6 #[.val (.ref a), .val (.int ch), .val (.int (Int32.ofNat j0)), .val (.int (Int32.ofNat en)), .unset] [(.int ((Int32.ofNat (own_ix cs ch j0 (cs.length - j0))) - (1 : Int32)))])) _
    refine XS.istore X2.here hx rfl (Jvm.hb hby d_prog_12_method_24_6) rfl (l' := #[.val (.ref a), .val (.int ch), .val (.int (Int32.ofNat j0)), .val (.int (Int32.ofNat en)), .val (.int ((Int32.ofNat (own_ix cs ch j0 (cs.length - j0))) - (1 : Int32)))]) rfl ?_
    show Steps p.tables e below (T2.setTop (mkF m 8 #[.val (.ref a), .val (.int ch), .val (.int (Int32.ofNat j0)), .val (.int (Int32.ofNat en)), .val (.int ((Int32.ofNat (own_ix cs ch j0 (cs.length - j0))) - (1 : Int32)))] [])) _
    refine XS.iload X2.here hx rfl (Jvm.hb hby d_prog_12_method_24_8) rfl ?_
    show Steps p.tables e below (T2.setTop (mkF m 10 #[.val (.ref a), .val (.int ch), .val (.int (Int32.ofNat j0)), .val (.int (Int32.ofNat en)), .val (.int ((Int32.ofNat (own_ix cs ch j0 (cs.length - j0))) - (1 : Int32)))] [(.int ((Int32.ofNat (own_ix cs ch j0 (cs.length - j0))) - (1 : Int32)))])) _
    show Steps p.tables e below (T2.setTop (mkF m 10 #[.val (.ref a), .val (.int ch), .val (.int (Int32.ofNat j0)), .val (.int (Int32.ofNat en)), .val (.int ((Int32.ofNat (own_ix cs ch j0 (cs.length - j0))) - (1 : Int32)))] [(.int ((Int32.ofNat (own_ix cs ch j0 (cs.length - j0))) - (1 : Int32)))])) t_
    exact k_)
  by_cases h4 : ((Int32.ofNat (own_ix cs ch j0 (cs.length - j0))) - (1 : Int32)) < (0 : Int32)
  · have s5 : ∀ t_, Steps p.tables e below (T2.setTop (mkF m 25 #[.val (.ref a), .val (.int ch), .val (.int (Int32.ofNat j0)), .val (.int (Int32.ofNat en)), .val (.int ((Int32.ofNat (own_ix cs ch j0 (cs.length - j0))) - (1 : Int32)))] [(.int (Int32.ofNat en))])) t_ → Steps p.tables e below (s₁.setTop (entryFrame m #[(.ref a), (.int ch), (.int (Int32.ofNat j0)), (.int (Int32.ofNat en))] 5)) t_ := fun t_ k_ => s3 t_ (by
      show Steps p.tables e below (T2.setTop (mkF m 10 #[.val (.ref a), .val (.int ch), .val (.int (Int32.ofNat j0)), .val (.int (Int32.ofNat en)), .val (.int ((Int32.ofNat (own_ix cs ch j0 (cs.length - j0))) - (1 : Int32)))] [(.int ((Int32.ofNat (own_ix cs ch j0 (cs.length - j0))) - (1 : Int32)))])) t_
      refine XS.ifYes X2.here hx rfl (pc0 := 10) (pc' := 19) rfl (Jvm.hb hby d_prog_12_method_24_10) rfl ((if0 _ _).trans (tlt h4).1) (by decide) (by decide) ?_
      show Steps p.tables e below (T2.setTop (mkF m 19 #[.val (.ref a), .val (.int ch), .val (.int (Int32.ofNat j0)), .val (.int (Int32.ofNat en)), .val (.int ((Int32.ofNat (own_ix cs ch j0 (cs.length - j0))) - (1 : Int32)))] [])) _
      refine XS.iloadN X2.here hx rfl (Jvm.hb hby d_prog_12_method_24_19) rfl ?_
      show Steps p.tables e below (T2.setTop (mkF m 20 #[.val (.ref a), .val (.int ch), .val (.int (Int32.ofNat j0)), .val (.int (Int32.ofNat en)), .val (.int ((Int32.ofNat (own_ix cs ch j0 (cs.length - j0))) - (1 : Int32)))] [(.int (Int32.ofNat en))])) _
      refine XS.goto X2.here hx rfl (pc0 := 20) (pc' := 25) rfl (Jvm.hb hby d_prog_12_method_24_20) (by decide) (by decide) ?_
      show Steps p.tables e below (T2.setTop (mkF m 25 #[.val (.ref a), .val (.int ch), .val (.int (Int32.ofNat j0)), .val (.int (Int32.ofNat en)), .val (.int ((Int32.ofNat (own_ix cs ch j0 (cs.length - j0))) - (1 : Int32)))] [(.int (Int32.ofNat en))])) _
      show Steps p.tables e below (T2.setTop (mkF m 25 #[.val (.ref a), .val (.int ch), .val (.int (Int32.ofNat j0)), .val (.int (Int32.ofNat en)), .val (.int ((Int32.ofNat (own_ix cs ch j0 (cs.length - j0))) - (1 : Int32)))] [(.int (Int32.ofNat en))])) t_
      exact k_)
    obtain ⟨fs, hr, hrun, hended, hW, hsame⟩ := X2.leave (v := some (.int (Int32.ofNat en))) (fun h => by rw [Bd.returns] at h; cases h)
    refine ⟨_, _, s5 _ ?_, hrun, hended, _, _, rfl, ?_, ⟨_, rfl⟩, hW, hsame.mono (by decide) (by decide)⟩
    · show Steps p.tables e below (T2.setTop (mkF m 25 #[.val (.ref a), .val (.int ch), .val (.int (Int32.ofNat j0)), .val (.int (Int32.ofNat en)), .val (.int ((Int32.ofNat (own_ix cs ch j0 (cs.length - j0))) - (1 : Int32)))] [(.int (Int32.ofNat en))])) _
      exact retI X2 hx Bd.returns (Jvm.hb hby d_prog_12_method_24_25) hr
    · show Q_rmFind Z _ _ _ _ _ _ _ _ _ h0 n0 _ T2.heap _
      rw [e2]
      exact ⟨(by first | rfl | (simp only [if_pos h4]; done) | (simp only [if_pos h4]; rfl) | (simp only [if_pos h4, own_narb]; done)), N2, rfl⟩
  · have s6 : ∀ t_, Steps p.tables e below (T2.setTop (mkF m 16 #[.val (.ref a), .val (.int ch), .val (.int (Int32.ofNat j0)), .val (.int (Int32.ofNat en)), .val (.int ((Int32.ofNat (own_ix cs ch j0 (cs.length - j0))) - (1 : Int32)))] [(.int (Int32.ofNat en)), (.int ((Int32.ofNat (own_ix cs ch j0 (cs.length - j0))) - (1 : Int32)))])) t_ → Steps p.tables e below (s₁.setTop (entryFrame m #[(.ref a), (.int ch), (.int (Int32.ofNat j0)), (.int (Int32.ofNat en))] 5)) t_ := fun t_ k_ => s3 t_ (by
      show Steps p.tables e below (T2.setTop (mkF m 10 #[.val (.ref a), .val (.int ch), .val (.int (Int32.ofNat j0)), .val (.int (Int32.ofNat en)), .val (.int ((Int32.ofNat (own_ix cs ch j0 (cs.length - j0))) - (1 : Int32)))] [(.int ((Int32.ofNat (own_ix cs ch j0 (cs.length - j0))) - (1 : Int32)))])) t_
      refine XS.ifNo X2.here hx rfl (Jvm.hb hby d_prog_12_method_24_10) rfl ((if0 _ _).trans (flt h4).1) ?_
      show Steps p.tables e below (T2.setTop (mkF m 13 #[.val (.ref a), .val (.int ch), .val (.int (Int32.ofNat j0)), .val (.int (Int32.ofNat en)), .val (.int ((Int32.ofNat (own_ix cs ch j0 (cs.length - j0))) - (1 : Int32)))] [])) _
      refine XS.iload X2.here hx rfl (Jvm.hb hby d_prog_12_method_24_13) rfl ?_
      show Steps p.tables e below (T2.setTop (mkF m 15 #[.val (.ref a), .val (.int ch), .val (.int (Int32.ofNat j0)), .val (.int (Int32.ofNat en)), .val (.int ((Int32.ofNat (own_ix cs ch j0 (cs.length - j0))) - (1 : Int32)))] [(.int ((Int32.ofNat (own_ix cs ch j0 (cs.length - j0))) - (1 : Int32)))])) _
      refine XS.iloadN X2.here hx rfl (Jvm.hb hby d_prog_12_method_24_15) rfl ?_
      show Steps p.tables e below (T2.setTop (mkF m 16 #[.val (.ref a), .val (.int ch), .val (.int (Int32.ofNat j0)), .val (.int (Int32.ofNat en)), .val (.int ((Int32.ofNat (own_ix cs ch j0 (cs.length - j0))) - (1 : Int32)))] [(.int (Int32.ofNat en)), (.int ((Int32.ofNat (own_ix cs ch j0 (cs.length - j0))) - (1 : Int32)))])) _
      show Steps p.tables e below (T2.setTop (mkF m 16 #[.val (.ref a), .val (.int ch), .val (.int (Int32.ofNat j0)), .val (.int (Int32.ofNat en)), .val (.int ((Int32.ofNat (own_ix cs ch j0 (cs.length - j0))) - (1 : Int32)))] [(.int (Int32.ofNat en)), (.int ((Int32.ofNat (own_ix cs ch j0 (cs.length - j0))) - (1 : Int32)))])) t_
      exact k_)
    by_cases h7 : ((Int32.ofNat (own_ix cs ch j0 (cs.length - j0))) - (1 : Int32)) < (Int32.ofNat en)
    · have s8 : ∀ t_, Steps p.tables e below (T2.setTop (mkF m 25 #[.val (.ref a), .val (.int ch), .val (.int (Int32.ofNat j0)), .val (.int (Int32.ofNat en)), .val (.int ((Int32.ofNat (own_ix cs ch j0 (cs.length - j0))) - (1 : Int32)))] [(.int ((Int32.ofNat (own_ix cs ch j0 (cs.length - j0))) - (1 : Int32)))])) t_ → Steps p.tables e below (s₁.setTop (entryFrame m #[(.ref a), (.int ch), (.int (Int32.ofNat j0)), (.int (Int32.ofNat en))] 5)) t_ := fun t_ k_ => s6 t_ (by
        show Steps p.tables e below (T2.setTop (mkF m 16 #[.val (.ref a), .val (.int ch), .val (.int (Int32.ofNat j0)), .val (.int (Int32.ofNat en)), .val (.int ((Int32.ofNat (own_ix cs ch j0 (cs.length - j0))) - (1 : Int32)))] [(.int (Int32.ofNat en)), (.int ((Int32.ofNat (own_ix cs ch j0 (cs.length - j0))) - (1 : Int32)))])) t_
        refine XS.icmpYes X2.here hx rfl (pc0 := 16) (pc' := 23) rfl (Jvm.hb hby d_prog_12_method_24_16) rfl (tlt h7).1 (by decide) (by decide) ?_
        show Steps p.tables e below (T2.setTop (mkF m 23 #[.val (.ref a), .val (.int ch), .val (.int (Int32.ofNat j0)), .val (.int (Int32.ofNat en)), .val (.int ((Int32.ofNat (own_ix cs ch j0 (cs.length - j0))) - (1 : Int32)))] [])) _
        refine XS.iload X2.here hx rfl (Jvm.hb hby d_prog_12_method_24_23) rfl ?_
        show Steps p.tables e below (T2.setTop (mkF m 25 #[.val (.ref a), .val (.int ch), .val (.int (Int32.ofNat j0)), .val (.int (Int32.ofNat en)), .val (.int ((Int32.ofNat (own_ix cs ch j0 (cs.length - j0))) - (1 : Int32)))] [(.int ((Int32.ofNat (own_ix cs ch j0 (cs.length - j0))) - (1 : Int32)))])) _
        show Steps p.tables e below (T2.setTop (mkF m 25 #[.val (.ref a), .val (.int ch), .val (.int (Int32.ofNat j0)), .val (.int (Int32.ofNat en)), .val (.int ((Int32.ofNat (own_ix cs ch j0 (cs.length - j0))) - (1 : Int32)))] [(.int ((Int32.ofNat (own_ix cs ch j0 (cs.length - j0))) - (1 : Int32)))])) t_
        exact k_)
      obtain ⟨fs, hr, hrun, hended, hW, hsame⟩ := X2.leave (v := some (.int ((Int32.ofNat (own_ix cs ch j0 (cs.length - j0))) - (1 : Int32)))) (fun h => by rw [Bd.returns] at h; cases h)
      refine ⟨_, _, s8 _ ?_, hrun, hended, _, _, rfl, ?_, ⟨_, rfl⟩, hW, hsame.mono (by decide) (by decide)⟩
      · show Steps p.tables e below (T2.setTop (mkF m 25 #[.val (.ref a), .val (.int ch), .val (.int (Int32.ofNat j0)), .val (.int (Int32.ofNat en)), .val (.int ((Int32.ofNat (own_ix cs ch j0 (cs.length - j0))) - (1 : Int32)))] [(.int ((Int32.ofNat (own_ix cs ch j0 (cs.length - j0))) - (1 : Int32)))])) _
        exact retI X2 hx Bd.returns (Jvm.hb hby d_prog_12_method_24_25) hr
      · show Q_rmFind Z _ _ _ _ _ _ _ _ _ h0 n0 _ T2.heap _
        rw [e2]
        exact ⟨(by first | rfl | (simp only [if_neg h4, if_pos h7]; done) | (simp only [if_neg h4, if_pos h7]; rfl) | (simp only [if_neg h4, if_pos h7, own_narb]; done)), N2, rfl⟩
    · have s9 : ∀ t_, Steps p.tables e below (T2.setTop (mkF m 25 #[.val (.ref a), .val (.int ch), .val (.int (Int32.ofNat j0)), .val (.int (Int32.ofNat en)), .val (.int ((Int32.ofNat (own_ix cs ch j0 (cs.length - j0))) - (1 : Int32)))] [(.int (Int32.ofNat en))])) t_ → Steps p.tables e below (s₁.setTop (entryFrame m #[(.ref a), (.int ch), (.int (Int32.ofNat j0)), (.int (Int32.ofNat en))] 5)) t_ := fun t_ k_ => s6 t_ (by
        show Steps p.tables e below (T2.setTop (mkF m 16 #[.val (.ref a), .val (.int ch), .val (.int (Int32.ofNat j0)), .val (.int (Int32.ofNat en)), .val (.int ((Int32.ofNat (own_ix cs ch j0 (cs.length - j0))) - (1 : Int32)))] [(.int (Int32.ofNat en)), (.int ((Int32.ofNat (own_ix cs ch j0 (cs.length - j0))) - (1 : Int32)))])) t_
        refine XS.icmpNo X2.here hx rfl (Jvm.hb hby d_prog_12_method_24_16) rfl (flt h7).1 ?_
        show Steps p.tables e below (T2.setTop (mkF m 19 #[.val (.ref a), .val (.int ch), .val (.int (Int32.ofNat j0)), .val (.int (Int32.ofNat en)), .val (.int ((Int32.ofNat (own_ix cs ch j0 (cs.length - j0))) - (1 : Int32)))] [])) _
        refine XS.iloadN X2.here hx rfl (Jvm.hb hby d_prog_12_method_24_19) rfl ?_
        show Steps p.tables e below (T2.setTop (mkF m 20 #[.val (.ref a), .val (.int ch), .val (.int (Int32.ofNat j0)), .val (.int (Int32.ofNat en)), .val (.int ((Int32.ofNat (own_ix cs ch j0 (cs.length - j0))) - (1 : Int32)))] [(.int (Int32.ofNat en))])) _
        refine XS.goto X2.here hx rfl (pc0 := 20) (pc' := 25) rfl (Jvm.hb hby d_prog_12_method_24_20) (by decide) (by decide) ?_
        show Steps p.tables e below (T2.setTop (mkF m 25 #[.val (.ref a), .val (.int ch), .val (.int (Int32.ofNat j0)), .val (.int (Int32.ofNat en)), .val (.int ((Int32.ofNat (own_ix cs ch j0 (cs.length - j0))) - (1 : Int32)))] [(.int (Int32.ofNat en))])) _
        show Steps p.tables e below (T2.setTop (mkF m 25 #[.val (.ref a), .val (.int ch), .val (.int (Int32.ofNat j0)), .val (.int (Int32.ofNat en)), .val (.int ((Int32.ofNat (own_ix cs ch j0 (cs.length - j0))) - (1 : Int32)))] [(.int (Int32.ofNat en))])) t_
        exact k_)
      obtain ⟨fs, hr, hrun, hended, hW, hsame⟩ := X2.leave (v := some (.int (Int32.ofNat en))) (fun h => by rw [Bd.returns] at h; cases h)
      refine ⟨_, _, s9 _ ?_, hrun, hended, _, _, rfl, ?_, ⟨_, rfl⟩, hW, hsame.mono (by decide) (by decide)⟩
      · show Steps p.tables e below (T2.setTop (mkF m 25 #[.val (.ref a), .val (.int ch), .val (.int (Int32.ofNat j0)), .val (.int (Int32.ofNat en)), .val (.int ((Int32.ofNat (own_ix cs ch j0 (cs.length - j0))) - (1 : Int32)))] [(.int (Int32.ofNat en))])) _
        exact retI X2 hx Bd.returns (Jvm.hb hby d_prog_12_method_24_25) hr
      · show Q_rmFind Z _ _ _ _ _ _ _ _ _ h0 n0 _ T2.heap _
        rw [e2]
        exact ⟨(by first | rfl | (simp only [if_neg h4, if_neg h7]; done) | (simp only [if_neg h4, if_neg h7]; rfl) | (simp only [if_neg h4, if_neg h7, own_narb]; done)), N2, rfl⟩
theorem pn_com_example_odysseus_odysseus_UrlParserFindPinLaw : plainName "com/example/odysseus/odysseus/UrlParserFindPinLaw" = true := by first | (simp [plainName, overriddenIn]; done) | decide +kernel
theorem pd___C_V : parseMethodDescriptor "([C)V" = some ⟨[(.array .char)], none⟩ := by decide +kernel
theorem pd__Ljava_lang_String_CII_I : parseMethodDescriptor "(Ljava/lang/String;CII)I" = some ⟨[(.object "java/lang/String"), .char, .int, .int], some .int⟩ := by decide +kernel
theorem ef_rmLaw (m : MethodId) (x0 : Int64) (x1 : Int32) (x2 : Int32) (x3 : Int32) : entryFrame m #[(.long x0), (.int x1), (.int x2), (.int x3)] maxLocals = mkF m 0 #[.val (.long x0), .second, .val (.int x1), .val (.int x2), .val (.int x3), .unset, .unset, .unset, .unset, .unset, .unset, .unset, .unset] [] := by first | (simp [entryFrame, mkF, argsToLocals, Value.category, maxLocals]; done) | rfl
def Q_rmLaw (Z : State) (lc : Int64) (sel : Int32) (rs : Int32) (rt : Int32) (cst : Int32) (fmt : Value) (h0 : Heap) (n0 : Nat) (v : Option Value) (h : Heap) (L : List Loc) : Prop := v = some (.int 1) ∧ Fr n0 L
set_option maxRecDepth 65536 in
set_option maxHeartbeats 40000000 in
theorem rmLaw (l : Launch) (Z : State) (a0 : Array Value) (hw : ∀ d ∈ tables_1, d.before a0 Z = true) (ws : List Jvm.Cond) (lc : Int64) (sel : Int32) (rs : Int32) (rt : Int32) (cst : Int32) (fmt : Value) (h0 : Heap) (n0 : Nat) (Z0 : n0 ≤ h0.size) (I1 : Sta Z Z.heap "java/lang/String" "COMPACT_STRINGS" "Z" (.int cst)) (I2 : Sta Z Z.heap "java/lang/StringUTF16" "$assertionsDisabled" "Z" (.int (1 : Int32))) (I3 : Sta Z Z.heap "java/lang/StringUTF16" "HI_BYTE_SHIFT" "I" (.int (0 : Int32))) (I4 : Sta Z Z.heap "java/lang/StringUTF16" "LO_BYTE_SHIFT" "I" (.int (8 : Int32))) (hfmt : fmt.isRef = true) (I5 : Sta Z Z.heap "jdk/internal/util/Preconditions" "SIOOBE_FORMATTER" "Ljava/util/function/BiFunction;" fmt) (OX : Old Z n0 h0) (hcst : ¬ (cst = (0 : Int32))) :
    MetFree l x (head1 (Jvm.Cond.code x code maxLocals ret :: ws) room_1) (fun ar_ U => ar_ = #[(.long lc), (.int sel), (.int rs), (.int rt)] ∧ Z.Warmed39 U.vm ∧ U.heap = h0) (fun _ _ _ _ _ => True) (fun _ U o U' => ∃ v L, o = .returned v ∧ Q_rmLaw Z lc sel rs rt cst fmt h0 n0 v U'.heap L ∧ FrameEnd U o U' L room_1.cells room_1.slots) := by
  refine MetFree.of_bodySF (plainFor_of_name pn_com_example_odysseus_odysseus_UrlParserFindPinLaw) hisR ?_
  intro p e s m args below meth c s₁ Bd hml0 hP hK
  obtain ⟨rfl, hZ, hh⟩ := hP
  have hx := Bd.exec
  have hby := Bd.bytes
  have hml : c.maxLocals = 13 := hml0
  have hown : s.vm.findClass "com/example/odysseus/odysseus/UrlParserFindPinLaw" = some m.cls := findClass_of_methodNamed Bd.named
  have hnm := (name_of_methodNamed Bd.named Bd.method).1
  have X0 : Stand p l e room_1 s m #[(.long lc), (.int sel), (.int rs), (.int rt)] below meth c s₁ [] 0 0 := Stand.of_body Bd
  have e0 : s₁.heap = h0 := by rw [← hh, Bd.state]; rfl
  have N0 := Fr.nil n0
  have pre0 : ∀ t_, Steps p.tables e below (s₁.setTop (mkF m 0 #[.val (.long lc), .second, .val (.int sel), .val (.int rs), .val (.int rt), .unset, .unset, .unset, .unset, .unset, .unset, .unset, .unset] [])) t_ → Steps p.tables e below (s₁.setTop (entryFrame m #[(.long lc), (.int sel), (.int rs), (.int rt)] maxLocals)) t_ := fun t_ k_ => castTop (ef_rmLaw m lc sel rs rt) k_
  obtain ⟨T1, h1, k1, X1, e1, E1, A1, st1⟩ := newP X0 hx hZ (hw _ (List.mem_of_getElem? (i := 0) rfl)) e0 (g := (mkF m 1 #[.val (.long lc), .second, .val (.int sel), .val (.int rs), .val (.int rt), .unset, .unset, .unset, .unset, .unset, .unset, .unset, .unset] [(.int (4 : Int32))])) rfl (Jvm.hb hby at_1) rfl (by decide) (cap := 4) (by decide) (by decide) (by decide) (by decide)
  obtain ⟨b1, g1⟩ : ∃ z, z = h0.size := ⟨_, rfl⟩
  rw [← g1] at A1 st1
  have z2 : h0.size ≤ h1.size := E1.1
  have l1 : b1 < h1.size := A1.lt
  have V1 : Arv Z h1 b1 k1 .char (4 : Int32) [(.int (0 : Int32)), (.int (0 : Int32)), (.int (0 : Int32)), (.int (0 : Int32))] (.int (0 : Int32)) := (Arv.new A1 (by decide)).pad (pad_rep [] (.int (0 : Int32)) 4)
  obtain ⟨cl3, Ar3, q3, S3, M3, H3, G3⟩ := id V1
  have hin3 : ¬ ((0 : Int32) < 0 ∨ cl3.slots.size ≤ ((0 : Int32)).toNatClampNeg) := inb_of S3 ⟨by decide, by decide⟩
  obtain ⟨T4, h4, X4, e4, W4, st4⟩ := stC X1 hx hZ e1 Ar3 (j := (0 : Int32)) hin3 (g := (mkF m 15 #[.val (.long lc), .second, .val (.int sel), .val (.int rs), .val (.int rt), .val (.ref b1), .unset, .unset, .unset, .unset, .unset, .unset, .unset] [(.int (i2c ((lc &&& (65535 : Int64)).toInt32))), (.int (0 : Int32)), (.ref b1)])) rfl rfl (Jvm.hb hby at_15)
  obtain ⟨q5, hq5⟩ : ∃ z : Int32, z = (i2c ((lc &&& (65535 : Int64)).toInt32)) := ⟨_, rfl⟩
  have z6 : h1.size ≤ h4.size := Nat.le_of_eq W4.size.symm
  have V4 : Arv Z h4 b1 k1 .char (4 : Int32) [(.int q5), (.int (0 : Int32)), (.int (0 : Int32)), (.int (0 : Int32))] (.int (0 : Int32)) := by have q : Arv Z h4 b1 k1 .char (4 : Int32) [(.int (nar .char (i2c ((lc &&& (65535 : Int64)).toInt32)))), (.int (0 : Int32)), (.int (0 : Int32)), (.int (0 : Int32))] (.int (0 : Int32)) := Arv.set Ar3 q3 S3 M3 H3 G3 (fits_nar_char _) W4 0 rfl (Nat.le_of_ble_eq_true rfl); rw [show nar .char (i2c ((lc &&& (65535 : Int64)).toInt32)) = q5 from (by rw [hq5]; exact own_nari2c _)] at q; exact q
  have N4 := Fr.snoc X4 N0 (show n0 ≤ b1 by omega)
  obtain ⟨cl7, Ar7, q7, S7, M7, H7, G7⟩ := id V4
  have hin7 : ¬ ((1 : Int32) < 0 ∨ cl7.slots.size ≤ ((1 : Int32)).toNatClampNeg) := inb_of S7 ⟨by decide, by decide⟩
  obtain ⟨T8, h8, X8, e8, W8, st8⟩ := stC X4 hx hZ e4 Ar7 (j := (1 : Int32)) hin7 (g := (mkF m 29 #[.val (.long lc), .second, .val (.int sel), .val (.int rs), .val (.int rt), .val (.ref b1), .unset, .unset, .unset, .unset, .unset, .unset, .unset] [(.int (i2c (((ushrJ lc (16 : Int32)) &&& (65535 : Int64)).toInt32))), (.int (1 : Int32)), (.ref b1)])) rfl rfl (Jvm.hb hby at_29)
  obtain ⟨q9, hq9⟩ : ∃ z : Int32, z = (i2c (((ushrJ lc (16 : Int32)) &&& (65535 : Int64)).toInt32)) := ⟨_, rfl⟩
  have z10 : h4.size ≤ h8.size := Nat.le_of_eq W8.size.symm
  have V8 : Arv Z h8 b1 k1 .char (4 : Int32) [(.int q5), (.int q9), (.int (0 : Int32)), (.int (0 : Int32))] (.int (0 : Int32)) := by have q : Arv Z h8 b1 k1 .char (4 : Int32) [(.int q5), (.int (nar .char (i2c (((ushrJ lc (16 : Int32)) &&& (65535 : Int64)).toInt32)))), (.int (0 : Int32)), (.int (0 : Int32))] (.int (0 : Int32)) := Arv.set Ar7 q7 S7 M7 H7 G7 (fits_nar_char _) W8 1 rfl (Nat.le_of_ble_eq_true rfl); rw [show nar .char (i2c (((ushrJ lc (16 : Int32)) &&& (65535 : Int64)).toInt32)) = q9 from (by rw [hq9]; exact own_nari2c _)] at q; exact q
  have N8 := Fr.snoc X8 N4 (show n0 ≤ b1 by omega)
  obtain ⟨cl11, Ar11, q11, S11, M11, H11, G11⟩ := id V8
  have hin11 : ¬ ((2 : Int32) < 0 ∨ cl11.slots.size ≤ ((2 : Int32)).toNatClampNeg) := inb_of S11 ⟨by decide, by decide⟩
  obtain ⟨T12, h12, X12, e12, W12, st12⟩ := stC X8 hx hZ e8 Ar11 (j := (2 : Int32)) hin11 (g := (mkF m 43 #[.val (.long lc), .second, .val (.int sel), .val (.int rs), .val (.int rt), .val (.ref b1), .unset, .unset, .unset, .unset, .unset, .unset, .unset] [(.int (i2c (((ushrJ lc (32 : Int32)) &&& (65535 : Int64)).toInt32))), (.int (2 : Int32)), (.ref b1)])) rfl rfl (Jvm.hb hby at_43)
  obtain ⟨q13, hq13⟩ : ∃ z : Int32, z = (i2c (((ushrJ lc (32 : Int32)) &&& (65535 : Int64)).toInt32)) := ⟨_, rfl⟩
  have z14 : h8.size ≤ h12.size := Nat.le_of_eq W12.size.symm
  have V12 : Arv Z h12 b1 k1 .char (4 : Int32) [(.int q5), (.int q9), (.int q13), (.int (0 : Int32))] (.int (0 : Int32)) := by have q : Arv Z h12 b1 k1 .char (4 : Int32) [(.int q5), (.int q9), (.int (nar .char (i2c (((ushrJ lc (32 : Int32)) &&& (65535 : Int64)).toInt32)))), (.int (0 : Int32))] (.int (0 : Int32)) := Arv.set Ar11 q11 S11 M11 H11 G11 (fits_nar_char _) W12 2 rfl (Nat.le_of_ble_eq_true rfl); rw [show nar .char (i2c (((ushrJ lc (32 : Int32)) &&& (65535 : Int64)).toInt32)) = q13 from (by rw [hq13]; exact own_nari2c _)] at q; exact q
  have N12 := Fr.snoc X12 N8 (show n0 ≤ b1 by omega)
  obtain ⟨cl15, Ar15, q15, S15, M15, H15, G15⟩ := id V12
  have hin15 : ¬ ((3 : Int32) < 0 ∨ cl15.slots.size ≤ ((3 : Int32)).toNatClampNeg) := inb_of S15 ⟨by decide, by decide⟩
  obtain ⟨T16, h16, X16, e16, W16, st16⟩ := stC X12 hx hZ e12 Ar15 (j := (3 : Int32)) hin15 (g := (mkF m 57 #[.val (.long lc), .second, .val (.int sel), .val (.int rs), .val (.int rt), .val (.ref b1), .unset, .unset, .unset, .unset, .unset, .unset, .unset] [(.int (i2c (((ushrJ lc (48 : Int32)) &&& (65535 : Int64)).toInt32))), (.int (3 : Int32)), (.ref b1)])) rfl rfl (Jvm.hb hby at_57)
  obtain ⟨q17, hq17⟩ : ∃ z : Int32, z = (i2c (((ushrJ lc (48 : Int32)) &&& (65535 : Int64)).toInt32)) := ⟨_, rfl⟩
  have z18 : h12.size ≤ h16.size := Nat.le_of_eq W16.size.symm
  have V16 : Arv Z h16 b1 k1 .char (4 : Int32) [(.int q5), (.int q9), (.int q13), (.int q17)] (.int (0 : Int32)) := by have q : Arv Z h16 b1 k1 .char (4 : Int32) [(.int q5), (.int q9), (.int q13), (.int (nar .char (i2c (((ushrJ lc (48 : Int32)) &&& (65535 : Int64)).toInt32))))] (.int (0 : Int32)) := Arv.set Ar15 q15 S15 M15 H15 G15 (fits_nar_char _) W16 3 rfl (Nat.le_of_ble_eq_true rfl); rw [show nar .char (i2c (((ushrJ lc (48 : Int32)) &&& (65535 : Int64)).toInt32)) = q17 from (by rw [hq17]; exact own_nari2c _)] at q; exact q
  have N16 := Fr.snoc X16 N12 (show n0 ≤ b1 by omega)
  obtain ⟨T19, h19, X19, e19, E19, A19, D19, -, st19⟩ := newO X16 hx hZ hown (hw _ (List.mem_of_getElem? (i := 2) rfl)) (hw _ (List.mem_of_getElem? (i := 3) rfl)) (hw _ (List.mem_of_getElem? (i := 4) rfl)) e16 (g := (mkF m 58 #[.val (.long lc), .second, .val (.int sel), .val (.int rs), .val (.int rt), .val (.ref b1), .unset, .unset, .unset, .unset, .unset, .unset, .unset] [])) rfl (Jvm.hb hby at_58) (by decide) (by decide)
  obtain ⟨b19, g19⟩ : ∃ z, z = h16.size := ⟨_, rfl⟩
  rw [← g19] at A19 D19 st19
  have z20 : h16.size ≤ h19.size := E19.1
  have l19 : b19 < h19.size := A19.lt
  have F21 : Fld Z h19 b19 "java/lang/String" "coder" "B" (.int (0 : Int32)) := D19 (Or.inr (hw _ (List.mem_of_getElem? (i := 28) rfl))) (ty := .byte) (by decide)
  have F22 : Fld Z h19 b19 "java/lang/String" "value" "[B" .null := D19 (Or.inr (hw _ (List.mem_of_getElem? (i := 30) rfl))) (ty := (.array .byte)) (by decide)
  have hchs : own_chs [q5, q9, q13, q17] := (own_chsS (own_rng hq5) (own_chsS (own_rng hq9) (own_chsS (own_rng hq13) (own_chsS (own_rng hq17) own_chs0))))
  have s23 : ∀ t_, Steps p.tables e below (T19.setTop (mkF m 64 #[.val (.long lc), .second, .val (.int sel), .val (.int rs), .val (.int rt), .val (.ref b1), .unset, .unset, .unset, .unset, .unset, .unset, .unset] [(.ref b1), (.ref b19), (.ref b19)])) t_ → Steps p.tables e below (s₁.setTop (entryFrame m #[(.long lc), (.int sel), (.int rs), (.int rt)] maxLocals)) t_ := fun t_ k_ => pre0 t_ (by
    show Steps p.tables e below (s₁.setTop (mkF m 0 #[.val (.long lc), .second, .val (.int sel), .val (.int rs), .val (.int rt), .unset, .unset, .unset, .unset, .unset, .unset, .unset, .unset] [])) t_
    refine XS.iconst X0.here hx rfl (Jvm.hb hby at_0) ?_
    show Steps p.tables e below (s₁.setTop (mkF m 1 #[.val (.long lc), .second, .val (.int sel), .val (.int rs), .val (.int rt), .unset, .unset, .unset, .unset, .unset, .unset, .unset, .unset] [(.int (4 : Int32))])) _
    refine st1 _ ?_
    show Steps p.tables e below (T1.setTop (mkF m 3 #[.val (.long lc), .second, .val (.int sel), .val (.int rs), .val (.int rt), .unset, .unset, .unset, .unset, .unset, .unset, .unset, .unset] [(.ref b1)])) _
    refine XS.astore X1.here hx rfl (Jvm.hb hby at_3) rfl rfl (l' := #[.val (.long lc), .second, .val (.int sel), .val (.int rs), .val (.int rt), .val (.ref b1), .unset, .unset, .unset, .unset, .unset, .unset, .unset]) rfl ?_
    show Steps p.tables e below (T1.setTop (mkF m 5 #[.val (.long lc), .second, .val (.int sel), .val (.int rs), .val (.int rt), .val (.ref b1), .unset, .unset, .unset, .unset, .unset, .unset, .unset] [])) _
    refine XS.aload X1.here hx rfl (Jvm.hb hby at_5) rfl rfl ?_
    show Steps p.tables e below (T1.setTop (mkF m 7 #[.val (.long lc), .second, .val (.int sel), .val (.int rs), .val (.int rt), .val (.ref b1), .unset, .unset, .unset, .unset, .unset, .unset, .unset] [(.ref b1)])) _
    refine XS.iconst X1.here hx rfl (Jvm.hb hby at_7) ?_
    show Steps p.tables e below (T1.setTop (mkF m 8 #[.val (.long lc), .second, .val (.int sel), .val (.int rs), .val (.int rt), .val (.ref b1), .unset, .unset, .unset, .unset, .unset, .unset, .unset] [(.int (0 : Int32)), (.ref b1)])) _
    refine XS.lloadN X1.here hx rfl (Jvm.hb hby at_8) rfl ?_
    show Steps p.tables e below (T1.setTop (mkF m 9 #[.val (.long lc), .second, .val (.int sel), .val (.int rs), .val (.int rt), .val (.ref b1), .unset, .unset, .unset, .unset, .unset, .unset, .unset] [(.long lc), (.int (0 : Int32)), (.ref b1)])) _
    refine X1.ldc2Long hx hown (mvT hZ (hw _ (List.mem_of_getElem? (i := 1) rfl))) (g := (mkF m 9 #[.val (.long lc), .second, .val (.int sel), .val (.int rs), .val (.int rt), .val (.ref b1), .unset, .unset, .unset, .unset, .unset, .unset, .unset] [(.long lc), (.int (0 : Int32)), (.ref b1)])) rfl (Jvm.hb hby at_9) _ ?_
    show Steps p.tables e below (T1.setTop (mkF m 12 #[.val (.long lc), .second, .val (.int sel), .val (.int rs), .val (.int rt), .val (.ref b1), .unset, .unset, .unset, .unset, .unset, .unset, .unset] [(.long (65535 : Int64)), (.long lc), (.int (0 : Int32)), (.ref b1)])) _
    refine XS.land X1.here hx rfl (Jvm.hb hby at_12) rfl ?_
    show Steps p.tables e below (T1.setTop (mkF m 13 #[.val (.long lc), .second, .val (.int sel), .val (.int rs), .val (.int rt), .val (.ref b1), .unset, .unset, .unset, .unset, .unset, .unset, .unset] [(.long (lc &&& (65535 : Int64))), (.int (0 : Int32)), (.ref b1)])) _
    refine XS.l2i X1.here hx rfl (Jvm.hb hby at_13) rfl ?_
    show Steps p.tables e below (T1.setTop (mkF m 14 #[.val (.long lc), .second, .val (.int sel), .val (.int rs), .val (.int rt), .val (.ref b1), .unset, .unset, .unset, .unset, .unset, .unset, .unset] [(.int ((lc &&& (65535 : Int64)).toInt32)), (.int (0 : Int32)), (.ref b1)])) _
    refine XS.i2c X1.here hx rfl (Jvm.hb hby at_14) rfl ?_
    show Steps p.tables e below (T1.setTop (mkF m 15 #[.val (.long lc), .second, .val (.int sel), .val (.int rs), .val (.int rt), .val (.ref b1), .unset, .unset, .unset, .unset, .unset, .unset, .unset] [(.int (i2c ((lc &&& (65535 : Int64)).toInt32))), (.int (0 : Int32)), (.ref b1)])) _
    refine st4 _ ?_
    show Steps p.tables e below (T4.setTop (mkF m 16 #[.val (.long lc), .second, .val (.int sel), .val (.int rs), .val (.int rt), .val (.ref b1), .unset, .unset, .unset, .unset, .unset, .unset, .unset] [])) _
    refine XS.aload X4.here hx rfl (Jvm.hb hby at_16) rfl rfl ?_
    show Steps p.tables e below (T4.setTop (mkF m 18 #[.val (.long lc), .second, .val (.int sel), .val (.int rs), .val (.int rt), .val (.ref b1), .unset, .unset, .unset, .unset, .unset, .unset, .unset] [(.ref b1)])) _
    refine XS.iconst X4.here hx rfl (Jvm.hb hby at_18) ?_
    show Steps p.tables e below (T4.setTop (mkF m 19 #[.val (.long lc), .second, .val (.int sel), .val (.int rs), .val (.int rt), .val (.ref b1), .unset, .unset, .unset, .unset, .unset, .unset, .unset] [(.int (1 : Int32)), (.ref b1)])) _
    refine XS.lloadN X4.here hx rfl (Jvm.hb hby at_19) rfl ?_
    show Steps p.tables e below (T4.setTop (mkF m 20 #[.val (.long lc), .second, .val (.int sel), .val (.int rs), .val (.int rt), .val (.ref b1), .unset, .unset, .unset, .unset, .unset, .unset, .unset] [(.long lc), (.int (1 : Int32)), (.ref b1)])) _
    refine XS.bipush X4.here hx rfl (Jvm.hb hby at_20) ?_
    show Steps p.tables e below (T4.setTop (mkF m 22 #[.val (.long lc), .second, .val (.int sel), .val (.int rs), .val (.int rt), .val (.ref b1), .unset, .unset, .unset, .unset, .unset, .unset, .unset] [(.int (16 : Int32)), (.long lc), (.int (1 : Int32)), (.ref b1)])) _
    refine XS.lushr X4.here hx rfl (Jvm.hb hby at_22) rfl ?_
    show Steps p.tables e below (T4.setTop (mkF m 23 #[.val (.long lc), .second, .val (.int sel), .val (.int rs), .val (.int rt), .val (.ref b1), .unset, .unset, .unset, .unset, .unset, .unset, .unset] [(.long (ushrJ lc (16 : Int32))), (.int (1 : Int32)), (.ref b1)])) _
    refine X4.ldc2Long hx hown (mvT hZ (hw _ (List.mem_of_getElem? (i := 1) rfl))) (g := (mkF m 23 #[.val (.long lc), .second, .val (.int sel), .val (.int rs), .val (.int rt), .val (.ref b1), .unset, .unset, .unset, .unset, .unset, .unset, .unset] [(.long (ushrJ lc (16 : Int32))), (.int (1 : Int32)), (.ref b1)])) rfl (Jvm.hb hby at_23) _ ?_
    show Steps p.tables e below (T4.setTop (mkF m 26 #[.val (.long lc), .second, .val (.int sel), .val (.int rs), .val (.int rt), .val (.ref b1), .unset, .unset, .unset, .unset, .unset, .unset, .unset] [(.long (65535 : Int64)), (.long (ushrJ lc (16 : Int32))), (.int (1 : Int32)), (.ref b1)])) _
    refine XS.land X4.here hx rfl (Jvm.hb hby at_26) rfl ?_
    show Steps p.tables e below (T4.setTop (mkF m 27 #[.val (.long lc), .second, .val (.int sel), .val (.int rs), .val (.int rt), .val (.ref b1), .unset, .unset, .unset, .unset, .unset, .unset, .unset] [(.long ((ushrJ lc (16 : Int32)) &&& (65535 : Int64))), (.int (1 : Int32)), (.ref b1)])) _
    refine XS.l2i X4.here hx rfl (Jvm.hb hby at_27) rfl ?_
    show Steps p.tables e below (T4.setTop (mkF m 28 #[.val (.long lc), .second, .val (.int sel), .val (.int rs), .val (.int rt), .val (.ref b1), .unset, .unset, .unset, .unset, .unset, .unset, .unset] [(.int (((ushrJ lc (16 : Int32)) &&& (65535 : Int64)).toInt32)), (.int (1 : Int32)), (.ref b1)])) _
    refine XS.i2c X4.here hx rfl (Jvm.hb hby at_28) rfl ?_
    show Steps p.tables e below (T4.setTop (mkF m 29 #[.val (.long lc), .second, .val (.int sel), .val (.int rs), .val (.int rt), .val (.ref b1), .unset, .unset, .unset, .unset, .unset, .unset, .unset] [(.int (i2c (((ushrJ lc (16 : Int32)) &&& (65535 : Int64)).toInt32))), (.int (1 : Int32)), (.ref b1)])) _
    refine st8 _ ?_
    show Steps p.tables e below (T8.setTop (mkF m 30 #[.val (.long lc), .second, .val (.int sel), .val (.int rs), .val (.int rt), .val (.ref b1), .unset, .unset, .unset, .unset, .unset, .unset, .unset] [])) _
    refine XS.aload X8.here hx rfl (Jvm.hb hby at_30) rfl rfl ?_
    show Steps p.tables e below (T8.setTop (mkF m 32 #[.val (.long lc), .second, .val (.int sel), .val (.int rs), .val (.int rt), .val (.ref b1), .unset, .unset, .unset, .unset, .unset, .unset, .unset] [(.ref b1)])) _
    refine XS.iconst X8.here hx rfl (Jvm.hb hby at_32) ?_
    show Steps p.tables e below (T8.setTop (mkF m 33 #[.val (.long lc), .second, .val (.int sel), .val (.int rs), .val (.int rt), .val (.ref b1), .unset, .unset, .unset, .unset, .unset, .unset, .unset] [(.int (2 : Int32)), (.ref b1)])) _
    refine XS.lloadN X8.here hx rfl (Jvm.hb hby at_33) rfl ?_
    show Steps p.tables e below (T8.setTop (mkF m 34 #[.val (.long lc), .second, .val (.int sel), .val (.int rs), .val (.int rt), .val (.ref b1), .unset, .unset, .unset, .unset, .unset, .unset, .unset] [(.long lc), (.int (2 : Int32)), (.ref b1)])) _
    refine XS.bipush X8.here hx rfl (Jvm.hb hby at_34) ?_
    show Steps p.tables e below (T8.setTop (mkF m 36 #[.val (.long lc), .second, .val (.int sel), .val (.int rs), .val (.int rt), .val (.ref b1), .unset, .unset, .unset, .unset, .unset, .unset, .unset] [(.int (32 : Int32)), (.long lc), (.int (2 : Int32)), (.ref b1)])) _
    refine XS.lushr X8.here hx rfl (Jvm.hb hby at_36) rfl ?_
    show Steps p.tables e below (T8.setTop (mkF m 37 #[.val (.long lc), .second, .val (.int sel), .val (.int rs), .val (.int rt), .val (.ref b1), .unset, .unset, .unset, .unset, .unset, .unset, .unset] [(.long (ushrJ lc (32 : Int32))), (.int (2 : Int32)), (.ref b1)])) _
    refine X8.ldc2Long hx hown (mvT hZ (hw _ (List.mem_of_getElem? (i := 1) rfl))) (g := (mkF m 37 #[.val (.long lc), .second, .val (.int sel), .val (.int rs), .val (.int rt), .val (.ref b1), .unset, .unset, .unset, .unset, .unset, .unset, .unset] [(.long (ushrJ lc (32 : Int32))), (.int (2 : Int32)), (.ref b1)])) rfl (Jvm.hb hby at_37) _ ?_
    show Steps p.tables e below (T8.setTop (mkF m 40 #[.val (.long lc), .second, .val (.int sel), .val (.int rs), .val (.int rt), .val (.ref b1), .unset, .unset, .unset, .unset, .unset, .unset, .unset] [(.long (65535 : Int64)), (.long (ushrJ lc (32 : Int32))), (.int (2 : Int32)), (.ref b1)])) _
    refine XS.land X8.here hx rfl (Jvm.hb hby at_40) rfl ?_
    show Steps p.tables e below (T8.setTop (mkF m 41 #[.val (.long lc), .second, .val (.int sel), .val (.int rs), .val (.int rt), .val (.ref b1), .unset, .unset, .unset, .unset, .unset, .unset, .unset] [(.long ((ushrJ lc (32 : Int32)) &&& (65535 : Int64))), (.int (2 : Int32)), (.ref b1)])) _
    refine XS.l2i X8.here hx rfl (Jvm.hb hby at_41) rfl ?_
    show Steps p.tables e below (T8.setTop (mkF m 42 #[.val (.long lc), .second, .val (.int sel), .val (.int rs), .val (.int rt), .val (.ref b1), .unset, .unset, .unset, .unset, .unset, .unset, .unset] [(.int (((ushrJ lc (32 : Int32)) &&& (65535 : Int64)).toInt32)), (.int (2 : Int32)), (.ref b1)])) _
    refine XS.i2c X8.here hx rfl (Jvm.hb hby at_42) rfl ?_
    show Steps p.tables e below (T8.setTop (mkF m 43 #[.val (.long lc), .second, .val (.int sel), .val (.int rs), .val (.int rt), .val (.ref b1), .unset, .unset, .unset, .unset, .unset, .unset, .unset] [(.int (i2c (((ushrJ lc (32 : Int32)) &&& (65535 : Int64)).toInt32))), (.int (2 : Int32)), (.ref b1)])) _
    refine st12 _ ?_
    show Steps p.tables e below (T12.setTop (mkF m 44 #[.val (.long lc), .second, .val (.int sel), .val (.int rs), .val (.int rt), .val (.ref b1), .unset, .unset, .unset, .unset, .unset, .unset, .unset] [])) _
    refine XS.aload X12.here hx rfl (Jvm.hb hby at_44) rfl rfl ?_
    show Steps p.tables e below (T12.setTop (mkF m 46 #[.val (.long lc), .second, .val (.int sel), .val (.int rs), .val (.int rt), .val (.ref b1), .unset, .unset, .unset, .unset, .unset, .unset, .unset] [(.ref b1)])) _
    refine XS.iconst X12.here hx rfl (Jvm.hb hby at_46) ?_
    show Steps p.tables e below (T12.setTop (mkF m 47 #[.val (.long lc), .second, .val (.int sel), .val (.int rs), .val (.int rt), .val (.ref b1), .unset, .unset, .unset, .unset, .unset, .unset, .unset] [(.int (3 : Int32)), (.ref b1)])) _
    refine XS.lloadN X12.here hx rfl (Jvm.hb hby at_47) rfl ?_
    show Steps p.tables e below (T12.setTop (mkF m 48 #[.val (.long lc), .second, .val (.int sel), .val (.int rs), .val (.int rt), .val (.ref b1), .unset, .unset, .unset, .unset, .unset, .unset, .unset] [(.long lc), (.int (3 : Int32)), (.ref b1)])) _
    refine XS.bipush X12.here hx rfl (Jvm.hb hby at_48) ?_
    show Steps p.tables e below (T12.setTop (mkF m 50 #[.val (.long lc), .second, .val (.int sel), .val (.int rs), .val (.int rt), .val (.ref b1), .unset, .unset, .unset, .unset, .unset, .unset, .unset] [(.int (48 : Int32)), (.long lc), (.int (3 : Int32)), (.ref b1)])) _
    refine XS.lushr X12.here hx rfl (Jvm.hb hby at_50) rfl ?_
    show Steps p.tables e below (T12.setTop (mkF m 51 #[.val (.long lc), .second, .val (.int sel), .val (.int rs), .val (.int rt), .val (.ref b1), .unset, .unset, .unset, .unset, .unset, .unset, .unset] [(.long (ushrJ lc (48 : Int32))), (.int (3 : Int32)), (.ref b1)])) _
    refine X12.ldc2Long hx hown (mvT hZ (hw _ (List.mem_of_getElem? (i := 1) rfl))) (g := (mkF m 51 #[.val (.long lc), .second, .val (.int sel), .val (.int rs), .val (.int rt), .val (.ref b1), .unset, .unset, .unset, .unset, .unset, .unset, .unset] [(.long (ushrJ lc (48 : Int32))), (.int (3 : Int32)), (.ref b1)])) rfl (Jvm.hb hby at_51) _ ?_
    show Steps p.tables e below (T12.setTop (mkF m 54 #[.val (.long lc), .second, .val (.int sel), .val (.int rs), .val (.int rt), .val (.ref b1), .unset, .unset, .unset, .unset, .unset, .unset, .unset] [(.long (65535 : Int64)), (.long (ushrJ lc (48 : Int32))), (.int (3 : Int32)), (.ref b1)])) _
    refine XS.land X12.here hx rfl (Jvm.hb hby at_54) rfl ?_
    show Steps p.tables e below (T12.setTop (mkF m 55 #[.val (.long lc), .second, .val (.int sel), .val (.int rs), .val (.int rt), .val (.ref b1), .unset, .unset, .unset, .unset, .unset, .unset, .unset] [(.long ((ushrJ lc (48 : Int32)) &&& (65535 : Int64))), (.int (3 : Int32)), (.ref b1)])) _
    refine XS.l2i X12.here hx rfl (Jvm.hb hby at_55) rfl ?_
    show Steps p.tables e below (T12.setTop (mkF m 56 #[.val (.long lc), .second, .val (.int sel), .val (.int rs), .val (.int rt), .val (.ref b1), .unset, .unset, .unset, .unset, .unset, .unset, .unset] [(.int (((ushrJ lc (48 : Int32)) &&& (65535 : Int64)).toInt32)), (.int (3 : Int32)), (.ref b1)])) _
    refine XS.i2c X12.here hx rfl (Jvm.hb hby at_56) rfl ?_
    show Steps p.tables e below (T12.setTop (mkF m 57 #[.val (.long lc), .second, .val (.int sel), .val (.int rs), .val (.int rt), .val (.ref b1), .unset, .unset, .unset, .unset, .unset, .unset, .unset] [(.int (i2c (((ushrJ lc (48 : Int32)) &&& (65535 : Int64)).toInt32))), (.int (3 : Int32)), (.ref b1)])) _
    refine st16 _ ?_
    show Steps p.tables e below (T16.setTop (mkF m 58 #[.val (.long lc), .second, .val (.int sel), .val (.int rs), .val (.int rt), .val (.ref b1), .unset, .unset, .unset, .unset, .unset, .unset, .unset] [])) _
    refine st19 _ ?_
    show Steps p.tables e below (T19.setTop (mkF m 61 #[.val (.long lc), .second, .val (.int sel), .val (.int rs), .val (.int rt), .val (.ref b1), .unset, .unset, .unset, .unset, .unset, .unset, .unset] [(.ref b19)])) _
    refine XS.dup X19.here hx rfl (Jvm.hb hby at_61) rfl rfl ?_
    show Steps p.tables e below (T19.setTop (mkF m 62 #[.val (.long lc), .second, .val (.int sel), .val (.int rs), .val (.int rt), .val (.ref b1), .unset, .unset, .unset, .unset, .unset, .unset, .unset] [(.ref b19), (.ref b19)])) _
    refine XS.aload X19.here hx rfl (Jvm.hb hby at_62) rfl rfl ?_
    show Steps p.tables e below (T19.setTop (mkF m 64 #[.val (.long lc), .second, .val (.int sel), .val (.int rs), .val (.int rt), .val (.ref b1), .unset, .unset, .unset, .unset, .unset, .unset, .unset] [(.ref b1), (.ref b19), (.ref b19)])) _
    show Steps p.tables e below (T19.setTop (mkF m 64 #[.val (.long lc), .second, .val (.int sel), .val (.int rs), .val (.int rt), .val (.ref b1), .unset, .unset, .unset, .unset, .unset, .unset, .unset] [(.ref b1), (.ref b19), (.ref b19)])) t_
    exact k_)
  have O24 : Old Z n0 h19 := ((((((OX.ext E1).wr W4 (show n0 ≤ b1 by omega)).wr W8 (show n0 ≤ b1 by omega)).wr W12 (show n0 ≤ b1 by omega)).wr W16 (show n0 ≤ b1 by omega)).ext E19)
  have f25 : Arv Z h19 b1 k1 .char (4 : Int32) [(.int q5), (.int q9), (.int q13), (.int q17)] (.int (0 : Int32)) := (V16.ext E19)
  have Zc26 : n0 ≤ h19.size := by omega
  obtain ⟨_, _, ⟨T27, L27, k27, n27⟩, -, X27, ⟨Lc27, hQ27, l27, y27, z27⟩, st27⟩ := X19.specialBack hx (y := (⟨"java/lang/String", "<init>", "([C)V"⟩ : MethodName)) rfl hown (mvT hZ (hw _ (List.mem_of_getElem? (i := 5) rfl))) (mvT hZ (hw _ (List.mem_of_getElem? (i := 6) rfl))) (mvT hZ (hw _ (List.mem_of_getElem? (i := 7) rfl))) (by decide) (backOf (W := 1) (rmIni1 l Z a0 hw [] b19 b1 cst [q5, q9, q13, q17] k1 4 h19 n0 Zc26 I1 I2 I3 I4 O24 (hcst : ¬ (cst = (0 : Int32))) A19 F22 F21 f25 rfl (by first | assumption | rfl | decide | omega : 4 ≤ 4) (by first | assumption | rfl | decide | omega : 0 < 4) hchs (by first | assumption | rfl | decide | omega : n0 ≤ b19) (by first | assumption | rfl | decide | omega : @Ne Nat b19 b1)) hZ (hw _ (List.mem_of_getElem? (i := 7) rfl)) (hw _ (List.mem_of_getElem? (i := 4) rfl)) (by decide) (by decide)) (g := (mkF m 64 #[.val (.long lc), .second, .val (.int sel), .val (.int rs), .val (.int rt), .val (.ref b1), .unset, .unset, .unset, .unset, .unset, .unset, .unset] [(.ref b1), (.ref b19), (.ref b19)])) rfl (by rw [hml]; rfl) (Steps.refl _) (a := b19) (argsL := [(.ref b1)]) (rest := [(.ref b19)]) (lenOf pd___C_V rfl) rfl (by show 2 * 0 + _ ≤ _; exact Nat.le_of_eq rfl) (Jvm.hb hby at_64) (fun _ _ => ⟨rfl, e19, (by decide : 2 + 2 ≤ _), (by decide : 8 + 12 ≤ _)⟩)
  dsimp only [Pt.U, Pt.locs, Pt.cells, Pt.slots] at X27 l27 y27 z27 st27 hQ27
  subst l27 y27 z27
  obtain ⟨b_27, kb_27, rfl, N27q, K27, Fq27_0, Fq27_1, Fq27_2, Fq27_3, P27_0⟩ := hQ27
  have N27 := Fr.app N16 N27q
  obtain ⟨h27, e27⟩ : ∃ z, T27.heap = z := ⟨_, rfl⟩
  rw [e27] at K27 Fq27_0 Fq27_1 Fq27_2 Fq27_3
  have z28 : h19.size ≤ h27.size := K27.1
  have lt27_0 : @LT.lt Nat _ b19 h27.size := Fq27_0.lt
  have lt27_3 : @LT.lt Nat _ b_27 h27.size := Fq27_3.lt
  obtain ⟨ms, hms, hmsl⟩ := own_and3 sel
  obtain ⟨q29, hq29⟩ : ∃ z : Int32, z = (sel &&& (4 : Int32)) := ⟨_, rfl⟩
  have s30 : ∀ t_, Steps p.tables e below (T27.setTop (mkF m 72 #[.val (.long lc), .second, .val (.int sel), .val (.int rs), .val (.int rt), .val (.ref b1), .val (.ref b19), .unset, .unset, .unset, .unset, .unset, .unset] [(.int q29)])) t_ → Steps p.tables e below (s₁.setTop (entryFrame m #[(.long lc), (.int sel), (.int rs), (.int rt)] maxLocals)) t_ := fun t_ k_ => s23 t_ (by
    show Steps p.tables e below (T19.setTop (mkF m 64 #[.val (.long lc), .second, .val (.int sel), .val (.int rs), .val (.int rt), .val (.ref b1), .unset, .unset, .unset, .unset, .unset, .unset, .unset] [(.ref b1), (.ref b19), (.ref b19)])) t_
    refine st27.trans ?_
    show Steps p.tables e below (T27.setTop (mkF m 67 #[.val (.long lc), .second, .val (.int sel), .val (.int rs), .val (.int rt), .val (.ref b1), .unset, .unset, .unset, .unset, .unset, .unset, .unset] [(.ref b19)])) _
    refine XS.astore X27.here hx rfl (Jvm.hb hby at_67) rfl rfl (l' := #[.val (.long lc), .second, .val (.int sel), .val (.int rs), .val (.int rt), .val (.ref b1), .val (.ref b19), .unset, .unset, .unset, .unset, .unset, .unset]) rfl ?_
    show Steps p.tables e below (T27.setTop (mkF m 69 #[.val (.long lc), .second, .val (.int sel), .val (.int rs), .val (.int rt), .val (.ref b1), .val (.ref b19), .unset, .unset, .unset, .unset, .unset, .unset] [])) _
    refine XS.iloadN X27.here hx rfl (Jvm.hb hby at_69) rfl ?_
    show Steps p.tables e below (T27.setTop (mkF m 70 #[.val (.long lc), .second, .val (.int sel), .val (.int rs), .val (.int rt), .val (.ref b1), .val (.ref b19), .unset, .unset, .unset, .unset, .unset, .unset] [(.int sel)])) _
    refine XS.iconst X27.here hx rfl (Jvm.hb hby at_70) ?_
    show Steps p.tables e below (T27.setTop (mkF m 71 #[.val (.long lc), .second, .val (.int sel), .val (.int rs), .val (.int rt), .val (.ref b1), .val (.ref b19), .unset, .unset, .unset, .unset, .unset, .unset] [(.int (4 : Int32)), (.int sel)])) _
    refine XS.iand X27.here hx rfl (Jvm.hb hby at_71) rfl ?_
    show Steps p.tables e below (T27.setTop (mkF m 72 #[.val (.long lc), .second, .val (.int sel), .val (.int rs), .val (.int rt), .val (.ref b1), .val (.ref b19), .unset, .unset, .unset, .unset, .unset, .unset] [(.int (sel &&& (4 : Int32)))])) _
    exact castTop (by simp only [hq29]) k_)
  obtain ⟨q31, hq31⟩ : ∃ z : Int32, z = (if q29 = (0 : Int32) then ([q5, q9, q13, q17].getD ms 0) else (i2c ((ushr sel (16 : Int32)) &&& (65535 : Int32)))) := ⟨_, rfl⟩
  obtain ⟨T32, X32, e32, s32⟩ := seg X27 (fun T' => T'.heap = h27 ∧ ∀ t_, Steps p.tables e below (T'.setTop (mkF m 92 #[.val (.long lc), .second, .val (.int sel), .val (.int rs), .val (.int rt), .val (.ref b1), .val (.ref b19), .unset, .unset, .unset, .unset, .unset, .unset] [(.int q31)])) t_ → Steps p.tables e below (s₁.setTop (entryFrame m #[(.long lc), (.int sel), (.int rs), (.int rt)] maxLocals)) t_) (by
    by_cases h33 : q29 = (0 : Int32)
    · have f34 : Arv Z h27 b1 k1 .char (4 : Int32) [(.int q5), (.int q9), (.int q13), (.int q17)] (.int (0 : Int32)) := (f25.keep K27 (ninS (show @Ne Nat b1 b19 by omega) nin0))
      obtain ⟨cl35, Ar35, -, S35, M35, H35, -⟩ := id f34
      have hin35 : ¬ ((Int32.ofNat ms) < 0 ∨ cl35.slots.size ≤ ((Int32.ofNat ms)).toNatClampNeg) := inb_of S35 (own_in (n := 4) hmsl (by decide))
      have hat35 : cl35.slots[((Int32.ofNat ms)).toNatClampNeg]? = some (.int ([q5, q9, q13, q17].getD ms 0)) := H35.at hin35 (own_getc [q5, q9, q13, q17] ms _ (by simpa using hmsl) (by simp))
      have s36 : ∀ t_, Steps p.tables e below (T27.setTop (mkF m 92 #[.val (.long lc), .second, .val (.int sel), .val (.int rs), .val (.int rt), .val (.ref b1), .val (.ref b19), .unset, .unset, .unset, .unset, .unset, .unset] [(.int ([q5, q9, q13, q17].getD ms 0))])) t_ → Steps p.tables e below (s₁.setTop (entryFrame m #[(.long lc), (.int sel), (.int rs), (.int rt)] maxLocals)) t_ := fun t_ k_ => s30 t_ (by
        show Steps p.tables e below (T27.setTop (mkF m 72 #[.val (.long lc), .second, .val (.int sel), .val (.int rs), .val (.int rt), .val (.ref b1), .val (.ref b19), .unset, .unset, .unset, .unset, .unset, .unset] [(.int q29)])) t_
        refine XS.ifYes X27.here hx rfl (pc0 := 72) (pc' := 86) rfl (Jvm.hb hby at_72) rfl ((if0 _ _).trans (teq h33).1) (by decide) (by decide) ?_
        show Steps p.tables e below (T27.setTop (mkF m 86 #[.val (.long lc), .second, .val (.int sel), .val (.int rs), .val (.int rt), .val (.ref b1), .val (.ref b19), .unset, .unset, .unset, .unset, .unset, .unset] [])) _
        refine XS.aload X27.here hx rfl (Jvm.hb hby at_86) rfl rfl ?_
        show Steps p.tables e below (T27.setTop (mkF m 88 #[.val (.long lc), .second, .val (.int sel), .val (.int rs), .val (.int rt), .val (.ref b1), .val (.ref b19), .unset, .unset, .unset, .unset, .unset, .unset] [(.ref b1)])) _
        refine XS.iloadN X27.here hx rfl (Jvm.hb hby at_88) rfl ?_
        show Steps p.tables e below (T27.setTop (mkF m 89 #[.val (.long lc), .second, .val (.int sel), .val (.int rs), .val (.int rt), .val (.ref b1), .val (.ref b19), .unset, .unset, .unset, .unset, .unset, .unset] [(.int sel), (.ref b1)])) _
        refine XS.iconst X27.here hx rfl (Jvm.hb hby at_89) ?_
        show Steps p.tables e below (T27.setTop (mkF m 90 #[.val (.long lc), .second, .val (.int sel), .val (.int rs), .val (.int rt), .val (.ref b1), .val (.ref b19), .unset, .unset, .unset, .unset, .unset, .unset] [(.int (3 : Int32)), (.int sel), (.ref b1)])) _
        refine XS.iand X27.here hx rfl (Jvm.hb hby at_90) rfl ?_
        show Steps p.tables e below (T27.setTop (mkF m 91 #[.val (.long lc), .second, .val (.int sel), .val (.int rs), .val (.int rt), .val (.ref b1), .val (.ref b19), .unset, .unset, .unset, .unset, .unset, .unset] [(.int (sel &&& (3 : Int32))), (.ref b1)])) _
        refine castTop (g' := (mkF m 91 #[.val (.long lc), .second, .val (.int sel), .val (.int rs), .val (.int rt), .val (.ref b1), .val (.ref b19), .unset, .unset, .unset, .unset, .unset, .unset] [(.int (Int32.ofNat ms)), (.ref b1)])) (by rw [hms]) ?_
        show Steps p.tables e below (T27.setTop (mkF m 91 #[.val (.long lc), .second, .val (.int sel), .val (.int rs), .val (.int rt), .val (.ref b1), .val (.ref b19), .unset, .unset, .unset, .unset, .unset, .unset] [(.int (Int32.ofNat ms)), (.ref b1)])) _
        refine X27.caload hx (j := (Int32.ofNat ms)) (v := (.int ([q5, q9, q13, q17].getD ms 0))) (by rw [e27]; exact Ar35.1) (State.isArrayOf_alike hZ.alike Ar35.2.1) Ar35.2.2 hin35 hat35 (g := (mkF m 91 #[.val (.long lc), .second, .val (.int sel), .val (.int rs), .val (.int rt), .val (.ref b1), .val (.ref b19), .unset, .unset, .unset, .unset, .unset, .unset] [(.int (Int32.ofNat ms)), (.ref b1)])) rfl rfl (Jvm.hb hby at_91) _ ?_
        show Steps p.tables e below (T27.setTop (mkF m 92 #[.val (.long lc), .second, .val (.int sel), .val (.int rs), .val (.int rt), .val (.ref b1), .val (.ref b19), .unset, .unset, .unset, .unset, .unset, .unset] [(.int ([q5, q9, q13, q17].getD ms 0))])) _
        show Steps p.tables e below (T27.setTop (mkF m 92 #[.val (.long lc), .second, .val (.int sel), .val (.int rs), .val (.int rt), .val (.ref b1), .val (.ref b19), .unset, .unset, .unset, .unset, .unset, .unset] [(.int ([q5, q9, q13, q17].getD ms 0))])) t_
        exact k_)
      exact ⟨T27, X27, e27, fun t_ k_ => s36 t_ (castTop (by simp only [hq31, if_pos h33]) k_)⟩
    · have s37 : ∀ t_, Steps p.tables e below (T27.setTop (mkF m 92 #[.val (.long lc), .second, .val (.int sel), .val (.int rs), .val (.int rt), .val (.ref b1), .val (.ref b19), .unset, .unset, .unset, .unset, .unset, .unset] [(.int (i2c ((ushr sel (16 : Int32)) &&& (65535 : Int32))))])) t_ → Steps p.tables e below (s₁.setTop (entryFrame m #[(.long lc), (.int sel), (.int rs), (.int rt)] maxLocals)) t_ := fun t_ k_ => s30 t_ (by
        show Steps p.tables e below (T27.setTop (mkF m 72 #[.val (.long lc), .second, .val (.int sel), .val (.int rs), .val (.int rt), .val (.ref b1), .val (.ref b19), .unset, .unset, .unset, .unset, .unset, .unset] [(.int q29)])) t_
        refine XS.ifNo X27.here hx rfl (Jvm.hb hby at_72) rfl ((if0 _ _).trans (feq h33).1) ?_
        show Steps p.tables e below (T27.setTop (mkF m 75 #[.val (.long lc), .second, .val (.int sel), .val (.int rs), .val (.int rt), .val (.ref b1), .val (.ref b19), .unset, .unset, .unset, .unset, .unset, .unset] [])) _
        refine XS.iloadN X27.here hx rfl (Jvm.hb hby at_75) rfl ?_
        show Steps p.tables e below (T27.setTop (mkF m 76 #[.val (.long lc), .second, .val (.int sel), .val (.int rs), .val (.int rt), .val (.ref b1), .val (.ref b19), .unset, .unset, .unset, .unset, .unset, .unset] [(.int sel)])) _
        refine XS.bipush X27.here hx rfl (Jvm.hb hby at_76) ?_
        show Steps p.tables e below (T27.setTop (mkF m 78 #[.val (.long lc), .second, .val (.int sel), .val (.int rs), .val (.int rt), .val (.ref b1), .val (.ref b19), .unset, .unset, .unset, .unset, .unset, .unset] [(.int (16 : Int32)), (.int sel)])) _
        refine XS.iushr X27.here hx rfl (Jvm.hb hby at_78) rfl ?_
        show Steps p.tables e below (T27.setTop (mkF m 79 #[.val (.long lc), .second, .val (.int sel), .val (.int rs), .val (.int rt), .val (.ref b1), .val (.ref b19), .unset, .unset, .unset, .unset, .unset, .unset] [(.int (ushr sel (16 : Int32)))])) _
        refine X27.ldcInt hx hown (mvT hZ (hw _ (List.mem_of_getElem? (i := 120) rfl))) (g := (mkF m 79 #[.val (.long lc), .second, .val (.int sel), .val (.int rs), .val (.int rt), .val (.ref b1), .val (.ref b19), .unset, .unset, .unset, .unset, .unset, .unset] [(.int (ushr sel (16 : Int32)))])) rfl (Jvm.hb hby at_79) _ ?_
        show Steps p.tables e below (T27.setTop (mkF m 81 #[.val (.long lc), .second, .val (.int sel), .val (.int rs), .val (.int rt), .val (.ref b1), .val (.ref b19), .unset, .unset, .unset, .unset, .unset, .unset] [(.int (65535 : Int32)), (.int (ushr sel (16 : Int32)))])) _
        refine XS.iand X27.here hx rfl (Jvm.hb hby at_81) rfl ?_
        show Steps p.tables e below (T27.setTop (mkF m 82 #[.val (.long lc), .second, .val (.int sel), .val (.int rs), .val (.int rt), .val (.ref b1), .val (.ref b19), .unset, .unset, .unset, .unset, .unset, .unset] [(.int ((ushr sel (16 : Int32)) &&& (65535 : Int32)))])) _
        refine XS.i2c X27.here hx rfl (Jvm.hb hby at_82) rfl ?_
        show Steps p.tables e below (T27.setTop (mkF m 83 #[.val (.long lc), .second, .val (.int sel), .val (.int rs), .val (.int rt), .val (.ref b1), .val (.ref b19), .unset, .unset, .unset, .unset, .unset, .unset] [(.int (i2c ((ushr sel (16 : Int32)) &&& (65535 : Int32))))])) _
        refine XS.goto X27.here hx rfl (pc0 := 83) (pc' := 92) rfl (Jvm.hb hby at_83) (by decide) (by decide) ?_
        show Steps p.tables e below (T27.setTop (mkF m 92 #[.val (.long lc), .second, .val (.int sel), .val (.int rs), .val (.int rt), .val (.ref b1), .val (.ref b19), .unset, .unset, .unset, .unset, .unset, .unset] [(.int (i2c ((ushr sel (16 : Int32)) &&& (65535 : Int32))))])) _
        show Steps p.tables e below (T27.setTop (mkF m 92 #[.val (.long lc), .second, .val (.int sel), .val (.int rs), .val (.int rt), .val (.ref b1), .val (.ref b19), .unset, .unset, .unset, .unset, .unset, .unset] [(.int (i2c ((ushr sel (16 : Int32)) &&& (65535 : Int32))))])) t_
        exact k_)
      exact ⟨T27, X27, e27, fun t_ k_ => s37 t_ (castTop (by simp only [hq31, if_neg h33]) k_)⟩)
  have rc : ¬ (q31 < (0 : Int32)) ∧ ¬ ((65535 : Int32) < q31) := by
    rw [hq31]; split
    · exact hchs _ (own_mem _ ms (by simpa using hmsl))
    · exact own_rng rfl
  obtain ⟨m38, hq38, hl38⟩ := own_modn rs 5 5 (by decide) (by decide) (by decide)
  obtain ⟨m39, hq39, hl39⟩ := own_modn rt 5 5 (by decide) (by decide) (by decide)
  have s40 : ∀ t_, Steps p.tables e below (T32.setTop (mkF m 115 #[.val (.long lc), .second, .val (.int sel), .val (.int rs), .val (.int rt), .val (.ref b1), .val (.ref b19), .val (.int q31), .val (.int (Int32.ofNat m38)), .val (.int (Int32.ofNat m39)), .unset, .unset, .unset] [(.int (Int32.ofNat m39)), (.int (Int32.ofNat m38))])) t_ → Steps p.tables e below (s₁.setTop (entryFrame m #[(.long lc), (.int sel), (.int rs), (.int rt)] maxLocals)) t_ := fun t_ k_ => s32 t_ (by
    show Steps p.tables e below (T32.setTop (mkF m 92 #[.val (.long lc), .second, .val (.int sel), .val (.int rs), .val (.int rt), .val (.ref b1), .val (.ref b19), .unset, .unset, .unset, .unset, .unset, .unset] [(.int q31)])) t_
    refine XS.istore X32.here hx rfl (Jvm.hb hby at_92) rfl (l' := #[.val (.long lc), .second, .val (.int sel), .val (.int rs), .val (.int rt), .val (.ref b1), .val (.ref b19), .val (.int q31), .unset, .unset, .unset, .unset, .unset]) rfl ?_
    show Steps p.tables e below (T32.setTop (mkF m 94 #[.val (.long lc), .second, .val (.int sel), .val (.int rs), .val (.int rt), .val (.ref b1), .val (.ref b19), .val (.int q31), .unset, .unset, .unset, .unset, .unset] [])) _
    refine XS.iloadN X32.here hx rfl (Jvm.hb hby at_94) rfl ?_
    show Steps p.tables e below (T32.setTop (mkF m 95 #[.val (.long lc), .second, .val (.int sel), .val (.int rs), .val (.int rt), .val (.ref b1), .val (.ref b19), .val (.int q31), .unset, .unset, .unset, .unset, .unset] [(.int rs)])) _
    refine X32.ldcInt hx hown (mvT hZ (hw _ (List.mem_of_getElem? (i := 31) rfl))) (g := (mkF m 95 #[.val (.long lc), .second, .val (.int sel), .val (.int rs), .val (.int rt), .val (.ref b1), .val (.ref b19), .val (.int q31), .unset, .unset, .unset, .unset, .unset] [(.int rs)])) rfl (Jvm.hb hby at_95) _ ?_
    show Steps p.tables e below (T32.setTop (mkF m 97 #[.val (.long lc), .second, .val (.int sel), .val (.int rs), .val (.int rt), .val (.ref b1), .val (.ref b19), .val (.int q31), .unset, .unset, .unset, .unset, .unset] [(.int (2147483647 : Int32)), (.int rs)])) _
    refine XS.iand X32.here hx rfl (Jvm.hb hby at_97) rfl ?_
    show Steps p.tables e below (T32.setTop (mkF m 98 #[.val (.long lc), .second, .val (.int sel), .val (.int rs), .val (.int rt), .val (.ref b1), .val (.ref b19), .val (.int q31), .unset, .unset, .unset, .unset, .unset] [(.int (rs &&& (2147483647 : Int32)))])) _
    refine XS.iconst X32.here hx rfl (Jvm.hb hby at_98) ?_
    show Steps p.tables e below (T32.setTop (mkF m 99 #[.val (.long lc), .second, .val (.int sel), .val (.int rs), .val (.int rt), .val (.ref b1), .val (.ref b19), .val (.int q31), .unset, .unset, .unset, .unset, .unset] [(.int (5 : Int32)), (.int (rs &&& (2147483647 : Int32)))])) _
    refine iremM (g := (mkF m 99 #[.val (.long lc), .second, .val (.int sel), .val (.int rs), .val (.int rt), .val (.ref b1), .val (.ref b19), .val (.int q31), .unset, .unset, .unset, .unset, .unset] [(.int (5 : Int32)), (.int (rs &&& (2147483647 : Int32)))])) X32 hx rfl (Jvm.hb hby at_99) rfl (by decide) ?_
    show Steps p.tables e below (T32.setTop (mkF m 100 #[.val (.long lc), .second, .val (.int sel), .val (.int rs), .val (.int rt), .val (.ref b1), .val (.ref b19), .val (.int q31), .unset, .unset, .unset, .unset, .unset] [(.int ((rs &&& (2147483647 : Int32)) % (5 : Int32)))])) _
    refine XS.istore X32.here hx rfl (Jvm.hb hby at_100) rfl (l' := #[.val (.long lc), .second, .val (.int sel), .val (.int rs), .val (.int rt), .val (.ref b1), .val (.ref b19), .val (.int q31), .val (.int ((rs &&& (2147483647 : Int32)) % (5 : Int32))), .unset, .unset, .unset, .unset]) rfl ?_
    show Steps p.tables e below (T32.setTop (mkF m 102 #[.val (.long lc), .second, .val (.int sel), .val (.int rs), .val (.int rt), .val (.ref b1), .val (.ref b19), .val (.int q31), .val (.int ((rs &&& (2147483647 : Int32)) % (5 : Int32))), .unset, .unset, .unset, .unset] [])) _
    refine XS.iload X32.here hx rfl (Jvm.hb hby at_102) rfl ?_
    show Steps p.tables e below (T32.setTop (mkF m 104 #[.val (.long lc), .second, .val (.int sel), .val (.int rs), .val (.int rt), .val (.ref b1), .val (.ref b19), .val (.int q31), .val (.int ((rs &&& (2147483647 : Int32)) % (5 : Int32))), .unset, .unset, .unset, .unset] [(.int rt)])) _
    refine X32.ldcInt hx hown (mvT hZ (hw _ (List.mem_of_getElem? (i := 31) rfl))) (g := (mkF m 104 #[.val (.long lc), .second, .val (.int sel), .val (.int rs), .val (.int rt), .val (.ref b1), .val (.ref b19), .val (.int q31), .val (.int ((rs &&& (2147483647 : Int32)) % (5 : Int32))), .unset, .unset, .unset, .unset] [(.int rt)])) rfl (Jvm.hb hby at_104) _ ?_
    show Steps p.tables e below (T32.setTop (mkF m 106 #[.val (.long lc), .second, .val (.int sel), .val (.int rs), .val (.int rt), .val (.ref b1), .val (.ref b19), .val (.int q31), .val (.int ((rs &&& (2147483647 : Int32)) % (5 : Int32))), .unset, .unset, .unset, .unset] [(.int (2147483647 : Int32)), (.int rt)])) _
    refine XS.iand X32.here hx rfl (Jvm.hb hby at_106) rfl ?_
    show Steps p.tables e below (T32.setTop (mkF m 107 #[.val (.long lc), .second, .val (.int sel), .val (.int rs), .val (.int rt), .val (.ref b1), .val (.ref b19), .val (.int q31), .val (.int ((rs &&& (2147483647 : Int32)) % (5 : Int32))), .unset, .unset, .unset, .unset] [(.int (rt &&& (2147483647 : Int32)))])) _
    refine XS.iconst X32.here hx rfl (Jvm.hb hby at_107) ?_
    show Steps p.tables e below (T32.setTop (mkF m 108 #[.val (.long lc), .second, .val (.int sel), .val (.int rs), .val (.int rt), .val (.ref b1), .val (.ref b19), .val (.int q31), .val (.int ((rs &&& (2147483647 : Int32)) % (5 : Int32))), .unset, .unset, .unset, .unset] [(.int (5 : Int32)), (.int (rt &&& (2147483647 : Int32)))])) _
    refine iremM (g := (mkF m 108 #[.val (.long lc), .second, .val (.int sel), .val (.int rs), .val (.int rt), .val (.ref b1), .val (.ref b19), .val (.int q31), .val (.int ((rs &&& (2147483647 : Int32)) % (5 : Int32))), .unset, .unset, .unset, .unset] [(.int (5 : Int32)), (.int (rt &&& (2147483647 : Int32)))])) X32 hx rfl (Jvm.hb hby at_108) rfl (by decide) ?_
    show Steps p.tables e below (T32.setTop (mkF m 109 #[.val (.long lc), .second, .val (.int sel), .val (.int rs), .val (.int rt), .val (.ref b1), .val (.ref b19), .val (.int q31), .val (.int ((rs &&& (2147483647 : Int32)) % (5 : Int32))), .unset, .unset, .unset, .unset] [(.int ((rt &&& (2147483647 : Int32)) % (5 : Int32)))])) _
    refine XS.istore X32.here hx rfl (Jvm.hb hby at_109) rfl (l' := #[.val (.long lc), .second, .val (.int sel), .val (.int rs), .val (.int rt), .val (.ref b1), .val (.ref b19), .val (.int q31), .val (.int ((rs &&& (2147483647 : Int32)) % (5 : Int32))), .val (.int ((rt &&& (2147483647 : Int32)) % (5 : Int32))), .unset, .unset, .unset]) rfl ?_
    show Steps p.tables e below (T32.setTop (mkF m 111 #[.val (.long lc), .second, .val (.int sel), .val (.int rs), .val (.int rt), .val (.ref b1), .val (.ref b19), .val (.int q31), .val (.int ((rs &&& (2147483647 : Int32)) % (5 : Int32))), .val (.int ((rt &&& (2147483647 : Int32)) % (5 : Int32))), .unset, .unset, .unset] [])) _
    refine XS.iload X32.here hx rfl (Jvm.hb hby at_111) rfl ?_
    show Steps p.tables e below (T32.setTop (mkF m 113 #[.val (.long lc), .second, .val (.int sel), .val (.int rs), .val (.int rt), .val (.ref b1), .val (.ref b19), .val (.int q31), .val (.int ((rs &&& (2147483647 : Int32)) % (5 : Int32))), .val (.int ((rt &&& (2147483647 : Int32)) % (5 : Int32))), .unset, .unset, .unset] [(.int ((rs &&& (2147483647 : Int32)) % (5 : Int32)))])) _
    refine XS.iload X32.here hx rfl (Jvm.hb hby at_113) rfl ?_
    show Steps p.tables e below (T32.setTop (mkF m 115 #[.val (.long lc), .second, .val (.int sel), .val (.int rs), .val (.int rt), .val (.ref b1), .val (.ref b19), .val (.int q31), .val (.int ((rs &&& (2147483647 : Int32)) % (5 : Int32))), .val (.int ((rt &&& (2147483647 : Int32)) % (5 : Int32))), .unset, .unset, .unset] [(.int ((rt &&& (2147483647 : Int32)) % (5 : Int32))), (.int ((rs &&& (2147483647 : Int32)) % (5 : Int32)))])) _
    exact castTop (by simp only [hq38, hq39]) k_)
  have Zc41 : n0 ≤ h27.size := by omega
  obtain ⟨_, _, ⟨T42, L42, k42, n42⟩, -, X42, ⟨Lc42, hQ42, l42, y42, z42⟩, st42⟩ := Jvm.LawKit.callS X32 hx (y := (⟨"java/lang/Math", "min", "(II)I"⟩ : MethodName)) hown (mvT hZ (hw _ (List.mem_of_getElem? (i := 32) rfl))) (mvT hZ (hw _ (List.mem_of_getElem? (i := 33) rfl))) (mvT hZ (hw _ (List.mem_of_getElem? (i := 34) rfl))) (mvT hZ (hw _ (List.mem_of_getElem? (i := 35) rfl))) (by decide) (backOf (W := 0) (rmMin l Z a0 hw [] m38 m39 h27 n0 Zc41 (by first | assumption | rfl | decide | omega : m38 ≤ 8000) (by first | assumption | rfl | decide | omega : m39 ≤ 8000)) hZ (hw _ (List.mem_of_getElem? (i := 35) rfl)) (hw _ (List.mem_of_getElem? (i := 34) rfl)) (by decide) (by decide)) (g := (mkF m 115 #[.val (.long lc), .second, .val (.int sel), .val (.int rs), .val (.int rt), .val (.ref b1), .val (.ref b19), .val (.int q31), .val (.int (Int32.ofNat m38)), .val (.int (Int32.ofNat m39)), .unset, .unset, .unset] [(.int (Int32.ofNat m39)), (.int (Int32.ofNat m38))])) rfl (by rw [hml]; rfl) (argsL := [(.int (Int32.ofNat m38)), (.int (Int32.ofNat m39))]) (rest := []) (lenOf pd__II_I rfl) rfl (by show 2 * 0 + _ ≤ _; exact Nat.le_of_eq rfl) (Jvm.hb hby at_115) (fun _ _ => ⟨rfl, e32, (by decide : 4 + 0 ≤ _), (by decide : 20 + 0 ≤ _)⟩)
  dsimp only [Pt.U, Pt.locs, Pt.cells, Pt.slots] at X42 l42 y42 z42 st42 hQ42
  subst l42 y42 z42
  obtain ⟨rfl, N42q, e42⟩ := hQ42
  have N42 := Fr.app N27 N42q
  have s43 : ∀ t_, Steps p.tables e below (T42.setTop (mkF m 124 #[.val (.long lc), .second, .val (.int sel), .val (.int rs), .val (.int rt), .val (.ref b1), .val (.ref b19), .val (.int q31), .val (.int (Int32.ofNat m38)), .val (.int (Int32.ofNat m39)), .val (.int (Int32.ofNat (min m38 m39))), .unset, .unset] [(.int (Int32.ofNat m39)), (.int (Int32.ofNat m38))])) t_ → Steps p.tables e below (s₁.setTop (entryFrame m #[(.long lc), (.int sel), (.int rs), (.int rt)] maxLocals)) t_ := fun t_ k_ => s40 t_ (by
    show Steps p.tables e below (T32.setTop (mkF m 115 #[.val (.long lc), .second, .val (.int sel), .val (.int rs), .val (.int rt), .val (.ref b1), .val (.ref b19), .val (.int q31), .val (.int (Int32.ofNat m38)), .val (.int (Int32.ofNat m39)), .unset, .unset, .unset] [(.int (Int32.ofNat m39)), (.int (Int32.ofNat m38))])) t_
    refine st42 _ ?_
    show Steps p.tables e below (T42.setTop (mkF m 118 #[.val (.long lc), .second, .val (.int sel), .val (.int rs), .val (.int rt), .val (.ref b1), .val (.ref b19), .val (.int q31), .val (.int (Int32.ofNat m38)), .val (.int (Int32.ofNat m39)), .unset, .unset, .unset] [(.int (Int32.ofNat (min m38 m39)))])) _
    refine XS.istore X42.here hx rfl (Jvm.hb hby at_118) rfl (l' := #[.val (.long lc), .second, .val (.int sel), .val (.int rs), .val (.int rt), .val (.ref b1), .val (.ref b19), .val (.int q31), .val (.int (Int32.ofNat m38)), .val (.int (Int32.ofNat m39)), .val (.int (Int32.ofNat (min m38 m39))), .unset, .unset]) rfl ?_
    show Steps p.tables e below (T42.setTop (mkF m 120 #[.val (.long lc), .second, .val (.int sel), .val (.int rs), .val (.int rt), .val (.ref b1), .val (.ref b19), .val (.int q31), .val (.int (Int32.ofNat m38)), .val (.int (Int32.ofNat m39)), .val (.int (Int32.ofNat (min m38 m39))), .unset, .unset] [])) _
    refine XS.iload X42.here hx rfl (Jvm.hb hby at_120) rfl ?_
    show Steps p.tables e below (T42.setTop (mkF m 122 #[.val (.long lc), .second, .val (.int sel), .val (.int rs), .val (.int rt), .val (.ref b1), .val (.ref b19), .val (.int q31), .val (.int (Int32.ofNat m38)), .val (.int (Int32.ofNat m39)), .val (.int (Int32.ofNat (min m38 m39))), .unset, .unset] [(.int (Int32.ofNat m38))])) _
    refine XS.iload X42.here hx rfl (Jvm.hb hby at_122) rfl ?_
    show Steps p.tables e below (T42.setTop (mkF m 124 #[.val (.long lc), .second, .val (.int sel), .val (.int rs), .val (.int rt), .val (.ref b1), .val (.ref b19), .val (.int q31), .val (.int (Int32.ofNat m38)), .val (.int (Int32.ofNat m39)), .val (.int (Int32.ofNat (min m38 m39))), .unset, .unset] [(.int (Int32.ofNat m39)), (.int (Int32.ofNat m38))])) _
    show Steps p.tables e below (T42.setTop (mkF m 124 #[.val (.long lc), .second, .val (.int sel), .val (.int rs), .val (.int rt), .val (.ref b1), .val (.ref b19), .val (.int q31), .val (.int (Int32.ofNat m38)), .val (.int (Int32.ofNat m39)), .val (.int (Int32.ofNat (min m38 m39))), .unset, .unset] [(.int (Int32.ofNat m39)), (.int (Int32.ofNat m38))])) t_
    exact k_)
  have Zc44 : n0 ≤ h27.size := by omega
  obtain ⟨_, _, ⟨T45, L45, k45, n45⟩, -, X45, ⟨Lc45, hQ45, l45, y45, z45⟩, st45⟩ := Jvm.LawKit.callS X42 hx (y := (⟨"java/lang/Math", "max", "(II)I"⟩ : MethodName)) hown (mvT hZ (hw _ (List.mem_of_getElem? (i := 36) rfl))) (mvT hZ (hw _ (List.mem_of_getElem? (i := 37) rfl))) (mvT hZ (hw _ (List.mem_of_getElem? (i := 34) rfl))) (mvT hZ (hw _ (List.mem_of_getElem? (i := 38) rfl))) (by decide) (backOf (W := 0) (rmMax l Z a0 hw [] m38 m39 h27 n0 Zc44 (by first | assumption | rfl | decide | omega : m38 ≤ 8000) (by first | assumption | rfl | decide | omega : m39 ≤ 8000)) hZ (hw _ (List.mem_of_getElem? (i := 38) rfl)) (hw _ (List.mem_of_getElem? (i := 34) rfl)) (by decide) (by decide)) (g := (mkF m 124 #[.val (.long lc), .second, .val (.int sel), .val (.int rs), .val (.int rt), .val (.ref b1), .val (.ref b19), .val (.int q31), .val (.int (Int32.ofNat m38)), .val (.int (Int32.ofNat m39)), .val (.int (Int32.ofNat (min m38 m39))), .unset, .unset] [(.int (Int32.ofNat m39)), (.int (Int32.ofNat m38))])) rfl (by rw [hml]; rfl) (argsL := [(.int (Int32.ofNat m38)), (.int (Int32.ofNat m39))]) (rest := []) (lenOf pd__II_I rfl) rfl (by show 2 * 0 + _ ≤ _; exact Nat.le_of_eq rfl) (Jvm.hb hby at_124) (fun _ _ => ⟨rfl, e42, (by decide : 4 + 0 ≤ _), (by decide : 20 + 0 ≤ _)⟩)
  dsimp only [Pt.U, Pt.locs, Pt.cells, Pt.slots] at X45 l45 y45 z45 st45 hQ45
  subst l45 y45 z45
  obtain ⟨rfl, N45q, e45⟩ := hQ45
  have N45 := Fr.app N42 N45q
  have s46 : ∀ t_, Steps p.tables e below (T45.setTop (mkF m 136 #[.val (.long lc), .second, .val (.int sel), .val (.int rs), .val (.int rt), .val (.ref b1), .val (.ref b19), .val (.int q31), .val (.int (Int32.ofNat m38)), .val (.int (Int32.ofNat m39)), .val (.int (Int32.ofNat (min m38 m39))), .val (.int (Int32.ofNat (max m38 m39))), .val (.int (Int32.ofNat (max m38 m39)))] [(.int (3 : Int32)), (.int (Int32.ofNat (min m38 m39)))])) t_ → Steps p.tables e below (s₁.setTop (entryFrame m #[(.long lc), (.int sel), (.int rs), (.int rt)] maxLocals)) t_ := fun t_ k_ => s43 t_ (by
    show Steps p.tables e below (T42.setTop (mkF m 124 #[.val (.long lc), .second, .val (.int sel), .val (.int rs), .val (.int rt), .val (.ref b1), .val (.ref b19), .val (.int q31), .val (.int (Int32.ofNat m38)), .val (.int (Int32.ofNat m39)), .val (.int (Int32.ofNat (min m38 m39))), .unset, .unset] [(.int (Int32.ofNat m39)), (.int (Int32.ofNat m38))])) t_
    refine st45 _ ?_
    show Steps p.tables e below (T45.setTop (mkF m 127 #[.val (.long lc), .second, .val (.int sel), .val (.int rs), .val (.int rt), .val (.ref b1), .val (.ref b19), .val (.int q31), .val (.int (Int32.ofNat m38)), .val (.int (Int32.ofNat m39)), .val (.int (Int32.ofNat (min m38 m39))), .unset, .unset] [(.int (Int32.ofNat (max m38 m39)))])) _
    refine XS.istore X45.here hx rfl (Jvm.hb hby at_127) rfl (l' := #[.val (.long lc), .second, .val (.int sel), .val (.int rs), .val (.int rt), .val (.ref b1), .val (.ref b19), .val (.int q31), .val (.int (Int32.ofNat m38)), .val (.int (Int32.ofNat m39)), .val (.int (Int32.ofNat (min m38 m39))), .val (.int (Int32.ofNat (max m38 m39))), .unset]) rfl ?_
    show Steps p.tables e below (T45.setTop (mkF m 129 #[.val (.long lc), .second, .val (.int sel), .val (.int rs), .val (.int rt), .val (.ref b1), .val (.ref b19), .val (.int q31), .val (.int (Int32.ofNat m38)), .val (.int (Int32.ofNat m39)), .val (.int (Int32.ofNat (min m38 m39))), .val (.int (Int32.ofNat (max m38 m39))), .unset] [])) _
    refine XS.iload X45.here hx rfl (Jvm.hb hby at_129) rfl ?_
    show Steps p.tables e below (T45.setTop (mkF m 131 #[.val (.long lc), .second, .val (.int sel), .val (.int rs), .val (.int rt), .val (.ref b1), .val (.ref b19), .val (.int q31), .val (.int (Int32.ofNat m38)), .val (.int (Int32.ofNat m39)), .val (.int (Int32.ofNat (min m38 m39))), .val (.int (Int32.ofNat (max m38 m39))), .unset] [(.int (Int32.ofNat (max m38 m39)))])) _
    refine XS.istore X45.here hx rfl (Jvm.hb hby at_131) rfl (l' := #[.val (.long lc), .second, .val (.int sel), .val (.int rs), .val (.int rt), .val (.ref b1), .val (.ref b19), .val (.int q31), .val (.int (Int32.ofNat m38)), .val (.int (Int32.ofNat m39)), .val (.int (Int32.ofNat (min m38 m39))), .val (.int (Int32.ofNat (max m38 m39))), .val (.int (Int32.ofNat (max m38 m39)))]) rfl ?_
    show Steps p.tables e below (T45.setTop (mkF m 133 #[.val (.long lc), .second, .val (.int sel), .val (.int rs), .val (.int rt), .val (.ref b1), .val (.ref b19), .val (.int q31), .val (.int (Int32.ofNat m38)), .val (.int (Int32.ofNat m39)), .val (.int (Int32.ofNat (min m38 m39))), .val (.int (Int32.ofNat (max m38 m39))), .val (.int (Int32.ofNat (max m38 m39)))] [])) _
    refine XS.iload X45.here hx rfl (Jvm.hb hby at_133) rfl ?_
    show Steps p.tables e below (T45.setTop (mkF m 135 #[.val (.long lc), .second, .val (.int sel), .val (.int rs), .val (.int rt), .val (.ref b1), .val (.ref b19), .val (.int q31), .val (.int (Int32.ofNat m38)), .val (.int (Int32.ofNat m39)), .val (.int (Int32.ofNat (min m38 m39))), .val (.int (Int32.ofNat (max m38 m39))), .val (.int (Int32.ofNat (max m38 m39)))] [(.int (Int32.ofNat (min m38 m39)))])) _
    refine XS.iconst X45.here hx rfl (Jvm.hb hby at_135) ?_
    show Steps p.tables e below (T45.setTop (mkF m 136 #[.val (.long lc), .second, .val (.int sel), .val (.int rs), .val (.int rt), .val (.ref b1), .val (.ref b19), .val (.int q31), .val (.int (Int32.ofNat m38)), .val (.int (Int32.ofNat m39)), .val (.int (Int32.ofNat (min m38 m39))), .val (.int (Int32.ofNat (max m38 m39))), .val (.int (Int32.ofNat (max m38 m39)))] [(.int (3 : Int32)), (.int (Int32.ofNat (min m38 m39)))])) _
    show Steps p.tables e below (T45.setTop (mkF m 136 #[.val (.long lc), .second, .val (.int sel), .val (.int rs), .val (.int rt), .val (.ref b1), .val (.ref b19), .val (.int q31), .val (.int (Int32.ofNat m38)), .val (.int (Int32.ofNat m39)), .val (.int (Int32.ofNat (min m38 m39))), .val (.int (Int32.ofNat (max m38 m39))), .val (.int (Int32.ofNat (max m38 m39)))] [(.int (3 : Int32)), (.int (Int32.ofNat (min m38 m39)))])) t_
    exact k_)
  obtain ⟨q47, hq47⟩ : ∃ z : Int32, z = (if (3 : Int32) < (Int32.ofNat (min m38 m39)) then (Int32.ofNat (max m38 m39)) else (if (3 : Int32) < (Int32.ofNat (max m38 m39)) then (if q17 = q31 then (3 : Int32) else (Int32.ofNat (max m38 m39))) else (Int32.ofNat (max m38 m39)))) := ⟨_, rfl⟩
  obtain ⟨T48, X48, e48, s48⟩ := seg X45 (fun T' => T'.heap = h27 ∧ ∀ t_, Steps p.tables e below (T'.setTop (mkF m 157 #[.val (.long lc), .second, .val (.int sel), .val (.int rs), .val (.int rt), .val (.ref b1), .val (.ref b19), .val (.int q31), .val (.int (Int32.ofNat m38)), .val (.int (Int32.ofNat m39)), .val (.int (Int32.ofNat (min m38 m39))), .val (.int (Int32.ofNat (max m38 m39))), .val (.int q47)] [])) t_ → Steps p.tables e below (s₁.setTop (entryFrame m #[(.long lc), (.int sel), (.int rs), (.int rt)] maxLocals)) t_) (by
    by_cases h49 : (3 : Int32) < (Int32.ofNat (min m38 m39))
    · have s50 : ∀ t_, Steps p.tables e below (T45.setTop (mkF m 157 #[.val (.long lc), .second, .val (.int sel), .val (.int rs), .val (.int rt), .val (.ref b1), .val (.ref b19), .val (.int q31), .val (.int (Int32.ofNat m38)), .val (.int (Int32.ofNat m39)), .val (.int (Int32.ofNat (min m38 m39))), .val (.int (Int32.ofNat (max m38 m39))), .val (.int (Int32.ofNat (max m38 m39)))] [])) t_ → Steps p.tables e below (s₁.setTop (entryFrame m #[(.long lc), (.int sel), (.int rs), (.int rt)] maxLocals)) t_ := fun t_ k_ => s46 t_ (by
        show Steps p.tables e below (T45.setTop (mkF m 136 #[.val (.long lc), .second, .val (.int sel), .val (.int rs), .val (.int rt), .val (.ref b1), .val (.ref b19), .val (.int q31), .val (.int (Int32.ofNat m38)), .val (.int (Int32.ofNat m39)), .val (.int (Int32.ofNat (min m38 m39))), .val (.int (Int32.ofNat (max m38 m39))), .val (.int (Int32.ofNat (max m38 m39)))] [(.int (3 : Int32)), (.int (Int32.ofNat (min m38 m39)))])) t_
        refine XS.icmpYes X45.here hx rfl (pc0 := 136) (pc' := 157) rfl (Jvm.hb hby at_136) rfl (tlt h49).2.2.1 (by decide) (by decide) ?_
        show Steps p.tables e below (T45.setTop (mkF m 157 #[.val (.long lc), .second, .val (.int sel), .val (.int rs), .val (.int rt), .val (.ref b1), .val (.ref b19), .val (.int q31), .val (.int (Int32.ofNat m38)), .val (.int (Int32.ofNat m39)), .val (.int (Int32.ofNat (min m38 m39))), .val (.int (Int32.ofNat (max m38 m39))), .val (.int (Int32.ofNat (max m38 m39)))] [])) _
        show Steps p.tables e below (T45.setTop (mkF m 157 #[.val (.long lc), .second, .val (.int sel), .val (.int rs), .val (.int rt), .val (.ref b1), .val (.ref b19), .val (.int q31), .val (.int (Int32.ofNat m38)), .val (.int (Int32.ofNat m39)), .val (.int (Int32.ofNat (min m38 m39))), .val (.int (Int32.ofNat (max m38 m39))), .val (.int (Int32.ofNat (max m38 m39)))] [])) t_
        exact k_)
      exact ⟨T45, X45, e45, fun t_ k_ => s50 t_ (castTop (by simp only [hq47, if_pos h49]) k_)⟩
    · have s51 : ∀ t_, Steps p.tables e below (T45.setTop (mkF m 142 #[.val (.long lc), .second, .val (.int sel), .val (.int rs), .val (.int rt), .val (.ref b1), .val (.ref b19), .val (.int q31), .val (.int (Int32.ofNat m38)), .val (.int (Int32.ofNat m39)), .val (.int (Int32.ofNat (min m38 m39))), .val (.int (Int32.ofNat (max m38 m39))), .val (.int (Int32.ofNat (max m38 m39)))] [(.int (Int32.ofNat (max m38 m39))), (.int (3 : Int32))])) t_ → Steps p.tables e below (s₁.setTop (entryFrame m #[(.long lc), (.int sel), (.int rs), (.int rt)] maxLocals)) t_ := fun t_ k_ => s46 t_ (by
        show Steps p.tables e below (T45.setTop (mkF m 136 #[.val (.long lc), .second, .val (.int sel), .val (.int rs), .val (.int rt), .val (.ref b1), .val (.ref b19), .val (.int q31), .val (.int (Int32.ofNat m38)), .val (.int (Int32.ofNat m39)), .val (.int (Int32.ofNat (min m38 m39))), .val (.int (Int32.ofNat (max m38 m39))), .val (.int (Int32.ofNat (max m38 m39)))] [(.int (3 : Int32)), (.int (Int32.ofNat (min m38 m39)))])) t_
        refine XS.icmpNo X45.here hx rfl (Jvm.hb hby at_136) rfl (flt h49).2.2.1 ?_
        show Steps p.tables e below (T45.setTop (mkF m 139 #[.val (.long lc), .second, .val (.int sel), .val (.int rs), .val (.int rt), .val (.ref b1), .val (.ref b19), .val (.int q31), .val (.int (Int32.ofNat m38)), .val (.int (Int32.ofNat m39)), .val (.int (Int32.ofNat (min m38 m39))), .val (.int (Int32.ofNat (max m38 m39))), .val (.int (Int32.ofNat (max m38 m39)))] [])) _
        refine XS.iconst X45.here hx rfl (Jvm.hb hby at_139) ?_
        show Steps p.tables e below (T45.setTop (mkF m 140 #[.val (.long lc), .second, .val (.int sel), .val (.int rs), .val (.int rt), .val (.ref b1), .val (.ref b19), .val (.int q31), .val (.int (Int32.ofNat m38)), .val (.int (Int32.ofNat m39)), .val (.int (Int32.ofNat (min m38 m39))), .val (.int (Int32.ofNat (max m38 m39))), .val (.int (Int32.ofNat (max m38 m39)))] [(.int (3 : Int32))])) _
        refine XS.iload X45.here hx rfl (Jvm.hb hby at_140) rfl ?_
        show Steps p.tables e below (T45.setTop (mkF m 142 #[.val (.long lc), .second, .val (.int sel), .val (.int rs), .val (.int rt), .val (.ref b1), .val (.ref b19), .val (.int q31), .val (.int (Int32.ofNat m38)), .val (.int (Int32.ofNat m39)), .val (.int (Int32.ofNat (min m38 m39))), .val (.int (Int32.ofNat (max m38 m39))), .val (.int (Int32.ofNat (max m38 m39)))] [(.int (Int32.ofNat (max m38 m39))), (.int (3 : Int32))])) _
        show Steps p.tables e below (T45.setTop (mkF m 142 #[.val (.long lc), .second, .val (.int sel), .val (.int rs), .val (.int rt), .val (.ref b1), .val (.ref b19), .val (.int q31), .val (.int (Int32.ofNat m38)), .val (.int (Int32.ofNat m39)), .val (.int (Int32.ofNat (min m38 m39))), .val (.int (Int32.ofNat (max m38 m39))), .val (.int (Int32.ofNat (max m38 m39)))] [(.int (Int32.ofNat (max m38 m39))), (.int (3 : Int32))])) t_
        exact k_)
      by_cases h52 : (3 : Int32) < (Int32.ofNat (max m38 m39))
      · have f53 : Arv Z h27 b1 k1 .char (4 : Int32) [(.int q5), (.int q9), (.int q13), (.int q17)] (.int (0 : Int32)) := (f25.keep K27 (ninS (show @Ne Nat b1 b19 by omega) nin0))
        obtain ⟨cl54, Ar54, -, S54, M54, H54, -⟩ := id f53
        have hin54 : ¬ ((3 : Int32) < 0 ∨ cl54.slots.size ≤ ((3 : Int32)).toNatClampNeg) := inb_of S54 ⟨by decide, by decide⟩
        have hat54 : cl54.slots[((3 : Int32)).toNatClampNeg]? = some (.int q17) := H54.at hin54 (rfl)
        have s55 : ∀ t_, Steps p.tables e below (T45.setTop (mkF m 151 #[.val (.long lc), .second, .val (.int sel), .val (.int rs), .val (.int rt), .val (.ref b1), .val (.ref b19), .val (.int q31), .val (.int (Int32.ofNat m38)), .val (.int (Int32.ofNat m39)), .val (.int (Int32.ofNat (min m38 m39))), .val (.int (Int32.ofNat (max m38 m39))), .val (.int (Int32.ofNat (max m38 m39)))] [(.int q31), (.int q17)])) t_ → Steps p.tables e below (s₁.setTop (entryFrame m #[(.long lc), (.int sel), (.int rs), (.int rt)] maxLocals)) t_ := fun t_ k_ => s51 t_ (by
          show Steps p.tables e below (T45.setTop (mkF m 142 #[.val (.long lc), .second, .val (.int sel), .val (.int rs), .val (.int rt), .val (.ref b1), .val (.ref b19), .val (.int q31), .val (.int (Int32.ofNat m38)), .val (.int (Int32.ofNat m39)), .val (.int (Int32.ofNat (min m38 m39))), .val (.int (Int32.ofNat (max m38 m39))), .val (.int (Int32.ofNat (max m38 m39)))] [(.int (Int32.ofNat (max m38 m39))), (.int (3 : Int32))])) t_
          refine XS.icmpNo X45.here hx rfl (Jvm.hb hby at_142) rfl (tlt h52).2.1 ?_
          show Steps p.tables e below (T45.setTop (mkF m 145 #[.val (.long lc), .second, .val (.int sel), .val (.int rs), .val (.int rt), .val (.ref b1), .val (.ref b19), .val (.int q31), .val (.int (Int32.ofNat m38)), .val (.int (Int32.ofNat m39)), .val (.int (Int32.ofNat (min m38 m39))), .val (.int (Int32.ofNat (max m38 m39))), .val (.int (Int32.ofNat (max m38 m39)))] [])) _
          refine XS.aload X45.here hx rfl (Jvm.hb hby at_145) rfl rfl ?_
          show Steps p.tables e below (T45.setTop (mkF m 147 #[.val (.long lc), .second, .val (.int sel), .val (.int rs), .val (.int rt), .val (.ref b1), .val (.ref b19), .val (.int q31), .val (.int (Int32.ofNat m38)), .val (.int (Int32.ofNat m39)), .val (.int (Int32.ofNat (min m38 m39))), .val (.int (Int32.ofNat (max m38 m39))), .val (.int (Int32.ofNat (max m38 m39)))] [(.ref b1)])) _
          refine XS.iconst X45.here hx rfl (Jvm.hb hby at_147) ?_
          show Steps p.tables e below (T45.setTop (mkF m 148 #[.val (.long lc), .second, .val (.int sel), .val (.int rs), .val (.int rt), .val (.ref b1), .val (.ref b19), .val (.int q31), .val (.int (Int32.ofNat m38)), .val (.int (Int32.ofNat m39)), .val (.int (Int32.ofNat (min m38 m39))), .val (.int (Int32.ofNat (max m38 m39))), .val (.int (Int32.ofNat (max m38 m39)))] [(.int (3 : Int32)), (.ref b1)])) _
          refine X45.caload hx (j := (3 : Int32)) (v := (.int q17)) (by rw [e45]; exact Ar54.1) (State.isArrayOf_alike hZ.alike Ar54.2.1) Ar54.2.2 hin54 hat54 (g := (mkF m 148 #[.val (.long lc), .second, .val (.int sel), .val (.int rs), .val (.int rt), .val (.ref b1), .val (.ref b19), .val (.int q31), .val (.int (Int32.ofNat m38)), .val (.int (Int32.ofNat m39)), .val (.int (Int32.ofNat (min m38 m39))), .val (.int (Int32.ofNat (max m38 m39))), .val (.int (Int32.ofNat (max m38 m39)))] [(.int (3 : Int32)), (.ref b1)])) rfl rfl (Jvm.hb hby at_148) _ ?_
          show Steps p.tables e below (T45.setTop (mkF m 149 #[.val (.long lc), .second, .val (.int sel), .val (.int rs), .val (.int rt), .val (.ref b1), .val (.ref b19), .val (.int q31), .val (.int (Int32.ofNat m38)), .val (.int (Int32.ofNat m39)), .val (.int (Int32.ofNat (min m38 m39))), .val (.int (Int32.ofNat (max m38 m39))), .val (.int (Int32.ofNat (max m38 m39)))] [(.int q17)])) _
          refine XS.iload X45.here hx rfl (Jvm.hb hby at_149) rfl ?_
          show Steps p.tables e below (T45.setTop (mkF m 151 #[.val (.long lc), .second, .val (.int sel), .val (.int rs), .val (.int rt), .val (.ref b1), .val (.ref b19), .val (.int q31), .val (.int (Int32.ofNat m38)), .val (.int (Int32.ofNat m39)), .val (.int (Int32.ofNat (min m38 m39))), .val (.int (Int32.ofNat (max m38 m39))), .val (.int (Int32.ofNat (max m38 m39)))] [(.int q31), (.int q17)])) _
          show Steps p.tables e below (T45.setTop (mkF m 151 #[.val (.long lc), .second, .val (.int sel), .val (.int rs), .val (.int rt), .val (.ref b1), .val (.ref b19), .val (.int q31), .val (.int (Int32.ofNat m38)), .val (.int (Int32.ofNat m39)), .val (.int (Int32.ofNat (min m38 m39))), .val (.int (Int32.ofNat (max m38 m39))), .val (.int (Int32.ofNat (max m38 m39)))] [(.int q31), (.int q17)])) t_
          exact k_)
        by_cases h56 : q17 = q31
        · have s57 : ∀ t_, Steps p.tables e below (T45.setTop (mkF m 157 #[.val (.long lc), .second, .val (.int sel), .val (.int rs), .val (.int rt), .val (.ref b1), .val (.ref b19), .val (.int q31), .val (.int (Int32.ofNat m38)), .val (.int (Int32.ofNat m39)), .val (.int (Int32.ofNat (min m38 m39))), .val (.int (Int32.ofNat (max m38 m39))), .val (.int (3 : Int32))] [])) t_ → Steps p.tables e below (s₁.setTop (entryFrame m #[(.long lc), (.int sel), (.int rs), (.int rt)] maxLocals)) t_ := fun t_ k_ => s55 t_ (by
            show Steps p.tables e below (T45.setTop (mkF m 151 #[.val (.long lc), .second, .val (.int sel), .val (.int rs), .val (.int rt), .val (.ref b1), .val (.ref b19), .val (.int q31), .val (.int (Int32.ofNat m38)), .val (.int (Int32.ofNat m39)), .val (.int (Int32.ofNat (min m38 m39))), .val (.int (Int32.ofNat (max m38 m39))), .val (.int (Int32.ofNat (max m38 m39)))] [(.int q31), (.int q17)])) t_
            refine XS.icmpNo X45.here hx rfl (Jvm.hb hby at_151) rfl (teq h56).2 ?_
            show Steps p.tables e below (T45.setTop (mkF m 154 #[.val (.long lc), .second, .val (.int sel), .val (.int rs), .val (.int rt), .val (.ref b1), .val (.ref b19), .val (.int q31), .val (.int (Int32.ofNat m38)), .val (.int (Int32.ofNat m39)), .val (.int (Int32.ofNat (min m38 m39))), .val (.int (Int32.ofNat (max m38 m39))), .val (.int (Int32.ofNat (max m38 m39)))] [])) _
            refine XS.iconst X45.here hx rfl (Jvm.hb hby at_154) ?_
            show Steps p.tables e below (T45.setTop (mkF m 155 #[.val (.long lc), .second, .val (.int sel), .val (.int rs), .val (.int rt), .val (.ref b1), .val (.ref b19), .val (.int q31), .val (.int (Int32.ofNat m38)), .val (.int (Int32.ofNat m39)), .val (.int (Int32.ofNat (min m38 m39))), .val (.int (Int32.ofNat (max m38 m39))), .val (.int (Int32.ofNat (max m38 m39)))] [(.int (3 : Int32))])) _
            refine XS.istore X45.here hx rfl (Jvm.hb hby at_155) rfl (l' := #[.val (.long lc), .second, .val (.int sel), .val (.int rs), .val (.int rt), .val (.ref b1), .val (.ref b19), .val (.int q31), .val (.int (Int32.ofNat m38)), .val (.int (Int32.ofNat m39)), .val (.int (Int32.ofNat (min m38 m39))), .val (.int (Int32.ofNat (max m38 m39))), .val (.int (3 : Int32))]) rfl ?_
            show Steps p.tables e below (T45.setTop (mkF m 157 #[.val (.long lc), .second, .val (.int sel), .val (.int rs), .val (.int rt), .val (.ref b1), .val (.ref b19), .val (.int q31), .val (.int (Int32.ofNat m38)), .val (.int (Int32.ofNat m39)), .val (.int (Int32.ofNat (min m38 m39))), .val (.int (Int32.ofNat (max m38 m39))), .val (.int (3 : Int32))] [])) _
            show Steps p.tables e below (T45.setTop (mkF m 157 #[.val (.long lc), .second, .val (.int sel), .val (.int rs), .val (.int rt), .val (.ref b1), .val (.ref b19), .val (.int q31), .val (.int (Int32.ofNat m38)), .val (.int (Int32.ofNat m39)), .val (.int (Int32.ofNat (min m38 m39))), .val (.int (Int32.ofNat (max m38 m39))), .val (.int (3 : Int32))] [])) t_
            exact k_)
          exact ⟨T45, X45, e45, fun t_ k_ => s57 t_ (castTop (by simp only [hq47, if_neg h49, if_pos h52, if_pos h56]) k_)⟩
        · have s58 : ∀ t_, Steps p.tables e below (T45.setTop (mkF m 157 #[.val (.long lc), .second, .val (.int sel), .val (.int rs), .val (.int rt), .val (.ref b1), .val (.ref b19), .val (.int q31), .val (.int (Int32.ofNat m38)), .val (.int (Int32.ofNat m39)), .val (.int (Int32.ofNat (min m38 m39))), .val (.int (Int32.ofNat (max m38 m39))), .val (.int (Int32.ofNat (max m38 m39)))] [])) t_ → Steps p.tables e below (s₁.setTop (entryFrame m #[(.long lc), (.int sel), (.int rs), (.int rt)] maxLocals)) t_ := fun t_ k_ => s55 t_ (by
            show Steps p.tables e below (T45.setTop (mkF m 151 #[.val (.long lc), .second, .val (.int sel), .val (.int rs), .val (.int rt), .val (.ref b1), .val (.ref b19), .val (.int q31), .val (.int (Int32.ofNat m38)), .val (.int (Int32.ofNat m39)), .val (.int (Int32.ofNat (min m38 m39))), .val (.int (Int32.ofNat (max m38 m39))), .val (.int (Int32.ofNat (max m38 m39)))] [(.int q31), (.int q17)])) t_
            refine XS.icmpYes X45.here hx rfl (pc0 := 151) (pc' := 157) rfl (Jvm.hb hby at_151) rfl (feq h56).2 (by decide) (by decide) ?_
            show Steps p.tables e below (T45.setTop (mkF m 157 #[.val (.long lc), .second, .val (.int sel), .val (.int rs), .val (.int rt), .val (.ref b1), .val (.ref b19), .val (.int q31), .val (.int (Int32.ofNat m38)), .val (.int (Int32.ofNat m39)), .val (.int (Int32.ofNat (min m38 m39))), .val (.int (Int32.ofNat (max m38 m39))), .val (.int (Int32.ofNat (max m38 m39)))] [])) _
            show Steps p.tables e below (T45.setTop (mkF m 157 #[.val (.long lc), .second, .val (.int sel), .val (.int rs), .val (.int rt), .val (.ref b1), .val (.ref b19), .val (.int q31), .val (.int (Int32.ofNat m38)), .val (.int (Int32.ofNat m39)), .val (.int (Int32.ofNat (min m38 m39))), .val (.int (Int32.ofNat (max m38 m39))), .val (.int (Int32.ofNat (max m38 m39)))] [])) t_
            exact k_)
          exact ⟨T45, X45, e45, fun t_ k_ => s58 t_ (castTop (by simp only [hq47, if_neg h49, if_pos h52, if_neg h56]) k_)⟩
      · have s59 : ∀ t_, Steps p.tables e below (T45.setTop (mkF m 157 #[.val (.long lc), .second, .val (.int sel), .val (.int rs), .val (.int rt), .val (.ref b1), .val (.ref b19), .val (.int q31), .val (.int (Int32.ofNat m38)), .val (.int (Int32.ofNat m39)), .val (.int (Int32.ofNat (min m38 m39))), .val (.int (Int32.ofNat (max m38 m39))), .val (.int (Int32.ofNat (max m38 m39)))] [])) t_ → Steps p.tables e below (s₁.setTop (entryFrame m #[(.long lc), (.int sel), (.int rs), (.int rt)] maxLocals)) t_ := fun t_ k_ => s51 t_ (by
          show Steps p.tables e below (T45.setTop (mkF m 142 #[.val (.long lc), .second, .val (.int sel), .val (.int rs), .val (.int rt), .val (.ref b1), .val (.ref b19), .val (.int q31), .val (.int (Int32.ofNat m38)), .val (.int (Int32.ofNat m39)), .val (.int (Int32.ofNat (min m38 m39))), .val (.int (Int32.ofNat (max m38 m39))), .val (.int (Int32.ofNat (max m38 m39)))] [(.int (Int32.ofNat (max m38 m39))), (.int (3 : Int32))])) t_
          refine XS.icmpYes X45.here hx rfl (pc0 := 142) (pc' := 157) rfl (Jvm.hb hby at_142) rfl (flt h52).2.1 (by decide) (by decide) ?_
          show Steps p.tables e below (T45.setTop (mkF m 157 #[.val (.long lc), .second, .val (.int sel), .val (.int rs), .val (.int rt), .val (.ref b1), .val (.ref b19), .val (.int q31), .val (.int (Int32.ofNat m38)), .val (.int (Int32.ofNat m39)), .val (.int (Int32.ofNat (min m38 m39))), .val (.int (Int32.ofNat (max m38 m39))), .val (.int (Int32.ofNat (max m38 m39)))] [])) _
          show Steps p.tables e below (T45.setTop (mkF m 157 #[.val (.long lc), .second, .val (.int sel), .val (.int rs), .val (.int rt), .val (.ref b1), .val (.ref b19), .val (.int q31), .val (.int (Int32.ofNat m38)), .val (.int (Int32.ofNat m39)), .val (.int (Int32.ofNat (min m38 m39))), .val (.int (Int32.ofNat (max m38 m39))), .val (.int (Int32.ofNat (max m38 m39)))] [])) t_
          exact k_)
        exact ⟨T45, X45, e45, fun t_ k_ => s59 t_ (castTop (by simp only [hq47, if_neg h49, if_neg h52]) k_)⟩)
  have s60 : ∀ t_, Steps p.tables e below (T48.setTop (mkF m 160 #[.val (.long lc), .second, .val (.int sel), .val (.int rs), .val (.int rt), .val (.ref b1), .val (.ref b19), .val (.int q31), .val (.int (Int32.ofNat m38)), .val (.int (Int32.ofNat m39)), .val (.int (Int32.ofNat (min m38 m39))), .val (.int (Int32.ofNat (max m38 m39))), .val (.int q47)] [(.int (2 : Int32)), (.int (Int32.ofNat (min m38 m39)))])) t_ → Steps p.tables e below (s₁.setTop (entryFrame m #[(.long lc), (.int sel), (.int rs), (.int rt)] maxLocals)) t_ := fun t_ k_ => s48 t_ (by
    show Steps p.tables e below (T48.setTop (mkF m 157 #[.val (.long lc), .second, .val (.int sel), .val (.int rs), .val (.int rt), .val (.ref b1), .val (.ref b19), .val (.int q31), .val (.int (Int32.ofNat m38)), .val (.int (Int32.ofNat m39)), .val (.int (Int32.ofNat (min m38 m39))), .val (.int (Int32.ofNat (max m38 m39))), .val (.int q47)] [])) t_
    refine XS.iload X48.here hx rfl (Jvm.hb hby at_157) rfl ?_
    show Steps p.tables e below (T48.setTop (mkF m 159 #[.val (.long lc), .second, .val (.int sel), .val (.int rs), .val (.int rt), .val (.ref b1), .val (.ref b19), .val (.int q31), .val (.int (Int32.ofNat m38)), .val (.int (Int32.ofNat m39)), .val (.int (Int32.ofNat (min m38 m39))), .val (.int (Int32.ofNat (max m38 m39))), .val (.int q47)] [(.int (Int32.ofNat (min m38 m39)))])) _
    refine XS.iconst X48.here hx rfl (Jvm.hb hby at_159) ?_
    show Steps p.tables e below (T48.setTop (mkF m 160 #[.val (.long lc), .second, .val (.int sel), .val (.int rs), .val (.int rt), .val (.ref b1), .val (.ref b19), .val (.int q31), .val (.int (Int32.ofNat m38)), .val (.int (Int32.ofNat m39)), .val (.int (Int32.ofNat (min m38 m39))), .val (.int (Int32.ofNat (max m38 m39))), .val (.int q47)] [(.int (2 : Int32)), (.int (Int32.ofNat (min m38 m39)))])) _
    show Steps p.tables e below (T48.setTop (mkF m 160 #[.val (.long lc), .second, .val (.int sel), .val (.int rs), .val (.int rt), .val (.ref b1), .val (.ref b19), .val (.int q31), .val (.int (Int32.ofNat m38)), .val (.int (Int32.ofNat m39)), .val (.int (Int32.ofNat (min m38 m39))), .val (.int (Int32.ofNat (max m38 m39))), .val (.int q47)] [(.int (2 : Int32)), (.int (Int32.ofNat (min m38 m39)))])) t_
    exact k_)
  obtain ⟨q61, hq61⟩ : ∃ z : Int32, z = (if (2 : Int32) < (Int32.ofNat (min m38 m39)) then q47 else (if (2 : Int32) < (Int32.ofNat (max m38 m39)) then (if q13 = q31 then (2 : Int32) else q47) else q47)) := ⟨_, rfl⟩
  obtain ⟨T62, X62, e62, s62⟩ := seg X48 (fun T' => T'.heap = h27 ∧ ∀ t_, Steps p.tables e below (T'.setTop (mkF m 181 #[.val (.long lc), .second, .val (.int sel), .val (.int rs), .val (.int rt), .val (.ref b1), .val (.ref b19), .val (.int q31), .val (.int (Int32.ofNat m38)), .val (.int (Int32.ofNat m39)), .val (.int (Int32.ofNat (min m38 m39))), .val (.int (Int32.ofNat (max m38 m39))), .val (.int q61)] [])) t_ → Steps p.tables e below (s₁.setTop (entryFrame m #[(.long lc), (.int sel), (.int rs), (.int rt)] maxLocals)) t_) (by
    by_cases h63 : (2 : Int32) < (Int32.ofNat (min m38 m39))
    · have s64 : ∀ t_, Steps p.tables e below (T48.setTop (mkF m 181 #[.val (.long lc), .second, .val (.int sel), .val (.int rs), .val (.int rt), .val (.ref b1), .val (.ref b19), .val (.int q31), .val (.int (Int32.ofNat m38)), .val (.int (Int32.ofNat m39)), .val (.int (Int32.ofNat (min m38 m39))), .val (.int (Int32.ofNat (max m38 m39))), .val (.int q47)] [])) t_ → Steps p.tables e below (s₁.setTop (entryFrame m #[(.long lc), (.int sel), (.int rs), (.int rt)] maxLocals)) t_ := fun t_ k_ => s60 t_ (by
        show Steps p.tables e below (T48.setTop (mkF m 160 #[.val (.long lc), .second, .val (.int sel), .val (.int rs), .val (.int rt), .val (.ref b1), .val (.ref b19), .val (.int q31), .val (.int (Int32.ofNat m38)), .val (.int (Int32.ofNat m39)), .val (.int (Int32.ofNat (min m38 m39))), .val (.int (Int32.ofNat (max m38 m39))), .val (.int q47)] [(.int (2 : Int32)), (.int (Int32.ofNat (min m38 m39)))])) t_
        refine XS.icmpYes X48.here hx rfl (pc0 := 160) (pc' := 181) rfl (Jvm.hb hby at_160) rfl (tlt h63).2.2.1 (by decide) (by decide) ?_
        show Steps p.tables e below (T48.setTop (mkF m 181 #[.val (.long lc), .second, .val (.int sel), .val (.int rs), .val (.int rt), .val (.ref b1), .val (.ref b19), .val (.int q31), .val (.int (Int32.ofNat m38)), .val (.int (Int32.ofNat m39)), .val (.int (Int32.ofNat (min m38 m39))), .val (.int (Int32.ofNat (max m38 m39))), .val (.int q47)] [])) _
        show Steps p.tables e below (T48.setTop (mkF m 181 #[.val (.long lc), .second, .val (.int sel), .val (.int rs), .val (.int rt), .val (.ref b1), .val (.ref b19), .val (.int q31), .val (.int (Int32.ofNat m38)), .val (.int (Int32.ofNat m39)), .val (.int (Int32.ofNat (min m38 m39))), .val (.int (Int32.ofNat (max m38 m39))), .val (.int q47)] [])) t_
        exact k_)
      exact ⟨T48, X48, e48, fun t_ k_ => s64 t_ (castTop (by simp only [hq61, if_pos h63]) k_)⟩
    · have s65 : ∀ t_, Steps p.tables e below (T48.setTop (mkF m 166 #[.val (.long lc), .second, .val (.int sel), .val (.int rs), .val (.int rt), .val (.ref b1), .val (.ref b19), .val (.int q31), .val (.int (Int32.ofNat m38)), .val (.int (Int32.ofNat m39)), .val (.int (Int32.ofNat (min m38 m39))), .val (.int (Int32.ofNat (max m38 m39))), .val (.int q47)] [(.int (Int32.ofNat (max m38 m39))), (.int (2 : Int32))])) t_ → Steps p.tables e below (s₁.setTop (entryFrame m #[(.long lc), (.int sel), (.int rs), (.int rt)] maxLocals)) t_ := fun t_ k_ => s60 t_ (by
        show Steps p.tables e below (T48.setTop (mkF m 160 #[.val (.long lc), .second, .val (.int sel), .val (.int rs), .val (.int rt), .val (.ref b1), .val (.ref b19), .val (.int q31), .val (.int (Int32.ofNat m38)), .val (.int (Int32.ofNat m39)), .val (.int (Int32.ofNat (min m38 m39))), .val (.int (Int32.ofNat (max m38 m39))), .val (.int q47)] [(.int (2 : Int32)), (.int (Int32.ofNat (min m38 m39)))])) t_
        refine XS.icmpNo X48.here hx rfl (Jvm.hb hby at_160) rfl (flt h63).2.2.1 ?_
        show Steps p.tables e below (T48.setTop (mkF m 163 #[.val (.long lc), .second, .val (.int sel), .val (.int rs), .val (.int rt), .val (.ref b1), .val (.ref b19), .val (.int q31), .val (.int (Int32.ofNat m38)), .val (.int (Int32.ofNat m39)), .val (.int (Int32.ofNat (min m38 m39))), .val (.int (Int32.ofNat (max m38 m39))), .val (.int q47)] [])) _
        refine XS.iconst X48.here hx rfl (Jvm.hb hby at_163) ?_
        show Steps p.tables e below (T48.setTop (mkF m 164 #[.val (.long lc), .second, .val (.int sel), .val (.int rs), .val (.int rt), .val (.ref b1), .val (.ref b19), .val (.int q31), .val (.int (Int32.ofNat m38)), .val (.int (Int32.ofNat m39)), .val (.int (Int32.ofNat (min m38 m39))), .val (.int (Int32.ofNat (max m38 m39))), .val (.int q47)] [(.int (2 : Int32))])) _
        refine XS.iload X48.here hx rfl (Jvm.hb hby at_164) rfl ?_
        show Steps p.tables e below (T48.setTop (mkF m 166 #[.val (.long lc), .second, .val (.int sel), .val (.int rs), .val (.int rt), .val (.ref b1), .val (.ref b19), .val (.int q31), .val (.int (Int32.ofNat m38)), .val (.int (Int32.ofNat m39)), .val (.int (Int32.ofNat (min m38 m39))), .val (.int (Int32.ofNat (max m38 m39))), .val (.int q47)] [(.int (Int32.ofNat (max m38 m39))), (.int (2 : Int32))])) _
        show Steps p.tables e below (T48.setTop (mkF m 166 #[.val (.long lc), .second, .val (.int sel), .val (.int rs), .val (.int rt), .val (.ref b1), .val (.ref b19), .val (.int q31), .val (.int (Int32.ofNat m38)), .val (.int (Int32.ofNat m39)), .val (.int (Int32.ofNat (min m38 m39))), .val (.int (Int32.ofNat (max m38 m39))), .val (.int q47)] [(.int (Int32.ofNat (max m38 m39))), (.int (2 : Int32))])) t_
        exact k_)
      by_cases h66 : (2 : Int32) < (Int32.ofNat (max m38 m39))
      · have f67 : Arv Z h27 b1 k1 .char (4 : Int32) [(.int q5), (.int q9), (.int q13), (.int q17)] (.int (0 : Int32)) := (f25.keep K27 (ninS (show @Ne Nat b1 b19 by omega) nin0))
        obtain ⟨cl68, Ar68, -, S68, M68, H68, -⟩ := id f67
        have hin68 : ¬ ((2 : Int32) < 0 ∨ cl68.slots.size ≤ ((2 : Int32)).toNatClampNeg) := inb_of S68 ⟨by decide, by decide⟩
        have hat68 : cl68.slots[((2 : Int32)).toNatClampNeg]? = some (.int q13) := H68.at hin68 (rfl)
        have s69 : ∀ t_, Steps p.tables e below (T48.setTop (mkF m 175 #[.val (.long lc), .second, .val (.int sel), .val (.int rs), .val (.int rt), .val (.ref b1), .val (.ref b19), .val (.int q31), .val (.int (Int32.ofNat m38)), .val (.int (Int32.ofNat m39)), .val (.int (Int32.ofNat (min m38 m39))), .val (.int (Int32.ofNat (max m38 m39))), .val (.int q47)] [(.int q31), (.int q13)])) t_ → Steps p.tables e below (s₁.setTop (entryFrame m #[(.long lc), (.int sel), (.int rs), (.int rt)] maxLocals)) t_ := fun t_ k_ => s65 t_ (by
          show Steps p.tables e below (T48.setTop (mkF m 166 #[.val (.long lc), .second, .val (.int sel), .val (.int rs), .val (.int rt), .val (.ref b1), .val (.ref b19), .val (.int q31), .val (.int (Int32.ofNat m38)), .val (.int (Int32.ofNat m39)), .val (.int (Int32.ofNat (min m38 m39))), .val (.int (Int32.ofNat (max m38 m39))), .val (.int q47)] [(.int (Int32.ofNat (max m38 m39))), (.int (2 : Int32))])) t_
          refine XS.icmpNo X48.here hx rfl (Jvm.hb hby at_166) rfl (tlt h66).2.1 ?_
          show Steps p.tables e below (T48.setTop (mkF m 169 #[.val (.long lc), .second, .val (.int sel), .val (.int rs), .val (.int rt), .val (.ref b1), .val (.ref b19), .val (.int q31), .val (.int (Int32.ofNat m38)), .val (.int (Int32.ofNat m39)), .val (.int (Int32.ofNat (min m38 m39))), .val (.int (Int32.ofNat (max m38 m39))), .val (.int q47)] [])) _
          refine XS.aload X48.here hx rfl (Jvm.hb hby at_169) rfl rfl ?_
          show Steps p.tables e below (T48.setTop (mkF m 171 #[.val (.long lc), .second, .val (.int sel), .val (.int rs), .val (.int rt), .val (.ref b1), .val (.ref b19), .val (.int q31), .val (.int (Int32.ofNat m38)), .val (.int (Int32.ofNat m39)), .val (.int (Int32.ofNat (min m38 m39))), .val (.int (Int32.ofNat (max m38 m39))), .val (.int q47)] [(.ref b1)])) _
          refine XS.iconst X48.here hx rfl (Jvm.hb hby at_171) ?_
          show Steps p.tables e below (T48.setTop (mkF m 172 #[.val (.long lc), .second, .val (.int sel), .val (.int rs), .val (.int rt), .val (.ref b1), .val (.ref b19), .val (.int q31), .val (.int (Int32.ofNat m38)), .val (.int (Int32.ofNat m39)), .val (.int (Int32.ofNat (min m38 m39))), .val (.int (Int32.ofNat (max m38 m39))), .val (.int q47)] [(.int (2 : Int32)), (.ref b1)])) _
          refine X48.caload hx (j := (2 : Int32)) (v := (.int q13)) (by rw [e48]; exact Ar68.1) (State.isArrayOf_alike hZ.alike Ar68.2.1) Ar68.2.2 hin68 hat68 (g := (mkF m 172 #[.val (.long lc), .second, .val (.int sel), .val (.int rs), .val (.int rt), .val (.ref b1), .val (.ref b19), .val (.int q31), .val (.int (Int32.ofNat m38)), .val (.int (Int32.ofNat m39)), .val (.int (Int32.ofNat (min m38 m39))), .val (.int (Int32.ofNat (max m38 m39))), .val (.int q47)] [(.int (2 : Int32)), (.ref b1)])) rfl rfl (Jvm.hb hby at_172) _ ?_
          show Steps p.tables e below (T48.setTop (mkF m 173 #[.val (.long lc), .second, .val (.int sel), .val (.int rs), .val (.int rt), .val (.ref b1), .val (.ref b19), .val (.int q31), .val (.int (Int32.ofNat m38)), .val (.int (Int32.ofNat m39)), .val (.int (Int32.ofNat (min m38 m39))), .val (.int (Int32.ofNat (max m38 m39))), .val (.int q47)] [(.int q13)])) _
          refine XS.iload X48.here hx rfl (Jvm.hb hby at_173) rfl ?_
          show Steps p.tables e below (T48.setTop (mkF m 175 #[.val (.long lc), .second, .val (.int sel), .val (.int rs), .val (.int rt), .val (.ref b1), .val (.ref b19), .val (.int q31), .val (.int (Int32.ofNat m38)), .val (.int (Int32.ofNat m39)), .val (.int (Int32.ofNat (min m38 m39))), .val (.int (Int32.ofNat (max m38 m39))), .val (.int q47)] [(.int q31), (.int q13)])) _
          show Steps p.tables e below (T48.setTop (mkF m 175 #[.val (.long lc), .second, .val (.int sel), .val (.int rs), .val (.int rt), .val (.ref b1), .val (.ref b19), .val (.int q31), .val (.int (Int32.ofNat m38)), .val (.int (Int32.ofNat m39)), .val (.int (Int32.ofNat (min m38 m39))), .val (.int (Int32.ofNat (max m38 m39))), .val (.int q47)] [(.int q31), (.int q13)])) t_
          exact k_)
        by_cases h70 : q13 = q31
        · have s71 : ∀ t_, Steps p.tables e below (T48.setTop (mkF m 181 #[.val (.long lc), .second, .val (.int sel), .val (.int rs), .val (.int rt), .val (.ref b1), .val (.ref b19), .val (.int q31), .val (.int (Int32.ofNat m38)), .val (.int (Int32.ofNat m39)), .val (.int (Int32.ofNat (min m38 m39))), .val (.int (Int32.ofNat (max m38 m39))), .val (.int (2 : Int32))] [])) t_ → Steps p.tables e below (s₁.setTop (entryFrame m #[(.long lc), (.int sel), (.int rs), (.int rt)] maxLocals)) t_ := fun t_ k_ => s69 t_ (by
            show Steps p.tables e below (T48.setTop (mkF m 175 #[.val (.long lc), .second, .val (.int sel), .val (.int rs), .val (.int rt), .val (.ref b1), .val (.ref b19), .val (.int q31), .val (.int (Int32.ofNat m38)), .val (.int (Int32.ofNat m39)), .val (.int (Int32.ofNat (min m38 m39))), .val (.int (Int32.ofNat (max m38 m39))), .val (.int q47)] [(.int q31), (.int q13)])) t_
            refine XS.icmpNo X48.here hx rfl (Jvm.hb hby at_175) rfl (teq h70).2 ?_
            show Steps p.tables e below (T48.setTop (mkF m 178 #[.val (.long lc), .second, .val (.int sel), .val (.int rs), .val (.int rt), .val (.ref b1), .val (.ref b19), .val (.int q31), .val (.int (Int32.ofNat m38)), .val (.int (Int32.ofNat m39)), .val (.int (Int32.ofNat (min m38 m39))), .val (.int (Int32.ofNat (max m38 m39))), .val (.int q47)] [])) _
            refine XS.iconst X48.here hx rfl (Jvm.hb hby at_178) ?_
            show Steps p.tables e below (T48.setTop (mkF m 179 #[.val (.long lc), .second, .val (.int sel), .val (.int rs), .val (.int rt), .val (.ref b1), .val (.ref b19), .val (.int q31), .val (.int (Int32.ofNat m38)), .val (.int (Int32.ofNat m39)), .val (.int (Int32.ofNat (min m38 m39))), .val (.int (Int32.ofNat (max m38 m39))), .val (.int q47)] [(.int (2 : Int32))])) _
            refine XS.istore X48.here hx rfl (Jvm.hb hby at_179) rfl (l' := #[.val (.long lc), .second, .val (.int sel), .val (.int rs), .val (.int rt), .val (.ref b1), .val (.ref b19), .val (.int q31), .val (.int (Int32.ofNat m38)), .val (.int (Int32.ofNat m39)), .val (.int (Int32.ofNat (min m38 m39))), .val (.int (Int32.ofNat (max m38 m39))), .val (.int (2 : Int32))]) rfl ?_
            show Steps p.tables e below (T48.setTop (mkF m 181 #[.val (.long lc), .second, .val (.int sel), .val (.int rs), .val (.int rt), .val (.ref b1), .val (.ref b19), .val (.int q31), .val (.int (Int32.ofNat m38)), .val (.int (Int32.ofNat m39)), .val (.int (Int32.ofNat (min m38 m39))), .val (.int (Int32.ofNat (max m38 m39))), .val (.int (2 : Int32))] [])) _
            show Steps p.tables e below (T48.setTop (mkF m 181 #[.val (.long lc), .second, .val (.int sel), .val (.int rs), .val (.int rt), .val (.ref b1), .val (.ref b19), .val (.int q31), .val (.int (Int32.ofNat m38)), .val (.int (Int32.ofNat m39)), .val (.int (Int32.ofNat (min m38 m39))), .val (.int (Int32.ofNat (max m38 m39))), .val (.int (2 : Int32))] [])) t_
            exact k_)
          exact ⟨T48, X48, e48, fun t_ k_ => s71 t_ (castTop (by simp only [hq61, if_neg h63, if_pos h66, if_pos h70]) k_)⟩
        · have s72 : ∀ t_, Steps p.tables e below (T48.setTop (mkF m 181 #[.val (.long lc), .second, .val (.int sel), .val (.int rs), .val (.int rt), .val (.ref b1), .val (.ref b19), .val (.int q31), .val (.int (Int32.ofNat m38)), .val (.int (Int32.ofNat m39)), .val (.int (Int32.ofNat (min m38 m39))), .val (.int (Int32.ofNat (max m38 m39))), .val (.int q47)] [])) t_ → Steps p.tables e below (s₁.setTop (entryFrame m #[(.long lc), (.int sel), (.int rs), (.int rt)] maxLocals)) t_ := fun t_ k_ => s69 t_ (by
            show Steps p.tables e below (T48.setTop (mkF m 175 #[.val (.long lc), .second, .val (.int sel), .val (.int rs), .val (.int rt), .val (.ref b1), .val (.ref b19), .val (.int q31), .val (.int (Int32.ofNat m38)), .val (.int (Int32.ofNat m39)), .val (.int (Int32.ofNat (min m38 m39))), .val (.int (Int32.ofNat (max m38 m39))), .val (.int q47)] [(.int q31), (.int q13)])) t_
            refine XS.icmpYes X48.here hx rfl (pc0 := 175) (pc' := 181) rfl (Jvm.hb hby at_175) rfl (feq h70).2 (by decide) (by decide) ?_
            show Steps p.tables e below (T48.setTop (mkF m 181 #[.val (.long lc), .second, .val (.int sel), .val (.int rs), .val (.int rt), .val (.ref b1), .val (.ref b19), .val (.int q31), .val (.int (Int32.ofNat m38)), .val (.int (Int32.ofNat m39)), .val (.int (Int32.ofNat (min m38 m39))), .val (.int (Int32.ofNat (max m38 m39))), .val (.int q47)] [])) _
            show Steps p.tables e below (T48.setTop (mkF m 181 #[.val (.long lc), .second, .val (.int sel), .val (.int rs), .val (.int rt), .val (.ref b1), .val (.ref b19), .val (.int q31), .val (.int (Int32.ofNat m38)), .val (.int (Int32.ofNat m39)), .val (.int (Int32.ofNat (min m38 m39))), .val (.int (Int32.ofNat (max m38 m39))), .val (.int q47)] [])) t_
            exact k_)
          exact ⟨T48, X48, e48, fun t_ k_ => s72 t_ (castTop (by simp only [hq61, if_neg h63, if_pos h66, if_neg h70]) k_)⟩
      · have s73 : ∀ t_, Steps p.tables e below (T48.setTop (mkF m 181 #[.val (.long lc), .second, .val (.int sel), .val (.int rs), .val (.int rt), .val (.ref b1), .val (.ref b19), .val (.int q31), .val (.int (Int32.ofNat m38)), .val (.int (Int32.ofNat m39)), .val (.int (Int32.ofNat (min m38 m39))), .val (.int (Int32.ofNat (max m38 m39))), .val (.int q47)] [])) t_ → Steps p.tables e below (s₁.setTop (entryFrame m #[(.long lc), (.int sel), (.int rs), (.int rt)] maxLocals)) t_ := fun t_ k_ => s65 t_ (by
          show Steps p.tables e below (T48.setTop (mkF m 166 #[.val (.long lc), .second, .val (.int sel), .val (.int rs), .val (.int rt), .val (.ref b1), .val (.ref b19), .val (.int q31), .val (.int (Int32.ofNat m38)), .val (.int (Int32.ofNat m39)), .val (.int (Int32.ofNat (min m38 m39))), .val (.int (Int32.ofNat (max m38 m39))), .val (.int q47)] [(.int (Int32.ofNat (max m38 m39))), (.int (2 : Int32))])) t_
          refine XS.icmpYes X48.here hx rfl (pc0 := 166) (pc' := 181) rfl (Jvm.hb hby at_166) rfl (flt h66).2.1 (by decide) (by decide) ?_
          show Steps p.tables e below (T48.setTop (mkF m 181 #[.val (.long lc), .second, .val (.int sel), .val (.int rs), .val (.int rt), .val (.ref b1), .val (.ref b19), .val (.int q31), .val (.int (Int32.ofNat m38)), .val (.int (Int32.ofNat m39)), .val (.int (Int32.ofNat (min m38 m39))), .val (.int (Int32.ofNat (max m38 m39))), .val (.int q47)] [])) _
          show Steps p.tables e below (T48.setTop (mkF m 181 #[.val (.long lc), .second, .val (.int sel), .val (.int rs), .val (.int rt), .val (.ref b1), .val (.ref b19), .val (.int q31), .val (.int (Int32.ofNat m38)), .val (.int (Int32.ofNat m39)), .val (.int (Int32.ofNat (min m38 m39))), .val (.int (Int32.ofNat (max m38 m39))), .val (.int q47)] [])) t_
          exact k_)
        exact ⟨T48, X48, e48, fun t_ k_ => s73 t_ (castTop (by simp only [hq61, if_neg h63, if_neg h66]) k_)⟩)
  have s74 : ∀ t_, Steps p.tables e below (T62.setTop (mkF m 184 #[.val (.long lc), .second, .val (.int sel), .val (.int rs), .val (.int rt), .val (.ref b1), .val (.ref b19), .val (.int q31), .val (.int (Int32.ofNat m38)), .val (.int (Int32.ofNat m39)), .val (.int (Int32.ofNat (min m38 m39))), .val (.int (Int32.ofNat (max m38 m39))), .val (.int q61)] [(.int (1 : Int32)), (.int (Int32.ofNat (min m38 m39)))])) t_ → Steps p.tables e below (s₁.setTop (entryFrame m #[(.long lc), (.int sel), (.int rs), (.int rt)] maxLocals)) t_ := fun t_ k_ => s62 t_ (by
    show Steps p.tables e below (T62.setTop (mkF m 181 #[.val (.long lc), .second, .val (.int sel), .val (.int rs), .val (.int rt), .val (.ref b1), .val (.ref b19), .val (.int q31), .val (.int (Int32.ofNat m38)), .val (.int (Int32.ofNat m39)), .val (.int (Int32.ofNat (min m38 m39))), .val (.int (Int32.ofNat (max m38 m39))), .val (.int q61)] [])) t_
    refine XS.iload X62.here hx rfl (Jvm.hb hby at_181) rfl ?_
    show Steps p.tables e below (T62.setTop (mkF m 183 #[.val (.long lc), .second, .val (.int sel), .val (.int rs), .val (.int rt), .val (.ref b1), .val (.ref b19), .val (.int q31), .val (.int (Int32.ofNat m38)), .val (.int (Int32.ofNat m39)), .val (.int (Int32.ofNat (min m38 m39))), .val (.int (Int32.ofNat (max m38 m39))), .val (.int q61)] [(.int (Int32.ofNat (min m38 m39)))])) _
    refine XS.iconst X62.here hx rfl (Jvm.hb hby at_183) ?_
    show Steps p.tables e below (T62.setTop (mkF m 184 #[.val (.long lc), .second, .val (.int sel), .val (.int rs), .val (.int rt), .val (.ref b1), .val (.ref b19), .val (.int q31), .val (.int (Int32.ofNat m38)), .val (.int (Int32.ofNat m39)), .val (.int (Int32.ofNat (min m38 m39))), .val (.int (Int32.ofNat (max m38 m39))), .val (.int q61)] [(.int (1 : Int32)), (.int (Int32.ofNat (min m38 m39)))])) _
    show Steps p.tables e below (T62.setTop (mkF m 184 #[.val (.long lc), .second, .val (.int sel), .val (.int rs), .val (.int rt), .val (.ref b1), .val (.ref b19), .val (.int q31), .val (.int (Int32.ofNat m38)), .val (.int (Int32.ofNat m39)), .val (.int (Int32.ofNat (min m38 m39))), .val (.int (Int32.ofNat (max m38 m39))), .val (.int q61)] [(.int (1 : Int32)), (.int (Int32.ofNat (min m38 m39)))])) t_
    exact k_)
  obtain ⟨q75, hq75⟩ : ∃ z : Int32, z = (if (1 : Int32) < (Int32.ofNat (min m38 m39)) then q61 else (if (1 : Int32) < (Int32.ofNat (max m38 m39)) then (if q9 = q31 then (1 : Int32) else q61) else q61)) := ⟨_, rfl⟩
  obtain ⟨T76, X76, e76, s76⟩ := seg X62 (fun T' => T'.heap = h27 ∧ ∀ t_, Steps p.tables e below (T'.setTop (mkF m 205 #[.val (.long lc), .second, .val (.int sel), .val (.int rs), .val (.int rt), .val (.ref b1), .val (.ref b19), .val (.int q31), .val (.int (Int32.ofNat m38)), .val (.int (Int32.ofNat m39)), .val (.int (Int32.ofNat (min m38 m39))), .val (.int (Int32.ofNat (max m38 m39))), .val (.int q75)] [])) t_ → Steps p.tables e below (s₁.setTop (entryFrame m #[(.long lc), (.int sel), (.int rs), (.int rt)] maxLocals)) t_) (by
    by_cases h77 : (1 : Int32) < (Int32.ofNat (min m38 m39))
    · have s78 : ∀ t_, Steps p.tables e below (T62.setTop (mkF m 205 #[.val (.long lc), .second, .val (.int sel), .val (.int rs), .val (.int rt), .val (.ref b1), .val (.ref b19), .val (.int q31), .val (.int (Int32.ofNat m38)), .val (.int (Int32.ofNat m39)), .val (.int (Int32.ofNat (min m38 m39))), .val (.int (Int32.ofNat (max m38 m39))), .val (.int q61)] [])) t_ → Steps p.tables e below (s₁.setTop (entryFrame m #[(.long lc), (.int sel), (.int rs), (.int rt)] maxLocals)) t_ := fun t_ k_ => s74 t_ (by
        show Steps p.tables e below (T62.setTop (mkF m 184 #[.val (.long lc), .second, .val (.int sel), .val (.int rs), .val (.int rt), .val (.ref b1), .val (.ref b19), .val (.int q31), .val (.int (Int32.ofNat m38)), .val (.int (Int32.ofNat m39)), .val (.int (Int32.ofNat (min m38 m39))), .val (.int (Int32.ofNat (max m38 m39))), .val (.int q61)] [(.int (1 : Int32)), (.int (Int32.ofNat (min m38 m39)))])) t_
        refine XS.icmpYes X62.here hx rfl (pc0 := 184) (pc' := 205) rfl (Jvm.hb hby at_184) rfl (tlt h77).2.2.1 (by decide) (by decide) ?_
        show Steps p.tables e below (T62.setTop (mkF m 205 #[.val (.long lc), .second, .val (.int sel), .val (.int rs), .val (.int rt), .val (.ref b1), .val (.ref b19), .val (.int q31), .val (.int (Int32.ofNat m38)), .val (.int (Int32.ofNat m39)), .val (.int (Int32.ofNat (min m38 m39))), .val (.int (Int32.ofNat (max m38 m39))), .val (.int q61)] [])) _
        show Steps p.tables e below (T62.setTop (mkF m 205 #[.val (.long lc), .second, .val (.int sel), .val (.int rs), .val (.int rt), .val (.ref b1), .val (.ref b19), .val (.int q31), .val (.int (Int32.ofNat m38)), .val (.int (Int32.ofNat m39)), .val (.int (Int32.ofNat (min m38 m39))), .val (.int (Int32.ofNat (max m38 m39))), .val (.int q61)] [])) t_
        exact k_)
      exact ⟨T62, X62, e62, fun t_ k_ => s78 t_ (castTop (by simp only [hq75, if_pos h77]) k_)⟩
    · have s79 : ∀ t_, Steps p.tables e below (T62.setTop (mkF m 190 #[.val (.long lc), .second, .val (.int sel), .val (.int rs), .val (.int rt), .val (.ref b1), .val (.ref b19), .val (.int q31), .val (.int (Int32.ofNat m38)), .val (.int (Int32.ofNat m39)), .val (.int (Int32.ofNat (min m38 m39))), .val (.int (Int32.ofNat (max m38 m39))), .val (.int q61)] [(.int (Int32.ofNat (max m38 m39))), (.int (1 : Int32))])) t_ → Steps p.tables e below (s₁.setTop (entryFrame m #[(.long lc), (.int sel), (.int rs), (.int rt)] maxLocals)) t_ := fun t_ k_ => s74 t_ (by
        show Steps p.tables e below (T62.setTop (mkF m 184 #[.val (.long lc), .second, .val (.int sel), .val (.int rs), .val (.int rt), .val (.ref b1), .val (.ref b19), .val (.int q31), .val (.int (Int32.ofNat m38)), .val (.int (Int32.ofNat m39)), .val (.int (Int32.ofNat (min m38 m39))), .val (.int (Int32.ofNat (max m38 m39))), .val (.int q61)] [(.int (1 : Int32)), (.int (Int32.ofNat (min m38 m39)))])) t_
        refine XS.icmpNo X62.here hx rfl (Jvm.hb hby at_184) rfl (flt h77).2.2.1 ?_
        show Steps p.tables e below (T62.setTop (mkF m 187 #[.val (.long lc), .second, .val (.int sel), .val (.int rs), .val (.int rt), .val (.ref b1), .val (.ref b19), .val (.int q31), .val (.int (Int32.ofNat m38)), .val (.int (Int32.ofNat m39)), .val (.int (Int32.ofNat (min m38 m39))), .val (.int (Int32.ofNat (max m38 m39))), .val (.int q61)] [])) _
        refine XS.iconst X62.here hx rfl (Jvm.hb hby at_187) ?_
        show Steps p.tables e below (T62.setTop (mkF m 188 #[.val (.long lc), .second, .val (.int sel), .val (.int rs), .val (.int rt), .val (.ref b1), .val (.ref b19), .val (.int q31), .val (.int (Int32.ofNat m38)), .val (.int (Int32.ofNat m39)), .val (.int (Int32.ofNat (min m38 m39))), .val (.int (Int32.ofNat (max m38 m39))), .val (.int q61)] [(.int (1 : Int32))])) _
        refine XS.iload X62.here hx rfl (Jvm.hb hby at_188) rfl ?_
        show Steps p.tables e below (T62.setTop (mkF m 190 #[.val (.long lc), .second, .val (.int sel), .val (.int rs), .val (.int rt), .val (.ref b1), .val (.ref b19), .val (.int q31), .val (.int (Int32.ofNat m38)), .val (.int (Int32.ofNat m39)), .val (.int (Int32.ofNat (min m38 m39))), .val (.int (Int32.ofNat (max m38 m39))), .val (.int q61)] [(.int (Int32.ofNat (max m38 m39))), (.int (1 : Int32))])) _
        show Steps p.tables e below (T62.setTop (mkF m 190 #[.val (.long lc), .second, .val (.int sel), .val (.int rs), .val (.int rt), .val (.ref b1), .val (.ref b19), .val (.int q31), .val (.int (Int32.ofNat m38)), .val (.int (Int32.ofNat m39)), .val (.int (Int32.ofNat (min m38 m39))), .val (.int (Int32.ofNat (max m38 m39))), .val (.int q61)] [(.int (Int32.ofNat (max m38 m39))), (.int (1 : Int32))])) t_
        exact k_)
      by_cases h80 : (1 : Int32) < (Int32.ofNat (max m38 m39))
      · have f81 : Arv Z h27 b1 k1 .char (4 : Int32) [(.int q5), (.int q9), (.int q13), (.int q17)] (.int (0 : Int32)) := (f25.keep K27 (ninS (show @Ne Nat b1 b19 by omega) nin0))
        obtain ⟨cl82, Ar82, -, S82, M82, H82, -⟩ := id f81
        have hin82 : ¬ ((1 : Int32) < 0 ∨ cl82.slots.size ≤ ((1 : Int32)).toNatClampNeg) := inb_of S82 ⟨by decide, by decide⟩
        have hat82 : cl82.slots[((1 : Int32)).toNatClampNeg]? = some (.int q9) := H82.at hin82 (rfl)
        have s83 : ∀ t_, Steps p.tables e below (T62.setTop (mkF m 199 #[.val (.long lc), .second, .val (.int sel), .val (.int rs), .val (.int rt), .val (.ref b1), .val (.ref b19), .val (.int q31), .val (.int (Int32.ofNat m38)), .val (.int (Int32.ofNat m39)), .val (.int (Int32.ofNat (min m38 m39))), .val (.int (Int32.ofNat (max m38 m39))), .val (.int q61)] [(.int q31), (.int q9)])) t_ → Steps p.tables e below (s₁.setTop (entryFrame m #[(.long lc), (.int sel), (.int rs), (.int rt)] maxLocals)) t_ := fun t_ k_ => s79 t_ (by
          show Steps p.tables e below (T62.setTop (mkF m 190 #[.val (.long lc), .second, .val (.int sel), .val (.int rs), .val (.int rt), .val (.ref b1), .val (.ref b19), .val (.int q31), .val (.int (Int32.ofNat m38)), .val (.int (Int32.ofNat m39)), .val (.int (Int32.ofNat (min m38 m39))), .val (.int (Int32.ofNat (max m38 m39))), .val (.int q61)] [(.int (Int32.ofNat (max m38 m39))), (.int (1 : Int32))])) t_
          refine XS.icmpNo X62.here hx rfl (Jvm.hb hby at_190) rfl (tlt h80).2.1 ?_
          show Steps p.tables e below (T62.setTop (mkF m 193 #[.val (.long lc), .second, .val (.int sel), .val (.int rs), .val (.int rt), .val (.ref b1), .val (.ref b19), .val (.int q31), .val (.int (Int32.ofNat m38)), .val (.int (Int32.ofNat m39)), .val (.int (Int32.ofNat (min m38 m39))), .val (.int (Int32.ofNat (max m38 m39))), .val (.int q61)] [])) _
          refine XS.aload X62.here hx rfl (Jvm.hb hby at_193) rfl rfl ?_
          show Steps p.tables e below (T62.setTop (mkF m 195 #[.val (.long lc), .second, .val (.int sel), .val (.int rs), .val (.int rt), .val (.ref b1), .val (.ref b19), .val (.int q31), .val (.int (Int32.ofNat m38)), .val (.int (Int32.ofNat m39)), .val (.int (Int32.ofNat (min m38 m39))), .val (.int (Int32.ofNat (max m38 m39))), .val (.int q61)] [(.ref b1)])) _
          refine XS.iconst X62.here hx rfl (Jvm.hb hby at_195) ?_
          show Steps p.tables e below (T62.setTop (mkF m 196 #[.val (.long lc), .second, .val (.int sel), .val (.int rs), .val (.int rt), .val (.ref b1), .val (.ref b19), .val (.int q31), .val (.int (Int32.ofNat m38)), .val (.int (Int32.ofNat m39)), .val (.int (Int32.ofNat (min m38 m39))), .val (.int (Int32.ofNat (max m38 m39))), .val (.int q61)] [(.int (1 : Int32)), (.ref b1)])) _
          refine X62.caload hx (j := (1 : Int32)) (v := (.int q9)) (by rw [e62]; exact Ar82.1) (State.isArrayOf_alike hZ.alike Ar82.2.1) Ar82.2.2 hin82 hat82 (g := (mkF m 196 #[.val (.long lc), .second, .val (.int sel), .val (.int rs), .val (.int rt), .val (.ref b1), .val (.ref b19), .val (.int q31), .val (.int (Int32.ofNat m38)), .val (.int (Int32.ofNat m39)), .val (.int (Int32.ofNat (min m38 m39))), .val (.int (Int32.ofNat (max m38 m39))), .val (.int q61)] [(.int (1 : Int32)), (.ref b1)])) rfl rfl (Jvm.hb hby at_196) _ ?_
          show Steps p.tables e below (T62.setTop (mkF m 197 #[.val (.long lc), .second, .val (.int sel), .val (.int rs), .val (.int rt), .val (.ref b1), .val (.ref b19), .val (.int q31), .val (.int (Int32.ofNat m38)), .val (.int (Int32.ofNat m39)), .val (.int (Int32.ofNat (min m38 m39))), .val (.int (Int32.ofNat (max m38 m39))), .val (.int q61)] [(.int q9)])) _
          refine XS.iload X62.here hx rfl (Jvm.hb hby at_197) rfl ?_
          show Steps p.tables e below (T62.setTop (mkF m 199 #[.val (.long lc), .second, .val (.int sel), .val (.int rs), .val (.int rt), .val (.ref b1), .val (.ref b19), .val (.int q31), .val (.int (Int32.ofNat m38)), .val (.int (Int32.ofNat m39)), .val (.int (Int32.ofNat (min m38 m39))), .val (.int (Int32.ofNat (max m38 m39))), .val (.int q61)] [(.int q31), (.int q9)])) _
          show Steps p.tables e below (T62.setTop (mkF m 199 #[.val (.long lc), .second, .val (.int sel), .val (.int rs), .val (.int rt), .val (.ref b1), .val (.ref b19), .val (.int q31), .val (.int (Int32.ofNat m38)), .val (.int (Int32.ofNat m39)), .val (.int (Int32.ofNat (min m38 m39))), .val (.int (Int32.ofNat (max m38 m39))), .val (.int q61)] [(.int q31), (.int q9)])) t_
          exact k_)
        by_cases h84 : q9 = q31
        · have s85 : ∀ t_, Steps p.tables e below (T62.setTop (mkF m 205 #[.val (.long lc), .second, .val (.int sel), .val (.int rs), .val (.int rt), .val (.ref b1), .val (.ref b19), .val (.int q31), .val (.int (Int32.ofNat m38)), .val (.int (Int32.ofNat m39)), .val (.int (Int32.ofNat (min m38 m39))), .val (.int (Int32.ofNat (max m38 m39))), .val (.int (1 : Int32))] [])) t_ → Steps p.tables e below (s₁.setTop (entryFrame m #[(.long lc), (.int sel), (.int rs), (.int rt)] maxLocals)) t_ := fun t_ k_ => s83 t_ (by
            show Steps p.tables e below (T62.setTop (mkF m 199 #[.val (.long lc), .second, .val (.int sel), .val (.int rs), .val (.int rt), .val (.ref b1), .val (.ref b19), .val (.int q31), .val (.int (Int32.ofNat m38)), .val (.int (Int32.ofNat m39)), .val (.int (Int32.ofNat (min m38 m39))), .val (.int (Int32.ofNat (max m38 m39))), .val (.int q61)] [(.int q31), (.int q9)])) t_
            refine XS.icmpNo X62.here hx rfl (Jvm.hb hby at_199) rfl (teq h84).2 ?_
            show Steps p.tables e below (T62.setTop (mkF m 202 #[.val (.long lc), .second, .val (.int sel), .val (.int rs), .val (.int rt), .val (.ref b1), .val (.ref b19), .val (.int q31), .val (.int (Int32.ofNat m38)), .val (.int (Int32.ofNat m39)), .val (.int (Int32.ofNat (min m38 m39))), .val (.int (Int32.ofNat (max m38 m39))), .val (.int q61)] [])) _
            refine XS.iconst X62.here hx rfl (Jvm.hb hby at_202) ?_
            show Steps p.tables e below (T62.setTop (mkF m 203 #[.val (.long lc), .second, .val (.int sel), .val (.int rs), .val (.int rt), .val (.ref b1), .val (.ref b19), .val (.int q31), .val (.int (Int32.ofNat m38)), .val (.int (Int32.ofNat m39)), .val (.int (Int32.ofNat (min m38 m39))), .val (.int (Int32.ofNat (max m38 m39))), .val (.int q61)] [(.int (1 : Int32))])) _
            refine XS.istore X62.here hx rfl (Jvm.hb hby at_203) rfl (l' := #[.val (.long lc), .second, .val (.int sel), .val (.int rs), .val (.int rt), .val (.ref b1), .val (.ref b19), .val (.int q31), .val (.int (Int32.ofNat m38)), .val (.int (Int32.ofNat m39)), .val (.int (Int32.ofNat (min m38 m39))), .val (.int (Int32.ofNat (max m38 m39))), .val (.int (1 : Int32))]) rfl ?_
            show Steps p.tables e below (T62.setTop (mkF m 205 #[.val (.long lc), .second, .val (.int sel), .val (.int rs), .val (.int rt), .val (.ref b1), .val (.ref b19), .val (.int q31), .val (.int (Int32.ofNat m38)), .val (.int (Int32.ofNat m39)), .val (.int (Int32.ofNat (min m38 m39))), .val (.int (Int32.ofNat (max m38 m39))), .val (.int (1 : Int32))] [])) _
            show Steps p.tables e below (T62.setTop (mkF m 205 #[.val (.long lc), .second, .val (.int sel), .val (.int rs), .val (.int rt), .val (.ref b1), .val (.ref b19), .val (.int q31), .val (.int (Int32.ofNat m38)), .val (.int (Int32.ofNat m39)), .val (.int (Int32.ofNat (min m38 m39))), .val (.int (Int32.ofNat (max m38 m39))), .val (.int (1 : Int32))] [])) t_
            exact k_)
          exact ⟨T62, X62, e62, fun t_ k_ => s85 t_ (castTop (by simp only [hq75, if_neg h77, if_pos h80, if_pos h84]) k_)⟩
        · have s86 : ∀ t_, Steps p.tables e below (T62.setTop (mkF m 205 #[.val (.long lc), .second, .val (.int sel), .val (.int rs), .val (.int rt), .val (.ref b1), .val (.ref b19), .val (.int q31), .val (.int (Int32.ofNat m38)), .val (.int (Int32.ofNat m39)), .val (.int (Int32.ofNat (min m38 m39))), .val (.int (Int32.ofNat (max m38 m39))), .val (.int q61)] [])) t_ → Steps p.tables e below (s₁.setTop (entryFrame m #[(.long lc), (.int sel), (.int rs), (.int rt)] maxLocals)) t_ := fun t_ k_ => s83 t_ (by
            show Steps p.tables e below (T62.setTop (mkF m 199 #[.val (.long lc), .second, .val (.int sel), .val (.int rs), .val (.int rt), .val (.ref b1), .val (.ref b19), .val (.int q31), .val (.int (Int32.ofNat m38)), .val (.int (Int32.ofNat m39)), .val (.int (Int32.ofNat (min m38 m39))), .val (.int (Int32.ofNat (max m38 m39))), .val (.int q61)] [(.int q31), (.int q9)])) t_
            refine XS.icmpYes X62.here hx rfl (pc0 := 199) (pc' := 205) rfl (Jvm.hb hby at_199) rfl (feq h84).2 (by decide) (by decide) ?_
            show Steps p.tables e below (T62.setTop (mkF m 205 #[.val (.long lc), .second, .val (.int sel), .val (.int rs), .val (.int rt), .val (.ref b1), .val (.ref b19), .val (.int q31), .val (.int (Int32.ofNat m38)), .val (.int (Int32.ofNat m39)), .val (.int (Int32.ofNat (min m38 m39))), .val (.int (Int32.ofNat (max m38 m39))), .val (.int q61)] [])) _
            show Steps p.tables e below (T62.setTop (mkF m 205 #[.val (.long lc), .second, .val (.int sel), .val (.int rs), .val (.int rt), .val (.ref b1), .val (.ref b19), .val (.int q31), .val (.int (Int32.ofNat m38)), .val (.int (Int32.ofNat m39)), .val (.int (Int32.ofNat (min m38 m39))), .val (.int (Int32.ofNat (max m38 m39))), .val (.int q61)] [])) t_
            exact k_)
          exact ⟨T62, X62, e62, fun t_ k_ => s86 t_ (castTop (by simp only [hq75, if_neg h77, if_pos h80, if_neg h84]) k_)⟩
      · have s87 : ∀ t_, Steps p.tables e below (T62.setTop (mkF m 205 #[.val (.long lc), .second, .val (.int sel), .val (.int rs), .val (.int rt), .val (.ref b1), .val (.ref b19), .val (.int q31), .val (.int (Int32.ofNat m38)), .val (.int (Int32.ofNat m39)), .val (.int (Int32.ofNat (min m38 m39))), .val (.int (Int32.ofNat (max m38 m39))), .val (.int q61)] [])) t_ → Steps p.tables e below (s₁.setTop (entryFrame m #[(.long lc), (.int sel), (.int rs), (.int rt)] maxLocals)) t_ := fun t_ k_ => s79 t_ (by
          show Steps p.tables e below (T62.setTop (mkF m 190 #[.val (.long lc), .second, .val (.int sel), .val (.int rs), .val (.int rt), .val (.ref b1), .val (.ref b19), .val (.int q31), .val (.int (Int32.ofNat m38)), .val (.int (Int32.ofNat m39)), .val (.int (Int32.ofNat (min m38 m39))), .val (.int (Int32.ofNat (max m38 m39))), .val (.int q61)] [(.int (Int32.ofNat (max m38 m39))), (.int (1 : Int32))])) t_
          refine XS.icmpYes X62.here hx rfl (pc0 := 190) (pc' := 205) rfl (Jvm.hb hby at_190) rfl (flt h80).2.1 (by decide) (by decide) ?_
          show Steps p.tables e below (T62.setTop (mkF m 205 #[.val (.long lc), .second, .val (.int sel), .val (.int rs), .val (.int rt), .val (.ref b1), .val (.ref b19), .val (.int q31), .val (.int (Int32.ofNat m38)), .val (.int (Int32.ofNat m39)), .val (.int (Int32.ofNat (min m38 m39))), .val (.int (Int32.ofNat (max m38 m39))), .val (.int q61)] [])) _
          show Steps p.tables e below (T62.setTop (mkF m 205 #[.val (.long lc), .second, .val (.int sel), .val (.int rs), .val (.int rt), .val (.ref b1), .val (.ref b19), .val (.int q31), .val (.int (Int32.ofNat m38)), .val (.int (Int32.ofNat m39)), .val (.int (Int32.ofNat (min m38 m39))), .val (.int (Int32.ofNat (max m38 m39))), .val (.int q61)] [])) t_
          exact k_)
        exact ⟨T62, X62, e62, fun t_ k_ => s87 t_ (castTop (by simp only [hq75, if_neg h77, if_neg h80]) k_)⟩)
  have s88 : ∀ t_, Steps p.tables e below (T76.setTop (mkF m 207 #[.val (.long lc), .second, .val (.int sel), .val (.int rs), .val (.int rt), .val (.ref b1), .val (.ref b19), .val (.int q31), .val (.int (Int32.ofNat m38)), .val (.int (Int32.ofNat m39)), .val (.int (Int32.ofNat (min m38 m39))), .val (.int (Int32.ofNat (max m38 m39))), .val (.int q75)] [(.int (Int32.ofNat (min m38 m39)))])) t_ → Steps p.tables e below (s₁.setTop (entryFrame m #[(.long lc), (.int sel), (.int rs), (.int rt)] maxLocals)) t_ := fun t_ k_ => s76 t_ (by
    show Steps p.tables e below (T76.setTop (mkF m 205 #[.val (.long lc), .second, .val (.int sel), .val (.int rs), .val (.int rt), .val (.ref b1), .val (.ref b19), .val (.int q31), .val (.int (Int32.ofNat m38)), .val (.int (Int32.ofNat m39)), .val (.int (Int32.ofNat (min m38 m39))), .val (.int (Int32.ofNat (max m38 m39))), .val (.int q75)] [])) t_
    refine XS.iload X76.here hx rfl (Jvm.hb hby at_205) rfl ?_
    show Steps p.tables e below (T76.setTop (mkF m 207 #[.val (.long lc), .second, .val (.int sel), .val (.int rs), .val (.int rt), .val (.ref b1), .val (.ref b19), .val (.int q31), .val (.int (Int32.ofNat m38)), .val (.int (Int32.ofNat m39)), .val (.int (Int32.ofNat (min m38 m39))), .val (.int (Int32.ofNat (max m38 m39))), .val (.int q75)] [(.int (Int32.ofNat (min m38 m39)))])) _
    show Steps p.tables e below (T76.setTop (mkF m 207 #[.val (.long lc), .second, .val (.int sel), .val (.int rs), .val (.int rt), .val (.ref b1), .val (.ref b19), .val (.int q31), .val (.int (Int32.ofNat m38)), .val (.int (Int32.ofNat m39)), .val (.int (Int32.ofNat (min m38 m39))), .val (.int (Int32.ofNat (max m38 m39))), .val (.int q75)] [(.int (Int32.ofNat (min m38 m39)))])) t_
    exact k_)
  obtain ⟨q89, hq89⟩ : ∃ z : Int32, z = (if (0 : Int32) < (Int32.ofNat (min m38 m39)) then q75 else (if (0 : Int32) < (Int32.ofNat (max m38 m39)) then (if q5 = q31 then (0 : Int32) else q75) else q75)) := ⟨_, rfl⟩
  obtain ⟨T90, X90, e90, s90⟩ := seg X76 (fun T' => T'.heap = h27 ∧ ∀ t_, Steps p.tables e below (T'.setTop (mkF m 228 #[.val (.long lc), .second, .val (.int sel), .val (.int rs), .val (.int rt), .val (.ref b1), .val (.ref b19), .val (.int q31), .val (.int (Int32.ofNat m38)), .val (.int (Int32.ofNat m39)), .val (.int (Int32.ofNat (min m38 m39))), .val (.int (Int32.ofNat (max m38 m39))), .val (.int q89)] [])) t_ → Steps p.tables e below (s₁.setTop (entryFrame m #[(.long lc), (.int sel), (.int rs), (.int rt)] maxLocals)) t_) (by
    by_cases h91 : (0 : Int32) < (Int32.ofNat (min m38 m39))
    · have s92 : ∀ t_, Steps p.tables e below (T76.setTop (mkF m 228 #[.val (.long lc), .second, .val (.int sel), .val (.int rs), .val (.int rt), .val (.ref b1), .val (.ref b19), .val (.int q31), .val (.int (Int32.ofNat m38)), .val (.int (Int32.ofNat m39)), .val (.int (Int32.ofNat (min m38 m39))), .val (.int (Int32.ofNat (max m38 m39))), .val (.int q75)] [])) t_ → Steps p.tables e below (s₁.setTop (entryFrame m #[(.long lc), (.int sel), (.int rs), (.int rt)] maxLocals)) t_ := fun t_ k_ => s88 t_ (by
        show Steps p.tables e below (T76.setTop (mkF m 207 #[.val (.long lc), .second, .val (.int sel), .val (.int rs), .val (.int rt), .val (.ref b1), .val (.ref b19), .val (.int q31), .val (.int (Int32.ofNat m38)), .val (.int (Int32.ofNat m39)), .val (.int (Int32.ofNat (min m38 m39))), .val (.int (Int32.ofNat (max m38 m39))), .val (.int q75)] [(.int (Int32.ofNat (min m38 m39)))])) t_
        refine XS.ifYes X76.here hx rfl (pc0 := 207) (pc' := 228) rfl (Jvm.hb hby at_207) rfl ((if0 _ _).trans (tlt h91).2.2.1) (by decide) (by decide) ?_
        show Steps p.tables e below (T76.setTop (mkF m 228 #[.val (.long lc), .second, .val (.int sel), .val (.int rs), .val (.int rt), .val (.ref b1), .val (.ref b19), .val (.int q31), .val (.int (Int32.ofNat m38)), .val (.int (Int32.ofNat m39)), .val (.int (Int32.ofNat (min m38 m39))), .val (.int (Int32.ofNat (max m38 m39))), .val (.int q75)] [])) _
        show Steps p.tables e below (T76.setTop (mkF m 228 #[.val (.long lc), .second, .val (.int sel), .val (.int rs), .val (.int rt), .val (.ref b1), .val (.ref b19), .val (.int q31), .val (.int (Int32.ofNat m38)), .val (.int (Int32.ofNat m39)), .val (.int (Int32.ofNat (min m38 m39))), .val (.int (Int32.ofNat (max m38 m39))), .val (.int q75)] [])) t_
        exact k_)
      exact ⟨T76, X76, e76, fun t_ k_ => s92 t_ (castTop (by simp only [hq89, if_pos h91]) k_)⟩
    · have s93 : ∀ t_, Steps p.tables e below (T76.setTop (mkF m 213 #[.val (.long lc), .second, .val (.int sel), .val (.int rs), .val (.int rt), .val (.ref b1), .val (.ref b19), .val (.int q31), .val (.int (Int32.ofNat m38)), .val (.int (Int32.ofNat m39)), .val (.int (Int32.ofNat (min m38 m39))), .val (.int (Int32.ofNat (max m38 m39))), .val (.int q75)] [(.int (Int32.ofNat (max m38 m39))), (.int (0 : Int32))])) t_ → Steps p.tables e below (s₁.setTop (entryFrame m #[(.long lc), (.int sel), (.int rs), (.int rt)] maxLocals)) t_ := fun t_ k_ => s88 t_ (by
        show Steps p.tables e below (T76.setTop (mkF m 207 #[.val (.long lc), .second, .val (.int sel), .val (.int rs), .val (.int rt), .val (.ref b1), .val (.ref b19), .val (.int q31), .val (.int (Int32.ofNat m38)), .val (.int (Int32.ofNat m39)), .val (.int (Int32.ofNat (min m38 m39))), .val (.int (Int32.ofNat (max m38 m39))), .val (.int q75)] [(.int (Int32.ofNat (min m38 m39)))])) t_
        refine XS.ifNo X76.here hx rfl (Jvm.hb hby at_207) rfl ((if0 _ _).trans (flt h91).2.2.1) ?_
        show Steps p.tables e below (T76.setTop (mkF m 210 #[.val (.long lc), .second, .val (.int sel), .val (.int rs), .val (.int rt), .val (.ref b1), .val (.ref b19), .val (.int q31), .val (.int (Int32.ofNat m38)), .val (.int (Int32.ofNat m39)), .val (.int (Int32.ofNat (min m38 m39))), .val (.int (Int32.ofNat (max m38 m39))), .val (.int q75)] [])) _
        refine XS.iconst X76.here hx rfl (Jvm.hb hby at_210) ?_
        show Steps p.tables e below (T76.setTop (mkF m 211 #[.val (.long lc), .second, .val (.int sel), .val (.int rs), .val (.int rt), .val (.ref b1), .val (.ref b19), .val (.int q31), .val (.int (Int32.ofNat m38)), .val (.int (Int32.ofNat m39)), .val (.int (Int32.ofNat (min m38 m39))), .val (.int (Int32.ofNat (max m38 m39))), .val (.int q75)] [(.int (0 : Int32))])) _
        refine XS.iload X76.here hx rfl (Jvm.hb hby at_211) rfl ?_
        show Steps p.tables e below (T76.setTop (mkF m 213 #[.val (.long lc), .second, .val (.int sel), .val (.int rs), .val (.int rt), .val (.ref b1), .val (.ref b19), .val (.int q31), .val (.int (Int32.ofNat m38)), .val (.int (Int32.ofNat m39)), .val (.int (Int32.ofNat (min m38 m39))), .val (.int (Int32.ofNat (max m38 m39))), .val (.int q75)] [(.int (Int32.ofNat (max m38 m39))), (.int (0 : Int32))])) _
        show Steps p.tables e below (T76.setTop (mkF m 213 #[.val (.long lc), .second, .val (.int sel), .val (.int rs), .val (.int rt), .val (.ref b1), .val (.ref b19), .val (.int q31), .val (.int (Int32.ofNat m38)), .val (.int (Int32.ofNat m39)), .val (.int (Int32.ofNat (min m38 m39))), .val (.int (Int32.ofNat (max m38 m39))), .val (.int q75)] [(.int (Int32.ofNat (max m38 m39))), (.int (0 : Int32))])) t_
        exact k_)
      by_cases h94 : (0 : Int32) < (Int32.ofNat (max m38 m39))
      · have f95 : Arv Z h27 b1 k1 .char (4 : Int32) [(.int q5), (.int q9), (.int q13), (.int q17)] (.int (0 : Int32)) := (f25.keep K27 (ninS (show @Ne Nat b1 b19 by omega) nin0))
        obtain ⟨cl96, Ar96, -, S96, M96, H96, -⟩ := id f95
        have hin96 : ¬ ((0 : Int32) < 0 ∨ cl96.slots.size ≤ ((0 : Int32)).toNatClampNeg) := inb_of S96 ⟨by decide, by decide⟩
        have hat96 : cl96.slots[((0 : Int32)).toNatClampNeg]? = some (.int q5) := H96.at hin96 (rfl)
        have s97 : ∀ t_, Steps p.tables e below (T76.setTop (mkF m 222 #[.val (.long lc), .second, .val (.int sel), .val (.int rs), .val (.int rt), .val (.ref b1), .val (.ref b19), .val (.int q31), .val (.int (Int32.ofNat m38)), .val (.int (Int32.ofNat m39)), .val (.int (Int32.ofNat (min m38 m39))), .val (.int (Int32.ofNat (max m38 m39))), .val (.int q75)] [(.int q31), (.int q5)])) t_ → Steps p.tables e below (s₁.setTop (entryFrame m #[(.long lc), (.int sel), (.int rs), (.int rt)] maxLocals)) t_ := fun t_ k_ => s93 t_ (by
          show Steps p.tables e below (T76.setTop (mkF m 213 #[.val (.long lc), .second, .val (.int sel), .val (.int rs), .val (.int rt), .val (.ref b1), .val (.ref b19), .val (.int q31), .val (.int (Int32.ofNat m38)), .val (.int (Int32.ofNat m39)), .val (.int (Int32.ofNat (min m38 m39))), .val (.int (Int32.ofNat (max m38 m39))), .val (.int q75)] [(.int (Int32.ofNat (max m38 m39))), (.int (0 : Int32))])) t_
          refine XS.icmpNo X76.here hx rfl (Jvm.hb hby at_213) rfl (tlt h94).2.1 ?_
          show Steps p.tables e below (T76.setTop (mkF m 216 #[.val (.long lc), .second, .val (.int sel), .val (.int rs), .val (.int rt), .val (.ref b1), .val (.ref b19), .val (.int q31), .val (.int (Int32.ofNat m38)), .val (.int (Int32.ofNat m39)), .val (.int (Int32.ofNat (min m38 m39))), .val (.int (Int32.ofNat (max m38 m39))), .val (.int q75)] [])) _
          refine XS.aload X76.here hx rfl (Jvm.hb hby at_216) rfl rfl ?_
          show Steps p.tables e below (T76.setTop (mkF m 218 #[.val (.long lc), .second, .val (.int sel), .val (.int rs), .val (.int rt), .val (.ref b1), .val (.ref b19), .val (.int q31), .val (.int (Int32.ofNat m38)), .val (.int (Int32.ofNat m39)), .val (.int (Int32.ofNat (min m38 m39))), .val (.int (Int32.ofNat (max m38 m39))), .val (.int q75)] [(.ref b1)])) _
          refine XS.iconst X76.here hx rfl (Jvm.hb hby at_218) ?_
          show Steps p.tables e below (T76.setTop (mkF m 219 #[.val (.long lc), .second, .val (.int sel), .val (.int rs), .val (.int rt), .val (.ref b1), .val (.ref b19), .val (.int q31), .val (.int (Int32.ofNat m38)), .val (.int (Int32.ofNat m39)), .val (.int (Int32.ofNat (min m38 m39))), .val (.int (Int32.ofNat (max m38 m39))), .val (.int q75)] [(.int (0 : Int32)), (.ref b1)])) _
          refine X76.caload hx (j := (0 : Int32)) (v := (.int q5)) (by rw [e76]; exact Ar96.1) (State.isArrayOf_alike hZ.alike Ar96.2.1) Ar96.2.2 hin96 hat96 (g := (mkF m 219 #[.val (.long lc), .second, .val (.int sel), .val (.int rs), .val (.int rt), .val (.ref b1), .val (.ref b19), .val (.int q31), .val (.int (Int32.ofNat m38)), .val (.int (Int32.ofNat m39)), .val (.int (Int32.ofNat (min m38 m39))), .val (.int (Int32.ofNat (max m38 m39))), .val (.int q75)] [(.int (0 : Int32)), (.ref b1)])) rfl rfl (Jvm.hb hby at_219) _ ?_
          show Steps p.tables e below (T76.setTop (mkF m 220 #[.val (.long lc), .second, .val (.int sel), .val (.int rs), .val (.int rt), .val (.ref b1), .val (.ref b19), .val (.int q31), .val (.int (Int32.ofNat m38)), .val (.int (Int32.ofNat m39)), .val (.int (Int32.ofNat (min m38 m39))), .val (.int (Int32.ofNat (max m38 m39))), .val (.int q75)] [(.int q5)])) _
          refine XS.iload X76.here hx rfl (Jvm.hb hby at_220) rfl ?_
          show Steps p.tables e below (T76.setTop (mkF m 222 #[.val (.long lc), .second, .val (.int sel), .val (.int rs), .val (.int rt), .val (.ref b1), .val (.ref b19), .val (.int q31), .val (.int (Int32.ofNat m38)), .val (.int (Int32.ofNat m39)), .val (.int (Int32.ofNat (min m38 m39))), .val (.int (Int32.ofNat (max m38 m39))), .val (.int q75)] [(.int q31), (.int q5)])) _
          show Steps p.tables e below (T76.setTop (mkF m 222 #[.val (.long lc), .second, .val (.int sel), .val (.int rs), .val (.int rt), .val (.ref b1), .val (.ref b19), .val (.int q31), .val (.int (Int32.ofNat m38)), .val (.int (Int32.ofNat m39)), .val (.int (Int32.ofNat (min m38 m39))), .val (.int (Int32.ofNat (max m38 m39))), .val (.int q75)] [(.int q31), (.int q5)])) t_
          exact k_)
        by_cases h98 : q5 = q31
        · have s99 : ∀ t_, Steps p.tables e below (T76.setTop (mkF m 228 #[.val (.long lc), .second, .val (.int sel), .val (.int rs), .val (.int rt), .val (.ref b1), .val (.ref b19), .val (.int q31), .val (.int (Int32.ofNat m38)), .val (.int (Int32.ofNat m39)), .val (.int (Int32.ofNat (min m38 m39))), .val (.int (Int32.ofNat (max m38 m39))), .val (.int (0 : Int32))] [])) t_ → Steps p.tables e below (s₁.setTop (entryFrame m #[(.long lc), (.int sel), (.int rs), (.int rt)] maxLocals)) t_ := fun t_ k_ => s97 t_ (by
            show Steps p.tables e below (T76.setTop (mkF m 222 #[.val (.long lc), .second, .val (.int sel), .val (.int rs), .val (.int rt), .val (.ref b1), .val (.ref b19), .val (.int q31), .val (.int (Int32.ofNat m38)), .val (.int (Int32.ofNat m39)), .val (.int (Int32.ofNat (min m38 m39))), .val (.int (Int32.ofNat (max m38 m39))), .val (.int q75)] [(.int q31), (.int q5)])) t_
            refine XS.icmpNo X76.here hx rfl (Jvm.hb hby at_222) rfl (teq h98).2 ?_
            show Steps p.tables e below (T76.setTop (mkF m 225 #[.val (.long lc), .second, .val (.int sel), .val (.int rs), .val (.int rt), .val (.ref b1), .val (.ref b19), .val (.int q31), .val (.int (Int32.ofNat m38)), .val (.int (Int32.ofNat m39)), .val (.int (Int32.ofNat (min m38 m39))), .val (.int (Int32.ofNat (max m38 m39))), .val (.int q75)] [])) _
            refine XS.iconst X76.here hx rfl (Jvm.hb hby at_225) ?_
            show Steps p.tables e below (T76.setTop (mkF m 226 #[.val (.long lc), .second, .val (.int sel), .val (.int rs), .val (.int rt), .val (.ref b1), .val (.ref b19), .val (.int q31), .val (.int (Int32.ofNat m38)), .val (.int (Int32.ofNat m39)), .val (.int (Int32.ofNat (min m38 m39))), .val (.int (Int32.ofNat (max m38 m39))), .val (.int q75)] [(.int (0 : Int32))])) _
            refine XS.istore X76.here hx rfl (Jvm.hb hby at_226) rfl (l' := #[.val (.long lc), .second, .val (.int sel), .val (.int rs), .val (.int rt), .val (.ref b1), .val (.ref b19), .val (.int q31), .val (.int (Int32.ofNat m38)), .val (.int (Int32.ofNat m39)), .val (.int (Int32.ofNat (min m38 m39))), .val (.int (Int32.ofNat (max m38 m39))), .val (.int (0 : Int32))]) rfl ?_
            show Steps p.tables e below (T76.setTop (mkF m 228 #[.val (.long lc), .second, .val (.int sel), .val (.int rs), .val (.int rt), .val (.ref b1), .val (.ref b19), .val (.int q31), .val (.int (Int32.ofNat m38)), .val (.int (Int32.ofNat m39)), .val (.int (Int32.ofNat (min m38 m39))), .val (.int (Int32.ofNat (max m38 m39))), .val (.int (0 : Int32))] [])) _
            show Steps p.tables e below (T76.setTop (mkF m 228 #[.val (.long lc), .second, .val (.int sel), .val (.int rs), .val (.int rt), .val (.ref b1), .val (.ref b19), .val (.int q31), .val (.int (Int32.ofNat m38)), .val (.int (Int32.ofNat m39)), .val (.int (Int32.ofNat (min m38 m39))), .val (.int (Int32.ofNat (max m38 m39))), .val (.int (0 : Int32))] [])) t_
            exact k_)
          exact ⟨T76, X76, e76, fun t_ k_ => s99 t_ (castTop (by simp only [hq89, if_neg h91, if_pos h94, if_pos h98]) k_)⟩
        · have s100 : ∀ t_, Steps p.tables e below (T76.setTop (mkF m 228 #[.val (.long lc), .second, .val (.int sel), .val (.int rs), .val (.int rt), .val (.ref b1), .val (.ref b19), .val (.int q31), .val (.int (Int32.ofNat m38)), .val (.int (Int32.ofNat m39)), .val (.int (Int32.ofNat (min m38 m39))), .val (.int (Int32.ofNat (max m38 m39))), .val (.int q75)] [])) t_ → Steps p.tables e below (s₁.setTop (entryFrame m #[(.long lc), (.int sel), (.int rs), (.int rt)] maxLocals)) t_ := fun t_ k_ => s97 t_ (by
            show Steps p.tables e below (T76.setTop (mkF m 222 #[.val (.long lc), .second, .val (.int sel), .val (.int rs), .val (.int rt), .val (.ref b1), .val (.ref b19), .val (.int q31), .val (.int (Int32.ofNat m38)), .val (.int (Int32.ofNat m39)), .val (.int (Int32.ofNat (min m38 m39))), .val (.int (Int32.ofNat (max m38 m39))), .val (.int q75)] [(.int q31), (.int q5)])) t_
            refine XS.icmpYes X76.here hx rfl (pc0 := 222) (pc' := 228) rfl (Jvm.hb hby at_222) rfl (feq h98).2 (by decide) (by decide) ?_
            show Steps p.tables e below (T76.setTop (mkF m 228 #[.val (.long lc), .second, .val (.int sel), .val (.int rs), .val (.int rt), .val (.ref b1), .val (.ref b19), .val (.int q31), .val (.int (Int32.ofNat m38)), .val (.int (Int32.ofNat m39)), .val (.int (Int32.ofNat (min m38 m39))), .val (.int (Int32.ofNat (max m38 m39))), .val (.int q75)] [])) _
            show Steps p.tables e below (T76.setTop (mkF m 228 #[.val (.long lc), .second, .val (.int sel), .val (.int rs), .val (.int rt), .val (.ref b1), .val (.ref b19), .val (.int q31), .val (.int (Int32.ofNat m38)), .val (.int (Int32.ofNat m39)), .val (.int (Int32.ofNat (min m38 m39))), .val (.int (Int32.ofNat (max m38 m39))), .val (.int q75)] [])) t_
            exact k_)
          exact ⟨T76, X76, e76, fun t_ k_ => s100 t_ (castTop (by simp only [hq89, if_neg h91, if_pos h94, if_neg h98]) k_)⟩
      · have s101 : ∀ t_, Steps p.tables e below (T76.setTop (mkF m 228 #[.val (.long lc), .second, .val (.int sel), .val (.int rs), .val (.int rt), .val (.ref b1), .val (.ref b19), .val (.int q31), .val (.int (Int32.ofNat m38)), .val (.int (Int32.ofNat m39)), .val (.int (Int32.ofNat (min m38 m39))), .val (.int (Int32.ofNat (max m38 m39))), .val (.int q75)] [])) t_ → Steps p.tables e below (s₁.setTop (entryFrame m #[(.long lc), (.int sel), (.int rs), (.int rt)] maxLocals)) t_ := fun t_ k_ => s93 t_ (by
          show Steps p.tables e below (T76.setTop (mkF m 213 #[.val (.long lc), .second, .val (.int sel), .val (.int rs), .val (.int rt), .val (.ref b1), .val (.ref b19), .val (.int q31), .val (.int (Int32.ofNat m38)), .val (.int (Int32.ofNat m39)), .val (.int (Int32.ofNat (min m38 m39))), .val (.int (Int32.ofNat (max m38 m39))), .val (.int q75)] [(.int (Int32.ofNat (max m38 m39))), (.int (0 : Int32))])) t_
          refine XS.icmpYes X76.here hx rfl (pc0 := 213) (pc' := 228) rfl (Jvm.hb hby at_213) rfl (flt h94).2.1 (by decide) (by decide) ?_
          show Steps p.tables e below (T76.setTop (mkF m 228 #[.val (.long lc), .second, .val (.int sel), .val (.int rs), .val (.int rt), .val (.ref b1), .val (.ref b19), .val (.int q31), .val (.int (Int32.ofNat m38)), .val (.int (Int32.ofNat m39)), .val (.int (Int32.ofNat (min m38 m39))), .val (.int (Int32.ofNat (max m38 m39))), .val (.int q75)] [])) _
          show Steps p.tables e below (T76.setTop (mkF m 228 #[.val (.long lc), .second, .val (.int sel), .val (.int rs), .val (.int rt), .val (.ref b1), .val (.ref b19), .val (.int q31), .val (.int (Int32.ofNat m38)), .val (.int (Int32.ofNat m39)), .val (.int (Int32.ofNat (min m38 m39))), .val (.int (Int32.ofNat (max m38 m39))), .val (.int q75)] [])) t_
          exact k_)
        exact ⟨T76, X76, e76, fun t_ k_ => s101 t_ (castTop (by simp only [hq89, if_neg h91, if_neg h94]) k_)⟩)
  have s102 : ∀ t_, Steps p.tables e below (T90.setTop (mkF m 236 #[.val (.long lc), .second, .val (.int sel), .val (.int rs), .val (.int rt), .val (.ref b1), .val (.ref b19), .val (.int q31), .val (.int (Int32.ofNat m38)), .val (.int (Int32.ofNat m39)), .val (.int (Int32.ofNat (min m38 m39))), .val (.int (Int32.ofNat (max m38 m39))), .val (.int q89)] [(.int (Int32.ofNat (max m38 m39))), (.int (Int32.ofNat (min m38 m39))), (.int q31), (.ref b19)])) t_ → Steps p.tables e below (s₁.setTop (entryFrame m #[(.long lc), (.int sel), (.int rs), (.int rt)] maxLocals)) t_ := fun t_ k_ => s90 t_ (by
    show Steps p.tables e below (T90.setTop (mkF m 228 #[.val (.long lc), .second, .val (.int sel), .val (.int rs), .val (.int rt), .val (.ref b1), .val (.ref b19), .val (.int q31), .val (.int (Int32.ofNat m38)), .val (.int (Int32.ofNat m39)), .val (.int (Int32.ofNat (min m38 m39))), .val (.int (Int32.ofNat (max m38 m39))), .val (.int q89)] [])) t_
    refine XS.aload X90.here hx rfl (Jvm.hb hby at_228) rfl rfl ?_
    show Steps p.tables e below (T90.setTop (mkF m 230 #[.val (.long lc), .second, .val (.int sel), .val (.int rs), .val (.int rt), .val (.ref b1), .val (.ref b19), .val (.int q31), .val (.int (Int32.ofNat m38)), .val (.int (Int32.ofNat m39)), .val (.int (Int32.ofNat (min m38 m39))), .val (.int (Int32.ofNat (max m38 m39))), .val (.int q89)] [(.ref b19)])) _
    refine XS.iload X90.here hx rfl (Jvm.hb hby at_230) rfl ?_
    show Steps p.tables e below (T90.setTop (mkF m 232 #[.val (.long lc), .second, .val (.int sel), .val (.int rs), .val (.int rt), .val (.ref b1), .val (.ref b19), .val (.int q31), .val (.int (Int32.ofNat m38)), .val (.int (Int32.ofNat m39)), .val (.int (Int32.ofNat (min m38 m39))), .val (.int (Int32.ofNat (max m38 m39))), .val (.int q89)] [(.int q31), (.ref b19)])) _
    refine XS.iload X90.here hx rfl (Jvm.hb hby at_232) rfl ?_
    show Steps p.tables e below (T90.setTop (mkF m 234 #[.val (.long lc), .second, .val (.int sel), .val (.int rs), .val (.int rt), .val (.ref b1), .val (.ref b19), .val (.int q31), .val (.int (Int32.ofNat m38)), .val (.int (Int32.ofNat m39)), .val (.int (Int32.ofNat (min m38 m39))), .val (.int (Int32.ofNat (max m38 m39))), .val (.int q89)] [(.int (Int32.ofNat (min m38 m39))), (.int q31), (.ref b19)])) _
    refine XS.iload X90.here hx rfl (Jvm.hb hby at_234) rfl ?_
    show Steps p.tables e below (T90.setTop (mkF m 236 #[.val (.long lc), .second, .val (.int sel), .val (.int rs), .val (.int rt), .val (.ref b1), .val (.ref b19), .val (.int q31), .val (.int (Int32.ofNat m38)), .val (.int (Int32.ofNat m39)), .val (.int (Int32.ofNat (min m38 m39))), .val (.int (Int32.ofNat (max m38 m39))), .val (.int q89)] [(.int (Int32.ofNat (max m38 m39))), (.int (Int32.ofNat (min m38 m39))), (.int q31), (.ref b19)])) _
    show Steps p.tables e below (T90.setTop (mkF m 236 #[.val (.long lc), .second, .val (.int sel), .val (.int rs), .val (.int rt), .val (.ref b1), .val (.ref b19), .val (.int q31), .val (.int (Int32.ofNat m38)), .val (.int (Int32.ofNat m39)), .val (.int (Int32.ofNat (min m38 m39))), .val (.int (Int32.ofNat (max m38 m39))), .val (.int q89)] [(.int (Int32.ofNat (max m38 m39))), (.int (Int32.ofNat (min m38 m39))), (.int q31), (.ref b19)])) t_
    exact k_)
  have O103 : Old Z n0 h27 := (O24.keep K27 (allS (show n0 ≤ b19 by omega) all0))
  have Zc104 : n0 ≤ h27.size := by omega
  obtain ⟨_, _, ⟨T105, L105, k105, n105⟩, -, X105, ⟨Lc105, hQ105, l105, y105, z105⟩, st105⟩ := Jvm.LawKit.callS X90 hx (y := (⟨"com/example/odysseus/odysseus/UrlParser", "find", "(Ljava/lang/String;CII)I"⟩ : MethodName)) hown (mvT hZ (hw _ (List.mem_of_getElem? (i := 39) rfl))) (mvT hZ (hw _ (List.mem_of_getElem? (i := 40) rfl))) (mvT hZ (hw _ (List.mem_of_getElem? (i := 41) rfl))) (mvT hZ (hw _ (List.mem_of_getElem? (i := 42) rfl))) (by decide) (backOf (W := 0) (rmFind l Z a0 hw [] b19 q31 cst b_27 kb_27 [q5, q9, q13, q17] (min m38 m39) fmt (max m38 m39) h27 n0 Zc104 I1 I2 I3 I4 (hfmt : fmt.isRef = true) I5 O103 (hcst : ¬ (cst = (0 : Int32))) Fq27_0 Fq27_1 Fq27_2 Fq27_3 (by simp) (by simp only [List.length_cons, List.length_nil]; omega) hchs (rc.1 : ¬ (q31 < (0 : Int32))) (rc.2 : ¬ ((65535 : Int32) < q31))) hZ (hw _ (List.mem_of_getElem? (i := 42) rfl)) (hw _ (List.mem_of_getElem? (i := 41) rfl)) (by decide) (by decide)) (g := (mkF m 236 #[.val (.long lc), .second, .val (.int sel), .val (.int rs), .val (.int rt), .val (.ref b1), .val (.ref b19), .val (.int q31), .val (.int (Int32.ofNat m38)), .val (.int (Int32.ofNat m39)), .val (.int (Int32.ofNat (min m38 m39))), .val (.int (Int32.ofNat (max m38 m39))), .val (.int q89)] [(.int (Int32.ofNat (max m38 m39))), (.int (Int32.ofNat (min m38 m39))), (.int q31), (.ref b19)])) rfl (by rw [hml]; rfl) (argsL := [(.ref b19), (.int q31), (.int (Int32.ofNat (min m38 m39))), (.int (Int32.ofNat (max m38 m39)))]) (rest := []) (lenOf pd__Ljava_lang_String_CII_I rfl) rfl (by show 2 * 0 + _ ≤ _; exact Nat.le_of_eq rfl) (Jvm.hb hby at_236) (fun _ _ => ⟨rfl, e90, (by decide : 4 + 0 ≤ _), (by decide : 20 + 0 ≤ _)⟩)
  dsimp only [Pt.U, Pt.locs, Pt.cells, Pt.slots] at X105 l105 y105 z105 st105 hQ105
  subst l105 y105 z105
  obtain ⟨rfl, N105q, e105⟩ := hQ105
  have N105 := Fr.app N45 N105q
  obtain ⟨q106, hq106⟩ : ∃ z : Int32, z = (if ((Int32.ofNat (own_ix [q5, q9, q13, q17] q31 (min m38 m39) ([q5, q9, q13, q17].length - (min m38 m39)))) - (1 : Int32)) < (0 : Int32) then (Int32.ofNat (max m38 m39)) else (if ((Int32.ofNat (own_ix [q5, q9, q13, q17] q31 (min m38 m39) ([q5, q9, q13, q17].length - (min m38 m39)))) - (1 : Int32)) < (Int32.ofNat (max m38 m39)) then ((Int32.ofNat (own_ix [q5, q9, q13, q17] q31 (min m38 m39) ([q5, q9, q13, q17].length - (min m38 m39)))) - (1 : Int32)) else (Int32.ofNat (max m38 m39)))) := ⟨_, rfl⟩
  rw [← hq106] at st105
  have s107 : ∀ t_, Steps p.tables e below (T105.setTop (mkF m 241 #[.val (.long lc), .second, .val (.int sel), .val (.int rs), .val (.int rt), .val (.ref b1), .val (.ref b19), .val (.int q31), .val (.int (Int32.ofNat m38)), .val (.int (Int32.ofNat m39)), .val (.int (Int32.ofNat (min m38 m39))), .val (.int (Int32.ofNat (max m38 m39))), .val (.int q89)] [(.int q89), (.int q106)])) t_ → Steps p.tables e below (s₁.setTop (entryFrame m #[(.long lc), (.int sel), (.int rs), (.int rt)] maxLocals)) t_ := fun t_ k_ => s102 t_ (by
    show Steps p.tables e below (T90.setTop (mkF m 236 #[.val (.long lc), .second, .val (.int sel), .val (.int rs), .val (.int rt), .val (.ref b1), .val (.ref b19), .val (.int q31), .val (.int (Int32.ofNat m38)), .val (.int (Int32.ofNat m39)), .val (.int (Int32.ofNat (min m38 m39))), .val (.int (Int32.ofNat (max m38 m39))), .val (.int q89)] [(.int (Int32.ofNat (max m38 m39))), (.int (Int32.ofNat (min m38 m39))), (.int q31), (.ref b19)])) t_
    refine st105 _ ?_
    show Steps p.tables e below (T105.setTop (mkF m 239 #[.val (.long lc), .second, .val (.int sel), .val (.int rs), .val (.int rt), .val (.ref b1), .val (.ref b19), .val (.int q31), .val (.int (Int32.ofNat m38)), .val (.int (Int32.ofNat m39)), .val (.int (Int32.ofNat (min m38 m39))), .val (.int (Int32.ofNat (max m38 m39))), .val (.int q89)] [(.int q106)])) _
    refine XS.iload X105.here hx rfl (Jvm.hb hby at_239) rfl ?_
    show Steps p.tables e below (T105.setTop (mkF m 241 #[.val (.long lc), .second, .val (.int sel), .val (.int rs), .val (.int rt), .val (.ref b1), .val (.ref b19), .val (.int q31), .val (.int (Int32.ofNat m38)), .val (.int (Int32.ofNat m39)), .val (.int (Int32.ofNat (min m38 m39))), .val (.int (Int32.ofNat (max m38 m39))), .val (.int q89)] [(.int q89), (.int q106)])) _
    show Steps p.tables e below (T105.setTop (mkF m 241 #[.val (.long lc), .second, .val (.int sel), .val (.int rs), .val (.int rt), .val (.ref b1), .val (.ref b19), .val (.int q31), .val (.int (Int32.ofNat m38)), .val (.int (Int32.ofNat m39)), .val (.int (Int32.ofNat (min m38 m39))), .val (.int (Int32.ofNat (max m38 m39))), .val (.int q89)] [(.int q89), (.int q106)])) t_
    exact k_)
  obtain ⟨q108, hq108⟩ : ∃ z : Int32, z = (if q106 = q89 then (1 : Int32) else (0 : Int32)) := ⟨_, rfl⟩
  obtain ⟨T109, X109, e109, s109⟩ := seg X105 (fun T' => T'.heap = h27 ∧ ∀ t_, Steps p.tables e below (T'.setTop (mkF m 249 #[.val (.long lc), .second, .val (.int sel), .val (.int rs), .val (.int rt), .val (.ref b1), .val (.ref b19), .val (.int q31), .val (.int (Int32.ofNat m38)), .val (.int (Int32.ofNat m39)), .val (.int (Int32.ofNat (min m38 m39))), .val (.int (Int32.ofNat (max m38 m39))), .val (.int q89)] [(.int q108)])) t_ → Steps p.tables e below (s₁.setTop (entryFrame m #[(.long lc), (.int sel), (.int rs), (.int rt)] maxLocals)) t_) (by
    by_cases h110 : q106 = q89
    · have s111 : ∀ t_, Steps p.tables e below (T105.setTop (mkF m 249 #[.val (.long lc), .second, .val (.int sel), .val (.int rs), .val (.int rt), .val (.ref b1), .val (.ref b19), .val (.int q31), .val (.int (Int32.ofNat m38)), .val (.int (Int32.ofNat m39)), .val (.int (Int32.ofNat (min m38 m39))), .val (.int (Int32.ofNat (max m38 m39))), .val (.int q89)] [(.int (1 : Int32))])) t_ → Steps p.tables e below (s₁.setTop (entryFrame m #[(.long lc), (.int sel), (.int rs), (.int rt)] maxLocals)) t_ := fun t_ k_ => s107 t_ (by
        show Steps p.tables e below (T105.setTop (mkF m 241 #[.val (.long lc), .second, .val (.int sel), .val (.int rs), .val (.int rt), .val (.ref b1), .val (.ref b19), .val (.int q31), .val (.int (Int32.ofNat m38)), .val (.int (Int32.ofNat m39)), .val (.int (Int32.ofNat (min m38 m39))), .val (.int (Int32.ofNat (max m38 m39))), .val (.int q89)] [(.int q89), (.int q106)])) t_
        refine XS.icmpNo X105.here hx rfl (Jvm.hb hby at_241) rfl (teq h110).2 ?_
        show Steps p.tables e below (T105.setTop (mkF m 244 #[.val (.long lc), .second, .val (.int sel), .val (.int rs), .val (.int rt), .val (.ref b1), .val (.ref b19), .val (.int q31), .val (.int (Int32.ofNat m38)), .val (.int (Int32.ofNat m39)), .val (.int (Int32.ofNat (min m38 m39))), .val (.int (Int32.ofNat (max m38 m39))), .val (.int q89)] [])) _
        refine XS.iconst X105.here hx rfl (Jvm.hb hby at_244) ?_
        show Steps p.tables e below (T105.setTop (mkF m 245 #[.val (.long lc), .second, .val (.int sel), .val (.int rs), .val (.int rt), .val (.ref b1), .val (.ref b19), .val (.int q31), .val (.int (Int32.ofNat m38)), .val (.int (Int32.ofNat m39)), .val (.int (Int32.ofNat (min m38 m39))), .val (.int (Int32.ofNat (max m38 m39))), .val (.int q89)] [(.int (1 : Int32))])) _
        refine XS.goto X105.here hx rfl (pc0 := 245) (pc' := 249) rfl (Jvm.hb hby at_245) (by decide) (by decide) ?_
        show Steps p.tables e below (T105.setTop (mkF m 249 #[.val (.long lc), .second, .val (.int sel), .val (.int rs), .val (.int rt), .val (.ref b1), .val (.ref b19), .val (.int q31), .val (.int (Int32.ofNat m38)), .val (.int (Int32.ofNat m39)), .val (.int (Int32.ofNat (min m38 m39))), .val (.int (Int32.ofNat (max m38 m39))), .val (.int q89)] [(.int (1 : Int32))])) _
        show Steps p.tables e below (T105.setTop (mkF m 249 #[.val (.long lc), .second, .val (.int sel), .val (.int rs), .val (.int rt), .val (.ref b1), .val (.ref b19), .val (.int q31), .val (.int (Int32.ofNat m38)), .val (.int (Int32.ofNat m39)), .val (.int (Int32.ofNat (min m38 m39))), .val (.int (Int32.ofNat (max m38 m39))), .val (.int q89)] [(.int (1 : Int32))])) t_
        exact k_)
      exact ⟨T105, X105, e105, fun t_ k_ => s111 t_ (castTop (by simp only [hq108, if_pos h110]) k_)⟩
    · have s112 : ∀ t_, Steps p.tables e below (T105.setTop (mkF m 249 #[.val (.long lc), .second, .val (.int sel), .val (.int rs), .val (.int rt), .val (.ref b1), .val (.ref b19), .val (.int q31), .val (.int (Int32.ofNat m38)), .val (.int (Int32.ofNat m39)), .val (.int (Int32.ofNat (min m38 m39))), .val (.int (Int32.ofNat (max m38 m39))), .val (.int q89)] [(.int (0 : Int32))])) t_ → Steps p.tables e below (s₁.setTop (entryFrame m #[(.long lc), (.int sel), (.int rs), (.int rt)] maxLocals)) t_ := fun t_ k_ => s107 t_ (by
        show Steps p.tables e below (T105.setTop (mkF m 241 #[.val (.long lc), .second, .val (.int sel), .val (.int rs), .val (.int rt), .val (.ref b1), .val (.ref b19), .val (.int q31), .val (.int (Int32.ofNat m38)), .val (.int (Int32.ofNat m39)), .val (.int (Int32.ofNat (min m38 m39))), .val (.int (Int32.ofNat (max m38 m39))), .val (.int q89)] [(.int q89), (.int q106)])) t_
        refine XS.icmpYes X105.here hx rfl (pc0 := 241) (pc' := 248) rfl (Jvm.hb hby at_241) rfl (feq h110).2 (by decide) (by decide) ?_
        show Steps p.tables e below (T105.setTop (mkF m 248 #[.val (.long lc), .second, .val (.int sel), .val (.int rs), .val (.int rt), .val (.ref b1), .val (.ref b19), .val (.int q31), .val (.int (Int32.ofNat m38)), .val (.int (Int32.ofNat m39)), .val (.int (Int32.ofNat (min m38 m39))), .val (.int (Int32.ofNat (max m38 m39))), .val (.int q89)] [])) _
        refine XS.iconst X105.here hx rfl (Jvm.hb hby at_248) ?_
        show Steps p.tables e below (T105.setTop (mkF m 249 #[.val (.long lc), .second, .val (.int sel), .val (.int rs), .val (.int rt), .val (.ref b1), .val (.ref b19), .val (.int q31), .val (.int (Int32.ofNat m38)), .val (.int (Int32.ofNat m39)), .val (.int (Int32.ofNat (min m38 m39))), .val (.int (Int32.ofNat (max m38 m39))), .val (.int q89)] [(.int (0 : Int32))])) _
        show Steps p.tables e below (T105.setTop (mkF m 249 #[.val (.long lc), .second, .val (.int sel), .val (.int rs), .val (.int rt), .val (.ref b1), .val (.ref b19), .val (.int q31), .val (.int (Int32.ofNat m38)), .val (.int (Int32.ofNat m39)), .val (.int (Int32.ofNat (min m38 m39))), .val (.int (Int32.ofNat (max m38 m39))), .val (.int q89)] [(.int (0 : Int32))])) t_
        exact k_)
      exact ⟨T105, X105, e105, fun t_ k_ => s112 t_ (castTop (by simp only [hq108, if_neg h110]) k_)⟩)
  obtain ⟨fs, hr, hrun, hended, hW, hsame⟩ := X109.leave (v := some (.int (nar .boolean q108))) (fun h => by rw [Bd.returns] at h; cases h)
  have hone : q108 = 1 := by
    rw [hq108, hq106, hq89, hq75, hq61, hq47]
    exact own_fin _ _ _ _ _ _ _ (by omega) (by omega)
  refine ⟨_, _, s109 _ ?_, hrun, hended, _, _, rfl, ?_, ⟨_, rfl⟩, hW, hsame.mono (by decide) (by decide)⟩
  · show Steps p.tables e below (T109.setTop (mkF m 249 #[.val (.long lc), .second, .val (.int sel), .val (.int rs), .val (.int rt), .val (.ref b1), .val (.ref b19), .val (.int q31), .val (.int (Int32.ofNat m38)), .val (.int (Int32.ofNat m39)), .val (.int (Int32.ofNat (min m38 m39))), .val (.int (Int32.ofNat (max m38 m39))), .val (.int q89)] [(.int q108)])) _
    exact retN X109 hx (t := .boolean) Bd.returns (by simp) (Jvm.hb hby at_249) hr
  · show Q_rmLaw Z _ _ _ _ _ _ h0 n0 _ T109.heap _
    rw [e109]
    exact ⟨by rw [hone]; rfl, N105⟩
set_option maxRecDepth 65536 in
set_option maxHeartbeats 40000000 in
theorem comes_1 {Post : Tables → Env → Array Value → State → Outcome → State → Prop} (hpost : ∀ tb e args s v u, (limb_1_1.after args s (.returned v) u = true ∧ limb_1_2.after args s (.returned v) u = true ∧ True) → FrameEnd s (.returned v) u (Jvm.fieldLocs frame_1_writes args s ++ Jvm.arrayLocs frame_1_arrays args s ++ Jvm.staticLocs frame_1_statics s) 16 128 → Post tb e args s (.returned v) u) :
    ArmFor flags0 classFile x code maxLocals ret World_1 tables_1 room_1 Calls_1 rest_1 Pre_1 Post := by
  intro l hfl _ _ p e ha hc hk s m args below hf hA hF happ hP
  obtain ⟨hcalls, hrest, hpre⟩ := hP
  obtain ⟨-, -, -, hnamed, -, -, -, hat⟩ := (Spec.applies_iff hf).mp happ
  obtain ⟨hg, hn⟩ := and_e (Cond.before_iff.mp (show (Jvm.Cond.and given_1 narrow_1).before args s = true from hpre))
  obtain ⟨ga, gr⟩ := and_e hg
  obtain ⟨g0, gr0⟩ := and_e gr
  obtain ⟨g1, gr1⟩ := and_e gr0
  obtain ⟨g2, gr2⟩ := and_e gr1
  obtain ⟨w0, w1, w2, w3, rfl⟩ : ∃ w0 w1 w2 w3 : Value, args = #[w0, w1, w2, w3] := by
    have hs : args.size = 4 := by simpa [Cond.value, given_1] using ga
    obtain ⟨L⟩ := args
    match L, hs with
    | [w0, w1, w2, w3], _ => exact ⟨w0, w1, w2, w3, rfl⟩
  have hw := fun d (hd : d ∈ tables_1) => atoms_spec (ws := Jvm.Cond.code x code maxLocals ret :: tables_1) hat d (List.mem_cons_of_mem _ hd)
  have hfit : Fit s := fun {y c} hc i hi => by
    obtain ⟨ha, rfl⟩ := Array.getElem?_eq_some_iff.mp hc
    have q := List.all_eq_true.mp ((Array.all_eq_true_iff_forall_mem.mp hF) _ (Array.getElem_mem ha)) i (List.mem_range.mpr hi)
    simpa [Array.getElem?_eq_getElem hi] using q
  obtain ⟨hsets, hown0⟩ := atoms_of _ (rest_1_c_eq ▸ (show rest_1_c.before _ s = true from hrest))
  have hr0 := Cond.before_iff.mp hown0
  obtain ⟨i0, ei0⟩ := isL_v g0
  obtain rfl : w0 = (.long i0) := Option.some.inj ei0
  obtain ⟨i1, ei1⟩ := is_v g1
  obtain rfl : w1 = (.int i1) := Option.some.inj ei1
  obtain ⟨i2, ei2⟩ := is_v g2
  obtain rfl : w2 = (.int i2) := Option.some.inj ei2
  obtain ⟨i3, ei3⟩ := is_v gr2
  obtain rfl : w3 = (.int i3) := Option.some.inj ei3
  obtain ⟨cst, ecs⟩ := is_v (Cond.before_iff.mp (hsets _ (List.mem_of_getElem? (i := 1) rfl)))
  have hcst : ¬ (cst = (0 : Int32)) := fun q => by
    have h1 := not_v (Cond.before_iff.mp (hsets _ (List.mem_of_getElem? (i := 2) rfl)))
    rw [Cond.eq_ints ecs (Term.int_eval 0)] at h1
    simp [q] at h1
  obtain ⟨fmt, efm, hfmt⟩ := isR_v (Cond.before_iff.mp (hsets _ (List.mem_of_getElem? (i := 8) rfl)))
  have eas := eqv_i (Term.int_eval 1) (Cond.before_iff.mp (hsets _ (List.mem_of_getElem? (i := 12) rfl)))
  have ehi := eqv_i (Term.int_eval 0) (Cond.before_iff.mp (hsets _ (List.mem_of_getElem? (i := 15) rfl)))
  have elo := eqv_i (Term.int_eval 8) (Cond.before_iff.mp (hsets _ (List.mem_of_getElem? (i := 18) rfl)))
  obtain ⟨n, o, h1, h2, h3, _, L, rfl, ⟨rfl, N⟩, hq⟩ := rmLaw l s _ hw tables_1 i0 i1 i2 i3 cst fmt s.heap s.heap.size (Nat.le_refl _) (Sta.start ecs (Or.inl (hsets _ (List.mem_of_getElem? (i := 0) rfl)))) (Sta.start eas (Or.inl (hsets _ (List.mem_of_getElem? (i := 11) rfl)))) (Sta.start ehi (Or.inl (hsets _ (List.mem_of_getElem? (i := 14) rfl)))) (Sta.start elo (Or.inl (hsets _ (List.mem_of_getElem? (i := 17) rfl)))) hfmt (Sta.start efm (Or.inl (hsets _ (List.mem_of_getElem? (i := 7) rfl)))) (Old.start s) hcst p e ha hc hk s m _ below hf ((Spec.applies_iff_loose hf).mp happ).1 ⟨rfl, State.Warmed39.refl s, rfl⟩ trivial
  refine ⟨n, _, h1, h2, h3, hpost _ _ _ _ _ _ ⟨Cond.after_iff.mpr rfl, Cond.after_iff.mpr (eq_i res_at (Term.int_eval (1)) rfl), trivial⟩ ⟨hq.1, hq.2.1, (hq.2.2.sift fun y hy => Or.inr (N y hy)).mono (by decide) (by decide)⟩⟩
theorem main_1_1 : Claimed_1_1 := comes_1 fun _ _ _ _ _ _ h hF => ⟨h.1, hF⟩
theorem main_1_2 : Claimed_1_2 := comes_1 fun _ _ _ _ _ _ h hF => ⟨h.2.1, hF⟩
end Jvm.Pilot.@@N@@
namespace Jvm.Pilot.@@N@@
open Jvm Jvm.ClassFile Sem Op Lib Jvm.Free Jvm.Stand Jvm.Pilot.@@N@@.Jvm.D
/-! MADE BY PROGRAM (witnessworld.py) out of the Statement's table words and the real class files: 21 classes; the members and pool entries that the words name. The judged class is class 1, her method 1. -/
namespace start1
open Jvm.ClassFile
def u (s : String) : CpInfo := .utf8 (stringToUtf16 s)
/-- a pool by its gaps: so many unusable entries, then the entry; so many at the end -/
def gap : Nat → List CpInfo → List CpInfo
  | 0, r => r
  | n + 1, r => .unusable :: gap n r
def poolList (es : List (Nat × CpInfo)) (last : Nat) : List CpInfo := es.foldr (fun e r => gap e.1 (e.2 :: r)) (gap last [])
def pool (es : List (Nat × CpInfo)) (last : Nat) : Array CpInfo := ⟨poolList es last⟩
def fileOf (pool : Array CpInfo) (this : Nat) (attrs : Array Attribute := #[]) (ms : Array MethodInfo := #[]) (fl : Nat := 33) (sup : Nat := 0) (ifs : Array Nat := #[]) (fds : Array FieldInfo := #[]) : ClassFile where
  minorVersion := 0
  majorVersion := 65
  constantPool := pool
  accessFlags := fl
  thisClass := this
  superClass := sup
  interfaces := ifs
  fields := fds
  methods := ms
  attributes := attrs
def plain (name : String) (sup : Option ClassId) : Class where
  name := name
  kind := .ordinary
  loader := none
  accessFlags := 33
  super := sup
  interfaces := #[]
  cf := none
  fields := #[]
  methods := #[]
  instanceTypes := #[]
  staticTypes := #[]
  resolved := #[]
  callSites := []
  init := .initialized
  statics := none
  mirror := none

def pool0 : Array CpInfo := pool [(5, u "<init>"), (0, u "()V"), (1, .class_ 10), (1, u "java/lang/Object")] 113

def k0c0 : Code := { maxStack := 0, maxLocals := 1, code := object_method_1_code, exceptionTable := #[], attributes := #[] }
def k0m0 : Method := { name := "<init>", desc := "()V", sig := { parameters := [], returnType := none }, accessFlags := 1, code := some k0c0 }
/-- java/lang/Object -/
def k0 : Class := { plain "java/lang/Object" none with
  accessFlags := 33
  interfaces := #[]
  cf := some (fileOf pool0 8 #[] #[{ accessFlags := 1, nameIndex := 5, descriptorIndex := 6, attributes := #[] }] 33 0 #[] #[])
  fields := #[]
  methods := #[k0m0]
  instanceTypes := #[]
  staticTypes := #[]
  resolved := Array.replicate 124 none
  statics := none }

def pool1 : Array CpInfo := pool [(2, .class_ 4), (1, u "java/lang/Object"), (0, u "<init>"), (0, u "()V"), (0, .long 65535), (1, .class_ 10), (0, u "java/lang/String"), (0, .methodref 9 12), (0, .nameAndType 5 13), (0, u "([C)V"), (0, .integer 65535), (0, .integer 2147483647), (0, .methodref 17 18), (0, .class_ 19), (0, .nameAndType 20 21), (0, u "java/lang/Math"), (0, u "min"), (0, u "(II)I"), (0, .methodref 17 23), (0, .nameAndType 24 21), (0, u "max"), (0, .methodref 26 27), (0, .class_ 28), (0, .nameAndType 29 30), (0, u "com/example/odysseus/odysseus/UrlParser"), (0, u "find"), (0, u "(Ljava/lang/String;CII)I"), (0, .class_ 32), (0, u "com/example/odysseus/odysseus/UrlParserFindPinLaw"), (2, u "law"), (0, u "(JIII)Z")] 5

def k1m0 : Method := { name := "<init>", desc := "()V", sig := { parameters := [], returnType := none }, accessFlags := 1, code := none }
def k1c1 : Code := { maxStack := 6, maxLocals := 13, code := code, exceptionTable := #[], attributes := #[] }
def k1m1 : Method := { name := "law", desc := "(JIII)Z", sig := { parameters := [.long, .int, .int, .int], returnType := some .boolean }, accessFlags := 9, code := some k1c1 }
/-- com/example/odysseus/odysseus/UrlParserFindPinLaw -/
def k1 : Class := { plain "com/example/odysseus/odysseus/UrlParserFindPinLaw" (some 0) with
  accessFlags := 49
  interfaces := #[]
  cf := some (fileOf pool1 31 #[] #[{ accessFlags := 1, nameIndex := 5, descriptorIndex := 6, attributes := #[] }, { accessFlags := 9, nameIndex := 35, descriptorIndex := 36, attributes := #[] }] 49 2 #[] #[])
  fields := #[]
  methods := #[k1m0, k1m1]
  instanceTypes := #[]
  staticTypes := #[]
  resolved := Array.replicate 42 none
  statics := none }

def pool2 : Array CpInfo := pool [(1, .class_ 2), (0, u "java/io/Serializable"), (0, .class_ 4), (0, u "java/lang/Object")] 2

/-- java/io/Serializable -/
def k2 : Class := { plain "java/io/Serializable" (some 0) with
  accessFlags := 1537
  interfaces := #[]
  cf := some (fileOf pool2 1 #[] #[] 1537 3 #[] #[])
  fields := #[]
  methods := #[]
  instanceTypes := #[]
  staticTypes := #[]
  resolved := Array.replicate 7 none
  statics := none }

def pool3 : Array CpInfo := pool [(1, .class_ 2), (0, u "java/lang/Comparable"), (0, .class_ 4), (0, u "java/lang/Object")] 7

/-- java/lang/Comparable -/
def k3 : Class := { plain "java/lang/Comparable" (some 0) with
  accessFlags := 1537
  interfaces := #[]
  cf := some (fileOf pool3 1 #[] #[] 1537 3 #[] #[])
  fields := #[]
  methods := #[]
  instanceTypes := #[]
  staticTypes := #[]
  resolved := Array.replicate 12 none
  statics := none }

def pool4 : Array CpInfo := pool [(2, .class_ 4), (1, u "java/lang/CharSequence"), (42, .class_ 48), (0, u "java/lang/CharSequence$1CodePointIterator"), (10, .class_ 60), (0, u "java/lang/CharSequence$1CharIterator"), (5, .class_ 67), (0, u "java/lang/Object")] 63

/-- java/lang/CharSequence -/
def k4 : Class := { plain "java/lang/CharSequence" (some 0) with
  accessFlags := 1537
  interfaces := #[]
  cf := some (fileOf pool4 2 #[.nestMembers #[47, 59]] #[] 1537 66 #[] #[])
  fields := #[]
  methods := #[]
  instanceTypes := #[]
  staticTypes := #[]
  resolved := Array.replicate 131 none
  statics := none }

def pool5 : Array CpInfo := pool [(1, .class_ 2), (0, u "java/lang/constant/Constable"), (0, .class_ 4), (0, u "java/lang/Object")] 6

/-- java/lang/constant/Constable -/
def k5 : Class := { plain "java/lang/constant/Constable" (some 0) with
  accessFlags := 1537
  interfaces := #[]
  cf := some (fileOf pool5 1 #[] #[] 1537 3 #[] #[])
  fields := #[]
  methods := #[]
  instanceTypes := #[]
  staticTypes := #[]
  resolved := Array.replicate 11 none
  statics := none }

def pool6 : Array CpInfo := pool [(1, .class_ 2), (0, u "java/lang/constant/ConstantDesc"), (0, .class_ 4), (0, u "java/lang/Object")] 32

/-- java/lang/constant/ConstantDesc -/
def k6 : Class := { plain "java/lang/constant/ConstantDesc" (some 0) with
  accessFlags := 1537
  interfaces := #[]
  cf := some (fileOf pool6 1 #[] #[] 1537 3 #[] #[])
  fields := #[]
  methods := #[]
  instanceTypes := #[]
  staticTypes := #[]
  resolved := Array.replicate 37 none
  statics := none }

def pool7 : Array CpInfo := pool [(1, .methodref 2 3), (0, .class_ 4), (0, .nameAndType 5 6), (0, u "java/lang/Object"), (0, u "<init>"), (0, u "()V"), (2, .fieldref 10 11), (0, .class_ 12), (0, .nameAndType 13 14), (0, u "java/lang/String"), (0, u "value"), (0, u "[B"), (0, .fieldref 10 16), (0, .nameAndType 17 18), (0, u "coder"), (0, u "B"), (2, u "hash"), (0, u "I"), (2, u "hashIsZero"), (0, u "Z"), (0, .methodref 10 28), (0, .nameAndType 5 29), (0, u "([CIILjava/lang/Void;)V"), (8, .fieldref 10 39), (0, .nameAndType 40 26), (0, u "COMPACT_STRINGS"), (1, .class_ 44), (1, u "java/lang/StringUTF16"), (0, u "compress"), (1, .methodref 42 48), (0, .nameAndType 49 50), (0, u "coderFromArrayLen"), (0, u "([BI)B"), (56, .class_ 109), (1, u "java/lang/StringLatin1"), (32, u "()Z"), (34, .methodref 42 178), (0, .nameAndType 45 179), (0, u "([CII)[B"), (154, u "()I"), (0, .methodref 10 336), (0, .nameAndType 17 337), (0, u "()B"), (154, .methodref 10 493), (0, .nameAndType 494 142), (0, u "isLatin1"), (10, .methodref 10 506), (0, .nameAndType 507 334), (0, u "length"), (5, u "checkFromToIndex"), (9, u "checkBoundsBeginEnd"), (0, u "(III)V"), (50, .class_ 576), (0, u "java/lang/CharSequence"), (22, u "CASE_INSENSITIVE_ORDER"), (0, u "Ljava/util/Comparator;"), (34, u "indexOf"), (0, u "(II)I"), (0, .methodref 107 638), (0, .nameAndType 635 639), (0, u "([BIII)I"), (0, .methodref 42 638), (369, u "([C)V"), (42, .fieldref 1054 1055), (0, .class_ 1056), (0, .nameAndType 1057 1058), (0, u "jdk/internal/util/Preconditions"), (0, u "SIOOBE_FORMATTER"), (0, u "Ljava/util/function/BiFunction;"), (3, .methodref 1054 1063), (0, .nameAndType 513 1064), (0, u "(IIILjava/util/function/BiFunction;)I"), (36, u "serialPersistentFields"), (0, u "[Ljava/io/ObjectStreamField;"), (0, .class_ 1104), (0, u "java/lang/String$CaseInsensitiveComparator"), (1, .class_ 1107), (0, u "java/io/Serializable"), (0, .class_ 1109), (0, u "java/lang/Comparable"), (0, .class_ 1111), (0, u "java/lang/constant/Constable"), (0, .class_ 1113), (0, u "java/lang/constant/ConstantDesc"), (2, u "serialVersionUID"), (0, u "J"), (3, u "REPL"), (0, u "C"), (2, u "LATIN1"), (1, u "UTF16")] 323

def k7m0 : Method := { name := "<init>", desc := "()V", sig := { parameters := [], returnType := none }, accessFlags := 1, code := none }
def k7c1 : Code := { maxStack := 5, maxLocals := 2, code := jdk_42_method_3_code, exceptionTable := #[], attributes := #[] }
def k7m1 : Method := { name := "<init>", desc := "([C)V", sig := { parameters := [(.array .char)], returnType := none }, accessFlags := 1, code := some k7c1 }
def k7c2 : Code := { maxStack := 2, maxLocals := 1, code := jdk_42_method_54_code, exceptionTable := #[], attributes := #[] }
def k7m2 : Method := { name := "length", desc := "()I", sig := { parameters := [], returnType := some .int }, accessFlags := 1, code := some k7c2 }
def k7c3 : Code := { maxStack := 4, maxLocals := 3, code := jdk_42_method_80_code, exceptionTable := #[], attributes := #[] }
def k7m3 : Method := { name := "indexOf", desc := "(II)I", sig := { parameters := [.int, .int], returnType := some .int }, accessFlags := 1, code := some k7c3 }
def k7c4 : Code := { maxStack := 4, maxLocals := 6, code := jdk_42_method_149_code, exceptionTable := #[], attributes := #[] }
def k7m4 : Method := { name := "<init>", desc := "([CIILjava/lang/Void;)V", sig := { parameters := [(.array .char), .int, .int, (.object "java/lang/Void")], returnType := none }, accessFlags := 2, code := some k7c4 }
def k7c5 : Code := { maxStack := 1, maxLocals := 1, code := jdk_42_method_152_code, exceptionTable := #[], attributes := #[] }
def k7m5 : Method := { name := "coder", desc := "()B", sig := { parameters := [], returnType := some .byte }, accessFlags := 0, code := some k7c5 }
def k7c6 : Code := { maxStack := 1, maxLocals := 1, code := jdk_42_method_154_code, exceptionTable := #[], attributes := #[] }
def k7m6 : Method := { name := "isLatin1", desc := "()Z", sig := { parameters := [], returnType := some .boolean }, accessFlags := 0, code := some k7c6 }
def k7c7 : Code := { maxStack := 4, maxLocals := 3, code := jdk_42_method_158_code, exceptionTable := #[], attributes := #[] }
def k7m7 : Method := { name := "checkBoundsBeginEnd", desc := "(III)V", sig := { parameters := [.int, .int, .int], returnType := none }, accessFlags := 8, code := some k7c7 }
/-- java/lang/String -/
def k7 : Class := { plain "java/lang/String" (some 0) with
  accessFlags := 49
  interfaces := #[2, 3, 4, 5, 6]
  cf := some (fileOf pool7 10 #[.nestMembers #[1103]] #[{ accessFlags := 1, nameIndex := 5, descriptorIndex := 6, attributes := #[] }, { accessFlags := 1, nameIndex := 5, descriptorIndex := 1010, attributes := #[] }, { accessFlags := 1, nameIndex := 507, descriptorIndex := 334, attributes := #[] }, { accessFlags := 1, nameIndex := 635, descriptorIndex := 636, attributes := #[] }, { accessFlags := 2, nameIndex := 5, descriptorIndex := 29, attributes := #[] }, { accessFlags := 0, nameIndex := 17, descriptorIndex := 337, attributes := #[] }, { accessFlags := 0, nameIndex := 494, descriptorIndex := 142, attributes := #[] }, { accessFlags := 8, nameIndex := 523, descriptorIndex := 524, attributes := #[] }] 49 2 #[1106, 1108, 575, 1110, 1112] #[{ accessFlags := 18, nameIndex := 13, descriptorIndex := 14, attributes := #[] }, { accessFlags := 18, nameIndex := 17, descriptorIndex := 18, attributes := #[] }, { accessFlags := 2, nameIndex := 21, descriptorIndex := 22, attributes := #[] }, { accessFlags := 2, nameIndex := 25, descriptorIndex := 26, attributes := #[] }, { accessFlags := 26, nameIndex := 1116, descriptorIndex := 1117, attributes := #[] }, { accessFlags := 24, nameIndex := 40, descriptorIndex := 26, attributes := #[] }, { accessFlags := 26, nameIndex := 1101, descriptorIndex := 1102, attributes := #[] }, { accessFlags := 26, nameIndex := 1121, descriptorIndex := 1122, attributes := #[] }, { accessFlags := 25, nameIndex := 599, descriptorIndex := 600, attributes := #[] }, { accessFlags := 24, nameIndex := 1125, descriptorIndex := 18, attributes := #[] }, { accessFlags := 24, nameIndex := 1127, descriptorIndex := 18, attributes := #[] }])
  fields := #[{ name := "value", type := (.array .byte), accessFlags := 18, slot := 0, constantValue := 0 }, { name := "coder", type := .byte, accessFlags := 18, slot := 1, constantValue := 0 }, { name := "hash", type := .int, accessFlags := 2, slot := 2, constantValue := 0 }, { name := "hashIsZero", type := .boolean, accessFlags := 2, slot := 3, constantValue := 0 }, { name := "serialVersionUID", type := .long, accessFlags := 26, slot := 0, constantValue := 0 }, { name := "COMPACT_STRINGS", type := .boolean, accessFlags := 24, slot := 1, constantValue := 0 }, { name := "serialPersistentFields", type := (.array (.object "java/io/ObjectStreamField")), accessFlags := 26, slot := 2, constantValue := 0 }, { name := "REPL", type := .char, accessFlags := 26, slot := 3, constantValue := 0 }, { name := "CASE_INSENSITIVE_ORDER", type := (.object "java/util/Comparator"), accessFlags := 25, slot := 4, constantValue := 0 }, { name := "LATIN1", type := .byte, accessFlags := 24, slot := 5, constantValue := 0 }, { name := "UTF16", type := .byte, accessFlags := 24, slot := 6, constantValue := 0 }]
  methods := #[k7m0, k7m1, k7m2, k7m3, k7m4, k7m5, k7m6, k7m7]
  instanceTypes := #[(.array .byte), .byte, .int, .boolean]
  staticTypes := #[.long, .boolean, (.array (.object "java/io/ObjectStreamField")), .char, (.object "java/util/Comparator"), .byte, .byte]
  resolved := Array.replicate 1451 none
  statics := some 0 }

def pool8 : Array CpInfo := pool [(3, .class_ 4), (0, u "java/lang/String"), (1, .class_ 8), (1, u "java/lang/Object"), (0, u "<init>"), (0, u "()V"), (0, .methodref 12 13), (0, .class_ 14), (0, .nameAndType 15 16), (0, u "java/lang/StringUTF16"), (0, u "newBytesLength"), (0, u "(I)I"), (3, .integer 1073741823), (23, .fieldref 12 45), (0, .nameAndType 46 47), (0, u "$assertionsDisabled"), (0, u "Z"), (0, .methodref 12 49), (0, .nameAndType 50 51), (0, u "length"), (0, u "([B)I"), (7, .fieldref 12 60), (0, .nameAndType 61 62), (0, u "HI_BYTE_SHIFT"), (0, u "I"), (0, .fieldref 12 64), (0, .nameAndType 65 62), (0, u "LO_BYTE_SHIFT"), (5, .methodref 12 72), (0, .nameAndType 73 74), (0, u "getChar"), (0, u "([BI)C"), (21, .methodref 12 97), (0, .nameAndType 98 99), (0, u "checkBoundsBeginEnd"), (0, u "(II[B)V"), (7, .methodref 12 108), (0, .nameAndType 109 110), (0, u "newBytesFor"), (0, u "(I)[B"), (0, .methodref 12 112), (0, .nameAndType 113 114), (0, u "putChar"), (0, u "([BII)V"), (0, .methodref 12 116), (0, .nameAndType 117 118), (0, u "compress"), (0, u "([CI[BII)I"), (0, .methodref 12 120), (0, .nameAndType 121 122), (0, u "toBytes"), (0, u "([CII)[B"), (60, .methodref 184 185), (0, .class_ 186), (0, .nameAndType 187 188), (0, u "java/lang/Math"), (0, u "min"), (0, u "(II)I"), (35, .methodref 184 225), (0, .nameAndType 226 188), (0, u "max"), (0, .integer 65536), (0, .methodref 12 229), (0, .nameAndType 230 231), (0, u "indexOfChar"), (0, u "([BIII)I"), (9, .methodref 3 242), (0, .nameAndType 98 243), (0, u "(III)V"), (0, .methodref 12 245), (0, .nameAndType 246 231), (0, u "indexOfCharUnsafe"), (14, u "coderFromArrayLen"), (0, u "([BI)B"), (5, u "indexOf"), (100, .class_ 371), (1, u "java/lang/StringUTF16$LinesSpliterator"), (58, u "MAX_LENGTH"), (196, .class_ 628), (0, u "java/lang/StringUTF16$CodePointsSpliterator"), (0, .class_ 630), (0, u "java/lang/StringUTF16$CharsSpliterator")] 4

def k8m0 : Method := { name := "<init>", desc := "()V", sig := { parameters := [], returnType := none }, accessFlags := 0, code := none }
def k8c1 : Code := { maxStack := 1, maxLocals := 1, code := jdk_52_method_2_code, exceptionTable := #[], attributes := #[] }
def k8m1 : Method := { name := "newBytesFor", desc := "(I)[B", sig := { parameters := [.int], returnType := some (.array .byte) }, accessFlags := 9, code := some k8c1 }
def k8c2 : Code := { maxStack := 4, maxLocals := 1, code := jdk_52_method_3_code, exceptionTable := #[], attributes := #[] }
def k8m2 : Method := { name := "newBytesLength", desc := "(I)I", sig := { parameters := [.int], returnType := some .int }, accessFlags := 9, code := some k8c2 }
def k8c3 : Code := { maxStack := 4, maxLocals := 3, code := jdk_52_method_4_code, exceptionTable := #[], attributes := #[] }
def k8m3 : Method := { name := "putChar", desc := "([BII)V", sig := { parameters := [(.array .byte), .int, .int], returnType := none }, accessFlags := 8, code := some k8c3 }
def k8c4 : Code := { maxStack := 3, maxLocals := 2, code := jdk_52_method_5_code, exceptionTable := #[], attributes := #[] }
def k8m4 : Method := { name := "getChar", desc := "([BI)C", sig := { parameters := [(.array .byte), .int], returnType := some .char }, accessFlags := 8, code := some k8c4 }
def k8c5 : Code := { maxStack := 2, maxLocals := 1, code := jdk_52_method_6_code, exceptionTable := #[], attributes := #[] }
def k8m5 : Method := { name := "length", desc := "([B)I", sig := { parameters := [(.array .byte)], returnType := some .int }, accessFlags := 9, code := some k8c5 }
def k8c6 : Code := { maxStack := 4, maxLocals := 5, code := jdk_52_method_14_code, exceptionTable := #[], attributes := #[] }
def k8m6 : Method := { name := "toBytes", desc := "([CII)[B", sig := { parameters := [(.array .char), .int, .int], returnType := some (.array .byte) }, accessFlags := 9, code := some k8c6 }
def k8c7 : Code := { maxStack := 2, maxLocals := 2, code := jdk_52_method_15_code, exceptionTable := #[], attributes := #[] }
def k8m7 : Method := { name := "coderFromArrayLen", desc := "([BI)B", sig := { parameters := [(.array .byte), .int], returnType := some .byte }, accessFlags := 8, code := some k8c7 }
def k8c8 : Code := { maxStack := 5, maxLocals := 6, code := jdk_52_method_16_code, exceptionTable := #[], attributes := #[] }
def k8m8 : Method := { name := "compress", desc := "([CII)[B", sig := { parameters := [(.array .char), .int, .int], returnType := some (.array .byte) }, accessFlags := 9, code := some k8c8 }
def k8c9 : Code := { maxStack := 3, maxLocals := 7, code := jdk_52_method_21_code, exceptionTable := #[], attributes := #[] }
def k8m9 : Method := { name := "compress", desc := "([CI[BII)I", sig := { parameters := [(.array .char), .int, (.array .byte), .int, .int], returnType := some .int }, accessFlags := 9, code := some k8c9 }
def k8c10 : Code := { maxStack := 4, maxLocals := 4, code := jdk_52_method_40_code, exceptionTable := #[], attributes := #[] }
def k8m10 : Method := { name := "indexOf", desc := "([BIII)I", sig := { parameters := [(.array .byte), .int, .int, .int], returnType := some .int }, accessFlags := 9, code := some k8c10 }
def k8c11 : Code := { maxStack := 4, maxLocals := 4, code := jdk_52_method_47_code, exceptionTable := #[], attributes := #[] }
def k8m11 : Method := { name := "indexOfChar", desc := "([BIII)I", sig := { parameters := [(.array .byte), .int, .int, .int], returnType := some .int }, accessFlags := 10, code := some k8c11 }
def k8c12 : Code := { maxStack := 2, maxLocals := 5, code := jdk_52_method_48_code, exceptionTable := #[], attributes := #[] }
def k8m12 : Method := { name := "indexOfCharUnsafe", desc := "([BIII)I", sig := { parameters := [(.array .byte), .int, .int, .int], returnType := some .int }, accessFlags := 10, code := some k8c12 }
def k8c13 : Code := { maxStack := 3, maxLocals := 3, code := jdk_52_method_93_code, exceptionTable := #[], attributes := #[] }
def k8m13 : Method := { name := "checkBoundsBeginEnd", desc := "(II[B)V", sig := { parameters := [.int, .int, (.array .byte)], returnType := none }, accessFlags := 9, code := some k8c13 }
/-- java/lang/StringUTF16 -/
def k8 : Class := { plain "java/lang/StringUTF16" (some 0) with
  accessFlags := 48
  interfaces := #[]
  cf := some (fileOf pool8 12 #[.nestMembers #[627, 629, 369]] #[{ accessFlags := 0, nameIndex := 9, descriptorIndex := 10, attributes := #[] }, { accessFlags := 9, nameIndex := 109, descriptorIndex := 110, attributes := #[] }, { accessFlags := 9, nameIndex := 15, descriptorIndex := 16, attributes := #[] }, { accessFlags := 8, nameIndex := 113, descriptorIndex := 114, attributes := #[] }, { accessFlags := 8, nameIndex := 73, descriptorIndex := 74, attributes := #[] }, { accessFlags := 9, nameIndex := 50, descriptorIndex := 51, attributes := #[] }, { accessFlags := 9, nameIndex := 121, descriptorIndex := 122, attributes := #[] }, { accessFlags := 8, nameIndex := 261, descriptorIndex := 262, attributes := #[] }, { accessFlags := 9, nameIndex := 117, descriptorIndex := 122, attributes := #[] }, { accessFlags := 9, nameIndex := 117, descriptorIndex := 118, attributes := #[] }, { accessFlags := 9, nameIndex := 268, descriptorIndex := 231, attributes := #[] }, { accessFlags := 10, nameIndex := 230, descriptorIndex := 231, attributes := #[] }, { accessFlags := 10, nameIndex := 246, descriptorIndex := 231, attributes := #[] }, { accessFlags := 9, nameIndex := 98, descriptorIndex := 99, attributes := #[] }] 48 6 #[] #[{ accessFlags := 26, nameIndex := 61, descriptorIndex := 62, attributes := #[] }, { accessFlags := 26, nameIndex := 65, descriptorIndex := 62, attributes := #[] }, { accessFlags := 24, nameIndex := 430, descriptorIndex := 62, attributes := #[] }, { accessFlags := 4120, nameIndex := 46, descriptorIndex := 47, attributes := #[] }])
  fields := #[{ name := "HI_BYTE_SHIFT", type := .int, accessFlags := 26, slot := 0, constantValue := 0 }, { name := "LO_BYTE_SHIFT", type := .int, accessFlags := 26, slot := 1, constantValue := 0 }, { name := "MAX_LENGTH", type := .int, accessFlags := 24, slot := 2, constantValue := 0 }, { name := "$assertionsDisabled", type := .boolean, accessFlags := 4120, slot := 3, constantValue := 0 }]
  methods := #[k8m0, k8m1, k8m2, k8m3, k8m4, k8m5, k8m6, k8m7, k8m8, k8m9, k8m10, k8m11, k8m12, k8m13]
  instanceTypes := #[]
  staticTypes := #[.int, .int, .int, .boolean]
  resolved := Array.replicate 635 none
  statics := some 1 }

def pool9 : Array CpInfo := pool [(1, .class_ 2), (0, u "java/lang/Math"), (1, .class_ 6), (1, u "java/lang/Object"), (0, u "<init>"), (0, u "()V"), (89, .class_ 100), (1, u "java/lang/Math$RandomNumberGeneratorHolder"), (71, u "negativeZeroFloatBits"), (0, u "J"), (2, u "negativeZeroDoubleBits"), (21, u "max"), (2, u "min"), (43, u "$assertionsDisabled"), (0, u "Z"), (88, u "(II)I"), (2, u "twoToTheDoubleScaleDown"), (0, u "D"), (4, u "twoToTheDoubleScaleUp"), (9, u "E"), (3, u "PI"), (2, u "TAU"), (2, u "DEGREES_TO_RADIANS"), (0, u "RADIANS_TO_DEGREES")] 94

def k9m0 : Method := { name := "<init>", desc := "()V", sig := { parameters := [], returnType := none }, accessFlags := 2, code := none }
def k9c1 : Code := { maxStack := 2, maxLocals := 2, code := jdk_29_method_65_code, exceptionTable := #[], attributes := #[] }
def k9m1 : Method := { name := "max", desc := "(II)I", sig := { parameters := [.int, .int], returnType := some .int }, accessFlags := 9, code := some k9c1 }
def k9c2 : Code := { maxStack := 2, maxLocals := 2, code := jdk_29_method_69_code, exceptionTable := #[], attributes := #[] }
def k9m2 : Method := { name := "min", desc := "(II)I", sig := { parameters := [.int, .int], returnType := some .int }, accessFlags := 9, code := some k9c2 }
/-- java/lang/Math -/
def k9 : Class := { plain "java/lang/Math" (some 0) with
  accessFlags := 49
  interfaces := #[]
  cf := some (fileOf pool9 1 #[.nestMembers #[98]] #[{ accessFlags := 2, nameIndex := 7, descriptorIndex := 8, attributes := #[] }, { accessFlags := 9, nameIndex := 198, descriptorIndex := 335, attributes := #[] }, { accessFlags := 9, nameIndex := 201, descriptorIndex := 335, attributes := #[] }] 49 4 #[] #[{ accessFlags := 25, nameIndex := 354, descriptorIndex := 339, attributes := #[] }, { accessFlags := 25, nameIndex := 358, descriptorIndex := 339, attributes := #[] }, { accessFlags := 25, nameIndex := 361, descriptorIndex := 339, attributes := #[] }, { accessFlags := 26, nameIndex := 364, descriptorIndex := 339, attributes := #[] }, { accessFlags := 26, nameIndex := 365, descriptorIndex := 339, attributes := #[] }, { accessFlags := 26, nameIndex := 172, descriptorIndex := 173, attributes := #[] }, { accessFlags := 26, nameIndex := 176, descriptorIndex := 173, attributes := #[] }, { accessFlags := 8, nameIndex := 344, descriptorIndex := 339, attributes := #[] }, { accessFlags := 8, nameIndex := 338, descriptorIndex := 339, attributes := #[] }, { accessFlags := 4120, nameIndex := 245, descriptorIndex := 246, attributes := #[] }])
  fields := #[{ name := "E", type := .double, accessFlags := 25, slot := 0, constantValue := 0 }, { name := "PI", type := .double, accessFlags := 25, slot := 1, constantValue := 0 }, { name := "TAU", type := .double, accessFlags := 25, slot := 2, constantValue := 0 }, { name := "DEGREES_TO_RADIANS", type := .double, accessFlags := 26, slot := 3, constantValue := 0 }, { name := "RADIANS_TO_DEGREES", type := .double, accessFlags := 26, slot := 4, constantValue := 0 }, { name := "negativeZeroFloatBits", type := .long, accessFlags := 26, slot := 5, constantValue := 0 }, { name := "negativeZeroDoubleBits", type := .long, accessFlags := 26, slot := 6, constantValue := 0 }, { name := "twoToTheDoubleScaleUp", type := .double, accessFlags := 8, slot := 7, constantValue := 0 }, { name := "twoToTheDoubleScaleDown", type := .double, accessFlags := 8, slot := 8, constantValue := 0 }, { name := "$assertionsDisabled", type := .boolean, accessFlags := 4120, slot := 9, constantValue := 0 }]
  methods := #[k9m0, k9m1, k9m2]
  instanceTypes := #[]
  staticTypes := #[.double, .double, .double, .double, .double, .long, .long, .double, .double, .boolean]
  resolved := Array.replicate 460 none
  statics := none }

def pool10 : Array CpInfo := pool [(1, .class_ 2), (0, u "com/example/odysseus/odysseus/UrlParser"), (1, .class_ 6), (1, u "java/lang/Object"), (4, u "text"), (0, u "Ljava/lang/String;"), (19, .class_ 34), (1, u "java/lang/String"), (12, .methodref 32 48), (0, .nameAndType 49 50), (0, u "indexOf"), (0, u "(II)I"), (56, .class_ 109), (1, u "com/example/odysseus/odysseus/UrlParser$1"), (1, u "[I"), (4, .class_ 118), (1, u "com/example/odysseus/odysseus/UrlParser$LoginRule"), (3, .class_ 124), (1, u "com/example/odysseus/odysseus/UrlParser$Slash"), (41, .class_ 168), (1, u "com/example/odysseus/odysseus/UrlParser$PartRule"), (5, u "find"), (96, u "(Ljava/lang/String;CII)I"), (4, u "CLASSES"), (37, u "ALPHA"), (0, u "I"), (2, u "DIGIT"), (1, u "HEX"), (1, u "SCHEME"), (1, u "SAFE_EXTRA"), (1, u "SEMICOLON"), (1, u "SLASH"), (1, u "QUESTION_MARK"), (1, u "COLON"), (1, u "AT_SIGN"), (1, u "AMPERSAND"), (1, u "EQUALS_SIGN"), (1, u "GROUP"), (1, u "SCHEME_CHARS"), (1, u "UNRESERVED"), (1, u "RESERVED"), (1, u "LOGIN_CHARS"), (1, u "XCHARS"), (1, u "FSEGMENT_CHARS"), (1, u "HTTP_SEGMENT_CHARS"), (1, u "GROUP_CHARS"), (1, u "MESSAGE_ID_CHARS"), (1, u "FTP_TYPECODES"), (0, u "PORT_DIGITS")] 86

def k10c0 : Code := { maxStack := 3, maxLocals := 5, code := prog_12_method_24_code, exceptionTable := #[], attributes := #[] }
def k10m0 : Method := { name := "find", desc := "(Ljava/lang/String;CII)I", sig := { parameters := [(.object "java/lang/String"), .char, .int, .int], returnType := some .int }, accessFlags := 8, code := some k10c0 }
/-- com/example/odysseus/odysseus/UrlParser -/
def k10 : Class := { plain "com/example/odysseus/odysseus/UrlParser" (some 0) with
  accessFlags := 48
  interfaces := #[]
  cf := some (fileOf pool10 1 #[.nestMembers #[107, 166, 122, 116]] #[{ accessFlags := 8, nameIndex := 174, descriptorIndex := 271, attributes := #[] }] 48 4 #[] #[{ accessFlags := 26, nameIndex := 314, descriptorIndex := 315, attributes := #[] }, { accessFlags := 26, nameIndex := 318, descriptorIndex := 315, attributes := #[] }, { accessFlags := 26, nameIndex := 320, descriptorIndex := 315, attributes := #[] }, { accessFlags := 26, nameIndex := 322, descriptorIndex := 315, attributes := #[] }, { accessFlags := 26, nameIndex := 324, descriptorIndex := 315, attributes := #[] }, { accessFlags := 26, nameIndex := 326, descriptorIndex := 315, attributes := #[] }, { accessFlags := 26, nameIndex := 328, descriptorIndex := 315, attributes := #[] }, { accessFlags := 26, nameIndex := 330, descriptorIndex := 315, attributes := #[] }, { accessFlags := 26, nameIndex := 332, descriptorIndex := 315, attributes := #[] }, { accessFlags := 26, nameIndex := 334, descriptorIndex := 315, attributes := #[] }, { accessFlags := 26, nameIndex := 336, descriptorIndex := 315, attributes := #[] }, { accessFlags := 26, nameIndex := 338, descriptorIndex := 315, attributes := #[] }, { accessFlags := 26, nameIndex := 340, descriptorIndex := 315, attributes := #[] }, { accessFlags := 26, nameIndex := 342, descriptorIndex := 315, attributes := #[] }, { accessFlags := 26, nameIndex := 344, descriptorIndex := 315, attributes := #[] }, { accessFlags := 26, nameIndex := 346, descriptorIndex := 315, attributes := #[] }, { accessFlags := 26, nameIndex := 348, descriptorIndex := 315, attributes := #[] }, { accessFlags := 26, nameIndex := 350, descriptorIndex := 315, attributes := #[] }, { accessFlags := 26, nameIndex := 352, descriptorIndex := 315, attributes := #[] }, { accessFlags := 26, nameIndex := 354, descriptorIndex := 315, attributes := #[] }, { accessFlags := 26, nameIndex := 356, descriptorIndex := 315, attributes := #[] }, { accessFlags := 26, nameIndex := 358, descriptorIndex := 315, attributes := #[] }, { accessFlags := 26, nameIndex := 276, descriptorIndex := 111, attributes := #[] }, { accessFlags := 26, nameIndex := 360, descriptorIndex := 12, attributes := #[] }, { accessFlags := 26, nameIndex := 361, descriptorIndex := 12, attributes := #[] }, { accessFlags := 18, nameIndex := 11, descriptorIndex := 12, attributes := #[] }])
  fields := #[{ name := "ALPHA", type := .int, accessFlags := 26, slot := 0, constantValue := 0 }, { name := "DIGIT", type := .int, accessFlags := 26, slot := 1, constantValue := 0 }, { name := "HEX", type := .int, accessFlags := 26, slot := 2, constantValue := 0 }, { name := "SCHEME", type := .int, accessFlags := 26, slot := 3, constantValue := 0 }, { name := "SAFE_EXTRA", type := .int, accessFlags := 26, slot := 4, constantValue := 0 }, { name := "SEMICOLON", type := .int, accessFlags := 26, slot := 5, constantValue := 0 }, { name := "SLASH", type := .int, accessFlags := 26, slot := 6, constantValue := 0 }, { name := "QUESTION_MARK", type := .int, accessFlags := 26, slot := 7, constantValue := 0 }, { name := "COLON", type := .int, accessFlags := 26, slot := 8, constantValue := 0 }, { name := "AT_SIGN", type := .int, accessFlags := 26, slot := 9, constantValue := 0 }, { name := "AMPERSAND", type := .int, accessFlags := 26, slot := 10, constantValue := 0 }, { name := "EQUALS_SIGN", type := .int, accessFlags := 26, slot := 11, constantValue := 0 }, { name := "GROUP", type := .int, accessFlags := 26, slot := 12, constantValue := 0 }, { name := "SCHEME_CHARS", type := .int, accessFlags := 26, slot := 13, constantValue := 0 }, { name := "UNRESERVED", type := .int, accessFlags := 26, slot := 14, constantValue := 0 }, { name := "RESERVED", type := .int, accessFlags := 26, slot := 15, constantValue := 0 }, { name := "LOGIN_CHARS", type := .int, accessFlags := 26, slot := 16, constantValue := 0 }, { name := "XCHARS", type := .int, accessFlags := 26, slot := 17, constantValue := 0 }, { name := "FSEGMENT_CHARS", type := .int, accessFlags := 26, slot := 18, constantValue := 0 }, { name := "HTTP_SEGMENT_CHARS", type := .int, accessFlags := 26, slot := 19, constantValue := 0 }, { name := "GROUP_CHARS", type := .int, accessFlags := 26, slot := 20, constantValue := 0 }, { name := "MESSAGE_ID_CHARS", type := .int, accessFlags := 26, slot := 21, constantValue := 0 }, { name := "CLASSES", type := (.array .int), accessFlags := 26, slot := 22, constantValue := 0 }, { name := "FTP_TYPECODES", type := (.object "java/lang/String"), accessFlags := 26, slot := 23, constantValue := 0 }, { name := "PORT_DIGITS", type := (.object "java/lang/String"), accessFlags := 26, slot := 24, constantValue := 0 }, { name := "text", type := (.object "java/lang/String"), accessFlags := 18, slot := 0, constantValue := 0 }]
  methods := #[k10m0]
  instanceTypes := #[(.object "java/lang/String")]
  staticTypes := #[.int, .int, .int, .int, .int, .int, .int, .int, .int, .int, .int, .int, .int, .int, .int, .int, .int, .int, .int, .int, .int, .int, (.array .int), (.object "java/lang/String"), (.object "java/lang/String")]
  resolved := Array.replicate 448 none
  statics := none }

def pool11 : Array CpInfo := pool [(4, .class_ 6), (1, u "java/lang/Object"), (0, u "<init>"), (0, u "()V"), (5, .class_ 16), (1, u "java/lang/StringLatin1"), (21, .methodref 39 40), (0, .class_ 41), (0, .nameAndType 42 43), (0, u "java/lang/Math"), (0, u "min"), (0, u "(II)I"), (44, .methodref 14 89), (0, .nameAndType 90 91), (0, u "canEncode"), (0, u "(I)Z"), (0, .methodref 39 93), (0, .nameAndType 94 43), (0, u "max"), (0, .methodref 14 96), (0, .nameAndType 97 98), (0, u "indexOfChar"), (0, u "([BIII)I"), (2, u "indexOf"), (19, u "$assertionsDisabled"), (0, u "Z"), (98, .class_ 223), (1, u "java/lang/StringLatin1$LinesSpliterator"), (166, .class_ 391), (0, u "java/lang/StringLatin1$CharsSpliterator")] 3

def k11m0 : Method := { name := "<init>", desc := "()V", sig := { parameters := [], returnType := none }, accessFlags := 0, code := none }
def k11c1 : Code := { maxStack := 2, maxLocals := 1, code := jdk_43_method_4_code, exceptionTable := #[], attributes := #[] }
def k11m1 : Method := { name := "canEncode", desc := "(I)Z", sig := { parameters := [.int], returnType := some .boolean }, accessFlags := 9, code := some k11c1 }
def k11c2 : Code := { maxStack := 4, maxLocals := 4, code := jdk_43_method_22_code, exceptionTable := #[], attributes := #[] }
def k11m2 : Method := { name := "indexOf", desc := "([BIII)I", sig := { parameters := [(.array .byte), .int, .int, .int], returnType := some .int }, accessFlags := 9, code := some k11c2 }
def k11c3 : Code := { maxStack := 2, maxLocals := 6, code := jdk_43_method_23_code, exceptionTable := #[], attributes := #[] }
def k11m3 : Method := { name := "indexOfChar", desc := "([BIII)I", sig := { parameters := [(.array .byte), .int, .int, .int], returnType := some .int }, accessFlags := 10, code := some k11c3 }
/-- java/lang/StringLatin1 -/
def k11 : Class := { plain "java/lang/StringLatin1" (some 0) with
  accessFlags := 48
  interfaces := #[]
  cf := some (fileOf pool11 14 #[.nestMembers #[390, 221]] #[{ accessFlags := 0, nameIndex := 7, descriptorIndex := 8, attributes := #[] }, { accessFlags := 9, nameIndex := 90, descriptorIndex := 91, attributes := #[] }, { accessFlags := 9, nameIndex := 101, descriptorIndex := 98, attributes := #[] }, { accessFlags := 10, nameIndex := 97, descriptorIndex := 98, attributes := #[] }] 48 4 #[] #[{ accessFlags := 4120, nameIndex := 121, descriptorIndex := 122, attributes := #[] }])
  fields := #[{ name := "$assertionsDisabled", type := .boolean, accessFlags := 4120, slot := 0, constantValue := 0 }]
  methods := #[k11m0, k11m1, k11m2, k11m3]
  instanceTypes := #[]
  staticTypes := #[.boolean]
  resolved := Array.replicate 395 none
  statics := none }

def pool12 : Array CpInfo := pool [(2, .class_ 4), (1, u "java/lang/Object"), (0, u "<init>"), (0, u "()V"), (17, .class_ 26), (1, u "jdk/internal/util/Preconditions"), (20, u "checkFromToIndex"), (7, .class_ 56), (0, u "jdk/internal/util/Preconditions$4"), (57, .class_ 115), (0, u "jdk/internal/util/Preconditions$1"), (7, u "SIOOBE_FORMATTER"), (0, u "Ljava/util/function/BiFunction;"), (0, .class_ 126), (0, u "jdk/internal/util/Preconditions$2"), (3, u "AIOOBE_FORMATTER"), (0, .class_ 132), (0, u "jdk/internal/util/Preconditions$3"), (3, u "IOOBE_FORMATTER"), (46, u "(IIILjava/util/function/BiFunction;)I")] 10

def k12m0 : Method := { name := "<init>", desc := "()V", sig := { parameters := [], returnType := none }, accessFlags := 1, code := none }
def k12c1 : Code := { maxStack := 4, maxLocals := 4, code := jdk_41_method_12_code, exceptionTable := #[], attributes := #[] }
def k12m1 : Method := { name := "checkFromToIndex", desc := "(IIILjava/util/function/BiFunction;)I", sig := { parameters := [.int, .int, .int, (.object "java/util/function/BiFunction")], returnType := some .int }, accessFlags := 9, code := some k12c1 }
/-- jdk/internal/util/Preconditions -/
def k12 : Class := { plain "jdk/internal/util/Preconditions" (some 0) with
  accessFlags := 33
  interfaces := #[]
  cf := some (fileOf pool12 24 #[.nestMembers #[55, 131, 125, 114]] #[{ accessFlags := 1, nameIndex := 5, descriptorIndex := 6, attributes := #[] }, { accessFlags := 9, nameIndex := 47, descriptorIndex := 183, attributes := #[] }] 33 2 #[] #[{ accessFlags := 25, nameIndex := 123, descriptorIndex := 124, attributes := #[] }, { accessFlags := 25, nameIndex := 130, descriptorIndex := 124, attributes := #[] }, { accessFlags := 25, nameIndex := 136, descriptorIndex := 124, attributes := #[] }])
  fields := #[{ name := "SIOOBE_FORMATTER", type := (.object "java/util/function/BiFunction"), accessFlags := 25, slot := 0, constantValue := 0 }, { name := "AIOOBE_FORMATTER", type := (.object "java/util/function/BiFunction"), accessFlags := 25, slot := 1, constantValue := 0 }, { name := "IOOBE_FORMATTER", type := (.object "java/util/function/BiFunction"), accessFlags := 25, slot := 2, constantValue := 0 }]
  methods := #[k12m0, k12m1]
  instanceTypes := #[]
  staticTypes := #[(.object "java/util/function/BiFunction"), (.object "java/util/function/BiFunction"), (.object "java/util/function/BiFunction")]
  resolved := Array.replicate 194 none
  statics := some 2 }

def pool13 : Array CpInfo := pool [(9, u "<init>"), (6, .class_ 18), (1, u "java/lang/Object"), (0, u "()V"), (1, .class_ 23), (1, u "jdk/internal/util/ArraysSupport"), (0, u "LOG2_ARRAY_LONG_INDEX_SCALE"), (0, u "I"), (2, u "U"), (0, u "Ljdk/internal/misc/Unsafe;"), (8, u "BIG_ENDIAN"), (0, u "Z"), (8, u "LOG2_BYTE_BIT_SIZE"), (4, u "LOG2_ARRAY_INT_INDEX_SCALE"), (54, u "JLA"), (0, u "Ljdk/internal/access/JavaLangAccess;"), (11, u "LOG2_ARRAY_BOOLEAN_INDEX_SCALE"), (9, u "LOG2_ARRAY_BYTE_INDEX_SCALE"), (5, u "LOG2_ARRAY_CHAR_INDEX_SCALE"), (5, u "LOG2_ARRAY_SHORT_INDEX_SCALE"), (18, u "LOG2_ARRAY_FLOAT_INDEX_SCALE"), (24, u "LOG2_ARRAY_DOUBLE_INDEX_SCALE"), (89, u "T_BOOLEAN"), (2, u "T_CHAR"), (1, u "T_FLOAT"), (1, u "T_DOUBLE"), (1, u "T_BYTE"), (1, u "T_SHORT"), (1, u "T_INT"), (1, u "T_LONG"), (1, u "SOFT_MAX_ARRAY_LENGTH")] 83

def k13m0 : Method := { name := "<init>", desc := "()V", sig := { parameters := [], returnType := none }, accessFlags := 2, code := none }
/-- jdk/internal/util/ArraysSupport -/
def k13 : Class := { plain "jdk/internal/util/ArraysSupport" (some 0) with
  accessFlags := 33
  interfaces := #[]
  cf := some (fileOf pool13 21 #[] #[{ accessFlags := 2, nameIndex := 9, descriptorIndex := 19, attributes := #[] }] 33 16 #[] #[{ accessFlags := 24, nameIndex := 28, descriptorIndex := 29, attributes := #[] }, { accessFlags := 26, nameIndex := 38, descriptorIndex := 39, attributes := #[] }, { accessFlags := 25, nameIndex := 121, descriptorIndex := 25, attributes := #[] }, { accessFlags := 25, nameIndex := 131, descriptorIndex := 25, attributes := #[] }, { accessFlags := 25, nameIndex := 137, descriptorIndex := 25, attributes := #[] }, { accessFlags := 25, nameIndex := 143, descriptorIndex := 25, attributes := #[] }, { accessFlags := 25, nameIndex := 53, descriptorIndex := 25, attributes := #[] }, { accessFlags := 25, nameIndex := 24, descriptorIndex := 25, attributes := #[] }, { accessFlags := 25, nameIndex := 162, descriptorIndex := 25, attributes := #[] }, { accessFlags := 25, nameIndex := 187, descriptorIndex := 25, attributes := #[] }, { accessFlags := 26, nameIndex := 48, descriptorIndex := 25, attributes := #[] }, { accessFlags := 25, nameIndex := 277, descriptorIndex := 25, attributes := #[] }, { accessFlags := 25, nameIndex := 280, descriptorIndex := 25, attributes := #[] }, { accessFlags := 25, nameIndex := 282, descriptorIndex := 25, attributes := #[] }, { accessFlags := 25, nameIndex := 284, descriptorIndex := 25, attributes := #[] }, { accessFlags := 25, nameIndex := 286, descriptorIndex := 25, attributes := #[] }, { accessFlags := 25, nameIndex := 288, descriptorIndex := 25, attributes := #[] }, { accessFlags := 25, nameIndex := 290, descriptorIndex := 25, attributes := #[] }, { accessFlags := 25, nameIndex := 292, descriptorIndex := 25, attributes := #[] }, { accessFlags := 26, nameIndex := 108, descriptorIndex := 109, attributes := #[] }, { accessFlags := 25, nameIndex := 294, descriptorIndex := 25, attributes := #[] }])
  fields := #[{ name := "U", type := (.object "jdk/internal/misc/Unsafe"), accessFlags := 24, slot := 0, constantValue := 0 }, { name := "BIG_ENDIAN", type := .boolean, accessFlags := 26, slot := 1, constantValue := 0 }, { name := "LOG2_ARRAY_BOOLEAN_INDEX_SCALE", type := .int, accessFlags := 25, slot := 2, constantValue := 0 }, { name := "LOG2_ARRAY_BYTE_INDEX_SCALE", type := .int, accessFlags := 25, slot := 3, constantValue := 0 }, { name := "LOG2_ARRAY_CHAR_INDEX_SCALE", type := .int, accessFlags := 25, slot := 4, constantValue := 0 }, { name := "LOG2_ARRAY_SHORT_INDEX_SCALE", type := .int, accessFlags := 25, slot := 5, constantValue := 0 }, { name := "LOG2_ARRAY_INT_INDEX_SCALE", type := .int, accessFlags := 25, slot := 6, constantValue := 0 }, { name := "LOG2_ARRAY_LONG_INDEX_SCALE", type := .int, accessFlags := 25, slot := 7, constantValue := 0 }, { name := "LOG2_ARRAY_FLOAT_INDEX_SCALE", type := .int, accessFlags := 25, slot := 8, constantValue := 0 }, { name := "LOG2_ARRAY_DOUBLE_INDEX_SCALE", type := .int, accessFlags := 25, slot := 9, constantValue := 0 }, { name := "LOG2_BYTE_BIT_SIZE", type := .int, accessFlags := 26, slot := 10, constantValue := 0 }, { name := "T_BOOLEAN", type := .int, accessFlags := 25, slot := 11, constantValue := 0 }, { name := "T_CHAR", type := .int, accessFlags := 25, slot := 12, constantValue := 0 }, { name := "T_FLOAT", type := .int, accessFlags := 25, slot := 13, constantValue := 0 }, { name := "T_DOUBLE", type := .int, accessFlags := 25, slot := 14, constantValue := 0 }, { name := "T_BYTE", type := .int, accessFlags := 25, slot := 15, constantValue := 0 }, { name := "T_SHORT", type := .int, accessFlags := 25, slot := 16, constantValue := 0 }, { name := "T_INT", type := .int, accessFlags := 25, slot := 17, constantValue := 0 }, { name := "T_LONG", type := .int, accessFlags := 25, slot := 18, constantValue := 0 }, { name := "JLA", type := (.object "jdk/internal/access/JavaLangAccess"), accessFlags := 26, slot := 19, constantValue := 0 }, { name := "SOFT_MAX_ARRAY_LENGTH", type := .int, accessFlags := 25, slot := 20, constantValue := 0 }]
  methods := #[k13m0]
  instanceTypes := #[]
  staticTypes := #[(.object "jdk/internal/misc/Unsafe"), .boolean, .int, .int, .int, .int, .int, .int, .int, .int, .int, .int, .int, .int, .int, .int, .int, .int, .int, (.object "jdk/internal/access/JavaLangAccess"), .int]
  resolved := Array.replicate 378 none
  statics := none }

def pool14 : Array CpInfo := pool [(1, u "java/lang/Cloneable"), (0, .class_ 1), (0, u "java/lang/Object"), (0, .class_ 3)] 3

/-- java/lang/Cloneable -/
def k14 : Class := { plain "java/lang/Cloneable" (some 0) with
  accessFlags := 1537
  interfaces := #[]
  cf := some (fileOf pool14 2 #[] #[] 1537 4 #[] #[])
  fields := #[]
  methods := #[]
  instanceTypes := #[]
  staticTypes := #[]
  resolved := Array.replicate 8 none
  statics := none }

/-- the primitive byte -/
def k15 : Class := { plain "byte" none with kind := .primitive 'B', accessFlags := 0x411 }
/-- [B -/
def k16 : Class := { plain "[B" (some 0) with kind := .array 15 .byte, interfaces := #[14, 2], accessFlags := 1041 }

/-- the primitive char -/
def k17 : Class := { plain "char" none with kind := .primitive 'C', accessFlags := 0x411 }
/-- [C -/
def k18 : Class := { plain "[C" (some 0) with kind := .array 17 .char, interfaces := #[14, 2], accessFlags := 1041 }

/-- the primitive int -/
def k19 : Class := { plain "int" none with kind := .primitive 'I', accessFlags := 0x411 }
/-- [I -/
def k20 : Class := { plain "[I" (some 0) with kind := .array 19 .int, interfaces := #[14, 2], accessFlags := 1041 }

def heap : Heap := #[{ cls := 7, slots := #[.long 0, .int 1, .null, .int 0, .null, .int 0, .int 0], vm := .statics 7 },
  { cls := 8, slots := #[.int 0, .int 8, .int 0, .int 1], vm := .statics 8 },
  { cls := 12, slots := #[.null, .null, .null], vm := .statics 12 }]
def classes : Array Class := #[k0, k1, k2, k3, k4, k5, k6, k7, k8, k9, k10, k11, k12, k13, k14, k15, k16, k17, k18, k19, k20]
def interned : List (Array UInt16 × Addr) := []
def slotsUsed : Nat := 14
def theMethod : MethodId := ⟨1, 1⟩
def args0 : Array Value := #[.long 5, .int 5, .int 5, .int 5]
def aboutOver (below : List Frame) : State where
  vm := { classes := classes, interned := interned.toArray }
  heap := heap
  slotsUsed := slotsUsed
  threads := #[{ frames := .invoking theMethod args0 :: below }]
def below0 : List Frame := [.native { method := ⟨0, 0⟩, args := #[] }]
def about1 : State := aboutOver below0
def p0 : Program := .bare "" "" ""
def e0 : Env := launch0.env 0 0 0
theorem w_frames : about1.frames = Frame.invoking theMethod args0 :: below0 := rfl
set_option maxRecDepth 65536 in
theorem w_args : argsFit about1.vm theMethod args0 = true := by decide +kernel
set_option maxRecDepth 65536 in
theorem w_heap : heapFits about1 = true := by decide +kernel
set_option maxRecDepth 65536 in
theorem w_runnable : about1.curStatus? = some .runnable := by decide +kernel
set_option maxRecDepth 65536 in
theorem w_alone : about1.alone = true := by decide +kernel
set_option maxRecDepth 65536 in
theorem w_named : about1.methodNamed? x = some theMethod := by decide +kernel
set_option maxRecDepth 65536 in
theorem w_hears : about1.hears theMethod below0 = true := by decide +kernel
set_option maxRecDepth 65536 in
theorem w_ripe : about1.ripe theMethod args0 below0 = true := by decide +kernel
theorem w_running : about1.status = .running := rfl
set_option maxRecDepth 65536 in
theorem w_room : about1.hasRoom e0.platform room_1 = true :=
  launch0.hasRoom_least _ room_1 (by decide +kernel) (by decide +kernel) (by decide +kernel) (by decide +kernel) (by decide +kernel) (by decide +kernel)
theorem allAtoms_all (ts : List Jvm.Cond) (a : Array Jvm.Value) (st : Jvm.State) : (allAtoms ts).before a st = ts.all (fun c => c.before a st) := by
  induction ts with
  | nil => rfl
  | cons c t ih =>
    show (Jvm.Cond.and c (allAtoms t)).before a st = _
    rw [Jvm.Cond.before_and, ih, List.all_cons]
def words1 : List Jvm.Cond := Jvm.Cond.code x code maxLocals ret :: tables_1
/-- a 'code' word, met by the world's own term for the bytes: nothing is compared byte by byte -/
theorem code_word {y : MethodName} {bytes : ByteArray} {mx : Nat} {rt : Option FieldType} {a : Array Value} {s : State} {m : MethodId} {meth : Method} {c : Code} (h1 : s.methodNamed? y = some m) (h2 : s.vm.method? m = some meth) (h3 : meth.code = some c) (h4 : c.code = bytes)
    (h5 : (c.maxLocals == mx && c.exceptionTable.isEmpty && decide (c.maxStack ≤ mostOperands) && decide (meth.sig.returnType = rt) && !meth.locks && decide (parseMethodDescriptor y.desc = some meth.sig)) = true) : (Jvm.Cond.code y bytes mx rt).before a s = true := by
  simp only [Bool.and_eq_true, beq_iff_eq, Bool.not_eq_true', decide_eq_true_eq] at h5
  obtain ⟨⟨⟨⟨⟨g1, g2⟩, g3⟩, g4⟩, g5⟩, g6⟩ := h5
  simp [Cond.before, Cond.holds, Cond.value, h1, h2, h3, h4, g1, g2, g3, g4, g5, g6]
def isCode : Jvm.Cond → Bool
  | .code _ _ _ _ => true
  | _ => false
theorem all_split {L : List Jvm.Cond} {P : Jvm.Cond → Bool} (h1 : L.all (fun c => isCode c || P c) = true) (h2 : ∀ c ∈ L.filter isCode, P c = true) : L.all P = true := by
  refine List.all_eq_true.mpr fun c hc => ?_
  have h := List.all_eq_true.mp h1 c hc
  rcases Bool.eq_false_or_eq_true (isCode c) with hi | hi
  · exact h2 c (List.mem_filter.mpr ⟨hc, hi⟩)
  · simpa [hi] using h
set_option maxRecDepth 65536 in
theorem w_c0 : (Jvm.Cond.code x code maxLocals ret).before args0 about1 = true := code_word (m := ⟨1, 1⟩) (meth := k1m1) (c := k1c1) (by decide +kernel) rfl rfl rfl (by decide +kernel)
set_option maxRecDepth 65536 in
theorem w_c1 : (Jvm.Cond.code ({ cls := "java/lang/String", name := "<init>", desc := "([C)V" } : Jvm.MethodName) jdk_42_method_3_code (2 : Nat) (Option.none : Option Jvm.ClassFile.FieldType)).before args0 about1 = true := code_word (m := ⟨7, 1⟩) (meth := k7m1) (c := k7c1) (by decide +kernel) rfl rfl rfl (by decide +kernel)
set_option maxRecDepth 65536 in
theorem w_c2 : (Jvm.Cond.code ({ cls := "java/lang/String", name := "<init>", desc := "([CIILjava/lang/Void;)V" } : Jvm.MethodName) jdk_42_method_149_code (6 : Nat) (Option.none : Option Jvm.ClassFile.FieldType)).before args0 about1 = true := code_word (m := ⟨7, 4⟩) (meth := k7m4) (c := k7c4) (by decide +kernel) rfl rfl rfl (by decide +kernel)
set_option maxRecDepth 65536 in
theorem w_c3 : (Jvm.Cond.code ({ cls := "java/lang/Object", name := "<init>", desc := "()V" } : Jvm.MethodName) object_method_1_code (1 : Nat) (Option.none : Option Jvm.ClassFile.FieldType)).before args0 about1 = true := code_word (m := ⟨0, 0⟩) (meth := k0m0) (c := k0c0) (by decide +kernel) rfl rfl rfl (by decide +kernel)
set_option maxRecDepth 65536 in
theorem w_c4 : (Jvm.Cond.code ({ cls := "java/lang/StringUTF16", name := "compress", desc := "([CII)[B" } : Jvm.MethodName) jdk_52_method_16_code (6 : Nat) (Option.some (Jvm.ClassFile.FieldType.array Jvm.ClassFile.FieldType.byte))).before args0 about1 = true := code_word (m := ⟨8, 8⟩) (meth := k8m8) (c := k8c8) (by decide +kernel) rfl rfl rfl (by decide +kernel)
set_option maxRecDepth 65536 in
theorem w_c5 : (Jvm.Cond.code ({ cls := "java/lang/StringUTF16", name := "compress", desc := "([CI[BII)I" } : Jvm.MethodName) jdk_52_method_21_code (7 : Nat) (Option.some Jvm.ClassFile.FieldType.int)).before args0 about1 = true := code_word (m := ⟨8, 9⟩) (meth := k8m9) (c := k8c9) (by decide +kernel) rfl rfl rfl (by decide +kernel)
set_option maxRecDepth 65536 in
theorem w_c6 : (Jvm.Cond.code ({ cls := "java/lang/StringUTF16", name := "coderFromArrayLen", desc := "([BI)B" } : Jvm.MethodName) jdk_52_method_15_code (2 : Nat) (Option.some Jvm.ClassFile.FieldType.byte)).before args0 about1 = true := code_word (m := ⟨8, 7⟩) (meth := k8m7) (c := k8c7) (by decide +kernel) rfl rfl rfl (by decide +kernel)
set_option maxRecDepth 65536 in
theorem w_c7 : (Jvm.Cond.code ({ cls := "java/lang/Math", name := "min", desc := "(II)I" } : Jvm.MethodName) jdk_29_method_69_code (2 : Nat) (Option.some Jvm.ClassFile.FieldType.int)).before args0 about1 = true := code_word (m := ⟨9, 2⟩) (meth := k9m2) (c := k9c2) (by decide +kernel) rfl rfl rfl (by decide +kernel)
set_option maxRecDepth 65536 in
theorem w_c8 : (Jvm.Cond.code ({ cls := "java/lang/Math", name := "max", desc := "(II)I" } : Jvm.MethodName) jdk_29_method_65_code (2 : Nat) (Option.some Jvm.ClassFile.FieldType.int)).before args0 about1 = true := code_word (m := ⟨9, 1⟩) (meth := k9m1) (c := k9c1) (by decide +kernel) rfl rfl rfl (by decide +kernel)
set_option maxRecDepth 65536 in
theorem w_c9 : (Jvm.Cond.code ({ cls := "com/example/odysseus/odysseus/UrlParser", name := "find", desc := "(Ljava/lang/String;CII)I" } : Jvm.MethodName) prog_12_method_24_code (5 : Nat) (Option.some Jvm.ClassFile.FieldType.int)).before args0 about1 = true := code_word (m := ⟨10, 0⟩) (meth := k10m0) (c := k10c0) (by decide +kernel) rfl rfl rfl (by decide +kernel)
set_option maxRecDepth 65536 in
theorem w_c10 : (Jvm.Cond.code ({ cls := "java/lang/String", name := "indexOf", desc := "(II)I" } : Jvm.MethodName) jdk_42_method_80_code (3 : Nat) (Option.some Jvm.ClassFile.FieldType.int)).before args0 about1 = true := code_word (m := ⟨7, 3⟩) (meth := k7m3) (c := k7c3) (by decide +kernel) rfl rfl rfl (by decide +kernel)
set_option maxRecDepth 65536 in
theorem w_c11 : (Jvm.Cond.code ({ cls := "java/lang/String", name := "isLatin1", desc := "()Z" } : Jvm.MethodName) jdk_42_method_154_code (1 : Nat) (Option.some Jvm.ClassFile.FieldType.boolean)).before args0 about1 = true := code_word (m := ⟨7, 6⟩) (meth := k7m6) (c := k7c6) (by decide +kernel) rfl rfl rfl (by decide +kernel)
set_option maxRecDepth 65536 in
theorem w_c12 : (Jvm.Cond.code ({ cls := "java/lang/String", name := "length", desc := "()I" } : Jvm.MethodName) jdk_42_method_54_code (1 : Nat) (Option.some Jvm.ClassFile.FieldType.int)).before args0 about1 = true := code_word (m := ⟨7, 2⟩) (meth := k7m2) (c := k7c2) (by decide +kernel) rfl rfl rfl (by decide +kernel)
set_option maxRecDepth 65536 in
theorem w_c13 : (Jvm.Cond.code ({ cls := "java/lang/String", name := "coder", desc := "()B" } : Jvm.MethodName) jdk_42_method_152_code (1 : Nat) (Option.some Jvm.ClassFile.FieldType.byte)).before args0 about1 = true := code_word (m := ⟨7, 5⟩) (meth := k7m5) (c := k7c5) (by decide +kernel) rfl rfl rfl (by decide +kernel)
set_option maxRecDepth 65536 in
theorem w_c14 : (Jvm.Cond.code ({ cls := "java/lang/StringLatin1", name := "indexOf", desc := "([BIII)I" } : Jvm.MethodName) jdk_43_method_22_code (4 : Nat) (Option.some Jvm.ClassFile.FieldType.int)).before args0 about1 = true := code_word (m := ⟨11, 2⟩) (meth := k11m2) (c := k11c2) (by decide +kernel) rfl rfl rfl (by decide +kernel)
set_option maxRecDepth 65536 in
theorem w_c15 : (Jvm.Cond.code ({ cls := "java/lang/StringLatin1", name := "canEncode", desc := "(I)Z" } : Jvm.MethodName) jdk_43_method_4_code (1 : Nat) (Option.some Jvm.ClassFile.FieldType.boolean)).before args0 about1 = true := code_word (m := ⟨11, 1⟩) (meth := k11m1) (c := k11c1) (by decide +kernel) rfl rfl rfl (by decide +kernel)
set_option maxRecDepth 65536 in
theorem w_c16 : (Jvm.Cond.code ({ cls := "java/lang/StringLatin1", name := "indexOfChar", desc := "([BIII)I" } : Jvm.MethodName) jdk_43_method_23_code (6 : Nat) (Option.some Jvm.ClassFile.FieldType.int)).before args0 about1 = true := code_word (m := ⟨11, 3⟩) (meth := k11m3) (c := k11c3) (by decide +kernel) rfl rfl rfl (by decide +kernel)
set_option maxRecDepth 65536 in
theorem w_c17 : (Jvm.Cond.code ({ cls := "java/lang/StringUTF16", name := "toBytes", desc := "([CII)[B" } : Jvm.MethodName) jdk_52_method_14_code (5 : Nat) (Option.some (Jvm.ClassFile.FieldType.array Jvm.ClassFile.FieldType.byte))).before args0 about1 = true := code_word (m := ⟨8, 6⟩) (meth := k8m6) (c := k8c6) (by decide +kernel) rfl rfl rfl (by decide +kernel)
set_option maxRecDepth 65536 in
theorem w_c18 : (Jvm.Cond.code ({ cls := "java/lang/StringUTF16", name := "newBytesFor", desc := "(I)[B" } : Jvm.MethodName) jdk_52_method_2_code (1 : Nat) (Option.some (Jvm.ClassFile.FieldType.array Jvm.ClassFile.FieldType.byte))).before args0 about1 = true := code_word (m := ⟨8, 1⟩) (meth := k8m1) (c := k8c1) (by decide +kernel) rfl rfl rfl (by decide +kernel)
set_option maxRecDepth 65536 in
theorem w_c19 : (Jvm.Cond.code ({ cls := "java/lang/StringUTF16", name := "newBytesLength", desc := "(I)I" } : Jvm.MethodName) jdk_52_method_3_code (1 : Nat) (Option.some Jvm.ClassFile.FieldType.int)).before args0 about1 = true := code_word (m := ⟨8, 2⟩) (meth := k8m2) (c := k8c2) (by decide +kernel) rfl rfl rfl (by decide +kernel)
set_option maxRecDepth 65536 in
theorem w_c20 : (Jvm.Cond.code ({ cls := "java/lang/StringUTF16", name := "putChar", desc := "([BII)V" } : Jvm.MethodName) jdk_52_method_4_code (3 : Nat) (Option.none : Option Jvm.ClassFile.FieldType)).before args0 about1 = true := code_word (m := ⟨8, 3⟩) (meth := k8m3) (c := k8c3) (by decide +kernel) rfl rfl rfl (by decide +kernel)
set_option maxRecDepth 65536 in
theorem w_c21 : (Jvm.Cond.code ({ cls := "java/lang/StringUTF16", name := "getChar", desc := "([BI)C" } : Jvm.MethodName) jdk_52_method_5_code (2 : Nat) (Option.some Jvm.ClassFile.FieldType.char)).before args0 about1 = true := code_word (m := ⟨8, 4⟩) (meth := k8m4) (c := k8c4) (by decide +kernel) rfl rfl rfl (by decide +kernel)
set_option maxRecDepth 65536 in
theorem w_c22 : (Jvm.Cond.code ({ cls := "java/lang/StringUTF16", name := "indexOf", desc := "([BIII)I" } : Jvm.MethodName) jdk_52_method_40_code (4 : Nat) (Option.some Jvm.ClassFile.FieldType.int)).before args0 about1 = true := code_word (m := ⟨8, 10⟩) (meth := k8m10) (c := k8c10) (by decide +kernel) rfl rfl rfl (by decide +kernel)
set_option maxRecDepth 65536 in
theorem w_c23 : (Jvm.Cond.code ({ cls := "java/lang/StringUTF16", name := "indexOfChar", desc := "([BIII)I" } : Jvm.MethodName) jdk_52_method_47_code (4 : Nat) (Option.some Jvm.ClassFile.FieldType.int)).before args0 about1 = true := code_word (m := ⟨8, 11⟩) (meth := k8m11) (c := k8c11) (by decide +kernel) rfl rfl rfl (by decide +kernel)
set_option maxRecDepth 65536 in
theorem w_c24 : (Jvm.Cond.code ({ cls := "java/lang/StringUTF16", name := "checkBoundsBeginEnd", desc := "(II[B)V" } : Jvm.MethodName) jdk_52_method_93_code (3 : Nat) (Option.none : Option Jvm.ClassFile.FieldType)).before args0 about1 = true := code_word (m := ⟨8, 13⟩) (meth := k8m13) (c := k8c13) (by decide +kernel) rfl rfl rfl (by decide +kernel)
set_option maxRecDepth 65536 in
theorem w_c25 : (Jvm.Cond.code ({ cls := "java/lang/StringUTF16", name := "length", desc := "([B)I" } : Jvm.MethodName) jdk_52_method_6_code (1 : Nat) (Option.some Jvm.ClassFile.FieldType.int)).before args0 about1 = true := code_word (m := ⟨8, 5⟩) (meth := k8m5) (c := k8c5) (by decide +kernel) rfl rfl rfl (by decide +kernel)
set_option maxRecDepth 65536 in
theorem w_c26 : (Jvm.Cond.code ({ cls := "java/lang/String", name := "checkBoundsBeginEnd", desc := "(III)V" } : Jvm.MethodName) jdk_42_method_158_code (3 : Nat) (Option.none : Option Jvm.ClassFile.FieldType)).before args0 about1 = true := code_word (m := ⟨7, 7⟩) (meth := k7m7) (c := k7c7) (by decide +kernel) rfl rfl rfl (by decide +kernel)
set_option maxRecDepth 65536 in
theorem w_c27 : (Jvm.Cond.code ({ cls := "jdk/internal/util/Preconditions", name := "checkFromToIndex", desc := "(IIILjava/util/function/BiFunction;)I" } : Jvm.MethodName) jdk_41_method_12_code (4 : Nat) (Option.some Jvm.ClassFile.FieldType.int)).before args0 about1 = true := code_word (m := ⟨12, 1⟩) (meth := k12m1) (c := k12c1) (by decide +kernel) rfl rfl rfl (by decide +kernel)
set_option maxRecDepth 65536 in
theorem w_c28 : (Jvm.Cond.code ({ cls := "java/lang/StringUTF16", name := "indexOfCharUnsafe", desc := "([BIII)I" } : Jvm.MethodName) jdk_52_method_48_code (5 : Nat) (Option.some Jvm.ClassFile.FieldType.int)).before args0 about1 = true := code_word (m := ⟨8, 12⟩) (meth := k8m12) (c := k8c12) (by decide +kernel) rfl rfl rfl (by decide +kernel)
def codes1 : List Jvm.Cond := [Jvm.Cond.code x code maxLocals ret, Jvm.Cond.code ({ cls := "java/lang/String", name := "<init>", desc := "([C)V" } : Jvm.MethodName) jdk_42_method_3_code (2 : Nat) (Option.none : Option Jvm.ClassFile.FieldType), Jvm.Cond.code ({ cls := "java/lang/String", name := "<init>", desc := "([CIILjava/lang/Void;)V" } : Jvm.MethodName) jdk_42_method_149_code (6 : Nat) (Option.none : Option Jvm.ClassFile.FieldType), Jvm.Cond.code ({ cls := "java/lang/Object", name := "<init>", desc := "()V" } : Jvm.MethodName) object_method_1_code (1 : Nat) (Option.none : Option Jvm.ClassFile.FieldType), Jvm.Cond.code ({ cls := "java/lang/StringUTF16", name := "compress", desc := "([CII)[B" } : Jvm.MethodName) jdk_52_method_16_code (6 : Nat) (Option.some (Jvm.ClassFile.FieldType.array Jvm.ClassFile.FieldType.byte)), Jvm.Cond.code ({ cls := "java/lang/StringUTF16", name := "compress", desc := "([CI[BII)I" } : Jvm.MethodName) jdk_52_method_21_code (7 : Nat) (Option.some Jvm.ClassFile.FieldType.int), Jvm.Cond.code ({ cls := "java/lang/StringUTF16", name := "coderFromArrayLen", desc := "([BI)B" } : Jvm.MethodName) jdk_52_method_15_code (2 : Nat) (Option.some Jvm.ClassFile.FieldType.byte), Jvm.Cond.code ({ cls := "java/lang/Math", name := "min", desc := "(II)I" } : Jvm.MethodName) jdk_29_method_69_code (2 : Nat) (Option.some Jvm.ClassFile.FieldType.int), Jvm.Cond.code ({ cls := "java/lang/Math", name := "max", desc := "(II)I" } : Jvm.MethodName) jdk_29_method_65_code (2 : Nat) (Option.some Jvm.ClassFile.FieldType.int), Jvm.Cond.code ({ cls := "com/example/odysseus/odysseus/UrlParser", name := "find", desc := "(Ljava/lang/String;CII)I" } : Jvm.MethodName) prog_12_method_24_code (5 : Nat) (Option.some Jvm.ClassFile.FieldType.int), Jvm.Cond.code ({ cls := "java/lang/String", name := "indexOf", desc := "(II)I" } : Jvm.MethodName) jdk_42_method_80_code (3 : Nat) (Option.some Jvm.ClassFile.FieldType.int), Jvm.Cond.code ({ cls := "java/lang/String", name := "isLatin1", desc := "()Z" } : Jvm.MethodName) jdk_42_method_154_code (1 : Nat) (Option.some Jvm.ClassFile.FieldType.boolean), Jvm.Cond.code ({ cls := "java/lang/String", name := "length", desc := "()I" } : Jvm.MethodName) jdk_42_method_54_code (1 : Nat) (Option.some Jvm.ClassFile.FieldType.int), Jvm.Cond.code ({ cls := "java/lang/String", name := "coder", desc := "()B" } : Jvm.MethodName) jdk_42_method_152_code (1 : Nat) (Option.some Jvm.ClassFile.FieldType.byte), Jvm.Cond.code ({ cls := "java/lang/StringLatin1", name := "indexOf", desc := "([BIII)I" } : Jvm.MethodName) jdk_43_method_22_code (4 : Nat) (Option.some Jvm.ClassFile.FieldType.int), Jvm.Cond.code ({ cls := "java/lang/StringLatin1", name := "canEncode", desc := "(I)Z" } : Jvm.MethodName) jdk_43_method_4_code (1 : Nat) (Option.some Jvm.ClassFile.FieldType.boolean), Jvm.Cond.code ({ cls := "java/lang/StringLatin1", name := "indexOfChar", desc := "([BIII)I" } : Jvm.MethodName) jdk_43_method_23_code (6 : Nat) (Option.some Jvm.ClassFile.FieldType.int), Jvm.Cond.code ({ cls := "java/lang/StringUTF16", name := "toBytes", desc := "([CII)[B" } : Jvm.MethodName) jdk_52_method_14_code (5 : Nat) (Option.some (Jvm.ClassFile.FieldType.array Jvm.ClassFile.FieldType.byte)), Jvm.Cond.code ({ cls := "java/lang/StringUTF16", name := "newBytesFor", desc := "(I)[B" } : Jvm.MethodName) jdk_52_method_2_code (1 : Nat) (Option.some (Jvm.ClassFile.FieldType.array Jvm.ClassFile.FieldType.byte)), Jvm.Cond.code ({ cls := "java/lang/StringUTF16", name := "newBytesLength", desc := "(I)I" } : Jvm.MethodName) jdk_52_method_3_code (1 : Nat) (Option.some Jvm.ClassFile.FieldType.int), Jvm.Cond.code ({ cls := "java/lang/StringUTF16", name := "putChar", desc := "([BII)V" } : Jvm.MethodName) jdk_52_method_4_code (3 : Nat) (Option.none : Option Jvm.ClassFile.FieldType), Jvm.Cond.code ({ cls := "java/lang/StringUTF16", name := "getChar", desc := "([BI)C" } : Jvm.MethodName) jdk_52_method_5_code (2 : Nat) (Option.some Jvm.ClassFile.FieldType.char), Jvm.Cond.code ({ cls := "java/lang/StringUTF16", name := "indexOf", desc := "([BIII)I" } : Jvm.MethodName) jdk_52_method_40_code (4 : Nat) (Option.some Jvm.ClassFile.FieldType.int), Jvm.Cond.code ({ cls := "java/lang/StringUTF16", name := "indexOfChar", desc := "([BIII)I" } : Jvm.MethodName) jdk_52_method_47_code (4 : Nat) (Option.some Jvm.ClassFile.FieldType.int), Jvm.Cond.code ({ cls := "java/lang/StringUTF16", name := "checkBoundsBeginEnd", desc := "(II[B)V" } : Jvm.MethodName) jdk_52_method_93_code (3 : Nat) (Option.none : Option Jvm.ClassFile.FieldType), Jvm.Cond.code ({ cls := "java/lang/StringUTF16", name := "length", desc := "([B)I" } : Jvm.MethodName) jdk_52_method_6_code (1 : Nat) (Option.some Jvm.ClassFile.FieldType.int), Jvm.Cond.code ({ cls := "java/lang/String", name := "checkBoundsBeginEnd", desc := "(III)V" } : Jvm.MethodName) jdk_42_method_158_code (3 : Nat) (Option.none : Option Jvm.ClassFile.FieldType), Jvm.Cond.code ({ cls := "jdk/internal/util/Preconditions", name := "checkFromToIndex", desc := "(IIILjava/util/function/BiFunction;)I" } : Jvm.MethodName) jdk_41_method_12_code (4 : Nat) (Option.some Jvm.ClassFile.FieldType.int), Jvm.Cond.code ({ cls := "java/lang/StringUTF16", name := "indexOfCharUnsafe", desc := "([BIII)I" } : Jvm.MethodName) jdk_52_method_48_code (5 : Nat) (Option.some Jvm.ClassFile.FieldType.int)]
set_option maxRecDepth 65536 in
theorem codes_eq : words1.filter isCode = codes1 := rfl
theorem w_codes : ∀ c ∈ words1.filter isCode, c.before args0 about1 = true := by
  rw [codes_eq]
  intro c hc
  simp only [codes1, List.mem_cons, List.not_mem_nil, or_false] at hc
  rcases hc with rfl | rfl | rfl | rfl | rfl | rfl | rfl | rfl | rfl | rfl | rfl | rfl | rfl | rfl | rfl | rfl | rfl | rfl | rfl | rfl | rfl | rfl | rfl | rfl | rfl | rfl | rfl | rfl | rfl
  · exact w_c0
  · exact w_c1
  · exact w_c2
  · exact w_c3
  · exact w_c4
  · exact w_c5
  · exact w_c6
  · exact w_c7
  · exact w_c8
  · exact w_c9
  · exact w_c10
  · exact w_c11
  · exact w_c12
  · exact w_c13
  · exact w_c14
  · exact w_c15
  · exact w_c16
  · exact w_c17
  · exact w_c18
  · exact w_c19
  · exact w_c20
  · exact w_c21
  · exact w_c22
  · exact w_c23
  · exact w_c24
  · exact w_c25
  · exact w_c26
  · exact w_c27
  · exact w_c28
set_option maxRecDepth 65536 in
theorem w_t1 : (words1.take 24).all (fun c => isCode c || c.before args0 about1) = true := by decide +kernel
set_option maxRecDepth 65536 in
theorem w_t2 : ((words1.drop 24).take 24).all (fun c => isCode c || c.before args0 about1) = true := by decide +kernel
set_option maxRecDepth 65536 in
theorem w_t3 : (((words1.drop 24).drop 24).take 24).all (fun c => isCode c || c.before args0 about1) = true := by decide +kernel
set_option maxRecDepth 65536 in
theorem w_t4 : ((((words1.drop 24).drop 24).drop 24).take 24).all (fun c => isCode c || c.before args0 about1) = true := by decide +kernel
set_option maxRecDepth 65536 in
theorem w_t5 : (((((words1.drop 24).drop 24).drop 24).drop 24).take 24).all (fun c => isCode c || c.before args0 about1) = true := by decide +kernel
set_option maxRecDepth 65536 in
theorem w_t6 : (((((words1.drop 24).drop 24).drop 24).drop 24).drop 24).all (fun c => isCode c || c.before args0 about1) = true := by decide +kernel
theorem w_tables : (allAtoms (Jvm.Cond.code x code maxLocals ret :: tables_1)).before args0 about1 = true := by
  rw [allAtoms_all]
  show words1.all (fun c => c.before args0 about1) = true
  refine all_split ?_ w_codes
  rw [← List.take_append_drop 24 words1, List.all_append, w_t1, ← List.take_append_drop 24 (words1.drop 24), List.all_append, w_t2, ← List.take_append_drop 24 ((words1.drop 24).drop 24), List.all_append, w_t3, ← List.take_append_drop 24 (((words1.drop 24).drop 24).drop 24), List.all_append, w_t4, ← List.take_append_drop 24 ((((words1.drop 24).drop 24).drop 24).drop 24), List.all_append, w_t5, w_t6]
  rfl
set_option maxRecDepth 65536 in
theorem w_rest : rest_1_c.before args0 about1 = true := by decide +kernel
set_option maxRecDepth 65536 in
theorem w_case : (Jvm.Cond.and given_1 narrow_1).before args0 about1 = true := by decide +kernel
theorem w_applies : (headSpec (Jvm.Cond.code x code maxLocals ret :: tables_1) room_1).applies x e0.platform about1 = true :=
  (Spec.applies_iff w_frames).mpr ⟨w_running, w_runnable, w_alone, w_named, w_hears, w_ripe, w_room, w_tables⟩
theorem atStart : AtStart classFile x code maxLocals ret World_1 tables_1 room_1 Calls_1 rest_1 Pre_1 launch0 p0 e0 about1 theMethod args0 below0 :=
  ⟨lists_1, trivial, launch0.admits_env _ _ _, launch0.least_env, fairChoices_fair.cas, fairChoices_fair.clock, w_frames, w_args, w_heap, w_applies, trivial, w_rest, w_case⟩
end start1
theorem witness_1 : WitnessClaimed_1 := ⟨start1.p0, start1.e0, start1.about1, start1.theMethod, start1.args0, start1.below0, start1.atStart⟩
end Jvm.Pilot.@@N@@
