import JvmDerived
import JvmDerived.Pilot.@@N@@Statement
import JvmDerived.Pilot.@@N@@Code
set_option linter.unusedVariables false
set_option linter.unusedSimpArgs false
namespace Jvm.RoadKit
open Sem ClassFile Op Lib Jvm.Stand Jvm.Free Jvm.LawKit
section New
variable {p : Program} {l : Launch} {e : Env} {R : Room} {s : State} {m : MethodId} {args : Array Value} {below : List Frame} {meth : Method} {c : Code} {T : State} {locs : List Loc} {cells slots : Nat}
theorem retI (X : Stand p l e R s m args below meth c T locs cells slots) (hx : p.tables.exec = Jvm.exec) {pc : Nat} {Ls : Array Slot} {z : Int32} {rest : List Value} (hret : meth.sig.returnType = some .int) (hd : decode c.code pc = .ok (.ireturn, 1)) {fs : List Frame}
    (hl : ∀ (f : JFrame) (acts : List Action), f.method = m → f.locked = none → f.entered = [] → (doReturn e (T.setTop f) acts (some (.int z))).1 = T.setFrames fs) : Steps p.tables e below (T.setTop (mkF m pc Ls (.int z :: rest))) (T.setFrames fs) := by
  have hm' : T.vm.method? m = some meth := X.method'
  have hn : narrow .int (.int z) = .int z := rfl
  show Steps p.tables e below (T.setTop { method := m, pc := pc, locals := Ls, stack := _ :: rest, locked := none }) _
  jvm_step X.here [X.here.top, hx, hd, hm', hret, hn]
  first | (intro acts; rw [hl _ acts rfl rfl rfl]) | rw [hl _ _ rfl rfl rfl]
  exact Steps.refl _
theorem seg (X : Stand p l e R s m args below meth c T locs cells slots) (P : State → Prop) (h : ∃ T', Stand p l e R s m args below meth c T' locs cells slots ∧ P T') : ∃ T', Stand p l e R s m args below meth c T' locs cells slots ∧ P T' := h
/-- int to char -/
def i2c (x : Int32) : Int32 := x.toUInt32.toUInt16.toUInt32.toInt32
/-- int to byte -/
def own_lo (x : Int32) : Int32 := x.toInt8.toInt32
/-- the unsigned shift of an int -/
def ushr (x y : Int32) : Int32 := (x.toUInt32 >>> (y &&& 31).toUInt32).toInt32
/-- the unsigned shift of a long -/
def ushrJ (x : Int64) (y : Int32) : Int64 := (x.toUInt64 >>> (y &&& 0x3f).toInt64.toUInt64).toInt64
end New
end Jvm.RoadKit
namespace Jvm.Pilot.@@N@@
open Jvm Jvm.ClassFile Sem Op Lib Jvm.Free Jvm.Stand Jvm.LawKit Jvm.RoadKit Bundle Jvm.Pilot.@@N@@.Jvm.D
theorem own_neN {a b : Addr} (h : @Ne Nat a b) : ¬ (a = b) := h
theorem own_narb {q : Prop} [Decidable q] : nar .boolean (if q then (1 : Int32) else (0 : Int32)) = (if q then (1 : Int32) else (0 : Int32)) := by split <;> rfl
theorem own_declares {Z : State} {a0 : Array Value} {y : MethodName} {bytes : ByteArray} {mx : Nat} {r : Option FieldType} (w1 : (Jvm.Cond.instanceMethod y).before a0 Z = true) (w2 : (Jvm.Cond.code y bytes mx r).before a0 Z = true) : (Jvm.Cond.declares y).before a0 Z = true := by
  obtain ⟨mk, meth, h1, h2, h3, -⟩ := Cond.instanceMethod_spec w1
  obtain ⟨meth', c, q1, -, -, -, -, -, -, q2⟩ := Cond.code_spec h1 w2
  cases h2.symm.trans q1
  simp [Cond.before, Cond.holds, Cond.value, h1, h2, h3, q2]
/-- the class of a method that an object selects is no interface -/
theorem own_nf {Z : State} {a0 : Array Value} {y z : MethodName} {C : String} (hz : z.cls = y.cls) (w : (Jvm.Cond.selects C z z).before a0 Z = true) : ∀ r, Z.methodNamed? y = some r → ∃ k, Z.vm.classes[r.cls]? = some k ∧ k.isInterface = false := fun r hr => by
  obtain ⟨c, r2, m2, -, -, q3, -, kP, hkP, hkPi⟩ := Cond.selects_spec w
  have h1 := findClass_of_methodNamed q3
  have h2 := findClass_of_methodNamed hr
  rw [hz, h2] at h1
  rw [Option.some.inj h1]
  exact ⟨kP, hkP, hkPi⟩
/-- a method that its class declares itself is the one that the look-up finds -/
theorem own_same {Z : State} {a0 : Array Value} {y : MethodName} (w1 : (Jvm.Cond.instanceMethod y).before a0 Z = true) (w2 : ∀ r, Z.methodNamed? y = some r → ∃ k, Z.vm.classes[r.cls]? = some k ∧ k.isInterface = false) (hy : y.cls ≠ "java/lang/invoke/MethodHandle" ∧ y.cls ≠ "java/lang/invoke/VarHandle") : (Jvm.Cond.sameMethod y.cls y.cls y.name y.desc).before a0 Z = true := by
  obtain ⟨mk, meth, h1, -⟩ := Cond.instanceMethod_spec w1
  have hc := findClass_of_methodNamed h1
  obtain ⟨k, hk, hi⟩ := w2 mk h1
  have hf := State.methodFound?_of_named h1 hy
  have hk' : Z.vm.classes[mk.cls]? = some k := hk
  simp [Cond.before, Cond.holds, Cond.value, hc, hf, h1, hk', hi]
theorem own_ti {n : Nat} (h : n ≤ 8000) : (Int32.ofNat n).toInt = n := Int32.toInt_ofNat_of_lt (by omega)
theorem own_tn {n : Nat} (h : n ≤ 8000) : (Int32.ofNat n).toNatClampNeg = n := by
  rw [Int32.toNatClampNeg, own_ti h]; omega
theorem own_lt {i n : Nat} (h : i < n) (hn : n ≤ 8000) : (Int32.ofNat i) < (Int32.ofNat n) := by
  rw [Int32.lt_iff_toInt_lt, own_ti (by omega), own_ti hn]; omega
theorem own_nlt {i n : Nat} (h : n ≤ i) (hn : i ≤ 8000) : ¬ ((Int32.ofNat i) < (Int32.ofNat n)) := by
  rw [Int32.lt_iff_toInt_lt, own_ti hn, own_ti (by omega : n ≤ 8000)]; omega
theorem own_nn {n : Nat} (h : n ≤ 8000) : ¬ ((Int32.ofNat n) < (0 : Int32)) := by
  rw [Int32.lt_iff_toInt_lt, own_ti h]
  show ¬ ((n : Int) < 0)
  omega
theorem own_inj {i n : Nat} (h : i ≤ 8000) (hn : n ≤ 8000) (e : Int32.ofNat i = Int32.ofNat n) : i = n := by
  have := congrArg Int32.toInt e
  rw [own_ti h, own_ti hn] at this; omega
theorem own_up (k : Nat) : Int32.ofNat (k + 1) = Int32.ofNat k + (1 : Int32) := Int32.ofNat_add k 1
theorem own_in {i n : Nat} (h : i < n) (hn : n ≤ 8000) : ¬ (Int32.ofNat i) < 0 ∧ (Int32.ofNat i) < (Int32.ofNat n) := ⟨own_nn (by omega), own_lt h hn⟩
theorem own_eqI {z w : Int32} (h : z.toInt = w.toInt) : z = w := Int32.toInt_inj.mp h
theorem own_shl1 {n : Nat} (h : n ≤ 4000) : (Int32.ofNat n) <<< ((1 : Int32) &&& 31) = Int32.ofNat (2 * n) := by
  apply own_eqI
  have h1 := c_ishl (Int32.ofNat n) 1 1 (by decide)
  rw [own_ti (by omega)] at h1
  rw [own_ti (by omega : 2 * n ≤ 8000)]
  have := rng32 ((Int32.ofNat n) <<< ((1 : Int32) &&& 31))
  omega
theorem own_shr1 {n : Nat} (h : n ≤ 4000) : (Int32.ofNat (2 * n)) >>> ((1 : Int32) &&& 31) = Int32.ofNat n := by
  apply own_eqI
  rw [c_ishr (Int32.ofNat (2 * n)) 1 1 (by decide), own_ti (by omega : 2 * n ≤ 8000), own_ti (by omega)]
  omega
theorem own_shr0 (z : Int32) : z >>> ((0 : Int32) &&& 31) = z := by
  apply own_eqI
  rw [c_ishr z 0 0 (by decide)]; simp
def own_mix {α : Type} (ys vs : List α) (j : Nat) : List α := ys.take j ++ vs.drop j
theorem own_mix0 {α : Type} (ys vs : List α) : own_mix ys vs 0 = vs := by simp [own_mix]
theorem own_mixn {α : Type} (ys vs : List α) (n : Nat) (h : ys.length = n) (h2 : vs.length = n) : own_mix ys vs n = ys := by
  simp [own_mix, ← h, ← h2]
  omega
theorem own_mixl {α : Type} (ys vs : List α) (j : Nat) (h : ys.length = vs.length) : (own_mix ys vs j).length = vs.length := by simp [own_mix]; omega
theorem own_mixs {α : Type} (ys vs : List α) (d : α) (j : Nat) (h : ys.length = vs.length) (hj : j < vs.length) : (own_mix ys vs j).set j (ys.getD j d) = own_mix ys vs (j + 1) := by
  have hj' : j < ys.length := by omega
  apply List.ext_getElem?
  intro i
  simp only [own_mix, List.getElem?_set, List.length_append, List.length_take, List.length_drop, List.getElem?_append, List.getElem?_take, List.getElem?_drop, List.getD_eq_getElem?_getD, List.getElem?_eq_getElem hj', Option.getD_some]
  by_cases h1 : j = i
  · subst h1
    rw [if_pos rfl, if_pos (by omega), if_pos (by omega), if_pos (by omega), List.getElem?_eq_getElem hj']
  · rw [if_neg h1]
    by_cases h2 : i < j
    · rw [if_pos (by omega), if_pos (by omega), if_pos (by omega), if_pos (by omega)]
    · rw [if_neg (by omega), if_neg (by omega)]
      congr 1
      omega
/-- every char lies below 256 -/
abbrev own_lat (cs : List Int32) : Prop := ∀ c ∈ cs, ¬ ((255 : Int32) < c)
/-- every one is a char -/
abbrev own_chs (cs : List Int32) : Prop := ∀ c ∈ cs, ¬ (c < (0 : Int32)) ∧ ¬ ((65535 : Int32) < c)
def own_low (cs : List Int32) : List Value := cs.map fun c => .int (own_lo c)
def own_wide : List Int32 → List Value
  | [] => []
  | c :: r => .int (own_lo (c >>> ((0 : Int32) &&& 31))) :: .int (own_lo (c >>> ((8 : Int32) &&& 31))) :: own_wide r
def own_cod (cs : List Int32) : Int32 := if own_lat cs then 0 else 1
def own_enc (cs : List Int32) : List Value := if own_lat cs then own_low cs else own_wide cs
def own_enl (cs : List Int32) : Nat := if own_lat cs then cs.length else 2 * cs.length
theorem own_lowl (cs : List Int32) : (own_low cs).length = cs.length := by simp [own_low]
theorem own_widel : ∀ cs : List Int32, (own_wide cs).length = 2 * cs.length
  | [] => rfl
  | c :: r => by simp only [own_wide, List.length_cons, own_widel r]; omega
theorem own_getc (cs : List Int32) (j : Nat) (d : Value) (hj : j < cs.length) (hb : cs.length ≤ 8000) : (cs.map Value.int).getD (Int32.ofNat j).toNatClampNeg d = .int (cs.getD j 0) := by
  rw [own_tn (by omega)]
  simp [List.getD_eq_getElem?_getD, List.getElem?_map, List.getElem?_eq_getElem hj]
theorem own_getl (cs : List Int32) (j : Nat) (d : Value) (hj : j < cs.length) (hb : cs.length ≤ 8000) : (own_low cs).getD (Int32.ofNat j).toNatClampNeg d = .int (own_lo (cs.getD j 0)) := by
  rw [own_tn (by omega)]
  simp [own_low, List.getD_eq_getElem?_getD, List.getElem?_map, List.getElem?_eq_getElem hj]
theorem own_mem (cs : List Int32) (j : Nat) (hj : j < cs.length) : cs.getD j 0 ∈ cs := by
  simp [List.getD_eq_getElem?_getD, List.getElem?_eq_getElem hj]
theorem own_lolo (c : Int32) : nar .byte (own_lo c) = own_lo c := by
  show (own_lo c).toInt8.toInt32 = own_lo c
  simp [own_lo]
theorem own_mixc (cs : List Int32) (vs : List Value) (j : Nat) (h : cs.length = vs.length) (hj : j < vs.length) : (own_mix (own_low cs) vs j).set j (.int (nar .byte (own_lo (cs.getD j 0)))) = own_mix (own_low cs) vs (j + 1) := by
  have e : Value.int (own_lo (cs.getD j 0)) = (own_low cs).getD j (.int 0) := by
    simp [own_low, List.getD_eq_getElem?_getD, List.getElem?_map, List.getElem?_eq_getElem (by omega : j < cs.length)]
  rw [own_lolo, e]
  exact own_mixs _ _ _ _ (by rw [own_lowl]; exact h) hj
theorem own_wide0 (d : Value) : ∀ (cs : List Int32) (j : Nat), j < cs.length → (own_wide cs).getD (2 * j) d = .int (own_lo ((cs.getD j 0) >>> ((0 : Int32) &&& 31)))
  | [], _, h => nomatch h
  | c :: r, 0, _ => rfl
  | c :: r, j + 1, h => by
    have := own_wide0 d r j (by simpa using h)
    show (own_wide (c :: r)).getD (2 * j + 2) d = _
    simpa [own_wide] using this
theorem own_wide1 (d : Value) : ∀ (cs : List Int32) (j : Nat), j < cs.length → (own_wide cs).getD (2 * j + 1) d = .int (own_lo ((cs.getD j 0) >>> ((8 : Int32) &&& 31)))
  | [], _, h => nomatch h
  | c :: r, 0, _ => rfl
  | c :: r, j + 1, h => by
    have := own_wide1 d r j (by simpa using h)
    show (own_wide (c :: r)).getD (2 * j + 1 + 2) d = _
    simpa [own_wide] using this
theorem own_mixw (cs : List Int32) (vs : List Value) (j : Nat) (h : 2 * cs.length = vs.length) (hj : j < cs.length) :
    ((own_mix (own_wide cs) vs (2 * j)).set (2 * j) (.int (own_lo ((cs.getD j 0) >>> ((0 : Int32) &&& 31))))).set (2 * j + 1) (.int (own_lo ((cs.getD j 0) >>> ((8 : Int32) &&& 31)))) = own_mix (own_wide cs) vs (2 * (j + 1)) := by
  have hl : (own_wide cs).length = vs.length := by rw [own_widel]; exact h
  rw [← own_wide0 (.int 0) cs j hj, own_mixs _ _ _ _ hl (by omega), ← own_wide1 (.int 0) cs j hj, own_mixs _ _ _ _ hl (by omega)]
  rfl
/-- two bytes make the char again -/
theorem own_pair {c : Int32} (h0 : ¬ (c < (0 : Int32))) (h1 : ¬ ((65535 : Int32) < c)) :
    i2c (((own_lo (c >>> ((0 : Int32) &&& 31)) &&& (255 : Int32)) <<< ((0 : Int32) &&& 31)) ||| ((own_lo (c >>> ((8 : Int32) &&& 31)) &&& (255 : Int32)) <<< ((8 : Int32) &&& 31))) = c := by
  have b0 : 0 ≤ c.toInt ∧ c.toInt ≤ 65535 := by
    rw [Int32.lt_iff_toInt_lt] at h0 h1
    have : (0 : Int32).toInt = 0 := rfl
    have : (65535 : Int32).toInt = 65535 := rfl
    omega
  rw [own_shr0]
  have e8 : (c >>> ((8 : Int32) &&& 31)).toInt = c.toInt / 256 := c_ishr c 8 8 (by decide)
  have a1 := c_i2b c
  have a2 := c_i2b (c >>> ((8 : Int32) &&& 31))
  have m1 : (own_lo c &&& (255 : Int32)).toInt = (own_lo c).toInt % 256 := c_mask (own_lo c) 255 8 (by decide) (by decide)
  have m2 : (own_lo (c >>> ((8 : Int32) &&& 31)) &&& (255 : Int32)).toInt = (own_lo (c >>> ((8 : Int32) &&& 31))).toInt % 256 := c_mask (own_lo (c >>> ((8 : Int32) &&& 31))) 255 8 (by decide) (by decide)
  change ((own_lo c).toInt - c.toInt) % 256 = 0 ∧ _ at a1
  change ((own_lo (c >>> ((8 : Int32) &&& 31))).toInt - (c >>> ((8 : Int32) &&& 31)).toInt) % 256 = 0 ∧ _ at a2
  generalize own_lo c = u at *
  generalize own_lo (c >>> ((8 : Int32) &&& 31)) = w at *
  have s1 : ((u &&& (255 : Int32)) <<< ((0 : Int32) &&& 31)) = (u &&& (255 : Int32)) := by
    apply own_eqI
    have := c_ishl (u &&& (255 : Int32)) 0 0 (by decide)
    have := rng32 ((u &&& (255 : Int32)) <<< ((0 : Int32) &&& 31))
    omega
  have s2 := c_ishl (w &&& (255 : Int32)) 8 8 (by decide)
  have r2 := rng32 ((w &&& (255 : Int32)) <<< ((8 : Int32) &&& 31))
  rw [s1]
  generalize (w &&& (255 : Int32)) <<< ((8 : Int32) &&& 31) = y at *
  generalize u &&& (255 : Int32) = z at *
  have o := c_or' z y 8 (by decide) 256 rfl (by omega) (by omega) (by omega)
  have i := c_i2c (z ||| y)
  have r3 := rng32 (z ||| y)
  apply own_eqI
  show ((z ||| y).toUInt32.toUInt16.toUInt32.toInt32).toInt = _
  omega
theorem own_lo_inj {c d : Int32} (h0 : ¬ (c < (0 : Int32))) (h1 : ¬ ((255 : Int32) < c)) (g0 : ¬ (d < (0 : Int32))) (g1 : ¬ ((255 : Int32) < d)) (e : own_lo c = own_lo d) : c = d := by
  apply own_eqI
  have a1 := c_i2b c
  have a2 := c_i2b d
  have e' : c.toInt8.toInt32.toInt = d.toInt8.toInt32.toInt := congrArg Int32.toInt e
  rw [Int32.lt_iff_toInt_lt] at h0 h1 g0 g1
  have : (0 : Int32).toInt = 0 := rfl
  have : (255 : Int32).toInt = 255 := rfl
  omega
theorem own_ltbig {n : Nat} (h : n ≤ 8000) : (Int32.ofNat n) < (1073741823 : Int32) := by
  rw [Int32.lt_iff_toInt_lt, own_ti h]
  show (n : Int) < 1073741823
  omega
theorem own_narc {c : Int32} (h0 : ¬ (c < (0 : Int32))) (h1 : ¬ ((65535 : Int32) < c)) : nar .char c = c := by
  apply own_eqI
  have i := c_i2c c
  show (c.toUInt32.toUInt16.toUInt32.toInt32).toInt = _
  rw [Int32.lt_iff_toInt_lt] at h0 h1
  have : (0 : Int32).toInt = 0 := rfl
  have : (65535 : Int32).toInt = 65535 := rfl
  omega
theorem own_first {cs : List Int32} (h : ¬ own_lat cs) : ∃ i, i < cs.length ∧ (255 : Int32) < (cs.getD i 0) ∧ ∀ j, j < i → ¬ ((255 : Int32) < cs.getD j 0) := by
  induction cs with
  | nil => exact absurd (fun c hc => nomatch hc) h
  | cons c r ih =>
    by_cases hc : (255 : Int32) < c
    · exact ⟨0, by simp, hc, fun j hj => absurd hj (Nat.not_lt_zero j)⟩
    · have : ¬ own_lat r := fun hr => h fun d hd => by
        rcases List.mem_cons.mp hd with rfl | hd
        · exact hc
        · exact hr d hd
      obtain ⟨i, h1, h2, h3⟩ := ih this
      refine ⟨i + 1, by simpa using h1, by simpa using h2, fun j hj => ?_⟩
      cases j with
      | zero => simpa using hc
      | succ j => simpa using h3 j (by omega)
theorem own_fixL {Z : State} {hh : Heap} {b : Addr} {kb : ClassId} {cs : List Int32} {n : Nat} {vs : List Value} {d : Value} (h : own_lat cs) (F : Arv Z hh b kb .byte (Int32.ofNat n) (own_mix (own_low cs) vs n) d) (hn : cs.length = n) (hv : vs.length = n) : Arv Z hh b kb .byte (Int32.ofNat (own_enl cs)) (own_enc cs) d := by
  rw [own_mixn _ _ n (by rw [own_lowl]; exact hn) hv] at F
  rw [own_enl, own_enc, if_pos h, if_pos h, hn]; exact F
theorem own_fixW {Z : State} {hh : Heap} {b : Addr} {kb : ClassId} {cs : List Int32} {n : Nat} {d : Value} (h : ¬ own_lat cs) (F : Arv Z hh b kb .byte (Int32.ofNat (2 * n)) (own_wide cs) d) (hn : cs.length = n) : Arv Z hh b kb .byte (Int32.ofNat (own_enl cs)) (own_enc cs) d := by
  rw [own_enl, own_enc, if_neg h, if_neg h, hn]; exact F
theorem own_ne0 {n : Nat} (h : 0 < n) (hb : n ≤ 8000) : ¬ ((Int32.ofNat n) = (0 : Int32)) := fun e => by
  have := own_inj (n := 0) hb (by omega) e
  omega
theorem own_codl {cs : List Int32} {n : Nat} (hn : cs.length = n) (hp : 0 < n) (hb : n ≤ 4000) : nar .byte (own_lo (ushr ((Int32.ofNat n) - (Int32.ofNat (own_enl cs))) (31 : Int32))) = own_cod cs := by
  rw [own_lolo, own_enl, own_cod]
  by_cases h : own_lat cs
  · rw [if_pos h, if_pos h, hn, Int32.sub_self]; rfl
  · rw [if_neg h, if_neg h, hn]
    have e : ushr ((Int32.ofNat n) - (Int32.ofNat (2 * n))) (31 : Int32) = 1 := by
      apply own_eqI
      have a := c_isub (Int32.ofNat n) (Int32.ofNat (2 * n))
      rw [own_ti (by omega), own_ti (by omega : 2 * n ≤ 8000)] at a
      have r := rng32 ((Int32.ofNat n) - (Int32.ofNat (2 * n)))
      have s := c_iushr ((Int32.ofNat n) - (Int32.ofNat (2 * n))) 31 31 (by decide) (by decide)
      show (((Int32.ofNat n) - (Int32.ofNat (2 * n))).toUInt32 >>> ((31 : Int32) &&& 31).toUInt32).toInt32.toInt = 1
      rw [s]
      omega
    rw [e]; rfl
theorem own_c01 (cs : List Int32) : own_cod cs = 0 ∨ own_cod cs = 1 := by
  unfold own_cod; split
  · exact Or.inl rfl
  · exact Or.inr rfl
theorem own_cnar (cs : List Int32) : narrow .byte (.int (own_cod cs)) = .int (own_cod cs) := by rcases own_c01 cs with h | h <;> rw [h] <;> rfl
theorem own_cnarb (cs : List Int32) : nar .byte (own_cod cs) = own_cod cs := by rcases own_c01 cs with h | h <;> rw [h] <;> rfl
theorem own_cfit (cs : List Int32) : fits .byte (.int (own_cod cs)) = true := by rcases own_c01 cs with h | h <;> rw [h] <;> rfl
theorem own_lenq (cs : List Int32) (hb : cs.length ≤ 4000) : (Int32.ofNat (own_enl cs)) >>> ((own_cod cs) &&& 31) = Int32.ofNat cs.length := by
  rw [own_enl, own_cod]
  by_cases h : own_lat cs
  · rw [if_pos h, if_pos h]; exact own_shr0 _
  · rw [if_neg h, if_neg h]; exact own_shr1 hb
/-- one more than the place of the first ch among k chars from j on; 0: none -/
def own_ix (cs : List Int32) (ch : Int32) : Nat → Nat → Nat
  | _, 0 => 0
  | j, k + 1 => if cs.getD j 0 = ch then j + 1 else own_ix cs ch (j + 1) k
theorem own_ixle (cs : List Int32) (ch : Int32) : ∀ (k j : Nat), own_ix cs ch j k ≤ j + k
  | 0, j => by simp [own_ix]
  | k + 1, j => by
    unfold own_ix; split
    · omega
    · have := own_ixle cs ch k (j + 1); omega
theorem own_ix0 (cs : List Int32) (ch : Int32) (h : ∀ c ∈ cs, c ≠ ch) : ∀ (k j : Nat), j + k ≤ cs.length → own_ix cs ch j k = 0
  | 0, j, _ => rfl
  | k + 1, j, hj => by
    unfold own_ix
    rw [if_neg (h _ (own_mem cs j (by omega)))]
    exact own_ix0 cs ch h k (j + 1) (by omega)
theorem own_minT {i j : Nat} (hi : i ≤ 8000) (hj : j ≤ 8000) (h : ¬ ((Int32.ofNat j) < (Int32.ofNat i))) : Int32.ofNat i = Int32.ofNat (min i j) := by
  by_cases q : i ≤ j
  · rw [Nat.min_eq_left q]
  · exact absurd (own_lt (by omega) hi) h
theorem own_minF {i j : Nat} (hi : i ≤ 8000) (hj : j ≤ 8000) (h : (Int32.ofNat j) < (Int32.ofNat i)) : Int32.ofNat j = Int32.ofNat (min i j) := by
  by_cases q : i ≤ j
  · exact absurd h (own_nlt q hj)
  · rw [Nat.min_eq_right (by omega)]
theorem own_maxT {i j : Nat} (hi : i ≤ 8000) (hj : j ≤ 8000) (h : (Int32.ofNat i) < (Int32.ofNat j)) : Int32.ofNat j = Int32.ofNat (max i j) := by
  by_cases q : j ≤ i
  · exact absurd h (own_nlt q hi)
  · rw [Nat.max_eq_right (by omega)]
theorem own_maxF {i j : Nat} (hi : i ≤ 8000) (hj : j ≤ 8000) (h : ¬ ((Int32.ofNat i) < (Int32.ofNat j))) : Int32.ofNat i = Int32.ofNat (max i j) := by
  by_cases q : j ≤ i
  · rw [Nat.max_eq_left q]
  · exact absurd (own_lt (by omega) hj) h
theorem own_found (j : Nat) : Int32.ofNat j = Int32.ofNat (j + 1) - (1 : Int32) := by rw [own_up, Int32.add_sub_cancel]
theorem own_geth (cs : List Int32) (j : Nat) (d : Value) (hl : own_lat cs) (hj : j < cs.length) (hb : cs.length ≤ 8000) : (own_enc cs).getD (Int32.ofNat j).toNatClampNeg d = .int (own_lo (cs.getD j 0)) := by
  rw [own_enc, if_pos hl]; exact own_getl cs j d hj hb
theorem own_nari2c (z : Int32) : nar .char (i2c z) = i2c z := by
  have i := c_i2c z
  have k := c_i2c (z.toUInt32.toUInt16.toUInt32.toInt32)
  apply own_eqI
  show (z.toUInt32.toUInt16.toUInt32.toInt32).toUInt32.toUInt16.toUInt32.toInt32.toInt = z.toUInt32.toUInt16.toUInt32.toInt32.toInt
  omega
theorem own_rng {q z : Int32} (h : q = i2c z) : ¬ (q < (0 : Int32)) ∧ ¬ ((65535 : Int32) < q) := by
  have i := c_i2c z
  have e : q.toInt = z.toUInt32.toUInt16.toUInt32.toInt32.toInt := congrArg Int32.toInt h
  rw [Int32.lt_iff_toInt_lt, Int32.lt_iff_toInt_lt]
  have : (0 : Int32).toInt = 0 := rfl
  have : (65535 : Int32).toInt = 65535 := rfl
  omega
theorem own_chs0 : own_chs [] := fun _ h => nomatch h
theorem own_chsS {c : Int32} {r : List Int32} (h : ¬ (c < (0 : Int32)) ∧ ¬ ((65535 : Int32) < c)) (g : own_chs r) : own_chs (c :: r) := fun d hd => by
  rcases List.mem_cons.mp hd with rfl | hd
  · exact h
  · exact g d hd
theorem own_lat0 : own_lat [] := fun _ h => nomatch h
theorem own_latS {c : Int32} {r : List Int32} (h : ¬ ((255 : Int32) < c)) (g : own_lat r) : own_lat (c :: r) := fun d hd => by
  rcases List.mem_cons.mp hd with rfl | hd
  · exact h
  · exact g d hd
theorem own_int (z : Int32) (n : Nat) (h : z.toInt = n) : z = Int32.ofNat n := by
  apply Int32.toInt_inj.mp
  rw [h]
  have := z.toInt_lt
  have := z.le_toInt
  rw [Int32.toInt_ofNat_of_lt]
  omega
theorem own_and3 (z : Int32) : ∃ n : Nat, (z &&& (3 : Int32)) = Int32.ofNat n ∧ n < 4 := by
  have h := c_mask z 3 2 (by decide) (by decide)
  refine ⟨(z.toInt % 4).toNat, own_int _ _ ?_, by omega⟩
  rw [h]; omega
theorem own_modn (z : Int32) (d : Int32) (k : Nat) (hd : d.toInt = k) (hk : 0 < k) (hk2 : k ≤ 100) : ∃ n : Nat, ((z &&& (2147483647 : Int32)) % d) = Int32.ofNat n ∧ n < k := by
  have h := c_mask z 2147483647 31 (by decide) (by decide)
  have h2 := (c_irem (z &&& (2147483647 : Int32)) d k hd).1 (by rw [h]; omega)
  have h3 : 0 ≤ (z &&& (2147483647 : Int32)).toInt := by rw [h]; omega
  have h4 := Int.emod_nonneg (z &&& (2147483647 : Int32)).toInt (show (k : Int) ≠ 0 by omega)
  have h5 := Int.emod_lt_of_pos (z &&& (2147483647 : Int32)).toInt (show (0 : Int) < k by omega)
  refine ⟨((z &&& (2147483647 : Int32)).toInt % k).toNat, own_int _ _ ?_, by omega⟩
  rw [h2]; omega
theorem own_lt16 {c : Int32} (h : ¬ ((65535 : Int32) < c)) : c < (65536 : Int32) := by
  rw [Int32.lt_iff_toInt_lt] at *
  have : (65535 : Int32).toInt = 65535 := rfl
  have : (65536 : Int32).toInt = 65536 := rfl
  omega
theorem own_sub0 {i n : Nat} (h : ¬ ((Int32.ofNat i) < (Int32.ofNat n))) (hn : n ≤ 8000) : n - i = 0 := by
  by_cases q : i < n
  · exact absurd (own_lt q hn) h
  · omega
theorem own_cod0 {cs : List Int32} (h : own_lat cs) : own_cod cs = (0 : Int32) := if_pos h
theorem own_cod1 {cs : List Int32} (h : ¬ own_lat cs) : ¬ (own_cod cs = (0 : Int32)) := by rw [own_cod, if_neg h]; decide
/-- a String's bytes as ints -/
def own_wb : List Int32 → List Int32
  | [] => []
  | c :: r => own_lo (c >>> ((0 : Int32) &&& 31)) :: own_lo (c >>> ((8 : Int32) &&& 31)) :: own_wb r
def own_eb (cs : List Int32) : List Int32 := if own_lat cs then cs.map own_lo else own_wb cs
theorem own_wideb : ∀ cs : List Int32, own_wide cs = (own_wb cs).map Value.int
  | [] => rfl
  | c :: r => by simp only [own_wide, own_wb, List.map_cons, own_wideb r]
theorem own_encb (cs : List Int32) : own_enc cs = (own_eb cs).map Value.int := by
  rw [own_enc, own_eb]; split
  · simp [own_low]
  · exact own_wideb cs
theorem own_wbl : ∀ cs : List Int32, (own_wb cs).length = 2 * cs.length
  | [] => rfl
  | c :: r => by simp only [own_wb, List.length_cons, own_wbl r]; omega
theorem own_ebl (cs : List Int32) : (own_eb cs).length = own_enl cs := by
  rw [own_eb, own_enl]; split
  · simp
  · exact own_wbl cs
theorem own_mapinj : ∀ (cs ds : List Int32), own_chs cs → own_chs ds → own_lat cs → own_lat ds → cs.map own_lo = ds.map own_lo → cs = ds
  | [], [], _, _, _, _, _ => rfl
  | [], _ :: _, _, _, _, _, h => nomatch h
  | _ :: _, [], _, _, _, _, h => nomatch h
  | c :: r, d :: q, hc, hd, lc, ld, h => by
    simp only [List.map_cons, List.cons.injEq] at h
    have e : c = d := own_lo_inj (hc c (by simp)).1 (lc c (by simp)) (hd d (by simp)).1 (ld d (by simp)) h.1
    rw [e, own_mapinj r q (fun x hx => hc x (by simp [hx])) (fun x hx => hd x (by simp [hx])) (fun x hx => lc x (by simp [hx])) (fun x hx => ld x (by simp [hx])) h.2]
theorem own_wbinj : ∀ (cs ds : List Int32), own_chs cs → own_chs ds → own_wb cs = own_wb ds → cs = ds
  | [], [], _, _, _ => rfl
  | [], _ :: _, _, _, h => nomatch h
  | _ :: _, [], _, _, h => nomatch h
  | c :: r, d :: q, hc, hd, h => by
    simp only [own_wb, List.cons.injEq] at h
    have e : c = d := by
      rw [← own_pair (hc c (by simp)).1 (hc c (by simp)).2, ← own_pair (hd d (by simp)).1 (hd d (by simp)).2, h.1, h.2.1]
    rw [e, own_wbinj r q (fun x hx => hc x (by simp [hx])) (fun x hx => hd x (by simp [hx])) h.2.2]
theorem own_encinj {cs ds : List Int32} (hc : own_chs cs) (hd : own_chs ds) (h : own_cod cs = own_cod ds) (e : own_eb cs = own_eb ds) : cs = ds := by
  by_cases l1 : own_lat cs <;> by_cases l2 : own_lat ds
  · rw [own_eb, own_eb, if_pos l1, if_pos l2] at e; exact own_mapinj _ _ hc hd l1 l2 e
  · rw [own_cod, own_cod, if_pos l1, if_neg l2] at h; exact absurd h (by decide)
  · rw [own_cod, own_cod, if_neg l1, if_pos l2] at h; exact absurd h (by decide)
  · rw [own_eb, own_eb, if_neg l1, if_neg l2] at e; exact own_wbinj _ _ hc hd e
theorem own_ext {xs ys : List Int32} (hl : xs.length = ys.length) (h : ∀ i, i < xs.length → xs.getD i 0 = ys.getD i 0) : xs = ys := by
  apply List.ext_getElem hl
  intro i h1 h2
  have := h i h1
  simpa [List.getD_eq_getElem?_getD, List.getElem?_eq_getElem h1, List.getElem?_eq_getElem h2] using this
theorem own_enll (cs : List Int32) : own_enl cs ≤ 2 * cs.length := by rw [own_enl]; split <;> omega
def own_mk : Nat → Int32 → Int32 → Int32 → List Int32
  | 0, _, _, _ => []
  | 1, x, _, _ => [x]
  | 2, x, y, _ => [x, y]
  | _ + 3, x, y, z => [x, y, z]
theorem own_mkl (n : Nat) (x y z : Int32) : (own_mk n x y z).length ≤ 3 := by
  unfold own_mk; split <;> simp
theorem own_mkchs {n : Nat} {x y z : Int32} (h : n < 4) (hx : ¬ (x < (0 : Int32)) ∧ ¬ ((65535 : Int32) < x)) (hy : ¬ (y < (0 : Int32)) ∧ ¬ ((65535 : Int32) < y)) (hz : ¬ (z < (0 : Int32)) ∧ ¬ ((65535 : Int32) < z)) : own_chs (own_mk n x y z) := by
  unfold own_mk; split
  · exact own_chs0
  · exact own_chsS hx own_chs0
  · exact own_chsS hx (own_chsS hy own_chs0)
  · exact own_chsS hx (own_chsS hy (own_chsS hz own_chs0))
theorem own_le64k {c : Int32} (h : ¬ ((255 : Int32) < c)) : ¬ ((65535 : Int32) < c) := by
  rw [Int32.lt_iff_toInt_lt] at *
  have : (65535 : Int32).toInt = 65535 := rfl
  have : (255 : Int32).toInt = 255 := rfl
  omega
theorem own_small {z : Int32} (h : 0 ≤ z.toInt ∧ z.toInt ≤ 255) : ¬ (i2c z < (0 : Int32)) ∧ ¬ ((255 : Int32) < i2c z) := by
  have i := c_i2c z
  rw [Int32.lt_iff_toInt_lt, Int32.lt_iff_toInt_lt]
  have : (0 : Int32).toInt = 0 := rfl
  have : (255 : Int32).toInt = 255 := rfl
  show ¬ ((z.toUInt32.toUInt16.toUInt32.toInt32).toInt < (0 : Int32).toInt) ∧ ¬ ((255 : Int32).toInt < (z.toUInt32.toUInt16.toUInt32.toInt32).toInt)
  omega
theorem own_m255 (z : Int32) : 0 ≤ (z &&& (255 : Int32)).toInt ∧ (z &&& (255 : Int32)).toInt ≤ 255 := by
  have := c_mask z 255 8 (by decide) (by decide)
  omega
theorem own_b255 (z : Int32) : ¬ (i2c (z &&& (255 : Int32)) < (0 : Int32)) ∧ ¬ ((255 : Int32) < i2c (z &&& (255 : Int32))) := own_small (own_m255 z)
theorem own_k255 (z : Int32) : ¬ ((z &&& (255 : Int32)) < (0 : Int32)) ∧ ¬ ((255 : Int32) < (z &&& (255 : Int32))) := by
  have := own_m255 z
  rw [Int32.lt_iff_toInt_lt, Int32.lt_iff_toInt_lt]
  have : (0 : Int32).toInt = 0 := rfl
  have : (255 : Int32).toInt = 255 := rfl
  omega
theorem own_xb (z w : Int32) (h : 0 ≤ z.toInt ∧ z.toInt ≤ 255) (g : 0 ≤ w.toInt ∧ w.toInt ≤ 255) : 0 ≤ (z ^^^ w).toInt ∧ (z ^^^ w).toInt ≤ 255 := by
  have t (v : Int32) (h : 0 ≤ v.toInt ∧ v.toInt ≤ 255) : v.toBitVec.toNat < 256 := by
    have := v.toBitVec.isLt
    have e : v.toInt = v.toBitVec.toInt := rfl
    rw [BitVec.toInt_eq_toNat_cond] at e
    split at e <;> omega
  have h1 := t z h
  have h2 := t w g
  have h3 : (z ^^^ w).toBitVec.toNat < 256 := by
    rw [Int32.toBitVec_xor, BitVec.toNat_xor]
    exact Nat.xor_lt_two_pow (n := 8) h1 h2
  have e : (z ^^^ w).toInt = (z ^^^ w).toBitVec.toInt := rfl
  rw [BitVec.toInt_eq_toNat_cond] at e
  split at e <;> omega
theorem own_x255 {z w : Int32} (h : ¬ (z < (0 : Int32)) ∧ ¬ ((255 : Int32) < z)) (g : ¬ (w < (0 : Int32)) ∧ ¬ ((255 : Int32) < w)) : ¬ (i2c (z ^^^ w) < (0 : Int32)) ∧ ¬ ((255 : Int32) < i2c (z ^^^ w)) := by
  rw [Int32.lt_iff_toInt_lt, Int32.lt_iff_toInt_lt] at h g
  have : (0 : Int32).toInt = 0 := rfl
  have : (255 : Int32).toInt = 255 := rfl
  exact own_small (own_xb z w (by omega) (by omega))
abbrev ELs : List (String × Nat) := consts_1
theorem own_EW {Z : State} {a0 : Array Value} (hw : ∀ d ∈ tables_1, d.before a0 Z = true) : EW Z a0 ELs := (EW.cons (hw _ (List.mem_of_getElem? (i := 72) rfl)) (by decide) (EW.cons (hw _ (List.mem_of_getElem? (i := 31) rfl)) (by decide) (EW.cons (hw _ (List.mem_of_getElem? (i := 73) rfl)) (by decide) EW.nil)))
theorem own_wS {Z : State} {a0 : Array Value} (hw : ∀ d ∈ tables_1, d.before a0 Z = true) : ∀ a ∈ Bundle.stringAtoms, a.before a0 Z = true := by
  intro a ha
  simp only [Bundle.stringAtoms, List.mem_cons, List.not_mem_nil, or_false] at ha
  rcases ha with rfl | rfl | rfl | rfl | rfl | rfl | rfl
  · exact (hw _ (List.mem_of_getElem? (i := 4) rfl))
  · exact (hw _ (List.mem_of_getElem? (i := 3) rfl))
  · exact (hw _ (List.mem_of_getElem? (i := 20) rfl))
  · exact (hw _ (List.mem_of_getElem? (i := 30) rfl))
  · exact (hw _ (List.mem_of_getElem? (i := 28) rfl))
  · exact (hw _ (List.mem_of_getElem? (i := 32) rfl))
  · exact (hw _ (List.mem_of_getElem? (i := 33) rfl))
theorem own_NSroot {Z : State} {a0 : Array Value} {O K : String} {n : Nat} (w : (Jvm.Cond.noSuperclass O).before a0 Z = true) (wk : (Jvm.Cond.instantiable K n).before a0 Z = true) (hn : O ≠ K) : NS Z O K := by
  obtain ⟨c, k, h1, h2, h3, -, -⟩ := Cond.noSuperclass_spec w
  obtain ⟨t, kt, g1, -⟩ := Cond.instantiable_spec wk
  have ne := ids_ne h1 g1 hn
  refine ⟨c, t, h1, g1, fun fuel => ?_⟩
  cases fuel with
  | zero => rfl
  | succ f => simp [Vm.isSubclassAux, ne, h2, h3]
theorem own_NSno {Z : State} {a0 : Array Value} {C S K : String} {m : Nat} (w : (Jvm.Cond.superclass C S).before a0 Z = true) (wk : (Jvm.Cond.instantiable K m).before a0 Z = true) (n : NS Z C K) (hn : C ≠ K) : ∃ c t, Z.vm.findClass C = some c ∧ Z.vm.findClass K = some t ∧ Z.vm.assignable c t = false := by
  obtain ⟨c, t, h0, g0, n3⟩ := n
  obtain ⟨p, k, kp, h1, h2, h3, h4, h5, -, h7⟩ := Cond.superclass_spec h0 w
  obtain ⟨t', k', q1, q2, q3, q4, -⟩ := Cond.instantiable_spec wk
  cases g0.symm.trans q1
  have q5 : k'.isInterface = false := (Bool.or_eq_false_iff.mp q4).1
  have ne := ids_ne h0 g0 hn
  refine ⟨c, t, h0, g0, ?_⟩
  show Z.vm.assignableAux (255 + 1) c t = false
  simp [Vm.assignableAux, ne, h2, q2, h5, q3, q5, Vm.isSubclass, n3]
/-- a String whose value is still null is no constant's -/
theorem own_safeN {Z : State} {EL : List (String × Nat)} {vm : Vm} {h : Heap} {a : Addr} (hal : Z.vm.Alike vm) (E : Exa Z h a "java/lang/String") (F : Fld Z h a "java/lang/String" "value" "[B" .null) : Safe Z EL vm h a := fun B => by
  obtain ⟨p, -, u, a', -, q, -, S, rfl | rfl⟩ := B
  · obtain ⟨cS, ⟨⟨s1, -, -, ⟨c1, k1, i1, f1, -⟩, -, -, -, v1, -⟩, -⟩, -⟩ := S
    obtain ⟨cell, cf, k', i', f, e1, e2, -, -, -, -, e7⟩ := F
    cases (show h[q.sa]? = some q.sC from s1).symm.trans e1
    obtain ⟨k3, e3, -⟩ := State.fieldFound?_setVm (s := Z) hal e2
    have e4 := (show (Wst Z vm h).fieldFound? _ _ _ = _ from e3).symm.trans f1
    simp only [Option.some.injEq, Prod.mk.injEq] at e4
    rw [← e4.2.2.2, e7] at v1
    cases v1
  · obtain ⟨cell, k, e1, e2, e3, -, -⟩ := E
    cases (show h[q.sd]? = some q.SA from S.hd).symm.trans e1
    obtain ⟨cS, -, -, f, -⟩ := S
    have f' : vm.findClass "[B" = some q.SA.cls := f
    rw [hal.findClass] at f'
    obtain ⟨k1, q1, q2⟩ := Vm.findClass_spec f'
    obtain ⟨k2, q3, q4⟩ := Vm.findClass_spec e2
    cases q1.symm.trans q3
    exact absurd (q2.symm.trans q4) (by decide)
theorem own_fix0 {Z : State} {hh : Heap} {b : Addr} {kb : ClassId} {cs : List Int32} {d : Value} (h : cs = []) (F : Arv Z hh b kb .byte (0 : Int32) [] d) : Arv Z hh b kb .byte (Int32.ofNat (own_enl cs)) (own_enc cs) d := by
  subst h
  rw [own_enl, own_enc, if_pos own_lat0, if_pos own_lat0]; exact F
theorem own_pos {n : Nat} (h : ¬ ((Int32.ofNat n) = (0 : Int32))) : 0 < n := by
  cases n with
  | zero => exact absurd rfl h
  | succ n => omega
theorem own_sl6 (z : Int32) : ∃ n : Nat, ((6 : Int32) + (z &&& (3 : Int32))) = Int32.ofNat n ∧ 6 ≤ n ∧ n ≤ 9 := by
  obtain ⟨k, hk, hl⟩ := own_and3 z
  exact ⟨6 + k, by rw [hk]; exact (Int32.ofNat_add 6 k).symm, by omega, by omega⟩
theorem own_latset {cs : List Int32} {j : Nat} {v : Int32} (h : own_lat cs) (hv : ¬ ((255 : Int32) < v)) : own_lat (cs.set j v) := fun c hc => by
  rcases List.mem_or_eq_of_mem_set hc with q | q
  · exact h c q
  · rw [q]; exact hv
theorem own_lt13 {n : Nat} (hn : n ≤ 8000) (h : (Int32.ofNat n) < (13 : Int32)) : n < 13 := by
  by_cases q : n < 13
  · exact q
  · exact absurd h (own_nlt (n := 13) (by omega) hn)
theorem own_is3 {n : Nat} (h : n < 4) (h0 : ¬ ((Int32.ofNat n) = (0 : Int32))) (h1 : ¬ ((Int32.ofNat n) = (1 : Int32))) (h2 : ¬ ((Int32.ofNat n) = (2 : Int32))) : n = 3 := by
  rcases (by omega : n = 0 ∨ n = 1 ∨ n = 2 ∨ n = 3) with rfl | rfl | rfl | rfl
  · exact absurd rfl h0
  · exact absurd rfl h1
  · exact absurd rfl h2
  · rfl
theorem own_pix (ms mp k : Nat) (h : mp = k) : (Int32.ofNat (ms + 1 + mp)) - (Int32.ofNat k) = (Int32.ofNat ms) + (1 : Int32) := by
  subst h
  rw [Int32.ofNat_add (ms + 1) mp, Int32.add_sub_cancel, own_up]
theorem own_d255 (z : Int64) : ¬ (i2c ((z &&& (255 : Int64)).toInt32) < (0 : Int32)) ∧ ¬ ((255 : Int32) < i2c ((z &&& (255 : Int64)).toInt32)) := by
  have m := c_maskL z 255 8 (by decide) (by decide)
  have l := c_l2i (z &&& (255 : Int64))
  have i := c_i2c ((z &&& (255 : Int64)).toInt32)
  have r := rng32 ((z &&& (255 : Int64)).toInt32)
  rw [Int32.lt_iff_toInt_lt, Int32.lt_iff_toInt_lt]
  have : (0 : Int32).toInt = 0 := rfl
  have : (255 : Int32).toInt = 255 := rfl
  show ¬ ((((z &&& (255 : Int64)).toInt32).toUInt32.toUInt16.toUInt32.toInt32).toInt < (0 : Int32).toInt) ∧ ¬ ((255 : Int32).toInt < (((z &&& (255 : Int64)).toInt32).toUInt32.toUInt16.toUInt32.toInt32).toInt)
  omega
theorem pn_java_lang_StringUTF16 : plainName "java/lang/StringUTF16" = true := by first | (simp [plainName, overriddenIn]; done) | decide +kernel
theorem d_jdk_52_method_21_0 : decode jdk_52_method_21_code 0 = .ok (.iconst 0, 1) := by decide +kernel
theorem d_jdk_52_method_21_1 : decode jdk_52_method_21_code 1 = .ok (.istore 5, 2) := by decide +kernel
theorem d_jdk_52_method_21_3 : decode jdk_52_method_21_code 3 = .ok (.iload 5, 2) := by decide +kernel
theorem d_jdk_52_method_21_5 : decode jdk_52_method_21_code 5 = .ok (.iload 4, 2) := by decide +kernel
theorem d_jdk_52_method_21_7 : decode jdk_52_method_21_code 7 = .ok (.if_icmp .ge 37, 3) := by decide +kernel
theorem d_jdk_52_method_21_10 : decode jdk_52_method_21_code 10 = .ok (.aload_n 0, 1) := by decide +kernel
theorem d_jdk_52_method_21_11 : decode jdk_52_method_21_code 11 = .ok (.iload_n 1, 1) := by decide +kernel
theorem d_jdk_52_method_21_12 : decode jdk_52_method_21_code 12 = .ok (.caload, 1) := by decide +kernel
theorem os_rmCmpL_13 {z0 : Value} {z1 : Value} {z2 : Value} {z3 : Value} {z4 : Value} {z5 : Value} {s6 : Slot} {v : Int32} (h : One s6) : storeLocals #[.val z0, .val z1, .val z2, .val z3, .val z4, .val z5, s6] 6 (.int v) = some #[.val z0, .val z1, .val z2, .val z3, .val z4, .val z5, .val (.int v)] := by
  rcases h with rfl | ⟨w, rfl, hw⟩
  · rfl
  · cases w <;> first | rfl | (simp [Value.category] at hw)
theorem d_jdk_52_method_21_13 : decode jdk_52_method_21_code 13 = .ok (.istore 6, 2) := by decide +kernel
theorem d_jdk_52_method_21_15 : decode jdk_52_method_21_code 15 = .ok (.iload 6, 2) := by decide +kernel
theorem d_jdk_52_method_21_17 : decode jdk_52_method_21_code 17 = .ok (.sipush 255, 3) := by decide +kernel
theorem d_jdk_52_method_21_20 : decode jdk_52_method_21_code 20 = .ok (.if_icmp .le 6, 3) := by decide +kernel
theorem d_jdk_52_method_21_26 : decode jdk_52_method_21_code 26 = .ok (.aload_n 2, 1) := by decide +kernel
theorem d_jdk_52_method_21_27 : decode jdk_52_method_21_code 27 = .ok (.iload_n 3, 1) := by decide +kernel
theorem d_jdk_52_method_21_28 : decode jdk_52_method_21_code 28 = .ok (.iload 6, 2) := by decide +kernel
theorem d_jdk_52_method_21_30 : decode jdk_52_method_21_code 30 = .ok (.i2b, 1) := by decide +kernel
theorem d_jdk_52_method_21_31 : decode jdk_52_method_21_code 31 = .ok (.bastore, 1) := by decide +kernel
theorem d_jdk_52_method_21_32 : decode jdk_52_method_21_code 32 = .ok (.iinc 1 1, 3) := by decide +kernel
theorem d_jdk_52_method_21_35 : decode jdk_52_method_21_code 35 = .ok (.iinc 3 1, 3) := by decide +kernel
theorem d_jdk_52_method_21_38 : decode jdk_52_method_21_code 38 = .ok (.iinc 5 1, 3) := by decide +kernel
theorem d_jdk_52_method_21_41 : decode jdk_52_method_21_code 41 = .ok (.goto (-38), 3) := by decide +kernel
theorem d_jdk_52_method_21_44 : decode jdk_52_method_21_code 44 = .ok (.iload 4, 2) := by decide +kernel
theorem d_jdk_52_method_21_46 : decode jdk_52_method_21_code 46 = .ok (.ireturn, 1) := by decide +kernel
theorem ef_rmCmpL (m : MethodId) (x0 : Addr) (x1 : Int32) (x2 : Addr) (x3 : Int32) (x4 : Int32) : entryFrame m #[(.ref x0), (.int x1), (.ref x2), (.int x3), (.int x4)] 7 = mkF m 0 #[.val (.ref x0), .val (.int x1), .val (.ref x2), .val (.int x3), .val (.int x4), .unset, .unset] [] := by first | (simp [entryFrame, mkF, argsToLocals, Value.category]; done) | rfl
def Q_rmCmpL (Z : State) (ca : Addr) (ba : Addr) (cs : List Int32) (kc : ClassId) (n : Nat) (kb : ClassId) (vs : List Value) (h0 : Heap) (n0 : Nat) (v : Option Value) (h : Heap) (L : List Loc) : Prop := (v = some (.int (Int32.ofNat n))) ∧ (Fr n0 L) ∧ (Keep h0 h [ba]) ∧ (Arv Z h ba kb .byte (Int32.ofNat n) (own_mix (own_low cs) vs n) (.int (0 : Int32)))
set_option maxRecDepth 65536 in
set_option maxHeartbeats 40000000 in
theorem rmCmpL (l : Launch) (Z : State) (a0 : Array Value) (hw : ∀ d ∈ tables_1, d.before a0 Z = true) (ws : List Jvm.Cond) (ca : Addr) (ba : Addr) (cs : List Int32) (kc : ClassId) (n : Nat) (kb : ClassId) (vs : List Value) (h0 : Heap) (n0 : Nat) (Z0 : n0 ≤ h0.size) (I1 : Arv Z h0 ca kc .char (Int32.ofNat n) (cs.map Value.int) (.int (0 : Int32))) (I2 : Arv Z h0 ba kb .byte (Int32.ofNat n) vs (.int (0 : Int32))) (hn : cs.length = n) (hb : n ≤ 13) (hvs : vs.length = n) (gb : n0 ≤ ba) (hne : @Ne Nat ca ba) (hlat : own_lat cs) :
    MetFree l (⟨"java/lang/StringUTF16", "compress", "([CI[BII)I"⟩ : MethodName) (head1 (Jvm.Cond.code (⟨"java/lang/StringUTF16", "compress", "([CI[BII)I"⟩ : MethodName) jdk_52_method_21_code 7 (some .int) :: ws) ({ frames := 0, cells := 0, slots := 0, locals := 0 } : Room)) (fun ar_ U => ar_ = #[(.ref ca), (.int (0 : Int32)), (.ref ba), (.int (0 : Int32)), (.int (Int32.ofNat n))] ∧ Z.Warmed39 U.vm ∧ U.heap = h0) (fun _ _ _ _ _ => True) (fun _ U o U' => ∃ v L, o = .returned v ∧ Q_rmCmpL Z ca ba cs kc n kb vs h0 n0 v U'.heap L ∧ FrameEnd U o U' L ({ frames := 0, cells := 0, slots := 0, locals := 0 } : Room).cells ({ frames := 0, cells := 0, slots := 0, locals := 0 } : Room).slots) := by
  refine MetFree.of_bodySF (plainFor_of_name pn_java_lang_StringUTF16) hisR ?_
  intro p e s m args below meth c s₁ Bd hml0 hP hK
  obtain ⟨rfl, hZ, hh⟩ := hP
  have hx := Bd.exec
  have hby := Bd.bytes
  have hml : c.maxLocals = 7 := hml0
  have hown : s.vm.findClass "java/lang/StringUTF16" = some m.cls := findClass_of_methodNamed Bd.named
  have hnm := (name_of_methodNamed Bd.named Bd.method).1
  have X0 : Stand p l e ({ frames := 0, cells := 0, slots := 0, locals := 0 } : Room) s m #[(.ref ca), (.int (0 : Int32)), (.ref ba), (.int (0 : Int32)), (.int (Int32.ofNat n))] below meth c s₁ [] 0 0 := Stand.of_body Bd
  have e0 : s₁.heap = h0 := by rw [← hh, Bd.state]; rfl
  have N0 := Fr.nil n0
  have pre0 : ∀ t_, Steps p.tables e below (s₁.setTop (mkF m 0 #[.val (.ref ca), .val (.int (0 : Int32)), .val (.ref ba), .val (.int (0 : Int32)), .val (.int (Int32.ofNat n)), .unset, .unset] [])) t_ → Steps p.tables e below (s₁.setTop (entryFrame m #[(.ref ca), (.int (0 : Int32)), (.ref ba), (.int (0 : Int32)), (.int (Int32.ofNat n))] 7)) t_ := fun t_ k_ => castTop (ef_rmCmpL m ca (0 : Int32) ba (0 : Int32) (Int32.ofNat n)) k_
  have lt_I1 : @LT.lt Nat _ ca h0.size := I1.lt
  have lt_I2 : @LT.lt Nat _ ba h0.size := I2.lt
  have s1 : ∀ t_, Steps p.tables e below (s₁.setTop (mkF m 3 #[.val (.ref ca), .val (.int (0 : Int32)), .val (.ref ba), .val (.int (0 : Int32)), .val (.int (Int32.ofNat n)), .val (.int (0 : Int32)), .unset] [])) t_ → Steps p.tables e below (s₁.setTop (entryFrame m #[(.ref ca), (.int (0 : Int32)), (.ref ba), (.int (0 : Int32)), (.int (Int32.ofNat n))] 7)) t_ := fun t_ k_ => pre0 t_ (by
    show Steps p.tables e below (s₁.setTop (mkF m 0 #[.val (.ref ca), .val (.int (0 : Int32)), .val (.ref ba), .val (.int (0 : Int32)), .val (.int (Int32.ofNat n)), .unset, .unset] [])) t_
    refine XS.iconst X0.here hx rfl (Jvm.hb hby d_jdk_52_method_21_0) ?_
    refine XS.istore X0.here hx rfl (Jvm.hb hby d_jdk_52_method_21_1) rfl (l' := #[.val (.ref ca), .val (.int (0 : Int32)), .val (.ref ba), .val (.int (0 : Int32)), .val (.int (Int32.ofNat n)), .val (.int (0 : Int32)), .unset]) rfl ?_
    show Steps p.tables e below (s₁.setTop (mkF m 3 #[.val (.ref ca), .val (.int (0 : Int32)), .val (.ref ba), .val (.int (0 : Int32)), .val (.int (Int32.ofNat n)), .val (.int (0 : Int32)), .unset] [])) t_
    exact k_)
  have lp2 : ∀ (k_ : Nat) (j : Nat) (s6 : Slot) (T_ : State) (lo_ : List Loc) (hh2 : Heap), j + k_ = n → Stand p l e ({ frames := 0, cells := 0, slots := 0, locals := 0 } : Room) s m #[(.ref ca), (.int (0 : Int32)), (.ref ba), (.int (0 : Int32)), (.int (Int32.ofNat n))] below meth c T_ lo_ 0 0 → T_.heap = hh2 → Fr n0 lo_ → Keep h0 hh2 [ba] → Arv Z hh2 ba kb .byte (Int32.ofNat n) (own_mix (own_low cs) vs j) (.int (0 : Int32)) → (One s6) → ∃ (T' : State) (lo' : List Loc) (hx_ : Heap) (fe_ : JFrame), Stand p l e ({ frames := 0, cells := 0, slots := 0, locals := 0 } : Room) s m #[(.ref ca), (.int (0 : Int32)), (.ref ba), (.int (0 : Int32)), (.int (Int32.ofNat n))] below meth c T' lo' 0 0 ∧ T'.heap = hx_ ∧ Fr n0 lo' ∧ Keep h0 hx_ [ba] ∧ ((∃ (s6 : Slot), fe_ = (mkF m 44 #[.val (.ref ca), .val (.int (Int32.ofNat n)), .val (.ref ba), .val (.int (Int32.ofNat n)), .val (.int (Int32.ofNat n)), .val (.int (Int32.ofNat n)), s6] []) ∧ Arv Z hx_ ba kb .byte (Int32.ofNat n) (own_mix (own_low cs) vs n) (.int (0 : Int32)))) ∧ ∀ t_, Steps p.tables e below (T'.setTop fe_) t_ → Steps p.tables e below (T_.setTop (mkF m 3 #[.val (.ref ca), .val (.int (Int32.ofNat j)), .val (.ref ba), .val (.int (Int32.ofNat j)), .val (.int (Int32.ofNat n)), .val (.int (Int32.ofNat j)), s6] [])) t_ := by
    intro k_
    induction k_ with
    | zero => 
      intro j s6 T_ lo_ hh2 hm_ X_ e_ N_ K_ F_0 hs6
      have zk_ : h0.size ≤ hh2.size := K_.1
      have s3 : ∀ t_, Steps p.tables e below (T_.setTop (mkF m 44 #[.val (.ref ca), .val (.int (Int32.ofNat j)), .val (.ref ba), .val (.int (Int32.ofNat j)), .val (.int (Int32.ofNat n)), .val (.int (Int32.ofNat j)), s6] [])) t_ → Steps p.tables e below (T_.setTop (mkF m 3 #[.val (.ref ca), .val (.int (Int32.ofNat j)), .val (.ref ba), .val (.int (Int32.ofNat j)), .val (.int (Int32.ofNat n)), .val (.int (Int32.ofNat j)), s6] [])) t_ := fun t_ k_ => (fun _ k_ => k_) t_ (by
        show Steps p.tables e below (T_.setTop (mkF m 3 #[.val (.ref ca), .val (.int (Int32.ofNat j)), .val (.ref ba), .val (.int (Int32.ofNat j)), .val (.int (Int32.ofNat n)), .val (.int (Int32.ofNat j)), s6] [])) t_
        refine XS.iload X_.here hx rfl (Jvm.hb hby d_jdk_52_method_21_3) rfl ?_
        refine XS.iload X_.here hx rfl (Jvm.hb hby d_jdk_52_method_21_5) rfl ?_
        refine XS.icmpYes X_.here hx rfl (pc0 := 7) (pc' := 44) rfl (Jvm.hb hby d_jdk_52_method_21_7) rfl (flt (own_nlt (by omega) (by omega))).2.1 (by decide) (by decide) ?_
        show Steps p.tables e below (T_.setTop (mkF m 44 #[.val (.ref ca), .val (.int (Int32.ofNat j)), .val (.ref ba), .val (.int (Int32.ofNat j)), .val (.int (Int32.ofNat n)), .val (.int (Int32.ofNat j)), s6] [])) _
        show Steps p.tables e below (T_.setTop (mkF m 44 #[.val (.ref ca), .val (.int (Int32.ofNat j)), .val (.ref ba), .val (.int (Int32.ofNat j)), .val (.int (Int32.ofNat n)), .val (.int (Int32.ofNat j)), s6] [])) t_
        exact k_)
      exact ⟨T_, _, _, _, X_, e_, N_, ((Keep.refl h0 [ba]).trans K_ (allS (Or.inl (by simp)) all0)), ⟨s6, (by rw [show j = n by omega]), (by obtain rfl : j = n := (by omega); exact F_0)⟩, s3⟩
    | succ k_ ih => 
      intro j s6 T_ lo_ hh2 hm_ X_ e_ N_ K_ F_0 hs6
      have zk_ : h0.size ≤ hh2.size := K_.1
      have f4 : Arv Z hh2 ca kc .char (Int32.ofNat n) (cs.map Value.int) (.int (0 : Int32)) := (I1.keep K_ (ninS (show @Ne Nat ca ba by omega) nin0))
      obtain ⟨cl5, Ar5, -, S5, M5, H5, -⟩ := id f4
      have hin5 : ¬ ((Int32.ofNat j) < 0 ∨ cl5.slots.size ≤ ((Int32.ofNat j)).toNatClampNeg) := inb_of S5 (own_in (by omega) (by omega))
      have hat5 : cl5.slots[((Int32.ofNat j)).toNatClampNeg]? = some (.int (cs.getD j 0)) := H5.at hin5 (own_getc cs j _ (by omega) (by omega))
      obtain ⟨cl6, Ar6, q6, S6, M6, H6, G6⟩ := id F_0
      have hin6 : ¬ ((Int32.ofNat j) < 0 ∨ cl6.slots.size ≤ ((Int32.ofNat j)).toNatClampNeg) := inb_of S6 (own_in (by omega) (by omega))
      obtain ⟨T7, h7, X7, e7, W7, st7⟩ := stB X_ hx hZ e_ Ar6 (j := (Int32.ofNat j)) hin6 (g := (mkF m 31 #[.val (.ref ca), .val (.int (Int32.ofNat j)), .val (.ref ba), .val (.int (Int32.ofNat j)), .val (.int (Int32.ofNat n)), .val (.int (Int32.ofNat j)), .val (.int (cs.getD j 0))] [(.int (own_lo (cs.getD j 0))), (.int (Int32.ofNat j)), (.ref ba)])) rfl rfl (Jvm.hb hby d_jdk_52_method_21_31)
      have z8 : hh2.size ≤ h7.size := Nat.le_of_eq W7.size.symm
      have V7 : Arv Z h7 ba kb .byte (Int32.ofNat n) (own_mix (own_low cs) vs (j + 1)) (.int (0 : Int32)) := by
        have q : Arv Z h7 ba kb .byte (Int32.ofNat n) ((own_mix (own_low cs) vs j).set j (.int (nar .byte (own_lo (cs.getD j 0))))) (.int (0 : Int32)) := Arv.set Ar6 q6 S6 M6 H6 G6 (fits_nar_byte _) W7 j (own_tn (by omega)) (by rw [own_mixl _ _ _ (by rw [own_lowl]; omega)]; omega)
        rw [own_mixc cs vs j (by omega) (by omega)] at q
        exact q
      have N7 := Fr.snoc X7 N_ (show n0 ≤ ba by omega)
      have s9 : ∀ t_, Steps p.tables e below (T7.setTop (mkF m 3 #[.val (.ref ca), .val (.int ((Int32.ofNat j) + (1 : Int32))), .val (.ref ba), .val (.int ((Int32.ofNat j) + (1 : Int32))), .val (.int (Int32.ofNat n)), .val (.int ((Int32.ofNat j) + (1 : Int32))), .val (.int (cs.getD j 0))] [])) t_ → Steps p.tables e below (T_.setTop (mkF m 3 #[.val (.ref ca), .val (.int (Int32.ofNat j)), .val (.ref ba), .val (.int (Int32.ofNat j)), .val (.int (Int32.ofNat n)), .val (.int (Int32.ofNat j)), s6] [])) t_ := fun t_ k_ => (fun _ k_ => k_) t_ (by
        show Steps p.tables e below (T_.setTop (mkF m 3 #[.val (.ref ca), .val (.int (Int32.ofNat j)), .val (.ref ba), .val (.int (Int32.ofNat j)), .val (.int (Int32.ofNat n)), .val (.int (Int32.ofNat j)), s6] [])) t_
        refine XS.iload X_.here hx rfl (Jvm.hb hby d_jdk_52_method_21_3) rfl ?_
        refine XS.iload X_.here hx rfl (Jvm.hb hby d_jdk_52_method_21_5) rfl ?_
        refine XS.icmpNo X_.here hx rfl (Jvm.hb hby d_jdk_52_method_21_7) rfl (tlt (own_lt (by omega) (by omega))).2.1 ?_
        show Steps p.tables e below (T_.setTop (mkF m 10 #[.val (.ref ca), .val (.int (Int32.ofNat j)), .val (.ref ba), .val (.int (Int32.ofNat j)), .val (.int (Int32.ofNat n)), .val (.int (Int32.ofNat j)), s6] [])) _
        refine XS.aloadN X_.here hx rfl (Jvm.hb hby d_jdk_52_method_21_10) rfl rfl ?_
        refine XS.iloadN X_.here hx rfl (Jvm.hb hby d_jdk_52_method_21_11) rfl ?_
        refine X_.caload hx (j := (Int32.ofNat j)) (v := (.int (cs.getD j 0))) (by rw [e_]; exact Ar5.1) (State.isArrayOf_alike hZ.alike Ar5.2.1) Ar5.2.2 hin5 hat5 (g := (mkF m 12 #[.val (.ref ca), .val (.int (Int32.ofNat j)), .val (.ref ba), .val (.int (Int32.ofNat j)), .val (.int (Int32.ofNat n)), .val (.int (Int32.ofNat j)), s6] [(.int (Int32.ofNat j)), (.ref ca)])) rfl rfl (Jvm.hb hby d_jdk_52_method_21_12) _ ?_
        show Steps p.tables e below (T_.setTop (mkF m 13 #[.val (.ref ca), .val (.int (Int32.ofNat j)), .val (.ref ba), .val (.int (Int32.ofNat j)), .val (.int (Int32.ofNat n)), .val (.int (Int32.ofNat j)), s6] [(.int (cs.getD j 0))])) _
        refine XS.istore X_.here hx rfl (Jvm.hb hby d_jdk_52_method_21_13) rfl (l' := #[.val (.ref ca), .val (.int (Int32.ofNat j)), .val (.ref ba), .val (.int (Int32.ofNat j)), .val (.int (Int32.ofNat n)), .val (.int (Int32.ofNat j)), .val (.int (cs.getD j 0))]) (os_rmCmpL_13 hs6) ?_
        refine XS.iload X_.here hx rfl (Jvm.hb hby d_jdk_52_method_21_15) rfl ?_
        refine XS.sipush X_.here hx rfl (Jvm.hb hby d_jdk_52_method_21_17) ?_
        refine XS.icmpYes X_.here hx rfl (pc0 := 20) (pc' := 26) rfl (Jvm.hb hby d_jdk_52_method_21_20) rfl (flt (hlat _ (own_mem cs j (by omega)))).2.2.2 (by decide) (by decide) ?_
        show Steps p.tables e below (T_.setTop (mkF m 26 #[.val (.ref ca), .val (.int (Int32.ofNat j)), .val (.ref ba), .val (.int (Int32.ofNat j)), .val (.int (Int32.ofNat n)), .val (.int (Int32.ofNat j)), .val (.int (cs.getD j 0))] [])) _
        refine XS.aloadN X_.here hx rfl (Jvm.hb hby d_jdk_52_method_21_26) rfl rfl ?_
        refine XS.iloadN X_.here hx rfl (Jvm.hb hby d_jdk_52_method_21_27) rfl ?_
        refine XS.iload X_.here hx rfl (Jvm.hb hby d_jdk_52_method_21_28) rfl ?_
        refine XS.i2b X_.here hx rfl (Jvm.hb hby d_jdk_52_method_21_30) rfl ?_
        refine st7 _ ?_
        show Steps p.tables e below (T7.setTop (mkF m 32 #[.val (.ref ca), .val (.int (Int32.ofNat j)), .val (.ref ba), .val (.int (Int32.ofNat j)), .val (.int (Int32.ofNat n)), .val (.int (Int32.ofNat j)), .val (.int (cs.getD j 0))] [])) _
        refine XS.iinc X7.here hx rfl (Jvm.hb hby d_jdk_52_method_21_32) rfl (l' := #[.val (.ref ca), .val (.int ((Int32.ofNat j) + (1 : Int32))), .val (.ref ba), .val (.int (Int32.ofNat j)), .val (.int (Int32.ofNat n)), .val (.int (Int32.ofNat j)), .val (.int (cs.getD j 0))]) rfl ?_
        refine XS.iinc X7.here hx rfl (Jvm.hb hby d_jdk_52_method_21_35) rfl (l' := #[.val (.ref ca), .val (.int ((Int32.ofNat j) + (1 : Int32))), .val (.ref ba), .val (.int ((Int32.ofNat j) + (1 : Int32))), .val (.int (Int32.ofNat n)), .val (.int (Int32.ofNat j)), .val (.int (cs.getD j 0))]) rfl ?_
        refine XS.iinc X7.here hx rfl (Jvm.hb hby d_jdk_52_method_21_38) rfl (l' := #[.val (.ref ca), .val (.int ((Int32.ofNat j) + (1 : Int32))), .val (.ref ba), .val (.int ((Int32.ofNat j) + (1 : Int32))), .val (.int (Int32.ofNat n)), .val (.int ((Int32.ofNat j) + (1 : Int32))), .val (.int (cs.getD j 0))]) rfl ?_
        refine XS.goto X7.here hx rfl (pc0 := 41) (pc' := 3) rfl (Jvm.hb hby d_jdk_52_method_21_41) (by decide) (by decide) ?_
        show Steps p.tables e below (T7.setTop (mkF m 3 #[.val (.ref ca), .val (.int ((Int32.ofNat j) + (1 : Int32))), .val (.ref ba), .val (.int ((Int32.ofNat j) + (1 : Int32))), .val (.int (Int32.ofNat n)), .val (.int ((Int32.ofNat j) + (1 : Int32))), .val (.int (cs.getD j 0))] [])) t_
        exact k_)
      obtain ⟨T10, lo10, h10, fe10, X10, e10, N10, K10, A10, st10⟩ := ih (j + 1) (.val (.int (cs.getD j 0))) T7 _ h7 (by omega) X7 e7 N7 (((Keep.refl h0 [ba]).trans K_ (allS (Or.inl (by simp)) all0)).wr W7 (Or.inl (by simp))) V7 (One.val rfl)
      exact ⟨T10, lo10, h10, fe10, X10, e10, N10, K10, A10, fun t_ k_ => s9 t_ (castTop (by rw [own_up]) (st10 t_ k_))⟩
  obtain ⟨T11, lo11, h11, fe11, X11, e11, N11, K11, A11, st11⟩ := lp2 n 0 .unset s₁ _ h0 (by omega) X0 e0 N0 (Keep.refl _ _) (by rw [own_mix0]; exact I2) One.u
  have z12 : h0.size ≤ h11.size := K11.1
  obtain ⟨s6_11, rfl, G11_0⟩ := A11
  have s13 : ∀ t_, Steps p.tables e below (T11.setTop (mkF m 44 #[.val (.ref ca), .val (.int (Int32.ofNat n)), .val (.ref ba), .val (.int (Int32.ofNat n)), .val (.int (Int32.ofNat n)), .val (.int (Int32.ofNat n)), s6_11] [])) t_ → Steps p.tables e below (s₁.setTop (entryFrame m #[(.ref ca), (.int (0 : Int32)), (.ref ba), (.int (0 : Int32)), (.int (Int32.ofNat n))] 7)) t_ := fun t_ k_ => s1 t_ (st11 t_ k_)
  have s14 : ∀ t_, Steps p.tables e below (T11.setTop (mkF m 46 #[.val (.ref ca), .val (.int (Int32.ofNat n)), .val (.ref ba), .val (.int (Int32.ofNat n)), .val (.int (Int32.ofNat n)), .val (.int (Int32.ofNat n)), s6_11] [(.int (Int32.ofNat n))])) t_ → Steps p.tables e below (s₁.setTop (entryFrame m #[(.ref ca), (.int (0 : Int32)), (.ref ba), (.int (0 : Int32)), (.int (Int32.ofNat n))] 7)) t_ := fun t_ k_ => s13 t_ (by
    show Steps p.tables e below (T11.setTop (mkF m 44 #[.val (.ref ca), .val (.int (Int32.ofNat n)), .val (.ref ba), .val (.int (Int32.ofNat n)), .val (.int (Int32.ofNat n)), .val (.int (Int32.ofNat n)), s6_11] [])) t_
    refine XS.iload X11.here hx rfl (Jvm.hb hby d_jdk_52_method_21_44) rfl ?_
    show Steps p.tables e below (T11.setTop (mkF m 46 #[.val (.ref ca), .val (.int (Int32.ofNat n)), .val (.ref ba), .val (.int (Int32.ofNat n)), .val (.int (Int32.ofNat n)), .val (.int (Int32.ofNat n)), s6_11] [(.int (Int32.ofNat n))])) t_
    exact k_)
  obtain ⟨fs, hr, hrun, hended, hW, hsame⟩ := X11.leave (v := some (.int (Int32.ofNat n))) (fun h => by rw [Bd.returns] at h; cases h)
  refine ⟨_, _, s14 _ ?_, hrun, hended, _, _, rfl, ?_, ⟨_, rfl⟩, hW, hsame.mono (by decide) (by decide)⟩
  · show Steps p.tables e below (T11.setTop (mkF m 46 #[.val (.ref ca), .val (.int (Int32.ofNat n)), .val (.ref ba), .val (.int (Int32.ofNat n)), .val (.int (Int32.ofNat n)), .val (.int (Int32.ofNat n)), s6_11] [(.int (Int32.ofNat n))])) _
    exact retI X11 hx Bd.returns (Jvm.hb hby d_jdk_52_method_21_46) hr
  · show Q_rmCmpL Z _ _ _ _ _ _ _ h0 n0 _ T11.heap _
    rw [e11]
    exact ⟨rfl, N11, ((Keep.refl h0 [ba]).trans K11 (allS (Or.inl (by simp)) all0)), G11_0⟩
theorem d_jdk_52_method_15_0 : decode jdk_52_method_15_code 0 = .ok (.iload_n 1, 1) := by decide +kernel
theorem d_jdk_52_method_15_1 : decode jdk_52_method_15_code 1 = .ok (.aload_n 0, 1) := by decide +kernel
theorem d_jdk_52_method_15_2 : decode jdk_52_method_15_code 2 = .ok (.arraylength, 1) := by decide +kernel
theorem d_jdk_52_method_15_3 : decode jdk_52_method_15_code 3 = .ok (.isub, 1) := by decide +kernel
theorem d_jdk_52_method_15_4 : decode jdk_52_method_15_code 4 = .ok (.bipush 31, 2) := by decide +kernel
theorem d_jdk_52_method_15_6 : decode jdk_52_method_15_code 6 = .ok (.iushr, 1) := by decide +kernel
theorem d_jdk_52_method_15_7 : decode jdk_52_method_15_code 7 = .ok (.i2b, 1) := by decide +kernel
theorem d_jdk_52_method_15_8 : decode jdk_52_method_15_code 8 = .ok (.ireturn, 1) := by decide +kernel
theorem ef_rmCod (m : MethodId) (x0 : Addr) (x1 : Int32) : entryFrame m #[(.ref x0), (.int x1)] 2 = mkF m 0 #[.val (.ref x0), .val (.int x1)] [] := by first | (simp [entryFrame, mkF, argsToLocals, Value.category]; done) | rfl
def Q_rmCod (Z : State) (ba : Addr) (nn : Int32) (kb : ClassId) (zz : Int32) (vs : List Value) (h0 : Heap) (n0 : Nat) (v : Option Value) (h : Heap) (L : List Loc) : Prop := (v = some (.int (nar .byte (own_lo (ushr (nn - zz) (31 : Int32)))))) ∧ (Fr n0 L) ∧ (h = h0)
set_option maxRecDepth 65536 in
set_option maxHeartbeats 40000000 in
theorem rmCod (l : Launch) (Z : State) (a0 : Array Value) (hw : ∀ d ∈ tables_1, d.before a0 Z = true) (ws : List Jvm.Cond) (ba : Addr) (nn : Int32) (kb : ClassId) (zz : Int32) (vs : List Value) (h0 : Heap) (n0 : Nat) (Z0 : n0 ≤ h0.size) (I1 : Arv Z h0 ba kb .byte zz vs (.int (0 : Int32))) :
    MetFree l (⟨"java/lang/StringUTF16", "coderFromArrayLen", "([BI)B"⟩ : MethodName) (head1 (Jvm.Cond.code (⟨"java/lang/StringUTF16", "coderFromArrayLen", "([BI)B"⟩ : MethodName) jdk_52_method_15_code 2 (some .byte) :: ws) ({ frames := 0, cells := 0, slots := 0, locals := 0 } : Room)) (fun ar_ U => ar_ = #[(.ref ba), (.int nn)] ∧ Z.Warmed39 U.vm ∧ U.heap = h0) (fun _ _ _ _ _ => True) (fun _ U o U' => ∃ v L, o = .returned v ∧ Q_rmCod Z ba nn kb zz vs h0 n0 v U'.heap L ∧ FrameEnd U o U' L ({ frames := 0, cells := 0, slots := 0, locals := 0 } : Room).cells ({ frames := 0, cells := 0, slots := 0, locals := 0 } : Room).slots) := by
  refine MetFree.of_bodySF (plainFor_of_name pn_java_lang_StringUTF16) hisR ?_
  intro p e s m args below meth c s₁ Bd hml0 hP hK
  obtain ⟨rfl, hZ, hh⟩ := hP
  have hx := Bd.exec
  have hby := Bd.bytes
  have hml : c.maxLocals = 2 := hml0
  have hown : s.vm.findClass "java/lang/StringUTF16" = some m.cls := findClass_of_methodNamed Bd.named
  have hnm := (name_of_methodNamed Bd.named Bd.method).1
  have X0 : Stand p l e ({ frames := 0, cells := 0, slots := 0, locals := 0 } : Room) s m #[(.ref ba), (.int nn)] below meth c s₁ [] 0 0 := Stand.of_body Bd
  have e0 : s₁.heap = h0 := by rw [← hh, Bd.state]; rfl
  have N0 := Fr.nil n0
  have pre0 : ∀ t_, Steps p.tables e below (s₁.setTop (mkF m 0 #[.val (.ref ba), .val (.int nn)] [])) t_ → Steps p.tables e below (s₁.setTop (entryFrame m #[(.ref ba), (.int nn)] 2)) t_ := fun t_ k_ => castTop (ef_rmCod m ba nn) k_
  have lt_I1 : @LT.lt Nat _ ba h0.size := I1.lt
  obtain ⟨cl1, Ar1, -, S1, M1, -, -⟩ := id I1
  have s2 : ∀ t_, Steps p.tables e below (s₁.setTop (mkF m 8 #[.val (.ref ba), .val (.int nn)] [(.int (own_lo (ushr (nn - zz) (31 : Int32))))])) t_ → Steps p.tables e below (s₁.setTop (entryFrame m #[(.ref ba), (.int nn)] 2)) t_ := fun t_ k_ => pre0 t_ (by
    show Steps p.tables e below (s₁.setTop (mkF m 0 #[.val (.ref ba), .val (.int nn)] [])) t_
    refine XS.iloadN X0.here hx rfl (Jvm.hb hby d_jdk_52_method_15_0) rfl ?_
    refine XS.aloadN X0.here hx rfl (Jvm.hb hby d_jdk_52_method_15_1) rfl rfl ?_
    refine X0.arraylength hx (by rw [e0]; exact Ar1.1) (State.isArrayOf_alike hZ.alike Ar1.2.1) (g := (mkF m 2 #[.val (.ref ba), .val (.int nn)] [(.ref ba), (.int nn)])) rfl rfl (Jvm.hb hby d_jdk_52_method_15_2) _ ?_
    rw [len_of S1 M1]
    show Steps p.tables e below (s₁.setTop (mkF m 3 #[.val (.ref ba), .val (.int nn)] [(.int zz), (.int nn)])) _
    refine XS.isub X0.here hx rfl (Jvm.hb hby d_jdk_52_method_15_3) rfl ?_
    refine XS.bipush X0.here hx rfl (Jvm.hb hby d_jdk_52_method_15_4) ?_
    refine XS.iushr X0.here hx rfl (Jvm.hb hby d_jdk_52_method_15_6) rfl ?_
    refine XS.i2b X0.here hx rfl (Jvm.hb hby d_jdk_52_method_15_7) rfl ?_
    show Steps p.tables e below (s₁.setTop (mkF m 8 #[.val (.ref ba), .val (.int nn)] [(.int (own_lo (ushr (nn - zz) (31 : Int32))))])) t_
    exact k_)
  obtain ⟨fs, hr, hrun, hended, hW, hsame⟩ := X0.leave (v := some (.int (nar .byte (own_lo (ushr (nn - zz) (31 : Int32)))))) (fun h => by rw [Bd.returns] at h; cases h)
  refine ⟨_, _, s2 _ ?_, hrun, hended, _, _, rfl, ?_, ⟨_, rfl⟩, hW, hsame.mono (by decide) (by decide)⟩
  · show Steps p.tables e below (s₁.setTop (mkF m 8 #[.val (.ref ba), .val (.int nn)] [(.int (own_lo (ushr (nn - zz) (31 : Int32))))])) _
    exact retN X0 hx (t := .byte) Bd.returns (by simp) (Jvm.hb hby d_jdk_52_method_15_8) hr
  · show Q_rmCod Z _ _ _ _ _ h0 n0 _ s₁.heap _
    rw [e0]
    exact ⟨rfl, N0, rfl⟩
theorem d_jdk_52_method_16_0 : decode jdk_52_method_16_code 0 = .ok (.iload_n 2, 1) := by decide +kernel
theorem d_jdk_52_method_16_1 : decode jdk_52_method_16_code 1 = .ok (.newarray .byte, 2) := by decide +kernel
theorem d_jdk_52_method_16_3 : decode jdk_52_method_16_code 3 = .ok (.astore_n 3, 1) := by decide +kernel
theorem d_jdk_52_method_16_4 : decode jdk_52_method_16_code 4 = .ok (.aload_n 0, 1) := by decide +kernel
theorem d_jdk_52_method_16_5 : decode jdk_52_method_16_code 5 = .ok (.iload_n 1, 1) := by decide +kernel
theorem d_jdk_52_method_16_6 : decode jdk_52_method_16_code 6 = .ok (.aload_n 3, 1) := by decide +kernel
theorem d_jdk_52_method_16_7 : decode jdk_52_method_16_code 7 = .ok (.iconst 0, 1) := by decide +kernel
theorem d_jdk_52_method_16_8 : decode jdk_52_method_16_code 8 = .ok (.iload_n 2, 1) := by decide +kernel
theorem pd___CI_BII_I : parseMethodDescriptor "([CI[BII)I" = some ⟨[(.array .char), .int, (.array .byte), .int, .int], some .int⟩ := by decide +kernel
theorem d_jdk_52_method_16_9 : decode jdk_52_method_16_code 9 = .ok (.invokestatic 115, 3) := by decide +kernel
theorem d_jdk_52_method_16_12 : decode jdk_52_method_16_code 12 = .ok (.istore 4, 2) := by decide +kernel
theorem d_jdk_52_method_16_14 : decode jdk_52_method_16_code 14 = .ok (.iload 4, 2) := by decide +kernel
theorem d_jdk_52_method_16_16 : decode jdk_52_method_16_code 16 = .ok (.iload_n 2, 1) := by decide +kernel
theorem d_jdk_52_method_16_17 : decode jdk_52_method_16_code 17 = .ok (.if_icmp .eq 40, 3) := by decide +kernel
theorem d_jdk_52_method_16_57 : decode jdk_52_method_16_code 57 = .ok (.aload_n 3, 1) := by decide +kernel
theorem d_jdk_52_method_16_58 : decode jdk_52_method_16_code 58 = .ok (.areturn, 1) := by decide +kernel
theorem ef_rmComp (m : MethodId) (x0 : Addr) (x1 : Int32) (x2 : Int32) : entryFrame m #[(.ref x0), (.int x1), (.int x2)] 6 = mkF m 0 #[.val (.ref x0), .val (.int x1), .val (.int x2), .unset, .unset, .unset] [] := by first | (simp [entryFrame, mkF, argsToLocals, Value.category]; done) | rfl
def Q_rmComp (Z : State) (ca : Addr) (cs : List Int32) (kc : ClassId) (n : Nat) (h0 : Heap) (n0 : Nat) (v : Option Value) (h : Heap) (L : List Loc) : Prop := ∃ (b : Addr), ∃ (kb : ClassId), (v = some (.ref b)) ∧ (Fr n0 L) ∧ (Keep h0 h []) ∧ (Arv Z h b kb .byte (Int32.ofNat (own_enl cs)) (own_enc cs) (.int (0 : Int32))) ∧ (h0.size ≤ b)
set_option maxRecDepth 65536 in
set_option maxHeartbeats 40000000 in
theorem rmComp (l : Launch) (Z : State) (a0 : Array Value) (hw : ∀ d ∈ tables_1, d.before a0 Z = true) (ws : List Jvm.Cond) (ca : Addr) (cs : List Int32) (kc : ClassId) (n : Nat) (h0 : Heap) (n0 : Nat) (Z0 : n0 ≤ h0.size) (I1 : Arv Z h0 ca kc .char (Int32.ofNat n) (cs.map Value.int) (.int (0 : Int32))) (hn : cs.length = n) (hb : n ≤ 13) (hlat : own_lat cs) :
    MetFree l (⟨"java/lang/StringUTF16", "compress", "([CII)[B"⟩ : MethodName) (head1 (Jvm.Cond.code (⟨"java/lang/StringUTF16", "compress", "([CII)[B"⟩ : MethodName) jdk_52_method_16_code 6 (some (.array .byte)) :: ws) ({ frames := 1, cells := 1, slots := 13, locals := 18 } : Room)) (fun ar_ U => ar_ = #[(.ref ca), (.int (0 : Int32)), (.int (Int32.ofNat n))] ∧ Z.Warmed39 U.vm ∧ U.heap = h0) (fun _ _ _ _ _ => True) (fun _ U o U' => ∃ v L, o = .returned v ∧ Q_rmComp Z ca cs kc n h0 n0 v U'.heap L ∧ FrameEnd U o U' L ({ frames := 1, cells := 1, slots := 13, locals := 18 } : Room).cells ({ frames := 1, cells := 1, slots := 13, locals := 18 } : Room).slots) := by
  refine MetFree.of_bodySF (plainFor_of_name pn_java_lang_StringUTF16) hisR ?_
  intro p e s m args below meth c s₁ Bd hml0 hP hK
  obtain ⟨rfl, hZ, hh⟩ := hP
  have hx := Bd.exec
  have hby := Bd.bytes
  have hml : c.maxLocals = 6 := hml0
  have hown : s.vm.findClass "java/lang/StringUTF16" = some m.cls := findClass_of_methodNamed Bd.named
  have hnm := (name_of_methodNamed Bd.named Bd.method).1
  have X0 : Stand p l e ({ frames := 1, cells := 1, slots := 13, locals := 18 } : Room) s m #[(.ref ca), (.int (0 : Int32)), (.int (Int32.ofNat n))] below meth c s₁ [] 0 0 := Stand.of_body Bd
  have e0 : s₁.heap = h0 := by rw [← hh, Bd.state]; rfl
  have N0 := Fr.nil n0
  have pre0 : ∀ t_, Steps p.tables e below (s₁.setTop (mkF m 0 #[.val (.ref ca), .val (.int (0 : Int32)), .val (.int (Int32.ofNat n)), .unset, .unset, .unset] [])) t_ → Steps p.tables e below (s₁.setTop (entryFrame m #[(.ref ca), (.int (0 : Int32)), (.int (Int32.ofNat n))] 6)) t_ := fun t_ k_ => castTop (ef_rmComp m ca (0 : Int32) (Int32.ofNat n)) k_
  have lt_I1 : @LT.lt Nat _ ca h0.size := I1.lt
  obtain ⟨T1, h1, k1, X1, e1, E1, A1, st1⟩ := newP X0 hx hZ (hw _ (List.mem_of_getElem? (i := 20) rfl)) e0 (g := (mkF m 1 #[.val (.ref ca), .val (.int (0 : Int32)), .val (.int (Int32.ofNat n)), .unset, .unset, .unset] [(.int (Int32.ofNat n))])) rfl (Jvm.hb hby d_jdk_52_method_16_1) rfl (own_nn (by omega)) (cap := 13) (by rw [own_tn (by omega)]; omega) (by decide) (by decide) (by decide)
  obtain ⟨b1, g1⟩ : ∃ z, z = h0.size := ⟨_, rfl⟩
  rw [← g1] at A1 st1
  have z2 : h0.size ≤ h1.size := E1.1
  have l1 : b1 < h1.size := A1.lt
  have V1 : Arv Z h1 b1 k1 .byte (Int32.ofNat n) (List.replicate n (.int (0 : Int32))) (.int (0 : Int32)) := (Arv.new A1 (own_nn (by omega))).pad (pad_rep [] _ n)
  have f3 : Arv Z h1 ca kc .char (Int32.ofNat n) (cs.map Value.int) (.int (0 : Int32)) := (I1.ext E1)
  have Zc4 : n0 ≤ h1.size := by omega
  obtain ⟨_, _, ⟨T5, L5, k5, n5⟩, -, X5, ⟨Lc5, hQ5, l5, y5, z5⟩, st5⟩ := Jvm.LawKit.callS X1 hx (y := (⟨"java/lang/StringUTF16", "compress", "([CI[BII)I"⟩ : MethodName)) hown (mvT hZ (hw _ (List.mem_of_getElem? (i := 21) rfl))) (mvT hZ (hw _ (List.mem_of_getElem? (i := 22) rfl))) (mvT hZ (hw _ (List.mem_of_getElem? (i := 18) rfl))) (mvT hZ (hw _ (List.mem_of_getElem? (i := 23) rfl))) (by decide) (backOf (W := 0) (rmCmpL l Z a0 hw [] ca b1 cs kc n k1 (List.replicate n (.int (0 : Int32))) h1 n0 Zc4 f3 V1 (hn : cs.length = n) (hb : n ≤ 13) (by simp) (by first | assumption | omega | rfl | decide : n0 ≤ b1) (by first | assumption | omega | rfl | decide : @Ne Nat ca b1) (hlat : own_lat cs)) hZ (hw _ (List.mem_of_getElem? (i := 23) rfl)) (hw _ (List.mem_of_getElem? (i := 18) rfl)) (by decide) (by decide)) (g := (mkF m 9 #[.val (.ref ca), .val (.int (0 : Int32)), .val (.int (Int32.ofNat n)), .val (.ref b1), .unset, .unset] [(.int (Int32.ofNat n)), (.int (0 : Int32)), (.ref b1), (.int (0 : Int32)), (.ref ca)])) rfl (by rw [hml]; rfl) (argsL := [(.ref ca), (.int (0 : Int32)), (.ref b1), (.int (0 : Int32)), (.int (Int32.ofNat n))]) (rest := []) (lenOf pd___CI_BII_I rfl) rfl (by show 2 * 0 + _ ≤ _; exact Nat.le_of_eq rfl) (Jvm.hb hby d_jdk_52_method_16_9) (fun _ _ => ⟨rfl, e1, (by decide : 1 + 0 ≤ _), (by decide : 13 + 0 ≤ _)⟩)
  dsimp only [Pt.U, Pt.locs, Pt.cells, Pt.slots] at X5 l5 y5 z5 st5 hQ5
  subst l5 y5 z5
  obtain ⟨rfl, N5q, K5, Fq5_0⟩ := hQ5
  have N5 := Fr.app N0 N5q
  obtain ⟨h5, e5⟩ : ∃ z, T5.heap = z := ⟨_, rfl⟩
  rw [e5] at K5 Fq5_0
  have z6 : h1.size ≤ h5.size := K5.1
  have lt5_0 : @LT.lt Nat _ b1 h5.size := Fq5_0.lt
  have s7 : ∀ t_, Steps p.tables e below (T5.setTop (mkF m 58 #[.val (.ref ca), .val (.int (0 : Int32)), .val (.int (Int32.ofNat n)), .val (.ref b1), .val (.int (Int32.ofNat n)), .unset] [(.ref b1)])) t_ → Steps p.tables e below (s₁.setTop (entryFrame m #[(.ref ca), (.int (0 : Int32)), (.int (Int32.ofNat n))] 6)) t_ := fun t_ k_ => pre0 t_ (by
    show Steps p.tables e below (s₁.setTop (mkF m 0 #[.val (.ref ca), .val (.int (0 : Int32)), .val (.int (Int32.ofNat n)), .unset, .unset, .unset] [])) t_
    refine XS.iloadN X0.here hx rfl (Jvm.hb hby d_jdk_52_method_16_0) rfl ?_
    refine st1 _ ?_
    show Steps p.tables e below (T1.setTop (mkF m 3 #[.val (.ref ca), .val (.int (0 : Int32)), .val (.int (Int32.ofNat n)), .unset, .unset, .unset] [(.ref b1)])) _
    refine XS.astoreN X1.here hx rfl (Jvm.hb hby d_jdk_52_method_16_3) rfl rfl (l' := #[.val (.ref ca), .val (.int (0 : Int32)), .val (.int (Int32.ofNat n)), .val (.ref b1), .unset, .unset]) rfl ?_
    refine XS.aloadN X1.here hx rfl (Jvm.hb hby d_jdk_52_method_16_4) rfl rfl ?_
    refine XS.iloadN X1.here hx rfl (Jvm.hb hby d_jdk_52_method_16_5) rfl ?_
    refine XS.aloadN X1.here hx rfl (Jvm.hb hby d_jdk_52_method_16_6) rfl rfl ?_
    refine XS.iconst X1.here hx rfl (Jvm.hb hby d_jdk_52_method_16_7) ?_
    refine XS.iloadN X1.here hx rfl (Jvm.hb hby d_jdk_52_method_16_8) rfl ?_
    show Steps p.tables e below (T1.setTop (mkF m 9 #[.val (.ref ca), .val (.int (0 : Int32)), .val (.int (Int32.ofNat n)), .val (.ref b1), .unset, .unset] [(.int (Int32.ofNat n)), (.int (0 : Int32)), (.ref b1), (.int (0 : Int32)), (.ref ca)])) _
    refine st5 _ ?_
    show Steps p.tables e below (T5.setTop (mkF m 12 #[.val (.ref ca), .val (.int (0 : Int32)), .val (.int (Int32.ofNat n)), .val (.ref b1), .unset, .unset] [(.int (Int32.ofNat n))])) _
    refine XS.istore X5.here hx rfl (Jvm.hb hby d_jdk_52_method_16_12) rfl (l' := #[.val (.ref ca), .val (.int (0 : Int32)), .val (.int (Int32.ofNat n)), .val (.ref b1), .val (.int (Int32.ofNat n)), .unset]) rfl ?_
    refine XS.iload X5.here hx rfl (Jvm.hb hby d_jdk_52_method_16_14) rfl ?_
    refine XS.iloadN X5.here hx rfl (Jvm.hb hby d_jdk_52_method_16_16) rfl ?_
    refine XS.icmpYes X5.here hx rfl (pc0 := 17) (pc' := 57) rfl (Jvm.hb hby d_jdk_52_method_16_17) rfl (teq rfl).1 (by decide) (by decide) ?_
    show Steps p.tables e below (T5.setTop (mkF m 57 #[.val (.ref ca), .val (.int (0 : Int32)), .val (.int (Int32.ofNat n)), .val (.ref b1), .val (.int (Int32.ofNat n)), .unset] [])) _
    refine XS.aloadN X5.here hx rfl (Jvm.hb hby d_jdk_52_method_16_57) rfl rfl ?_
    show Steps p.tables e below (T5.setTop (mkF m 58 #[.val (.ref ca), .val (.int (0 : Int32)), .val (.int (Int32.ofNat n)), .val (.ref b1), .val (.int (Int32.ofNat n)), .unset] [(.ref b1)])) t_
    exact k_)
  obtain ⟨fs, hr, hrun, hended, hW, hsame⟩ := X5.leave (v := some (.ref b1)) (fun h => by rw [Bd.returns] at h; cases h)
  refine ⟨_, _, s7 _ ?_, hrun, hended, _, _, rfl, ?_, ⟨_, rfl⟩, hW, hsame.mono (by decide) (by decide)⟩
  · show Steps p.tables e below (T5.setTop (mkF m 58 #[.val (.ref ca), .val (.int (0 : Int32)), .val (.int (Int32.ofNat n)), .val (.ref b1), .val (.int (Int32.ofNat n)), .unset] [(.ref b1)])) _
    jvm_step X5.here [X5.here.top, hx, (Jvm.hb hby d_jdk_52_method_16_58), X5.method', Bd.returns, Value.isRef, FieldType.isReference]
    first | (intro acts; rw [hr _ acts rfl rfl rfl]) | rw [hr _ _ rfl rfl rfl]
    exact Steps.refl _
  · show Q_rmComp Z _ _ _ _ h0 n0 _ T5.heap _
    rw [e5]
    exact ⟨b1, k1, rfl, N5, (((Keep.refl h0 []).ext E1).trans K5 (allS (Or.inr (show h0.size ≤ b1 by omega)) all0)), (own_fixL hlat Fq5_0 hn (by simp)), by omega⟩
theorem pn_java_lang_String : plainName "java/lang/String" = true := by first | (simp [plainName, overriddenIn]; done) | decide +kernel
theorem d_jdk_42_method_149_0 : decode jdk_42_method_149_code 0 = .ok (.aload_n 0, 1) := by decide +kernel
theorem d_jdk_42_method_149_1 : decode jdk_42_method_149_code 1 = .ok (.invokespecial 1, 3) := by decide +kernel
theorem d_jdk_42_method_149_4 : decode jdk_42_method_149_code 4 = .ok (.iload_n 3, 1) := by decide +kernel
theorem d_jdk_42_method_149_5 : decode jdk_42_method_149_code 5 = .ok (.ifCond .ne 22, 3) := by decide +kernel
theorem d_jdk_42_method_149_8 : decode jdk_42_method_149_code 8 = .ok (.aload_n 0, 1) := by decide +kernel
theorem d_jdk_42_method_149_9 : decode jdk_42_method_149_code 9 = .ok (.ldc 7, 2) := by decide +kernel
theorem d_jdk_42_method_149_11 : decode jdk_42_method_149_code 11 = .ok (.getfield 9, 3) := by decide +kernel
theorem d_jdk_42_method_149_14 : decode jdk_42_method_149_code 14 = .ok (.putfield 9, 3) := by decide +kernel
theorem d_jdk_42_method_149_17 : decode jdk_42_method_149_code 17 = .ok (.aload_n 0, 1) := by decide +kernel
theorem d_jdk_42_method_149_18 : decode jdk_42_method_149_code 18 = .ok (.ldc 7, 2) := by decide +kernel
theorem d_jdk_42_method_149_20 : decode jdk_42_method_149_code 20 = .ok (.getfield 15, 3) := by decide +kernel
theorem d_jdk_42_method_149_23 : decode jdk_42_method_149_code 23 = .ok (.putfield 15, 3) := by decide +kernel
theorem d_jdk_42_method_149_26 : decode jdk_42_method_149_code 26 = .ok (.return_, 1) := by decide +kernel
theorem d_jdk_42_method_149_27 : decode jdk_42_method_149_code 27 = .ok (.getstatic 38, 3) := by decide +kernel
theorem d_jdk_42_method_149_30 : decode jdk_42_method_149_code 30 = .ok (.ifCond .eq 28, 3) := by decide +kernel
theorem d_jdk_42_method_149_33 : decode jdk_42_method_149_code 33 = .ok (.aload_n 1, 1) := by decide +kernel
theorem d_jdk_42_method_149_34 : decode jdk_42_method_149_code 34 = .ok (.iload_n 2, 1) := by decide +kernel
theorem d_jdk_42_method_149_35 : decode jdk_42_method_149_code 35 = .ok (.iload_n 3, 1) := by decide +kernel
theorem pd___CII__B : parseMethodDescriptor "([CII)[B" = some ⟨[(.array .char), .int, .int], some (.array .byte)⟩ := by decide +kernel
theorem d_jdk_42_method_149_36 : decode jdk_42_method_149_code 36 = .ok (.invokestatic 177, 3) := by decide +kernel
theorem d_jdk_42_method_149_39 : decode jdk_42_method_149_code 39 = .ok (.astore 5, 2) := by decide +kernel
theorem d_jdk_42_method_149_41 : decode jdk_42_method_149_code 41 = .ok (.aload_n 0, 1) := by decide +kernel
theorem d_jdk_42_method_149_42 : decode jdk_42_method_149_code 42 = .ok (.aload 5, 2) := by decide +kernel
theorem d_jdk_42_method_149_44 : decode jdk_42_method_149_code 44 = .ok (.iload_n 3, 1) := by decide +kernel
theorem pd___BI_B : parseMethodDescriptor "([BI)B" = some ⟨[(.array .byte), .int], some .byte⟩ := by decide +kernel
theorem d_jdk_42_method_149_45 : decode jdk_42_method_149_code 45 = .ok (.invokestatic 47, 3) := by decide +kernel
theorem d_jdk_42_method_149_48 : decode jdk_42_method_149_code 48 = .ok (.putfield 15, 3) := by decide +kernel
theorem d_jdk_42_method_149_51 : decode jdk_42_method_149_code 51 = .ok (.aload_n 0, 1) := by decide +kernel
theorem d_jdk_42_method_149_52 : decode jdk_42_method_149_code 52 = .ok (.aload 5, 2) := by decide +kernel
theorem d_jdk_42_method_149_54 : decode jdk_42_method_149_code 54 = .ok (.putfield 9, 3) := by decide +kernel
theorem d_jdk_42_method_149_57 : decode jdk_42_method_149_code 57 = .ok (.return_, 1) := by decide +kernel
theorem ef_rmIni4 (m : MethodId) (x0 : Addr) (x1 : Addr) (x2 : Int32) (x3 : Int32) : entryFrame m #[(.ref x0), (.ref x1), (.int x2), (.int x3), .null] 6 = mkF m 0 #[.val (.ref x0), .val (.ref x1), .val (.int x2), .val (.int x3), .val .null, .unset] [] := by first | (simp [entryFrame, mkF, argsToLocals, Value.category]; done) | rfl
def Q_rmIni4 (Z : State) (a : Addr) (ca : Addr) (cst : Int32) (cs : List Int32) (kc : ClassId) (n : Nat) (h0 : Heap) (n0 : Nat) (v : Option Value) (h : Heap) (L : List Loc) : Prop := ∃ (b : Addr), ∃ (kb : ClassId), (v = none) ∧ (Fr n0 L) ∧ (Keep h0 h [a]) ∧ (Exa Z h a "java/lang/String") ∧ (Fld Z h a "java/lang/String" "value" "[B" (.ref b)) ∧ (Fld Z h a "java/lang/String" "coder" "B" (.int (own_cod cs))) ∧ (Arv Z h b kb .byte (Int32.ofNat (own_enl cs)) (own_enc cs) (.int (0 : Int32)))
set_option maxRecDepth 65536 in
set_option maxHeartbeats 40000000 in
theorem rmIni4 (l : Launch) (Z : State) (a0 : Array Value) (hw : ∀ d ∈ tables_1, d.before a0 Z = true) (ws : List Jvm.Cond) (a : Addr) (ca : Addr) (cst : Int32) (cs : List Int32) (kc : ClassId) (n : Nat) (h0 : Heap) (n0 : Nat) (Z0 : n0 ≤ h0.size) (I1 : Sta Z Z.heap "java/lang/String" "COMPACT_STRINGS" "Z" (.int cst)) (OX : Old Z n0 h0) (hcst : ¬ (cst = (0 : Int32))) (I2 : Exa Z h0 a "java/lang/String") (I3 : Fld Z h0 a "java/lang/String" "value" "[B" .null) (I4 : Fld Z h0 a "java/lang/String" "coder" "B" (.int (0 : Int32))) (I5 : Arv Z h0 ca kc .char (Int32.ofNat n) (cs.map Value.int) (.int (0 : Int32))) (hn : cs.length = n) (hb : n ≤ 13) (hlat : own_lat cs) (ga : n0 ≤ a) (hac : @Ne Nat a ca) :
    MetFree l (⟨"java/lang/String", "<init>", "([CIILjava/lang/Void;)V"⟩ : MethodName) (head1 (Jvm.Cond.code (⟨"java/lang/String", "<init>", "([CIILjava/lang/Void;)V"⟩ : MethodName) jdk_42_method_149_code 6 none :: ws) ({ frames := 2, cells := 4, slots := 13, locals := 35 } : Room)) (fun ar_ U => ar_ = #[(.ref a), (.ref ca), (.int (0 : Int32)), (.int (Int32.ofNat n)), .null] ∧ Z.Warmed39 U.vm ∧ U.heap = h0 ∧ CHv Z ELs U.vm h0) (fun _ _ _ _ _ => True) (fun _ U o U' => ∃ v L, o = .returned v ∧ Q_rmIni4 Z a ca cst cs kc n h0 n0 v U'.heap L ∧ CHr Z ELs U.vm U.heap U'.vm U'.heap ∧ ReturnedEndW U o U' L ({ frames := 2, cells := 4, slots := 13, locals := 35 } : Room).cells ({ frames := 2, cells := 4, slots := 13, locals := 35 } : Room).slots) := by
  refine MetFree.of_bodySF (plainFor_of_name pn_java_lang_String) hisR ?_
  intro p e s m args below meth c s₁ Bd hml0 hP hK
  obtain ⟨rfl, hZ, hh, hCH⟩ := hP
  have hx := Bd.exec
  have hby := Bd.bytes
  have hml : c.maxLocals = 6 := hml0
  have hown : s.vm.findClass "java/lang/String" = some m.cls := findClass_of_methodNamed Bd.named
  have hnm := (name_of_methodNamed Bd.named Bd.method).1
  have X0 : Stand p l e ({ frames := 2, cells := 4, slots := 13, locals := 35 } : Room) (s.setVm s.vm) m #[(.ref a), (.ref ca), (.int (0 : Int32)), (.int (Int32.ofNat n)), .null] below meth c s₁ [] 0 0 := Stand.of_body Bd
  have e0 : s₁.heap = h0 := by rw [← hh, Bd.state]; rfl
  have N0 := Fr.nil n0
  have pre0 : ∀ t_, Steps p.tables e below (s₁.setTop (mkF m 0 #[.val (.ref a), .val (.ref ca), .val (.int (0 : Int32)), .val (.int (Int32.ofNat n)), .val .null, .unset] [])) t_ → Steps p.tables e below (s₁.setTop (entryFrame m #[(.ref a), (.ref ca), (.int (0 : Int32)), (.int (Int32.ofNat n)), .null] 6)) t_ := fun t_ k_ => castTop (ef_rmIni4 m a ca (0 : Int32) (Int32.ofNat n)) k_
  have hEL : EW Z a0 ELs := own_EW hw
  have wS : ∀ a ∈ Bundle.stringAtoms, a.before a0 Z = true := own_wS hw
  have hS : s.Since s.vm s.heap.size := (State.WarmedH.refl s).since _
  have hk : s.heap.size ≤ h0.size := by rw [hh]; exact Nat.le_refl _
  have CR : CHr Z ELs s.vm h0 s.vm h0 := CHr.refl hCH
  have lt_I2 : @LT.lt Nat _ a h0.size := I2.lt
  have lt_I3 : @LT.lt Nat _ a h0.size := I3.lt
  have lt_I4 : @LT.lt Nat _ a h0.size := I4.lt
  have lt_I5 : @LT.lt Nat _ ca h0.size := I5.lt
  obtain ⟨T1, X1, e1, st1⟩ := initO X0 hx hZ hown (hw _ (List.mem_of_getElem? (i := 12) rfl)) (hw _ (List.mem_of_getElem? (i := 13) rfl)) (hw _ (List.mem_of_getElem? (i := 14) rfl)) e0 (g := (mkF m 1 #[.val (.ref a), .val (.ref ca), .val (.int (0 : Int32)), .val (.int (Int32.ofNat n)), .val .null, .unset] [(.ref a)])) rfl (by rw [hml]; rfl) rfl (Jvm.hb hby d_jdk_42_method_149_1) (by decide) (W := 0) (by show 2 * 0 + _ ≤ _; exact Nat.le_of_eq rfl) (by decide)
  have s2 : ∀ t_, Steps p.tables e below (T1.setTop (mkF m 5 #[.val (.ref a), .val (.ref ca), .val (.int (0 : Int32)), .val (.int (Int32.ofNat n)), .val .null, .unset] [(.int (Int32.ofNat n))])) t_ → Steps p.tables e below (s₁.setTop (entryFrame m #[(.ref a), (.ref ca), (.int (0 : Int32)), (.int (Int32.ofNat n)), .null] 6)) t_ := fun t_ k_ => pre0 t_ (by
    show Steps p.tables e below (s₁.setTop (mkF m 0 #[.val (.ref a), .val (.ref ca), .val (.int (0 : Int32)), .val (.int (Int32.ofNat n)), .val .null, .unset] [])) t_
    refine XS.aloadN X0.here hx rfl (Jvm.hb hby d_jdk_42_method_149_0) rfl rfl ?_
    refine st1 _ ?_
    show Steps p.tables e below (T1.setTop (mkF m 4 #[.val (.ref a), .val (.ref ca), .val (.int (0 : Int32)), .val (.int (Int32.ofNat n)), .val .null, .unset] [])) _
    refine XS.iloadN X1.here hx rfl (Jvm.hb hby d_jdk_42_method_149_4) rfl ?_
    show Steps p.tables e below (T1.setTop (mkF m 5 #[.val (.ref a), .val (.ref ca), .val (.int (0 : Int32)), .val (.int (Int32.ofNat n)), .val .null, .unset] [(.int (Int32.ofNat n))])) t_
    exact k_)
  by_cases h3 : (Int32.ofNat n) = (0 : Int32)
  · have s5 : ∀ t_, Steps p.tables e below (T1.setTop (mkF m 9 #[.val (.ref a), .val (.ref ca), .val (.int (0 : Int32)), .val (.int (Int32.ofNat n)), .val .null, .unset] [(.ref a)])) t_ → Steps p.tables e below (s₁.setTop (entryFrame m #[(.ref a), (.ref ca), (.int (0 : Int32)), (.int (Int32.ofNat n)), .null] 6)) t_ := fun t_ k_ => s2 t_ (by
      show Steps p.tables e below (T1.setTop (mkF m 5 #[.val (.ref a), .val (.ref ca), .val (.int (0 : Int32)), .val (.int (Int32.ofNat n)), .val .null, .unset] [(.int (Int32.ofNat n))])) t_
      refine XS.ifNo X1.here hx rfl (Jvm.hb hby d_jdk_42_method_149_5) rfl ((if0 _ _).trans (teq h3).2) ?_
      show Steps p.tables e below (T1.setTop (mkF m 8 #[.val (.ref a), .val (.ref ca), .val (.int (0 : Int32)), .val (.int (Int32.ofNat n)), .val .null, .unset] [])) _
      refine XS.aloadN X1.here hx rfl (Jvm.hb hby d_jdk_42_method_149_8) rfl rfl ?_
      show Steps p.tables e below (T1.setTop (mkF m 9 #[.val (.ref a), .val (.ref ca), .val (.int (0 : Int32)), .val (.int (Int32.ofNat n)), .val .null, .unset] [(.ref a)])) t_
      exact k_)
    obtain ⟨a4, T4, h4, k4, b4, kk4, X4, e4, E4, hS, hk, hZ, hown, Ex4, Fc4, Fv4, Av4, la4, lb4, Cp4, Li4, Sa4, st4⟩ := ldcCH X1 hx hZ hown (hw _ (List.mem_of_getElem? (i := 73) rfl)) wS e1 hS hk hEL (List.mem_of_getElem? (i := 2) rfl) CR.1 (vs := []) (z := (0 : Int32)) ⟨by decide, by decide⟩ (by decide) rfl (g := (mkF m 9 #[.val (.ref a), .val (.ref ca), .val (.int (0 : Int32)), .val (.int (Int32.ofNat n)), .val .null, .unset] [(.ref a)])) rfl (Jvm.hb hby d_jdk_42_method_149_9) (n := 0) (by decide) (by decide) (by decide) (by decide)
    have z6 : h0.size ≤ h4.size := E4.1
    have CR := CR.trans Cp4
    have la4 : @LT.lt Nat _ a4 h4.size := la4
    have lb4 : @LT.lt Nat _ b4 h4.size := lb4
    obtain ⟨T7, X7, e7, st7⟩ := getF X4 hx hZ hown (host := "") (Or.inl (hw _ (List.mem_of_getElem? (i := 29) rfl))) Via.refl e4 Fv4 (g := (mkF m 11 #[.val (.ref a), .val (.ref ca), .val (.int (0 : Int32)), .val (.int (Int32.ofNat n)), .val .null, .unset] [(.ref a4), (.ref a)])) rfl rfl (Jvm.hb hby d_jdk_42_method_149_11)
    have f8 : Exa Z h4 a "java/lang/String" := (I2.ext E4)
    have f9 : Fld Z h4 a "java/lang/String" "value" "[B" .null := (I3.ext E4)
    obtain ⟨T10, h10, X10, e10, W10, st10⟩ := putF X7 hx hZ hown (host := "") (Or.inl (hw _ (List.mem_of_getElem? (i := 29) rfl))) Via.refl e7 f9 f8 (Or.inr ⟨(hw _ (List.mem_of_getElem? (i := 30) rfl)), rfl, hnm⟩) (hw _ (List.mem_of_getElem? (i := 3) rfl)) (ty := (.array .byte)) (by decide) rfl rfl (g := (mkF m 14 #[.val (.ref a), .val (.ref ca), .val (.int (0 : Int32)), .val (.int (Int32.ofNat n)), .val .null, .unset] [(.ref b4), (.ref a)])) rfl rfl (Jvm.hb hby d_jdk_42_method_149_14)
    have Sf12 : Safe Z ELs T4.vm h4 a := own_safeN hZ.alike f8 f9
    have z11 : h4.size ≤ h10.size := Nat.le_of_eq W10.size.symm
    have Cp11 : CHr Z ELs T4.vm h4 T4.vm h10 := CHr.wr W10 Sf12 CR.1
    have hk := Nat.le_trans hk z11
    have CR := CR.trans Cp11
    have F10 : Fld Z h10 a "java/lang/String" "value" "[B" (.ref b4) := f9.same W10
    have N10 := Fr.snoc X10 N0 (show n0 ≤ a by omega)
    have s14 : ∀ t_, Steps p.tables e below (T10.setTop (mkF m 18 #[.val (.ref a), .val (.ref ca), .val (.int (0 : Int32)), .val (.int (Int32.ofNat n)), .val .null, .unset] [(.ref a)])) t_ → Steps p.tables e below (s₁.setTop (entryFrame m #[(.ref a), (.ref ca), (.int (0 : Int32)), (.int (Int32.ofNat n)), .null] 6)) t_ := fun t_ k_ => s5 t_ (by
      show Steps p.tables e below (T1.setTop (mkF m 9 #[.val (.ref a), .val (.ref ca), .val (.int (0 : Int32)), .val (.int (Int32.ofNat n)), .val .null, .unset] [(.ref a)])) t_
      refine st4 _ ?_
      show Steps p.tables e below (T4.setTop (mkF m 11 #[.val (.ref a), .val (.ref ca), .val (.int (0 : Int32)), .val (.int (Int32.ofNat n)), .val .null, .unset] [(.ref a4), (.ref a)])) _
      refine st7 _ ?_
      show Steps p.tables e below (T7.setTop (mkF m 14 #[.val (.ref a), .val (.ref ca), .val (.int (0 : Int32)), .val (.int (Int32.ofNat n)), .val .null, .unset] [(.ref b4), (.ref a)])) _
      refine st10 _ ?_
      show Steps p.tables e below (T10.setTop (mkF m 17 #[.val (.ref a), .val (.ref ca), .val (.int (0 : Int32)), .val (.int (Int32.ofNat n)), .val .null, .unset] [])) _
      refine XS.aloadN X10.here hx rfl (Jvm.hb hby d_jdk_42_method_149_17) rfl rfl ?_
      show Steps p.tables e below (T10.setTop (mkF m 18 #[.val (.ref a), .val (.ref ca), .val (.int (0 : Int32)), .val (.int (Int32.ofNat n)), .val .null, .unset] [(.ref a)])) t_
      exact k_)
    obtain ⟨a13, T13, h13, k13, b13, kk13, X13, e13, E13, hS, hk, hZ, hown, Ex13, Fc13, Fv13, Av13, la13, lb13, Cp13, Li13, Sa13, st13⟩ := ldcCH X10 hx hZ hown (hw _ (List.mem_of_getElem? (i := 73) rfl)) wS e10 hS hk hEL (List.mem_of_getElem? (i := 2) rfl) CR.1 (vs := []) (z := (0 : Int32)) ⟨by decide, by decide⟩ (by decide) rfl (g := (mkF m 18 #[.val (.ref a), .val (.ref ca), .val (.int (0 : Int32)), .val (.int (Int32.ofNat n)), .val .null, .unset] [(.ref a)])) rfl (Jvm.hb hby d_jdk_42_method_149_18) (n := 0) (by decide) (by decide) (by decide) (by decide)
    have z15 : h10.size ≤ h13.size := E13.1
    have CR := CR.trans Cp13
    have la13 : @LT.lt Nat _ a13 h13.size := la13
    have lb13 : @LT.lt Nat _ b13 h13.size := lb13
    obtain ⟨T16, X16, e16, st16⟩ := getF X13 hx hZ hown (host := "") (Or.inl (hw _ (List.mem_of_getElem? (i := 27) rfl))) Via.refl e13 Fc13 (g := (mkF m 20 #[.val (.ref a), .val (.ref ca), .val (.int (0 : Int32)), .val (.int (Int32.ofNat n)), .val .null, .unset] [(.ref a13), (.ref a)])) rfl rfl (Jvm.hb hby d_jdk_42_method_149_20)
    have f17 : Exa Z h13 a "java/lang/String" := ((f8.wr W10).ext E13)
    have f18 : Fld Z h13 a "java/lang/String" "coder" "B" (.int (0 : Int32)) := (((I4.ext E4).other W10 (Or.inr (slot_ne (Or.inr (hw _ (List.mem_of_getElem? (i := 28) rfl))) (Or.inr (hw _ (List.mem_of_getElem? (i := 30) rfl))) (by decide) (t := .byte) (t' := (.array .byte)) (by decide) (by decide)))).ext E13)
    obtain ⟨T19, h19, X19, e19, W19, st19⟩ := putFN X16 hx hZ hown (hw _ (List.mem_of_getElem? (i := 27) rfl)) Via.refl e16 f18 f17 (Or.inr ⟨(hw _ (List.mem_of_getElem? (i := 28) rfl)), rfl, hnm⟩) (hw _ (List.mem_of_getElem? (i := 3) rfl)) (ty := .byte) (v' := (.int (0 : Int32))) (by decide) rfl rfl (g := (mkF m 23 #[.val (.ref a), .val (.ref ca), .val (.int (0 : Int32)), .val (.int (Int32.ofNat n)), .val .null, .unset] [(.int (0 : Int32)), (.ref a)])) rfl rfl (Jvm.hb hby d_jdk_42_method_149_23)
    have Sf21 : Safe Z ELs T13.vm h13 a := (Cp13.safe (show @LT.lt Nat _ a h10.size by omega) (Cp11.safe (show @LT.lt Nat _ a h4.size by omega) Sf12))
    have z20 : h13.size ≤ h19.size := Nat.le_of_eq W19.size.symm
    have Cp20 : CHr Z ELs T13.vm h13 T13.vm h19 := CHr.wr W19 Sf21 CR.1
    have hk := Nat.le_trans hk z20
    have CR := CR.trans Cp20
    have F19 : Fld Z h19 a "java/lang/String" "coder" "B" (.int (0 : Int32)) := f18.same W19
    have N19 := Fr.snoc X19 N10 (show n0 ≤ a by omega)
    have s22 : ∀ t_, Steps p.tables e below (T19.setTop (mkF m 26 #[.val (.ref a), .val (.ref ca), .val (.int (0 : Int32)), .val (.int (Int32.ofNat n)), .val .null, .unset] [])) t_ → Steps p.tables e below (s₁.setTop (entryFrame m #[(.ref a), (.ref ca), (.int (0 : Int32)), (.int (Int32.ofNat n)), .null] 6)) t_ := fun t_ k_ => s14 t_ (by
      show Steps p.tables e below (T10.setTop (mkF m 18 #[.val (.ref a), .val (.ref ca), .val (.int (0 : Int32)), .val (.int (Int32.ofNat n)), .val .null, .unset] [(.ref a)])) t_
      refine st13 _ ?_
      show Steps p.tables e below (T13.setTop (mkF m 20 #[.val (.ref a), .val (.ref ca), .val (.int (0 : Int32)), .val (.int (Int32.ofNat n)), .val .null, .unset] [(.ref a13), (.ref a)])) _
      refine st16 _ ?_
      show Steps p.tables e below (T16.setTop (mkF m 23 #[.val (.ref a), .val (.ref ca), .val (.int (0 : Int32)), .val (.int (Int32.ofNat n)), .val .null, .unset] [(.int (0 : Int32)), (.ref a)])) _
      refine st19 _ ?_
      show Steps p.tables e below (T19.setTop (mkF m 26 #[.val (.ref a), .val (.ref ca), .val (.int (0 : Int32)), .val (.int (Int32.ofNat n)), .val .null, .unset] [])) _
      show Steps p.tables e below (T19.setTop (mkF m 26 #[.val (.ref a), .val (.ref ca), .val (.int (0 : Int32)), .val (.int (Int32.ofNat n)), .val .null, .unset] [])) t_
      exact k_)
    obtain ⟨fs, hr, hrun, hended, hREW⟩ := X19.leaveW hS (by first | exact Nat.le_refl _ | (rw [e19]; exact hk)) (v := none) (fun _ => rfl)
    have hnil : cs = [] := List.eq_nil_of_length_eq_zero (hn.trans (own_inj (n := 0) (by omega) (by decide) h3))
    have F23 : Fld Z h19 a "java/lang/String" "coder" "B" (.int (own_cod cs)) := by have q := F19; rw [← own_cod0 (cs := cs) (by rw [hnil]; exact own_lat0)] at q; exact q
    have f24 : Arv Z h19 b4 kk4 .byte (0 : Int32) [] (.int (0 : Int32)) := (((Av4.other W10 (Ne.symm (Exa.neArv f8 Av4 (hw _ (List.mem_of_getElem? (i := 3) rfl))))).ext E13).other W19 (Ne.symm (Exa.neArv f17 ((Av4.other W10 (Ne.symm (Exa.neArv f8 Av4 (hw _ (List.mem_of_getElem? (i := 3) rfl))))).ext E13) (hw _ (List.mem_of_getElem? (i := 3) rfl)))))
    have f25 : Exa Z h19 a "java/lang/String" := (f17.wr W19)
    have f26 : Fld Z h19 a "java/lang/String" "value" "[B" (.ref b4) := ((F10.ext E13).other W19 (Or.inr (slot_ne (Or.inr (hw _ (List.mem_of_getElem? (i := 30) rfl))) (Or.inr (hw _ (List.mem_of_getElem? (i := 28) rfl))) (by decide) (t := (.array .byte)) (t' := .byte) (by decide) (by decide))))
    refine ⟨_, _, s22 _ ?_, hrun, hended, _, _, rfl, ?_, (by show CHr Z ELs s.vm s.heap T19.vm T19.heap; rw [hh, e19]; exact CR.trans (CHv.at X19 hZ hEL CR.1)), hREW.1, hREW.2.1, hREW.2.2.1, hREW.2.2.2.mono (by decide) (by decide)⟩
    · show Steps p.tables e below (T19.setTop (mkF m 26 #[.val (.ref a), .val (.ref ca), .val (.int (0 : Int32)), .val (.int (Int32.ofNat n)), .val .null, .unset] [])) _
      exact X19.returnOut hx Bd.returns (Jvm.hb hby d_jdk_42_method_149_26) hr
    · show Q_rmIni4 Z _ _ _ _ _ _ h0 n0 _ T19.heap _
      rw [e19]
      exact ⟨b4, kk4, rfl, N19, (((((Keep.refl h0 [a]).ext E4).wr W10 (Or.inl (by simp))).ext E13).wr W19 (Or.inl (by simp))), f25, f26, F23, (own_fix0 hnil f24)⟩
  · obtain ⟨T27, X27, e27, st27⟩ := getS2 X1 hx hZ hown (host := "") (Or.inl (hw _ (List.mem_of_getElem? (i := 15) rfl))) Via.refl e1 (I1.ext OX.2) (g := (mkF m 27 #[.val (.ref a), .val (.ref ca), .val (.int (0 : Int32)), .val (.int (Int32.ofNat n)), .val .null, .unset] [])) rfl (Jvm.hb hby d_jdk_42_method_149_27)
    have Zc28 : n0 ≤ h0.size := by omega
    obtain ⟨_, _, ⟨T29, L29, k29, n29⟩, -, X29, ⟨Lc29, hQ29, l29, y29, z29⟩, st29⟩ := Jvm.LawKit.callS X27 hx (y := (⟨"java/lang/StringUTF16", "compress", "([CII)[B"⟩ : MethodName)) hown (mvT hZ (hw _ (List.mem_of_getElem? (i := 16) rfl))) (mvT hZ (hw _ (List.mem_of_getElem? (i := 17) rfl))) (mvT hZ (hw _ (List.mem_of_getElem? (i := 18) rfl))) (mvT hZ (hw _ (List.mem_of_getElem? (i := 19) rfl))) (by decide) (backOf (W := 0) (rmComp l Z a0 hw [] ca cs kc n h0 n0 Zc28 I5 (hn : cs.length = n) (hb : n ≤ 13) (hlat : own_lat cs)) hZ (hw _ (List.mem_of_getElem? (i := 19) rfl)) (hw _ (List.mem_of_getElem? (i := 18) rfl)) (by decide) (by decide)) (g := (mkF m 36 #[.val (.ref a), .val (.ref ca), .val (.int (0 : Int32)), .val (.int (Int32.ofNat n)), .val .null, .unset] [(.int (Int32.ofNat n)), (.int (0 : Int32)), (.ref ca)])) rfl (by rw [hml]; rfl) (argsL := [(.ref ca), (.int (0 : Int32)), (.int (Int32.ofNat n))]) (rest := []) (lenOf pd___CII__B rfl) rfl (by show 2 * 0 + _ ≤ _; exact Nat.le_of_eq rfl) (Jvm.hb hby d_jdk_42_method_149_36) (fun _ _ => ⟨rfl, e27, (by decide : 0 + 1 ≤ _), (by decide : 0 + 13 ≤ _)⟩)
    dsimp only [Pt.U, Pt.locs, Pt.cells, Pt.slots] at X29 l29 y29 z29 st29 hQ29
    subst l29 y29 z29
    obtain ⟨b_29, kb_29, rfl, N29q, K29, Fq29_0, P29_0⟩ := hQ29
    have N29 := Fr.app N0 N29q
    obtain ⟨h29, e29⟩ : ∃ z, T29.heap = z := ⟨_, rfl⟩
    rw [e29] at K29 Fq29_0
    have z30 : h0.size ≤ h29.size := K29.1
    have Cp30 : CHr Z ELs s.vm h0 s.vm h29 := CHr.keep K29 sf0 CR.1
    have hk := Nat.le_trans hk z30
    have CR := CR.trans Cp30
    have lt29_0 : @LT.lt Nat _ b_29 h29.size := Fq29_0.lt
    have Zc31 : n0 ≤ h29.size := by omega
    obtain ⟨_, _, ⟨T32, L32, k32, n32⟩, -, X32, ⟨Lc32, hQ32, l32, y32, z32⟩, st32⟩ := Jvm.LawKit.callS X29 hx (y := (⟨"java/lang/StringUTF16", "coderFromArrayLen", "([BI)B"⟩ : MethodName)) hown (mvT hZ (hw _ (List.mem_of_getElem? (i := 24) rfl))) (mvT hZ (hw _ (List.mem_of_getElem? (i := 25) rfl))) (mvT hZ (hw _ (List.mem_of_getElem? (i := 18) rfl))) (mvT hZ (hw _ (List.mem_of_getElem? (i := 26) rfl))) (by decide) (backOf (W := 1) (rmCod l Z a0 hw [] b_29 (Int32.ofNat n) kb_29 (Int32.ofNat (own_enl cs)) (own_enc cs) h29 n0 Zc31 Fq29_0) hZ (hw _ (List.mem_of_getElem? (i := 26) rfl)) (hw _ (List.mem_of_getElem? (i := 18) rfl)) (by decide) (by decide)) (g := (mkF m 45 #[.val (.ref a), .val (.ref ca), .val (.int (0 : Int32)), .val (.int (Int32.ofNat n)), .val .null, .val (.ref b_29)] [(.int (Int32.ofNat n)), (.ref b_29), (.ref a)])) rfl (by rw [hml]; rfl) (argsL := [(.ref b_29), (.int (Int32.ofNat n))]) (rest := [(.ref a)]) (lenOf pd___BI_B rfl) rfl (by show 2 * 0 + _ ≤ _; exact Nat.le_of_eq rfl) (Jvm.hb hby d_jdk_42_method_149_45) (fun _ _ => ⟨rfl, e29, (by decide : 1 + 0 ≤ _), (by decide : 13 + 0 ≤ _)⟩)
    dsimp only [Pt.U, Pt.locs, Pt.cells, Pt.slots] at X32 l32 y32 z32 st32 hQ32
    subst l32 y32 z32
    obtain ⟨rfl, N32q, e32⟩ := hQ32
    have N32 := Fr.app N29 N32q
    have f33 : Exa Z h29 a "java/lang/String" := (I2.keep K29)
    have f34 : Fld Z h29 a "java/lang/String" "coder" "B" (.int (0 : Int32)) := (I4.keep K29 nin0)
    obtain ⟨T35, h35, X35, e35, W35, st35⟩ := putFN X32 hx hZ hown (hw _ (List.mem_of_getElem? (i := 27) rfl)) Via.refl e32 f34 f33 (Or.inr ⟨(hw _ (List.mem_of_getElem? (i := 28) rfl)), rfl, hnm⟩) (hw _ (List.mem_of_getElem? (i := 3) rfl)) (ty := .byte) (v' := (.int (own_cod cs))) (by decide) (own_cnar cs) (own_cfit cs) (g := (mkF m 48 #[.val (.ref a), .val (.ref ca), .val (.int (0 : Int32)), .val (.int (Int32.ofNat n)), .val .null, .val (.ref b_29)] [(.int (own_cod cs)), (.ref a)])) rfl rfl (Jvm.hb hby d_jdk_42_method_149_48)
    have f38 : Fld Z h29 a "java/lang/String" "value" "[B" .null := (I3.keep K29 nin0)
    have Sf37 : Safe Z ELs s.vm h29 a := own_safeN hZ.alike f33 f38
    have z36 : h29.size ≤ h35.size := Nat.le_of_eq W35.size.symm
    have Cp36 : CHr Z ELs s.vm h29 s.vm h35 := CHr.wr W35 Sf37 CR.1
    have hk := Nat.le_trans hk z36
    have CR := CR.trans Cp36
    have F35 : Fld Z h35 a "java/lang/String" "coder" "B" (.int (own_cod cs)) := f34.same W35
    have N35 := Fr.snoc X35 N32 (show n0 ≤ a by omega)
    have f39 : Exa Z h35 a "java/lang/String" := (f33.wr W35)
    have f40 : Fld Z h35 a "java/lang/String" "value" "[B" .null := (f38.other W35 (Or.inr (slot_ne (Or.inr (hw _ (List.mem_of_getElem? (i := 30) rfl))) (Or.inr (hw _ (List.mem_of_getElem? (i := 28) rfl))) (by decide) (t := (.array .byte)) (t' := .byte) (by decide) (by decide))))
    obtain ⟨T41, h41, X41, e41, W41, st41⟩ := putF X35 hx hZ hown (host := "") (Or.inl (hw _ (List.mem_of_getElem? (i := 29) rfl))) Via.refl e35 f40 f39 (Or.inr ⟨(hw _ (List.mem_of_getElem? (i := 30) rfl)), rfl, hnm⟩) (hw _ (List.mem_of_getElem? (i := 3) rfl)) (ty := (.array .byte)) (by decide) rfl rfl (g := (mkF m 54 #[.val (.ref a), .val (.ref ca), .val (.int (0 : Int32)), .val (.int (Int32.ofNat n)), .val .null, .val (.ref b_29)] [(.ref b_29), (.ref a)])) rfl rfl (Jvm.hb hby d_jdk_42_method_149_54)
    have Sf43 : Safe Z ELs s.vm h35 a := (Cp36.safe (show @LT.lt Nat _ a h29.size by omega) Sf37)
    have z42 : h35.size ≤ h41.size := Nat.le_of_eq W41.size.symm
    have Cp42 : CHr Z ELs s.vm h35 s.vm h41 := CHr.wr W41 Sf43 CR.1
    have hk := Nat.le_trans hk z42
    have CR := CR.trans Cp42
    have F41 : Fld Z h41 a "java/lang/String" "value" "[B" (.ref b_29) := f40.same W41
    have N41 := Fr.snoc X41 N35 (show n0 ≤ a by omega)
    have s44 : ∀ t_, Steps p.tables e below (T41.setTop (mkF m 57 #[.val (.ref a), .val (.ref ca), .val (.int (0 : Int32)), .val (.int (Int32.ofNat n)), .val .null, .val (.ref b_29)] [])) t_ → Steps p.tables e below (s₁.setTop (entryFrame m #[(.ref a), (.ref ca), (.int (0 : Int32)), (.int (Int32.ofNat n)), .null] 6)) t_ := fun t_ k_ => s2 t_ (by
      show Steps p.tables e below (T1.setTop (mkF m 5 #[.val (.ref a), .val (.ref ca), .val (.int (0 : Int32)), .val (.int (Int32.ofNat n)), .val .null, .unset] [(.int (Int32.ofNat n))])) t_
      refine XS.ifYes X1.here hx rfl (pc0 := 5) (pc' := 27) rfl (Jvm.hb hby d_jdk_42_method_149_5) rfl ((if0 _ _).trans (feq h3).2) (by decide) (by decide) ?_
      show Steps p.tables e below (T1.setTop (mkF m 27 #[.val (.ref a), .val (.ref ca), .val (.int (0 : Int32)), .val (.int (Int32.ofNat n)), .val .null, .unset] [])) _
      refine st27 _ ?_
      show Steps p.tables e below (T27.setTop (mkF m 30 #[.val (.ref a), .val (.ref ca), .val (.int (0 : Int32)), .val (.int (Int32.ofNat n)), .val .null, .unset] [(.int cst)])) _
      refine XS.ifNo X27.here hx rfl (Jvm.hb hby d_jdk_42_method_149_30) rfl ((if0 _ _).trans (feq hcst).1) ?_
      show Steps p.tables e below (T27.setTop (mkF m 33 #[.val (.ref a), .val (.ref ca), .val (.int (0 : Int32)), .val (.int (Int32.ofNat n)), .val .null, .unset] [])) _
      refine XS.aloadN X27.here hx rfl (Jvm.hb hby d_jdk_42_method_149_33) rfl rfl ?_
      refine XS.iloadN X27.here hx rfl (Jvm.hb hby d_jdk_42_method_149_34) rfl ?_
      refine XS.iloadN X27.here hx rfl (Jvm.hb hby d_jdk_42_method_149_35) rfl ?_
      refine st29 _ ?_
      show Steps p.tables e below (T29.setTop (mkF m 39 #[.val (.ref a), .val (.ref ca), .val (.int (0 : Int32)), .val (.int (Int32.ofNat n)), .val .null, .unset] [(.ref b_29)])) _
      refine XS.astore X29.here hx rfl (Jvm.hb hby d_jdk_42_method_149_39) rfl rfl (l' := #[.val (.ref a), .val (.ref ca), .val (.int (0 : Int32)), .val (.int (Int32.ofNat n)), .val .null, .val (.ref b_29)]) rfl ?_
      refine XS.aloadN X29.here hx rfl (Jvm.hb hby d_jdk_42_method_149_41) rfl rfl ?_
      refine XS.aload X29.here hx rfl (Jvm.hb hby d_jdk_42_method_149_42) rfl rfl ?_
      refine XS.iloadN X29.here hx rfl (Jvm.hb hby d_jdk_42_method_149_44) rfl ?_
      refine st32 _ ?_
      show Steps p.tables e below (T32.setTop (mkF m 48 #[.val (.ref a), .val (.ref ca), .val (.int (0 : Int32)), .val (.int (Int32.ofNat n)), .val .null, .val (.ref b_29)] [(.int (nar .byte (own_lo (ushr ((Int32.ofNat n) - (Int32.ofNat (own_enl cs))) (31 : Int32))))), (.ref a)])) _
      refine castTop (g' := (mkF m 48 #[.val (.ref a), .val (.ref ca), .val (.int (0 : Int32)), .val (.int (Int32.ofNat n)), .val .null, .val (.ref b_29)] [(.int (own_cod cs)), (.ref a)])) (by rw [own_codl hn (own_pos h3) (by omega)]) ?_
      show Steps p.tables e below (T32.setTop (mkF m 48 #[.val (.ref a), .val (.ref ca), .val (.int (0 : Int32)), .val (.int (Int32.ofNat n)), .val .null, .val (.ref b_29)] [(.int (own_cod cs)), (.ref a)])) _
      refine st35 _ ?_
      show Steps p.tables e below (T35.setTop (mkF m 51 #[.val (.ref a), .val (.ref ca), .val (.int (0 : Int32)), .val (.int (Int32.ofNat n)), .val .null, .val (.ref b_29)] [])) _
      refine XS.aloadN X35.here hx rfl (Jvm.hb hby d_jdk_42_method_149_51) rfl rfl ?_
      refine XS.aload X35.here hx rfl (Jvm.hb hby d_jdk_42_method_149_52) rfl rfl ?_
      refine st41 _ ?_
      show Steps p.tables e below (T41.setTop (mkF m 57 #[.val (.ref a), .val (.ref ca), .val (.int (0 : Int32)), .val (.int (Int32.ofNat n)), .val .null, .val (.ref b_29)] [])) _
      show Steps p.tables e below (T41.setTop (mkF m 57 #[.val (.ref a), .val (.ref ca), .val (.int (0 : Int32)), .val (.int (Int32.ofNat n)), .val .null, .val (.ref b_29)] [])) t_
      exact k_)
    obtain ⟨fs, hr, hrun, hended, hREW⟩ := X41.leaveW hS (by first | exact Nat.le_refl _ | (rw [e41]; exact hk)) (v := none) (fun _ => rfl)
    have f45 : Arv Z h41 b_29 kb_29 .byte (Int32.ofNat (own_enl cs)) (own_enc cs) (.int (0 : Int32)) := ((Fq29_0.other W35 (show @Ne Nat b_29 a by omega)).other W41 (show @Ne Nat b_29 a by omega))
    have f46 : Exa Z h41 a "java/lang/String" := (f39.wr W41)
    have f47 : Fld Z h41 a "java/lang/String" "coder" "B" (.int (own_cod cs)) := (F35.other W41 (Or.inr (slot_ne (Or.inr (hw _ (List.mem_of_getElem? (i := 28) rfl))) (Or.inr (hw _ (List.mem_of_getElem? (i := 30) rfl))) (by decide) (t := .byte) (t' := (.array .byte)) (by decide) (by decide))))
    refine ⟨_, _, s44 _ ?_, hrun, hended, _, _, rfl, ?_, (by show CHr Z ELs s.vm s.heap T41.vm T41.heap; rw [hh, e41]; exact CR.trans (CHv.at X41 hZ hEL CR.1)), hREW.1, hREW.2.1, hREW.2.2.1, hREW.2.2.2.mono (by decide) (by decide)⟩
    · show Steps p.tables e below (T41.setTop (mkF m 57 #[.val (.ref a), .val (.ref ca), .val (.int (0 : Int32)), .val (.int (Int32.ofNat n)), .val .null, .val (.ref b_29)] [])) _
      exact X41.returnOut hx Bd.returns (Jvm.hb hby d_jdk_42_method_149_57) hr
    · show Q_rmIni4 Z _ _ _ _ _ _ h0 n0 _ T41.heap _
      rw [e41]
      exact ⟨b_29, kb_29, rfl, N41, ((((Keep.refl h0 [a]).trans K29 all0).wr W35 (Or.inl (by simp))).wr W41 (Or.inl (by simp))), f46, F41, f47, f45⟩
theorem d_jdk_42_method_3_0 : decode jdk_42_method_3_code 0 = .ok (.aload_n 0, 1) := by decide +kernel
theorem d_jdk_42_method_3_1 : decode jdk_42_method_3_code 1 = .ok (.aload_n 1, 1) := by decide +kernel
theorem d_jdk_42_method_3_2 : decode jdk_42_method_3_code 2 = .ok (.iconst 0, 1) := by decide +kernel
theorem d_jdk_42_method_3_3 : decode jdk_42_method_3_code 3 = .ok (.aload_n 1, 1) := by decide +kernel
theorem d_jdk_42_method_3_4 : decode jdk_42_method_3_code 4 = .ok (.arraylength, 1) := by decide +kernel
theorem d_jdk_42_method_3_5 : decode jdk_42_method_3_code 5 = .ok (.aconst_null, 1) := by decide +kernel
theorem pd___CIILjava_lang_Void__V : parseMethodDescriptor "([CIILjava/lang/Void;)V" = some ⟨[(.array .char), .int, .int, (.object "java/lang/Void")], none⟩ := by decide +kernel
theorem d_jdk_42_method_3_6 : decode jdk_42_method_3_code 6 = .ok (.invokespecial 27, 3) := by decide +kernel
theorem d_jdk_42_method_3_9 : decode jdk_42_method_3_code 9 = .ok (.return_, 1) := by decide +kernel
theorem ef_rmIni1 (m : MethodId) (x0 : Addr) (x1 : Addr) : entryFrame m #[(.ref x0), (.ref x1)] 2 = mkF m 0 #[.val (.ref x0), .val (.ref x1)] [] := by first | (simp [entryFrame, mkF, argsToLocals, Value.category]; done) | rfl
def Q_rmIni1 (Z : State) (a : Addr) (ca : Addr) (cst : Int32) (cs : List Int32) (kc : ClassId) (n : Nat) (h0 : Heap) (n0 : Nat) (v : Option Value) (h : Heap) (L : List Loc) : Prop := ∃ (b : Addr), ∃ (kb : ClassId), (v = none) ∧ (Fr n0 L) ∧ (Keep h0 h [a]) ∧ (Exa Z h a "java/lang/String") ∧ (Fld Z h a "java/lang/String" "value" "[B" (.ref b)) ∧ (Fld Z h a "java/lang/String" "coder" "B" (.int (own_cod cs))) ∧ (Arv Z h b kb .byte (Int32.ofNat (own_enl cs)) (own_enc cs) (.int (0 : Int32)))
set_option maxRecDepth 65536 in
set_option maxHeartbeats 40000000 in
theorem rmIni1 (l : Launch) (Z : State) (a0 : Array Value) (hw : ∀ d ∈ tables_1, d.before a0 Z = true) (ws : List Jvm.Cond) (a : Addr) (ca : Addr) (cst : Int32) (cs : List Int32) (kc : ClassId) (n : Nat) (h0 : Heap) (n0 : Nat) (Z0 : n0 ≤ h0.size) (I1 : Sta Z Z.heap "java/lang/String" "COMPACT_STRINGS" "Z" (.int cst)) (OX : Old Z n0 h0) (hcst : ¬ (cst = (0 : Int32))) (I2 : Exa Z h0 a "java/lang/String") (I3 : Fld Z h0 a "java/lang/String" "value" "[B" .null) (I4 : Fld Z h0 a "java/lang/String" "coder" "B" (.int (0 : Int32))) (I5 : Arv Z h0 ca kc .char (Int32.ofNat n) (cs.map Value.int) (.int (0 : Int32))) (hn : cs.length = n) (hb : n ≤ 13) (hlat : own_lat cs) (ga : n0 ≤ a) (hac : @Ne Nat a ca) :
    MetFree l (⟨"java/lang/String", "<init>", "([C)V"⟩ : MethodName) (head1 (Jvm.Cond.code (⟨"java/lang/String", "<init>", "([C)V"⟩ : MethodName) jdk_42_method_3_code 2 none :: ws) ({ frames := 3, cells := 4, slots := 13, locals := 52 } : Room)) (fun ar_ U => ar_ = #[(.ref a), (.ref ca)] ∧ Z.Warmed39 U.vm ∧ U.heap = h0 ∧ CHv Z ELs U.vm h0) (fun _ _ _ _ _ => True) (fun _ U o U' => ∃ v L, o = .returned v ∧ Q_rmIni1 Z a ca cst cs kc n h0 n0 v U'.heap L ∧ CHr Z ELs U.vm U.heap U'.vm U'.heap ∧ ReturnedEndW U o U' L ({ frames := 3, cells := 4, slots := 13, locals := 52 } : Room).cells ({ frames := 3, cells := 4, slots := 13, locals := 52 } : Room).slots) := by
  refine MetFree.of_bodySF (plainFor_of_name pn_java_lang_String) hisR ?_
  intro p e s m args below meth c s₁ Bd hml0 hP hK
  obtain ⟨rfl, hZ, hh, hCH⟩ := hP
  have hx := Bd.exec
  have hby := Bd.bytes
  have hml : c.maxLocals = 2 := hml0
  have hown : s.vm.findClass "java/lang/String" = some m.cls := findClass_of_methodNamed Bd.named
  have hnm := (name_of_methodNamed Bd.named Bd.method).1
  have X0 : Stand p l e ({ frames := 3, cells := 4, slots := 13, locals := 52 } : Room) (s.setVm s.vm) m #[(.ref a), (.ref ca)] below meth c s₁ [] 0 0 := Stand.of_body Bd
  have e0 : s₁.heap = h0 := by rw [← hh, Bd.state]; rfl
  have N0 := Fr.nil n0
  have pre0 : ∀ t_, Steps p.tables e below (s₁.setTop (mkF m 0 #[.val (.ref a), .val (.ref ca)] [])) t_ → Steps p.tables e below (s₁.setTop (entryFrame m #[(.ref a), (.ref ca)] 2)) t_ := fun t_ k_ => castTop (ef_rmIni1 m a ca) k_
  have hEL : EW Z a0 ELs := own_EW hw
  have wS : ∀ a ∈ Bundle.stringAtoms, a.before a0 Z = true := own_wS hw
  have hS : s.Since s.vm s.heap.size := (State.WarmedH.refl s).since _
  have hk : s.heap.size ≤ h0.size := by rw [hh]; exact Nat.le_refl _
  have CR : CHr Z ELs s.vm h0 s.vm h0 := CHr.refl hCH
  have lt_I2 : @LT.lt Nat _ a h0.size := I2.lt
  have lt_I3 : @LT.lt Nat _ a h0.size := I3.lt
  have lt_I4 : @LT.lt Nat _ a h0.size := I4.lt
  have lt_I5 : @LT.lt Nat _ ca h0.size := I5.lt
  obtain ⟨cl1, Ar1, -, S1, M1, -, -⟩ := id I5
  have Zc2 : n0 ≤ h0.size := by omega
  have s4 : ∀ t_, Steps p.tables e below (s₁.setTop (mkF m 6 #[.val (.ref a), .val (.ref ca)] [.null, (.int (Int32.ofNat n)), (.int (0 : Int32)), (.ref ca), (.ref a)])) t_ → Steps p.tables e below (s₁.setTop (entryFrame m #[(.ref a), (.ref ca)] 2)) t_ := fun t_ k_ => pre0 t_ (by
    show Steps p.tables e below (s₁.setTop (mkF m 0 #[.val (.ref a), .val (.ref ca)] [])) t_
    refine XS.aloadN X0.here hx rfl (Jvm.hb hby d_jdk_42_method_3_0) rfl rfl ?_
    refine XS.aloadN X0.here hx rfl (Jvm.hb hby d_jdk_42_method_3_1) rfl rfl ?_
    refine XS.iconst X0.here hx rfl (Jvm.hb hby d_jdk_42_method_3_2) ?_
    refine XS.aloadN X0.here hx rfl (Jvm.hb hby d_jdk_42_method_3_3) rfl rfl ?_
    refine X0.arraylength hx (by rw [e0]; exact Ar1.1) (State.isArrayOf_alike hZ.alike Ar1.2.1) (g := (mkF m 4 #[.val (.ref a), .val (.ref ca)] [(.ref ca), (.int (0 : Int32)), (.ref ca), (.ref a)])) rfl rfl (Jvm.hb hby d_jdk_42_method_3_4) _ ?_
    rw [len_of S1 M1]
    show Steps p.tables e below (s₁.setTop (mkF m 5 #[.val (.ref a), .val (.ref ca)] [(.int (Int32.ofNat n)), (.int (0 : Int32)), (.ref ca), (.ref a)])) _
    refine XS.aconstNull X0.here hx rfl (Jvm.hb hby d_jdk_42_method_3_5) ?_
    show Steps p.tables e below (s₁.setTop (mkF m 6 #[.val (.ref a), .val (.ref ca)] [.null, (.int (Int32.ofNat n)), (.int (0 : Int32)), (.ref ca), (.ref a)])) t_
    exact k_)
  obtain ⟨_, _, ⟨T3, L3, k3, n3⟩, -, Xr3, hSr3, hg3, ⟨Lc3, hQ3, l3, y3, z3, Cp3⟩, st3⟩ := X0.specialBackS hx (y := (⟨"java/lang/String", "<init>", "([CIILjava/lang/Void;)V"⟩ : MethodName)) rfl hown (mvT hZ (hw _ (List.mem_of_getElem? (i := 8) rfl))) (mvT hZ (hw _ (List.mem_of_getElem? (i := 9) rfl))) (mvT hZ (hw _ (List.mem_of_getElem? (i := 11) rfl))) (by decide) (backOfSH (s := s) (vm0 := s.vm) (W := 0) (rmIni4 l Z a0 hw [] a ca cst cs kc n h0 n0 Zc2 I1 OX (hcst : ¬ (cst = (0 : Int32))) I2 I3 I4 I5 (hn : cs.length = n) (hb : n ≤ 13) (hlat : own_lat cs) (ga : n0 ≤ a) (hac : @Ne Nat a ca)) hZ (hw _ (List.mem_of_getElem? (i := 11) rfl)) (hw _ (List.mem_of_getElem? (i := 4) rfl)) (by decide) (by decide) hEL CR.1) (g := (mkF m 6 #[.val (.ref a), .val (.ref ca)] [.null, (.int (Int32.ofNat n)), (.int (0 : Int32)), (.ref ca), (.ref a)])) rfl (by rw [hml]; rfl) (Steps.refl _) (a := a) (argsL := [(.ref ca), (.int (0 : Int32)), (.int (Int32.ofNat n)), .null]) (rest := []) (lenOf pd___CIILjava_lang_Void__V rfl) rfl (by show 2 * 0 + _ ≤ _; exact Nat.le_of_eq rfl) (Jvm.hb hby d_jdk_42_method_3_6) (fun _ _ => ⟨rfl, e0, (by decide : 0 + 4 ≤ _), (by decide : 0 + 13 ≤ _)⟩)
  dsimp only [Pt.U, Pt.locs, Pt.cells, Pt.slots] at Xr3 hSr3 hg3 l3 y3 z3 st3 hQ3 Cp3
  subst l3 y3 z3
  obtain ⟨X3, hS, hZ, hown⟩ := rebS (own := "java/lang/String") hS (by first | exact Nat.le_refl _ | (rw [e0]; exact hk)) Xr3 hSr3 hg3 hZ hown
  obtain ⟨b_3, kb_3, rfl, N3q, K3, Fq3_0, Fq3_1, Fq3_2, Fq3_3⟩ := hQ3
  have N3 := Fr.app N0 N3q
  obtain ⟨h3, e3⟩ : ∃ z, T3.heap = z := ⟨_, rfl⟩
  rw [e3] at K3 Fq3_0 Fq3_1 Fq3_2 Fq3_3 Cp3
  have hk : T3.heap.size ≤ h3.size := Nat.le_of_eq (congrArg Array.size e3)
  have z5 : h0.size ≤ h3.size := K3.1
  have CR := CR.trans Cp3
  have lt3_0 : @LT.lt Nat _ a h3.size := Fq3_0.lt
  have lt3_3 : @LT.lt Nat _ b_3 h3.size := Fq3_3.lt
  have s6 : ∀ t_, Steps p.tables e below (T3.setTop (mkF m 9 #[.val (.ref a), .val (.ref ca)] [])) t_ → Steps p.tables e below (s₁.setTop (entryFrame m #[(.ref a), (.ref ca)] 2)) t_ := fun t_ k_ => s4 t_ (by
    show Steps p.tables e below (s₁.setTop (mkF m 6 #[.val (.ref a), .val (.ref ca)] [.null, (.int (Int32.ofNat n)), (.int (0 : Int32)), (.ref ca), (.ref a)])) t_
    refine st3.trans ?_
    show Steps p.tables e below (T3.setTop (mkF m 9 #[.val (.ref a), .val (.ref ca)] [])) _
    show Steps p.tables e below (T3.setTop (mkF m 9 #[.val (.ref a), .val (.ref ca)] [])) t_
    exact k_)
  obtain ⟨fs, hr, hrun, hended, hREW⟩ := X3.leaveW hS (by first | exact Nat.le_refl _ | (rw [e3]; exact hk)) (v := none) (fun _ => rfl)
  refine ⟨_, _, s6 _ ?_, hrun, hended, _, _, rfl, ?_, (by show CHr Z ELs s.vm s.heap T3.vm T3.heap; rw [hh, e3]; exact CR.trans (CHv.at X3 hZ hEL CR.1)), hREW.1, hREW.2.1, hREW.2.2.1, hREW.2.2.2.mono (by decide) (by decide)⟩
  · show Steps p.tables e below (T3.setTop (mkF m 9 #[.val (.ref a), .val (.ref ca)] [])) _
    exact X3.returnOut hx Bd.returns (Jvm.hb hby d_jdk_42_method_3_9) hr
  · show Q_rmIni1 Z _ _ _ _ _ _ h0 n0 _ T3.heap _
    rw [e3]
    exact ⟨b_3, kb_3, rfl, N3, ((Keep.refl h0 [a]).trans K3 (allS (Or.inl (by simp)) all0)), Fq3_0, Fq3_1, Fq3_2, Fq3_3⟩
theorem d_jdk_42_method_152_0 : decode jdk_42_method_152_code 0 = .ok (.getstatic 38, 3) := by decide +kernel
theorem d_jdk_42_method_152_3 : decode jdk_42_method_152_code 3 = .ok (.ifCond .eq 10, 3) := by decide +kernel
theorem d_jdk_42_method_152_6 : decode jdk_42_method_152_code 6 = .ok (.aload_n 0, 1) := by decide +kernel
theorem d_jdk_42_method_152_7 : decode jdk_42_method_152_code 7 = .ok (.getfield 15, 3) := by decide +kernel
theorem d_jdk_42_method_152_10 : decode jdk_42_method_152_code 10 = .ok (.goto 4, 3) := by decide +kernel
theorem d_jdk_42_method_152_14 : decode jdk_42_method_152_code 14 = .ok (.ireturn, 1) := by decide +kernel
theorem ef_rmCdr (m : MethodId) (x0 : Addr) : entryFrame m #[(.ref x0)] 1 = mkF m 0 #[.val (.ref x0)] [] := by first | (simp [entryFrame, mkF, argsToLocals, Value.category]; done) | rfl
def Q_rmCdr (Z : State) (a : Addr) (cst : Int32) (cs : List Int32) (h0 : Heap) (n0 : Nat) (v : Option Value) (h : Heap) (L : List Loc) : Prop := (v = some (.int (own_cod cs))) ∧ (Fr n0 L) ∧ (h = h0)
set_option maxRecDepth 65536 in
set_option maxHeartbeats 40000000 in
theorem rmCdr (l : Launch) (Z : State) (a0 : Array Value) (hw : ∀ d ∈ tables_1, d.before a0 Z = true) (ws : List Jvm.Cond) (a : Addr) (cst : Int32) (cs : List Int32) (h0 : Heap) (n0 : Nat) (Z0 : n0 ≤ h0.size) (I1 : Sta Z Z.heap "java/lang/String" "COMPACT_STRINGS" "Z" (.int cst)) (OX : Old Z n0 h0) (hcst : ¬ (cst = (0 : Int32))) (I2 : Fld Z h0 a "java/lang/String" "coder" "B" (.int (own_cod cs))) :
    MetFree l (⟨"java/lang/String", "coder", "()B"⟩ : MethodName) (head1 (Jvm.Cond.code (⟨"java/lang/String", "coder", "()B"⟩ : MethodName) jdk_42_method_152_code 1 (some .byte) :: ws) ({ frames := 0, cells := 0, slots := 0, locals := 0 } : Room)) (fun ar_ U => ar_ = #[(.ref a)] ∧ Z.Warmed39 U.vm ∧ U.heap = h0) (fun _ _ _ _ _ => True) (fun _ U o U' => ∃ v L, o = .returned v ∧ Q_rmCdr Z a cst cs h0 n0 v U'.heap L ∧ FrameEnd U o U' L ({ frames := 0, cells := 0, slots := 0, locals := 0 } : Room).cells ({ frames := 0, cells := 0, slots := 0, locals := 0 } : Room).slots) := by
  refine MetFree.of_bodySF (plainFor_of_name pn_java_lang_String) hisR ?_
  intro p e s m args below meth c s₁ Bd hml0 hP hK
  obtain ⟨rfl, hZ, hh⟩ := hP
  have hx := Bd.exec
  have hby := Bd.bytes
  have hml : c.maxLocals = 1 := hml0
  have hown : s.vm.findClass "java/lang/String" = some m.cls := findClass_of_methodNamed Bd.named
  have hnm := (name_of_methodNamed Bd.named Bd.method).1
  have X0 : Stand p l e ({ frames := 0, cells := 0, slots := 0, locals := 0 } : Room) s m #[(.ref a)] below meth c s₁ [] 0 0 := Stand.of_body Bd
  have e0 : s₁.heap = h0 := by rw [← hh, Bd.state]; rfl
  have N0 := Fr.nil n0
  have pre0 : ∀ t_, Steps p.tables e below (s₁.setTop (mkF m 0 #[.val (.ref a)] [])) t_ → Steps p.tables e below (s₁.setTop (entryFrame m #[(.ref a)] 1)) t_ := fun t_ k_ => castTop (ef_rmCdr m a) k_
  have lt_I2 : @LT.lt Nat _ a h0.size := I2.lt
  obtain ⟨T1, X1, e1, st1⟩ := getS2 X0 hx hZ hown (host := "") (Or.inl (hw _ (List.mem_of_getElem? (i := 15) rfl))) Via.refl e0 (I1.ext OX.2) (g := (mkF m 0 #[.val (.ref a)] [])) rfl (Jvm.hb hby d_jdk_42_method_152_0)
  obtain ⟨T2, X2, e2, st2⟩ := getF X1 hx hZ hown (host := "") (Or.inl (hw _ (List.mem_of_getElem? (i := 27) rfl))) Via.refl e1 I2 (g := (mkF m 7 #[.val (.ref a)] [(.ref a)])) rfl rfl (Jvm.hb hby d_jdk_42_method_152_7)
  have s3 : ∀ t_, Steps p.tables e below (T2.setTop (mkF m 14 #[.val (.ref a)] [(.int (own_cod cs))])) t_ → Steps p.tables e below (s₁.setTop (entryFrame m #[(.ref a)] 1)) t_ := fun t_ k_ => pre0 t_ (by
    show Steps p.tables e below (s₁.setTop (mkF m 0 #[.val (.ref a)] [])) t_
    refine st1 _ ?_
    show Steps p.tables e below (T1.setTop (mkF m 3 #[.val (.ref a)] [(.int cst)])) _
    refine XS.ifNo X1.here hx rfl (Jvm.hb hby d_jdk_42_method_152_3) rfl ((if0 _ _).trans (feq hcst).1) ?_
    show Steps p.tables e below (T1.setTop (mkF m 6 #[.val (.ref a)] [])) _
    refine XS.aloadN X1.here hx rfl (Jvm.hb hby d_jdk_42_method_152_6) rfl rfl ?_
    refine st2 _ ?_
    show Steps p.tables e below (T2.setTop (mkF m 10 #[.val (.ref a)] [(.int (own_cod cs))])) _
    refine XS.goto X2.here hx rfl (pc0 := 10) (pc' := 14) rfl (Jvm.hb hby d_jdk_42_method_152_10) (by decide) (by decide) ?_
    show Steps p.tables e below (T2.setTop (mkF m 14 #[.val (.ref a)] [(.int (own_cod cs))])) t_
    exact k_)
  obtain ⟨fs, hr, hrun, hended, hW, hsame⟩ := X2.leave (v := some (.int (nar .byte (own_cod cs)))) (fun h => by rw [Bd.returns] at h; cases h)
  refine ⟨_, _, s3 _ ?_, hrun, hended, _, _, rfl, ?_, ⟨_, rfl⟩, hW, hsame.mono (by decide) (by decide)⟩
  · show Steps p.tables e below (T2.setTop (mkF m 14 #[.val (.ref a)] [(.int (own_cod cs))])) _
    exact retN X2 hx (t := .byte) Bd.returns (by simp) (Jvm.hb hby d_jdk_42_method_152_14) hr
  · show Q_rmCdr Z _ _ _ h0 n0 _ T2.heap _
    rw [e2]
    exact ⟨(by rw [own_cnarb]), N0, rfl⟩
theorem d_jdk_42_method_54_0 : decode jdk_42_method_54_code 0 = .ok (.aload_n 0, 1) := by decide +kernel
theorem d_jdk_42_method_54_1 : decode jdk_42_method_54_code 1 = .ok (.getfield 9, 3) := by decide +kernel
theorem d_jdk_42_method_54_4 : decode jdk_42_method_54_code 4 = .ok (.arraylength, 1) := by decide +kernel
theorem d_jdk_42_method_54_5 : decode jdk_42_method_54_code 5 = .ok (.aload_n 0, 1) := by decide +kernel
theorem pd___B : parseMethodDescriptor "()B" = some ⟨[], some .byte⟩ := by decide +kernel
theorem d_jdk_42_method_54_6 : decode jdk_42_method_54_code 6 = .ok (.invokevirtual 335, 3) := by decide +kernel
theorem d_jdk_42_method_54_9 : decode jdk_42_method_54_code 9 = .ok (.ishr, 1) := by decide +kernel
theorem d_jdk_42_method_54_10 : decode jdk_42_method_54_code 10 = .ok (.ireturn, 1) := by decide +kernel
theorem ef_rmLen (m : MethodId) (x0 : Addr) : entryFrame m #[(.ref x0)] 1 = mkF m 0 #[.val (.ref x0)] [] := by first | (simp [entryFrame, mkF, argsToLocals, Value.category]; done) | rfl
def Q_rmLen (Z : State) (a : Addr) (cst : Int32) (b : Addr) (kb : ClassId) (cs : List Int32) (h0 : Heap) (n0 : Nat) (v : Option Value) (h : Heap) (L : List Loc) : Prop := (v = some (.int (Int32.ofNat cs.length))) ∧ (Fr n0 L) ∧ (h = h0)
set_option maxRecDepth 65536 in
set_option maxHeartbeats 40000000 in
theorem rmLen (l : Launch) (Z : State) (a0 : Array Value) (hw : ∀ d ∈ tables_1, d.before a0 Z = true) (ws : List Jvm.Cond) (a : Addr) (cst : Int32) (b : Addr) (kb : ClassId) (cs : List Int32) (h0 : Heap) (n0 : Nat) (Z0 : n0 ≤ h0.size) (I1 : Sta Z Z.heap "java/lang/String" "COMPACT_STRINGS" "Z" (.int cst)) (OX : Old Z n0 h0) (hcst : ¬ (cst = (0 : Int32))) (I2 : Exa Z h0 a "java/lang/String") (I3 : Fld Z h0 a "java/lang/String" "value" "[B" (.ref b)) (I4 : Fld Z h0 a "java/lang/String" "coder" "B" (.int (own_cod cs))) (I5 : Arv Z h0 b kb .byte (Int32.ofNat (own_enl cs)) (own_enc cs) (.int (0 : Int32))) (hb : cs.length ≤ 13) :
    MetFree l (⟨"java/lang/String", "length", "()I"⟩ : MethodName) (head1 (Jvm.Cond.code (⟨"java/lang/String", "length", "()I"⟩ : MethodName) jdk_42_method_54_code 1 (some .int) :: ws) ({ frames := 1, cells := 0, slots := 0, locals := 13 } : Room)) (fun ar_ U => ar_ = #[(.ref a)] ∧ Z.Warmed39 U.vm ∧ U.heap = h0) (fun _ _ _ _ _ => True) (fun _ U o U' => ∃ v L, o = .returned v ∧ Q_rmLen Z a cst b kb cs h0 n0 v U'.heap L ∧ FrameEnd U o U' L ({ frames := 1, cells := 0, slots := 0, locals := 13 } : Room).cells ({ frames := 1, cells := 0, slots := 0, locals := 13 } : Room).slots) := by
  refine MetFree.of_bodySF (plainFor_of_name pn_java_lang_String) hisR ?_
  intro p e s m args below meth c s₁ Bd hml0 hP hK
  obtain ⟨rfl, hZ, hh⟩ := hP
  have hx := Bd.exec
  have hby := Bd.bytes
  have hml : c.maxLocals = 1 := hml0
  have hown : s.vm.findClass "java/lang/String" = some m.cls := findClass_of_methodNamed Bd.named
  have hnm := (name_of_methodNamed Bd.named Bd.method).1
  have X0 : Stand p l e ({ frames := 1, cells := 0, slots := 0, locals := 13 } : Room) s m #[(.ref a)] below meth c s₁ [] 0 0 := Stand.of_body Bd
  have e0 : s₁.heap = h0 := by rw [← hh, Bd.state]; rfl
  have N0 := Fr.nil n0
  have pre0 : ∀ t_, Steps p.tables e below (s₁.setTop (mkF m 0 #[.val (.ref a)] [])) t_ → Steps p.tables e below (s₁.setTop (entryFrame m #[(.ref a)] 1)) t_ := fun t_ k_ => castTop (ef_rmLen m a) k_
  have lt_I2 : @LT.lt Nat _ a h0.size := I2.lt
  have lt_I3 : @LT.lt Nat _ a h0.size := I3.lt
  have lt_I4 : @LT.lt Nat _ a h0.size := I4.lt
  have lt_I5 : @LT.lt Nat _ b h0.size := I5.lt
  obtain ⟨T1, X1, e1, st1⟩ := getF X0 hx hZ hown (host := "") (Or.inl (hw _ (List.mem_of_getElem? (i := 29) rfl))) Via.refl e0 I3 (g := (mkF m 1 #[.val (.ref a)] [(.ref a)])) rfl rfl (Jvm.hb hby d_jdk_42_method_54_1)
  obtain ⟨cl2, Ar2, -, S2, M2, -, -⟩ := id I5
  have Zc3 : n0 ≤ h0.size := by omega
  obtain ⟨cq4, kq4, q4a, q4b, q4c⟩ := isOf hZ e1 I2
  obtain ⟨_, _, ⟨T4, L4, k4, n4⟩, -, X4, ⟨Lc4, hQ4, l4, y4, z4⟩, st4⟩ := X1.virtualBack hx (y := (⟨"java/lang/String", "coder", "()B"⟩ : MethodName)) (z := (⟨"java/lang/String", "coder", "()B"⟩ : MethodName)) hown (mvT hZ (hw _ (List.mem_of_getElem? (i := 67) rfl))) (mvT hZ (hw _ (List.mem_of_getElem? (i := 68) rfl))) (notFace_of_selects (args := #[]) (mvT hZ (hw _ (List.mem_of_getElem? (i := 70) rfl)))) (mvT hZ (hw _ (List.mem_of_getElem? (i := 70) rfl))) (mvT hZ (hw _ (List.mem_of_getElem? (i := 69) rfl))) (by decide) (backOf (W := 1) (rmCdr l Z a0 hw [] a cst cs h0 n0 Zc3 I1 OX (hcst : ¬ (cst = (0 : Int32))) I4) hZ (hw _ (List.mem_of_getElem? (i := 71) rfl)) (hw _ (List.mem_of_getElem? (i := 4) rfl)) (by decide) (by decide)) q4a q4c (g := (mkF m 6 #[.val (.ref a)] [(.ref a), (.int (Int32.ofNat (own_enl cs)))])) rfl (by rw [hml]; rfl) (Steps.refl _) (argsL := []) (rest := [(.int (Int32.ofNat (own_enl cs)))]) (lenOf pd___B rfl) rfl (by show 2 * 0 + _ ≤ _; exact Nat.le_of_eq rfl) (Jvm.hb hby d_jdk_42_method_54_6) (fun _ _ => ⟨rfl, e1, (by decide : 0 + 0 ≤ _), (by decide : 0 + 0 ≤ _)⟩)
  dsimp only [Pt.U, Pt.locs, Pt.cells, Pt.slots] at X4 l4 y4 z4 st4 hQ4
  subst l4 y4 z4
  obtain ⟨rfl, N4q, e4⟩ := hQ4
  have N4 := Fr.app N0 N4q
  have s5 : ∀ t_, Steps p.tables e below (T4.setTop (mkF m 10 #[.val (.ref a)] [(.int ((Int32.ofNat (own_enl cs)) >>> ((own_cod cs) &&& 31)))])) t_ → Steps p.tables e below (s₁.setTop (entryFrame m #[(.ref a)] 1)) t_ := fun t_ k_ => pre0 t_ (by
    show Steps p.tables e below (s₁.setTop (mkF m 0 #[.val (.ref a)] [])) t_
    refine XS.aloadN X0.here hx rfl (Jvm.hb hby d_jdk_42_method_54_0) rfl rfl ?_
    refine st1 _ ?_
    show Steps p.tables e below (T1.setTop (mkF m 4 #[.val (.ref a)] [(.ref b)])) _
    refine X1.arraylength hx (by rw [e1]; exact Ar2.1) (State.isArrayOf_alike hZ.alike Ar2.2.1) (g := (mkF m 4 #[.val (.ref a)] [(.ref b)])) rfl rfl (Jvm.hb hby d_jdk_42_method_54_4) _ ?_
    rw [len_of S2 M2]
    show Steps p.tables e below (T1.setTop (mkF m 5 #[.val (.ref a)] [(.int (Int32.ofNat (own_enl cs)))])) _
    refine XS.aloadN X1.here hx rfl (Jvm.hb hby d_jdk_42_method_54_5) rfl rfl ?_
    refine st4.trans ?_
    show Steps p.tables e below (T4.setTop (mkF m 9 #[.val (.ref a)] [(.int (own_cod cs)), (.int (Int32.ofNat (own_enl cs)))])) _
    refine XS.ishr X4.here hx rfl (Jvm.hb hby d_jdk_42_method_54_9) rfl ?_
    show Steps p.tables e below (T4.setTop (mkF m 10 #[.val (.ref a)] [(.int ((Int32.ofNat (own_enl cs)) >>> ((own_cod cs) &&& 31)))])) t_
    exact k_)
  obtain ⟨fs, hr, hrun, hended, hW, hsame⟩ := X4.leave (v := some (.int ((Int32.ofNat (own_enl cs)) >>> ((own_cod cs) &&& 31)))) (fun h => by rw [Bd.returns] at h; cases h)
  refine ⟨_, _, s5 _ ?_, hrun, hended, _, _, rfl, ?_, ⟨_, rfl⟩, hW, hsame.mono (by decide) (by decide)⟩
  · show Steps p.tables e below (T4.setTop (mkF m 10 #[.val (.ref a)] [(.int ((Int32.ofNat (own_enl cs)) >>> ((own_cod cs) &&& 31)))])) _
    exact retI X4 hx Bd.returns (Jvm.hb hby d_jdk_42_method_54_10) hr
  · show Q_rmLen Z _ _ _ _ _ h0 n0 _ T4.heap _
    rw [e4]
    exact ⟨(by rw [own_lenq cs (by omega)]), N4, rfl⟩
theorem pn_com_example_odysseus_odysseus_Url : plainName "com/example/odysseus/odysseus/Url" = true := by first | (simp [plainName, overriddenIn]; done) | decide +kernel
theorem d_prog_10_method_2_0 : decode prog_10_method_2_code 0 = .ok (.aload_n 0, 1) := by decide +kernel
theorem d_prog_10_method_2_1 : decode prog_10_method_2_code 1 = .ok (.invokespecial 7, 3) := by decide +kernel
theorem d_prog_10_method_2_4 : decode prog_10_method_2_code 4 = .ok (.aload_n 0, 1) := by decide +kernel
theorem d_prog_10_method_2_5 : decode prog_10_method_2_code 5 = .ok (.aload_n 1, 1) := by decide +kernel
theorem d_prog_10_method_2_6 : decode prog_10_method_2_code 6 = .ok (.putfield 12, 3) := by decide +kernel
theorem d_prog_10_method_2_9 : decode prog_10_method_2_code 9 = .ok (.aload_n 0, 1) := by decide +kernel
theorem d_prog_10_method_2_10 : decode prog_10_method_2_code 10 = .ok (.aload_n 2, 1) := by decide +kernel
theorem d_prog_10_method_2_11 : decode prog_10_method_2_code 11 = .ok (.putfield 16, 3) := by decide +kernel
theorem d_prog_10_method_2_14 : decode prog_10_method_2_code 14 = .ok (.aload_n 0, 1) := by decide +kernel
theorem d_prog_10_method_2_15 : decode prog_10_method_2_code 15 = .ok (.iload_n 3, 1) := by decide +kernel
theorem d_prog_10_method_2_16 : decode prog_10_method_2_code 16 = .ok (.putfield 19, 3) := by decide +kernel
theorem d_prog_10_method_2_19 : decode prog_10_method_2_code 19 = .ok (.aload_n 0, 1) := by decide +kernel
theorem d_prog_10_method_2_20 : decode prog_10_method_2_code 20 = .ok (.aload 4, 2) := by decide +kernel
theorem d_prog_10_method_2_22 : decode prog_10_method_2_code 22 = .ok (.putfield 23, 3) := by decide +kernel
theorem d_prog_10_method_2_25 : decode prog_10_method_2_code 25 = .ok (.aload_n 0, 1) := by decide +kernel
theorem d_prog_10_method_2_26 : decode prog_10_method_2_code 26 = .ok (.aload 5, 2) := by decide +kernel
theorem d_prog_10_method_2_28 : decode prog_10_method_2_code 28 = .ok (.putfield 26, 3) := by decide +kernel
theorem d_prog_10_method_2_31 : decode prog_10_method_2_code 31 = .ok (.aload_n 0, 1) := by decide +kernel
theorem d_prog_10_method_2_32 : decode prog_10_method_2_code 32 = .ok (.aload 6, 2) := by decide +kernel
theorem d_prog_10_method_2_34 : decode prog_10_method_2_code 34 = .ok (.putfield 29, 3) := by decide +kernel
theorem d_prog_10_method_2_37 : decode prog_10_method_2_code 37 = .ok (.aload_n 0, 1) := by decide +kernel
theorem d_prog_10_method_2_38 : decode prog_10_method_2_code 38 = .ok (.iload 7, 2) := by decide +kernel
theorem d_prog_10_method_2_40 : decode prog_10_method_2_code 40 = .ok (.putfield 32, 3) := by decide +kernel
theorem d_prog_10_method_2_43 : decode prog_10_method_2_code 43 = .ok (.aload_n 0, 1) := by decide +kernel
theorem d_prog_10_method_2_44 : decode prog_10_method_2_code 44 = .ok (.aload 8, 2) := by decide +kernel
theorem d_prog_10_method_2_46 : decode prog_10_method_2_code 46 = .ok (.putfield 35, 3) := by decide +kernel
theorem d_prog_10_method_2_49 : decode prog_10_method_2_code 49 = .ok (.return_, 1) := by decide +kernel
theorem ef_rmUi (m : MethodId) (x0 : Addr) (x1 : Addr) (x2 : Addr) (x3 : Int32) (x4 : Int32) (x5 : Addr) : entryFrame m #[(.ref x0), (.ref x1), (.ref x2), (.int x3), .null, .null, .null, (.int x4), (.ref x5)] 9 = mkF m 0 #[.val (.ref x0), .val (.ref x1), .val (.ref x2), .val (.int x3), .val .null, .val .null, .val .null, .val (.int x4), .val (.ref x5)] [] := by first | (simp [entryFrame, mkF, argsToLocals, Value.category]; done) | rfl
def Q_rmUi (Z : State) (a : Addr) (tx : Addr) (sc : Addr) (en : Int32) (po : Int32) (pa : Addr) (h0 : Heap) (n0 : Nat) (v : Option Value) (h : Heap) (L : List Loc) : Prop := (v = none) ∧ (Fr n0 L) ∧ (Keep h0 h [a]) ∧ (Exa Z h a "com/example/odysseus/odysseus/Url") ∧ (Fld Z h a "com/example/odysseus/odysseus/Url" "schemeSpecificEnd" "I" (.int en)) ∧ (Fld Z h a "com/example/odysseus/odysseus/Url" "urlPath" "Ljava/lang/String;" (.ref pa))
set_option maxRecDepth 65536 in
set_option maxHeartbeats 40000000 in
theorem rmUi (l : Launch) (Z : State) (a0 : Array Value) (hw : ∀ d ∈ tables_1, d.before a0 Z = true) (ws : List Jvm.Cond) (a : Addr) (tx : Addr) (sc : Addr) (en : Int32) (po : Int32) (pa : Addr) (h0 : Heap) (n0 : Nat) (Z0 : n0 ≤ h0.size) (I1 : Exa Z h0 a "com/example/odysseus/odysseus/Url") (I2 : Fld Z h0 a "com/example/odysseus/odysseus/Url" "text" "Ljava/lang/String;" .null) (I3 : Fld Z h0 a "com/example/odysseus/odysseus/Url" "scheme" "Ljava/lang/String;" .null) (I4 : Fld Z h0 a "com/example/odysseus/odysseus/Url" "schemeSpecificEnd" "I" (.int (0 : Int32))) (I5 : Fld Z h0 a "com/example/odysseus/odysseus/Url" "user" "Ljava/lang/String;" .null) (I6 : Fld Z h0 a "com/example/odysseus/odysseus/Url" "password" "Ljava/lang/String;" .null) (I7 : Fld Z h0 a "com/example/odysseus/odysseus/Url" "host" "Ljava/lang/String;" .null) (I8 : Fld Z h0 a "com/example/odysseus/odysseus/Url" "port" "I" (.int (0 : Int32))) (I9 : Fld Z h0 a "com/example/odysseus/odysseus/Url" "urlPath" "Ljava/lang/String;" .null) (ga : n0 ≤ a) :
    MetFree l (⟨"com/example/odysseus/odysseus/Url", "<init>", "(Ljava/lang/String;Ljava/lang/String;ILjava/lang/String;Ljava/lang/String;Ljava/lang/String;ILjava/lang/String;)V"⟩ : MethodName) (head1 (Jvm.Cond.code (⟨"com/example/odysseus/odysseus/Url", "<init>", "(Ljava/lang/String;Ljava/lang/String;ILjava/lang/String;Ljava/lang/String;Ljava/lang/String;ILjava/lang/String;)V"⟩ : MethodName) prog_10_method_2_code 9 none :: ws) ({ frames := 1, cells := 0, slots := 0, locals := 12 } : Room)) (fun ar_ U => ar_ = #[(.ref a), (.ref tx), (.ref sc), (.int en), .null, .null, .null, (.int po), (.ref pa)] ∧ Z.Warmed39 U.vm ∧ U.heap = h0) (fun _ _ _ _ _ => True) (fun _ U o U' => ∃ v L, o = .returned v ∧ Q_rmUi Z a tx sc en po pa h0 n0 v U'.heap L ∧ FrameEnd U o U' L ({ frames := 1, cells := 0, slots := 0, locals := 12 } : Room).cells ({ frames := 1, cells := 0, slots := 0, locals := 12 } : Room).slots) := by
  refine MetFree.of_bodySF (plainFor_of_name pn_com_example_odysseus_odysseus_Url) hisR ?_
  intro p e s m args below meth c s₁ Bd hml0 hP hK
  obtain ⟨rfl, hZ, hh⟩ := hP
  have hx := Bd.exec
  have hby := Bd.bytes
  have hml : c.maxLocals = 9 := hml0
  have hown : s.vm.findClass "com/example/odysseus/odysseus/Url" = some m.cls := findClass_of_methodNamed Bd.named
  have hnm := (name_of_methodNamed Bd.named Bd.method).1
  have X0 : Stand p l e ({ frames := 1, cells := 0, slots := 0, locals := 12 } : Room) s m #[(.ref a), (.ref tx), (.ref sc), (.int en), .null, .null, .null, (.int po), (.ref pa)] below meth c s₁ [] 0 0 := Stand.of_body Bd
  have e0 : s₁.heap = h0 := by rw [← hh, Bd.state]; rfl
  have N0 := Fr.nil n0
  have pre0 : ∀ t_, Steps p.tables e below (s₁.setTop (mkF m 0 #[.val (.ref a), .val (.ref tx), .val (.ref sc), .val (.int en), .val .null, .val .null, .val .null, .val (.int po), .val (.ref pa)] [])) t_ → Steps p.tables e below (s₁.setTop (entryFrame m #[(.ref a), (.ref tx), (.ref sc), (.int en), .null, .null, .null, (.int po), (.ref pa)] 9)) t_ := fun t_ k_ => castTop (ef_rmUi m a tx sc en po pa) k_
  have lt_I1 : @LT.lt Nat _ a h0.size := I1.lt
  have lt_I2 : @LT.lt Nat _ a h0.size := I2.lt
  have lt_I3 : @LT.lt Nat _ a h0.size := I3.lt
  have lt_I4 : @LT.lt Nat _ a h0.size := I4.lt
  have lt_I5 : @LT.lt Nat _ a h0.size := I5.lt
  have lt_I6 : @LT.lt Nat _ a h0.size := I6.lt
  have lt_I7 : @LT.lt Nat _ a h0.size := I7.lt
  have lt_I8 : @LT.lt Nat _ a h0.size := I8.lt
  have lt_I9 : @LT.lt Nat _ a h0.size := I9.lt
  obtain ⟨T1, X1, e1, st1⟩ := initO X0 hx hZ hown (hw _ (List.mem_of_getElem? (i := 40) rfl)) (hw _ (List.mem_of_getElem? (i := 13) rfl)) (hw _ (List.mem_of_getElem? (i := 14) rfl)) e0 (g := (mkF m 1 #[.val (.ref a), .val (.ref tx), .val (.ref sc), .val (.int en), .val .null, .val .null, .val .null, .val (.int po), .val (.ref pa)] [(.ref a)])) rfl (by rw [hml]; rfl) rfl (Jvm.hb hby d_prog_10_method_2_1) (by decide) (W := 0) (by show 2 * 0 + _ ≤ _; exact Nat.le_of_eq rfl) (by decide)
  obtain ⟨T2, h2, X2, e2, W2, st2⟩ := putF X1 hx hZ hown (host := "") (Or.inl (hw _ (List.mem_of_getElem? (i := 41) rfl))) Via.refl e1 I2 I1 (Or.inr ⟨(hw _ (List.mem_of_getElem? (i := 42) rfl)), rfl, hnm⟩) (hw _ (List.mem_of_getElem? (i := 35) rfl)) (ty := (.object "java/lang/String")) (by decide) rfl rfl (g := (mkF m 6 #[.val (.ref a), .val (.ref tx), .val (.ref sc), .val (.int en), .val .null, .val .null, .val .null, .val (.int po), .val (.ref pa)] [(.ref tx), (.ref a)])) rfl rfl (Jvm.hb hby d_prog_10_method_2_6)
  have z3 : h0.size ≤ h2.size := Nat.le_of_eq W2.size.symm
  have F2 : Fld Z h2 a "com/example/odysseus/odysseus/Url" "text" "Ljava/lang/String;" (.ref tx) := I2.same W2
  have N2 := Fr.snoc X2 N0 (show n0 ≤ a by omega)
  have f4 : Exa Z h2 a "com/example/odysseus/odysseus/Url" := (I1.wr W2)
  have f5 : Fld Z h2 a "com/example/odysseus/odysseus/Url" "scheme" "Ljava/lang/String;" .null := (I3.other W2 (Or.inr (slot_ne (Or.inr (hw _ (List.mem_of_getElem? (i := 44) rfl))) (Or.inr (hw _ (List.mem_of_getElem? (i := 42) rfl))) (by decide) (t := (.object "java/lang/String")) (t' := (.object "java/lang/String")) (by decide) (by decide))))
  obtain ⟨T6, h6, X6, e6, W6, st6⟩ := putF X2 hx hZ hown (host := "") (Or.inl (hw _ (List.mem_of_getElem? (i := 43) rfl))) Via.refl e2 f5 f4 (Or.inr ⟨(hw _ (List.mem_of_getElem? (i := 44) rfl)), rfl, hnm⟩) (hw _ (List.mem_of_getElem? (i := 35) rfl)) (ty := (.object "java/lang/String")) (by decide) rfl rfl (g := (mkF m 11 #[.val (.ref a), .val (.ref tx), .val (.ref sc), .val (.int en), .val .null, .val .null, .val .null, .val (.int po), .val (.ref pa)] [(.ref sc), (.ref a)])) rfl rfl (Jvm.hb hby d_prog_10_method_2_11)
  have z7 : h2.size ≤ h6.size := Nat.le_of_eq W6.size.symm
  have F6 : Fld Z h6 a "com/example/odysseus/odysseus/Url" "scheme" "Ljava/lang/String;" (.ref sc) := f5.same W6
  have N6 := Fr.snoc X6 N2 (show n0 ≤ a by omega)
  have f8 : Exa Z h6 a "com/example/odysseus/odysseus/Url" := (f4.wr W6)
  have f9 : Fld Z h6 a "com/example/odysseus/odysseus/Url" "schemeSpecificEnd" "I" (.int (0 : Int32)) := ((I4.other W2 (Or.inr (slot_ne (Or.inr (hw _ (List.mem_of_getElem? (i := 46) rfl))) (Or.inr (hw _ (List.mem_of_getElem? (i := 42) rfl))) (by decide) (t := .int) (t' := (.object "java/lang/String")) (by decide) (by decide)))).other W6 (Or.inr (slot_ne (Or.inr (hw _ (List.mem_of_getElem? (i := 46) rfl))) (Or.inr (hw _ (List.mem_of_getElem? (i := 44) rfl))) (by decide) (t := .int) (t' := (.object "java/lang/String")) (by decide) (by decide))))
  obtain ⟨T10, h10, X10, e10, W10, st10⟩ := putF X6 hx hZ hown (host := "") (Or.inl (hw _ (List.mem_of_getElem? (i := 45) rfl))) Via.refl e6 f9 f8 (Or.inr ⟨(hw _ (List.mem_of_getElem? (i := 46) rfl)), rfl, hnm⟩) (hw _ (List.mem_of_getElem? (i := 35) rfl)) (ty := .int) (by decide) rfl rfl (g := (mkF m 16 #[.val (.ref a), .val (.ref tx), .val (.ref sc), .val (.int en), .val .null, .val .null, .val .null, .val (.int po), .val (.ref pa)] [(.int en), (.ref a)])) rfl rfl (Jvm.hb hby d_prog_10_method_2_16)
  have z11 : h6.size ≤ h10.size := Nat.le_of_eq W10.size.symm
  have F10 : Fld Z h10 a "com/example/odysseus/odysseus/Url" "schemeSpecificEnd" "I" (.int en) := f9.same W10
  have N10 := Fr.snoc X10 N6 (show n0 ≤ a by omega)
  have f12 : Exa Z h10 a "com/example/odysseus/odysseus/Url" := (f8.wr W10)
  have f13 : Fld Z h10 a "com/example/odysseus/odysseus/Url" "user" "Ljava/lang/String;" .null := (((I5.other W2 (Or.inr (slot_ne (Or.inr (hw _ (List.mem_of_getElem? (i := 48) rfl))) (Or.inr (hw _ (List.mem_of_getElem? (i := 42) rfl))) (by decide) (t := (.object "java/lang/String")) (t' := (.object "java/lang/String")) (by decide) (by decide)))).other W6 (Or.inr (slot_ne (Or.inr (hw _ (List.mem_of_getElem? (i := 48) rfl))) (Or.inr (hw _ (List.mem_of_getElem? (i := 44) rfl))) (by decide) (t := (.object "java/lang/String")) (t' := (.object "java/lang/String")) (by decide) (by decide)))).other W10 (Or.inr (slot_ne (Or.inr (hw _ (List.mem_of_getElem? (i := 48) rfl))) (Or.inr (hw _ (List.mem_of_getElem? (i := 46) rfl))) (by decide) (t := (.object "java/lang/String")) (t' := .int) (by decide) (by decide))))
  obtain ⟨T14, h14, X14, e14, W14, st14⟩ := putF X10 hx hZ hown (host := "") (Or.inl (hw _ (List.mem_of_getElem? (i := 47) rfl))) Via.refl e10 f13 f12 (Or.inr ⟨(hw _ (List.mem_of_getElem? (i := 48) rfl)), rfl, hnm⟩) (hw _ (List.mem_of_getElem? (i := 35) rfl)) (ty := (.object "java/lang/String")) (by decide) rfl rfl (g := (mkF m 22 #[.val (.ref a), .val (.ref tx), .val (.ref sc), .val (.int en), .val .null, .val .null, .val .null, .val (.int po), .val (.ref pa)] [.null, (.ref a)])) rfl rfl (Jvm.hb hby d_prog_10_method_2_22)
  have z15 : h10.size ≤ h14.size := Nat.le_of_eq W14.size.symm
  have F14 : Fld Z h14 a "com/example/odysseus/odysseus/Url" "user" "Ljava/lang/String;" .null := f13.same W14
  have N14 := Fr.snoc X14 N10 (show n0 ≤ a by omega)
  have f16 : Exa Z h14 a "com/example/odysseus/odysseus/Url" := (f12.wr W14)
  have f17 : Fld Z h14 a "com/example/odysseus/odysseus/Url" "password" "Ljava/lang/String;" .null := ((((I6.other W2 (Or.inr (slot_ne (Or.inr (hw _ (List.mem_of_getElem? (i := 50) rfl))) (Or.inr (hw _ (List.mem_of_getElem? (i := 42) rfl))) (by decide) (t := (.object "java/lang/String")) (t' := (.object "java/lang/String")) (by decide) (by decide)))).other W6 (Or.inr (slot_ne (Or.inr (hw _ (List.mem_of_getElem? (i := 50) rfl))) (Or.inr (hw _ (List.mem_of_getElem? (i := 44) rfl))) (by decide) (t := (.object "java/lang/String")) (t' := (.object "java/lang/String")) (by decide) (by decide)))).other W10 (Or.inr (slot_ne (Or.inr (hw _ (List.mem_of_getElem? (i := 50) rfl))) (Or.inr (hw _ (List.mem_of_getElem? (i := 46) rfl))) (by decide) (t := (.object "java/lang/String")) (t' := .int) (by decide) (by decide)))).other W14 (Or.inr (slot_ne (Or.inr (hw _ (List.mem_of_getElem? (i := 50) rfl))) (Or.inr (hw _ (List.mem_of_getElem? (i := 48) rfl))) (by decide) (t := (.object "java/lang/String")) (t' := (.object "java/lang/String")) (by decide) (by decide))))
  obtain ⟨T18, h18, X18, e18, W18, st18⟩ := putF X14 hx hZ hown (host := "") (Or.inl (hw _ (List.mem_of_getElem? (i := 49) rfl))) Via.refl e14 f17 f16 (Or.inr ⟨(hw _ (List.mem_of_getElem? (i := 50) rfl)), rfl, hnm⟩) (hw _ (List.mem_of_getElem? (i := 35) rfl)) (ty := (.object "java/lang/String")) (by decide) rfl rfl (g := (mkF m 28 #[.val (.ref a), .val (.ref tx), .val (.ref sc), .val (.int en), .val .null, .val .null, .val .null, .val (.int po), .val (.ref pa)] [.null, (.ref a)])) rfl rfl (Jvm.hb hby d_prog_10_method_2_28)
  have z19 : h14.size ≤ h18.size := Nat.le_of_eq W18.size.symm
  have F18 : Fld Z h18 a "com/example/odysseus/odysseus/Url" "password" "Ljava/lang/String;" .null := f17.same W18
  have N18 := Fr.snoc X18 N14 (show n0 ≤ a by omega)
  have f20 : Exa Z h18 a "com/example/odysseus/odysseus/Url" := (f16.wr W18)
  have f21 : Fld Z h18 a "com/example/odysseus/odysseus/Url" "host" "Ljava/lang/String;" .null := (((((I7.other W2 (Or.inr (slot_ne (Or.inr (hw _ (List.mem_of_getElem? (i := 52) rfl))) (Or.inr (hw _ (List.mem_of_getElem? (i := 42) rfl))) (by decide) (t := (.object "java/lang/String")) (t' := (.object "java/lang/String")) (by decide) (by decide)))).other W6 (Or.inr (slot_ne (Or.inr (hw _ (List.mem_of_getElem? (i := 52) rfl))) (Or.inr (hw _ (List.mem_of_getElem? (i := 44) rfl))) (by decide) (t := (.object "java/lang/String")) (t' := (.object "java/lang/String")) (by decide) (by decide)))).other W10 (Or.inr (slot_ne (Or.inr (hw _ (List.mem_of_getElem? (i := 52) rfl))) (Or.inr (hw _ (List.mem_of_getElem? (i := 46) rfl))) (by decide) (t := (.object "java/lang/String")) (t' := .int) (by decide) (by decide)))).other W14 (Or.inr (slot_ne (Or.inr (hw _ (List.mem_of_getElem? (i := 52) rfl))) (Or.inr (hw _ (List.mem_of_getElem? (i := 48) rfl))) (by decide) (t := (.object "java/lang/String")) (t' := (.object "java/lang/String")) (by decide) (by decide)))).other W18 (Or.inr (slot_ne (Or.inr (hw _ (List.mem_of_getElem? (i := 52) rfl))) (Or.inr (hw _ (List.mem_of_getElem? (i := 50) rfl))) (by decide) (t := (.object "java/lang/String")) (t' := (.object "java/lang/String")) (by decide) (by decide))))
  obtain ⟨T22, h22, X22, e22, W22, st22⟩ := putF X18 hx hZ hown (host := "") (Or.inl (hw _ (List.mem_of_getElem? (i := 51) rfl))) Via.refl e18 f21 f20 (Or.inr ⟨(hw _ (List.mem_of_getElem? (i := 52) rfl)), rfl, hnm⟩) (hw _ (List.mem_of_getElem? (i := 35) rfl)) (ty := (.object "java/lang/String")) (by decide) rfl rfl (g := (mkF m 34 #[.val (.ref a), .val (.ref tx), .val (.ref sc), .val (.int en), .val .null, .val .null, .val .null, .val (.int po), .val (.ref pa)] [.null, (.ref a)])) rfl rfl (Jvm.hb hby d_prog_10_method_2_34)
  have z23 : h18.size ≤ h22.size := Nat.le_of_eq W22.size.symm
  have F22 : Fld Z h22 a "com/example/odysseus/odysseus/Url" "host" "Ljava/lang/String;" .null := f21.same W22
  have N22 := Fr.snoc X22 N18 (show n0 ≤ a by omega)
  have f24 : Exa Z h22 a "com/example/odysseus/odysseus/Url" := (f20.wr W22)
  have f25 : Fld Z h22 a "com/example/odysseus/odysseus/Url" "port" "I" (.int (0 : Int32)) := ((((((I8.other W2 (Or.inr (slot_ne (Or.inr (hw _ (List.mem_of_getElem? (i := 54) rfl))) (Or.inr (hw _ (List.mem_of_getElem? (i := 42) rfl))) (by decide) (t := .int) (t' := (.object "java/lang/String")) (by decide) (by decide)))).other W6 (Or.inr (slot_ne (Or.inr (hw _ (List.mem_of_getElem? (i := 54) rfl))) (Or.inr (hw _ (List.mem_of_getElem? (i := 44) rfl))) (by decide) (t := .int) (t' := (.object "java/lang/String")) (by decide) (by decide)))).other W10 (Or.inr (slot_ne (Or.inr (hw _ (List.mem_of_getElem? (i := 54) rfl))) (Or.inr (hw _ (List.mem_of_getElem? (i := 46) rfl))) (by decide) (t := .int) (t' := .int) (by decide) (by decide)))).other W14 (Or.inr (slot_ne (Or.inr (hw _ (List.mem_of_getElem? (i := 54) rfl))) (Or.inr (hw _ (List.mem_of_getElem? (i := 48) rfl))) (by decide) (t := .int) (t' := (.object "java/lang/String")) (by decide) (by decide)))).other W18 (Or.inr (slot_ne (Or.inr (hw _ (List.mem_of_getElem? (i := 54) rfl))) (Or.inr (hw _ (List.mem_of_getElem? (i := 50) rfl))) (by decide) (t := .int) (t' := (.object "java/lang/String")) (by decide) (by decide)))).other W22 (Or.inr (slot_ne (Or.inr (hw _ (List.mem_of_getElem? (i := 54) rfl))) (Or.inr (hw _ (List.mem_of_getElem? (i := 52) rfl))) (by decide) (t := .int) (t' := (.object "java/lang/String")) (by decide) (by decide))))
  obtain ⟨T26, h26, X26, e26, W26, st26⟩ := putF X22 hx hZ hown (host := "") (Or.inl (hw _ (List.mem_of_getElem? (i := 53) rfl))) Via.refl e22 f25 f24 (Or.inr ⟨(hw _ (List.mem_of_getElem? (i := 54) rfl)), rfl, hnm⟩) (hw _ (List.mem_of_getElem? (i := 35) rfl)) (ty := .int) (by decide) rfl rfl (g := (mkF m 40 #[.val (.ref a), .val (.ref tx), .val (.ref sc), .val (.int en), .val .null, .val .null, .val .null, .val (.int po), .val (.ref pa)] [(.int po), (.ref a)])) rfl rfl (Jvm.hb hby d_prog_10_method_2_40)
  have z27 : h22.size ≤ h26.size := Nat.le_of_eq W26.size.symm
  have F26 : Fld Z h26 a "com/example/odysseus/odysseus/Url" "port" "I" (.int po) := f25.same W26
  have N26 := Fr.snoc X26 N22 (show n0 ≤ a by omega)
  have f28 : Exa Z h26 a "com/example/odysseus/odysseus/Url" := (f24.wr W26)
  have f29 : Fld Z h26 a "com/example/odysseus/odysseus/Url" "urlPath" "Ljava/lang/String;" .null := (((((((I9.other W2 (Or.inr (slot_ne (Or.inr (hw _ (List.mem_of_getElem? (i := 56) rfl))) (Or.inr (hw _ (List.mem_of_getElem? (i := 42) rfl))) (by decide) (t := (.object "java/lang/String")) (t' := (.object "java/lang/String")) (by decide) (by decide)))).other W6 (Or.inr (slot_ne (Or.inr (hw _ (List.mem_of_getElem? (i := 56) rfl))) (Or.inr (hw _ (List.mem_of_getElem? (i := 44) rfl))) (by decide) (t := (.object "java/lang/String")) (t' := (.object "java/lang/String")) (by decide) (by decide)))).other W10 (Or.inr (slot_ne (Or.inr (hw _ (List.mem_of_getElem? (i := 56) rfl))) (Or.inr (hw _ (List.mem_of_getElem? (i := 46) rfl))) (by decide) (t := (.object "java/lang/String")) (t' := .int) (by decide) (by decide)))).other W14 (Or.inr (slot_ne (Or.inr (hw _ (List.mem_of_getElem? (i := 56) rfl))) (Or.inr (hw _ (List.mem_of_getElem? (i := 48) rfl))) (by decide) (t := (.object "java/lang/String")) (t' := (.object "java/lang/String")) (by decide) (by decide)))).other W18 (Or.inr (slot_ne (Or.inr (hw _ (List.mem_of_getElem? (i := 56) rfl))) (Or.inr (hw _ (List.mem_of_getElem? (i := 50) rfl))) (by decide) (t := (.object "java/lang/String")) (t' := (.object "java/lang/String")) (by decide) (by decide)))).other W22 (Or.inr (slot_ne (Or.inr (hw _ (List.mem_of_getElem? (i := 56) rfl))) (Or.inr (hw _ (List.mem_of_getElem? (i := 52) rfl))) (by decide) (t := (.object "java/lang/String")) (t' := (.object "java/lang/String")) (by decide) (by decide)))).other W26 (Or.inr (slot_ne (Or.inr (hw _ (List.mem_of_getElem? (i := 56) rfl))) (Or.inr (hw _ (List.mem_of_getElem? (i := 54) rfl))) (by decide) (t := (.object "java/lang/String")) (t' := .int) (by decide) (by decide))))
  obtain ⟨T30, h30, X30, e30, W30, st30⟩ := putF X26 hx hZ hown (host := "") (Or.inl (hw _ (List.mem_of_getElem? (i := 55) rfl))) Via.refl e26 f29 f28 (Or.inr ⟨(hw _ (List.mem_of_getElem? (i := 56) rfl)), rfl, hnm⟩) (hw _ (List.mem_of_getElem? (i := 35) rfl)) (ty := (.object "java/lang/String")) (by decide) rfl rfl (g := (mkF m 46 #[.val (.ref a), .val (.ref tx), .val (.ref sc), .val (.int en), .val .null, .val .null, .val .null, .val (.int po), .val (.ref pa)] [(.ref pa), (.ref a)])) rfl rfl (Jvm.hb hby d_prog_10_method_2_46)
  have z31 : h26.size ≤ h30.size := Nat.le_of_eq W30.size.symm
  have F30 : Fld Z h30 a "com/example/odysseus/odysseus/Url" "urlPath" "Ljava/lang/String;" (.ref pa) := f29.same W30
  have N30 := Fr.snoc X30 N26 (show n0 ≤ a by omega)
  have s32 : ∀ t_, Steps p.tables e below (T30.setTop (mkF m 49 #[.val (.ref a), .val (.ref tx), .val (.ref sc), .val (.int en), .val .null, .val .null, .val .null, .val (.int po), .val (.ref pa)] [])) t_ → Steps p.tables e below (s₁.setTop (entryFrame m #[(.ref a), (.ref tx), (.ref sc), (.int en), .null, .null, .null, (.int po), (.ref pa)] 9)) t_ := fun t_ k_ => pre0 t_ (by
    show Steps p.tables e below (s₁.setTop (mkF m 0 #[.val (.ref a), .val (.ref tx), .val (.ref sc), .val (.int en), .val .null, .val .null, .val .null, .val (.int po), .val (.ref pa)] [])) t_
    refine XS.aloadN X0.here hx rfl (Jvm.hb hby d_prog_10_method_2_0) rfl rfl ?_
    refine st1 _ ?_
    show Steps p.tables e below (T1.setTop (mkF m 4 #[.val (.ref a), .val (.ref tx), .val (.ref sc), .val (.int en), .val .null, .val .null, .val .null, .val (.int po), .val (.ref pa)] [])) _
    refine XS.aloadN X1.here hx rfl (Jvm.hb hby d_prog_10_method_2_4) rfl rfl ?_
    refine XS.aloadN X1.here hx rfl (Jvm.hb hby d_prog_10_method_2_5) rfl rfl ?_
    refine st2 _ ?_
    show Steps p.tables e below (T2.setTop (mkF m 9 #[.val (.ref a), .val (.ref tx), .val (.ref sc), .val (.int en), .val .null, .val .null, .val .null, .val (.int po), .val (.ref pa)] [])) _
    refine XS.aloadN X2.here hx rfl (Jvm.hb hby d_prog_10_method_2_9) rfl rfl ?_
    refine XS.aloadN X2.here hx rfl (Jvm.hb hby d_prog_10_method_2_10) rfl rfl ?_
    refine st6 _ ?_
    show Steps p.tables e below (T6.setTop (mkF m 14 #[.val (.ref a), .val (.ref tx), .val (.ref sc), .val (.int en), .val .null, .val .null, .val .null, .val (.int po), .val (.ref pa)] [])) _
    refine XS.aloadN X6.here hx rfl (Jvm.hb hby d_prog_10_method_2_14) rfl rfl ?_
    refine XS.iloadN X6.here hx rfl (Jvm.hb hby d_prog_10_method_2_15) rfl ?_
    refine st10 _ ?_
    show Steps p.tables e below (T10.setTop (mkF m 19 #[.val (.ref a), .val (.ref tx), .val (.ref sc), .val (.int en), .val .null, .val .null, .val .null, .val (.int po), .val (.ref pa)] [])) _
    refine XS.aloadN X10.here hx rfl (Jvm.hb hby d_prog_10_method_2_19) rfl rfl ?_
    refine XS.aload X10.here hx rfl (Jvm.hb hby d_prog_10_method_2_20) rfl rfl ?_
    refine st14 _ ?_
    show Steps p.tables e below (T14.setTop (mkF m 25 #[.val (.ref a), .val (.ref tx), .val (.ref sc), .val (.int en), .val .null, .val .null, .val .null, .val (.int po), .val (.ref pa)] [])) _
    refine XS.aloadN X14.here hx rfl (Jvm.hb hby d_prog_10_method_2_25) rfl rfl ?_
    refine XS.aload X14.here hx rfl (Jvm.hb hby d_prog_10_method_2_26) rfl rfl ?_
    refine st18 _ ?_
    show Steps p.tables e below (T18.setTop (mkF m 31 #[.val (.ref a), .val (.ref tx), .val (.ref sc), .val (.int en), .val .null, .val .null, .val .null, .val (.int po), .val (.ref pa)] [])) _
    refine XS.aloadN X18.here hx rfl (Jvm.hb hby d_prog_10_method_2_31) rfl rfl ?_
    refine XS.aload X18.here hx rfl (Jvm.hb hby d_prog_10_method_2_32) rfl rfl ?_
    refine st22 _ ?_
    show Steps p.tables e below (T22.setTop (mkF m 37 #[.val (.ref a), .val (.ref tx), .val (.ref sc), .val (.int en), .val .null, .val .null, .val .null, .val (.int po), .val (.ref pa)] [])) _
    refine XS.aloadN X22.here hx rfl (Jvm.hb hby d_prog_10_method_2_37) rfl rfl ?_
    refine XS.iload X22.here hx rfl (Jvm.hb hby d_prog_10_method_2_38) rfl ?_
    refine st26 _ ?_
    show Steps p.tables e below (T26.setTop (mkF m 43 #[.val (.ref a), .val (.ref tx), .val (.ref sc), .val (.int en), .val .null, .val .null, .val .null, .val (.int po), .val (.ref pa)] [])) _
    refine XS.aloadN X26.here hx rfl (Jvm.hb hby d_prog_10_method_2_43) rfl rfl ?_
    refine XS.aload X26.here hx rfl (Jvm.hb hby d_prog_10_method_2_44) rfl rfl ?_
    refine st30 _ ?_
    show Steps p.tables e below (T30.setTop (mkF m 49 #[.val (.ref a), .val (.ref tx), .val (.ref sc), .val (.int en), .val .null, .val .null, .val .null, .val (.int po), .val (.ref pa)] [])) _
    show Steps p.tables e below (T30.setTop (mkF m 49 #[.val (.ref a), .val (.ref tx), .val (.ref sc), .val (.int en), .val .null, .val .null, .val .null, .val (.int po), .val (.ref pa)] [])) t_
    exact k_)
  obtain ⟨fs, hr, hrun, hended, hW, hsame⟩ := X30.leave (v := none) (fun _ => rfl)
  have f33 : Exa Z h30 a "com/example/odysseus/odysseus/Url" := (f28.wr W30)
  have f34 : Fld Z h30 a "com/example/odysseus/odysseus/Url" "schemeSpecificEnd" "I" (.int en) := (((((F10.other W14 (Or.inr (slot_ne (Or.inr (hw _ (List.mem_of_getElem? (i := 46) rfl))) (Or.inr (hw _ (List.mem_of_getElem? (i := 48) rfl))) (by decide) (t := .int) (t' := (.object "java/lang/String")) (by decide) (by decide)))).other W18 (Or.inr (slot_ne (Or.inr (hw _ (List.mem_of_getElem? (i := 46) rfl))) (Or.inr (hw _ (List.mem_of_getElem? (i := 50) rfl))) (by decide) (t := .int) (t' := (.object "java/lang/String")) (by decide) (by decide)))).other W22 (Or.inr (slot_ne (Or.inr (hw _ (List.mem_of_getElem? (i := 46) rfl))) (Or.inr (hw _ (List.mem_of_getElem? (i := 52) rfl))) (by decide) (t := .int) (t' := (.object "java/lang/String")) (by decide) (by decide)))).other W26 (Or.inr (slot_ne (Or.inr (hw _ (List.mem_of_getElem? (i := 46) rfl))) (Or.inr (hw _ (List.mem_of_getElem? (i := 54) rfl))) (by decide) (t := .int) (t' := .int) (by decide) (by decide)))).other W30 (Or.inr (slot_ne (Or.inr (hw _ (List.mem_of_getElem? (i := 46) rfl))) (Or.inr (hw _ (List.mem_of_getElem? (i := 56) rfl))) (by decide) (t := .int) (t' := (.object "java/lang/String")) (by decide) (by decide))))
  refine ⟨_, _, s32 _ ?_, hrun, hended, _, _, rfl, ?_, ⟨_, rfl⟩, hW, hsame.mono (by decide) (by decide)⟩
  · show Steps p.tables e below (T30.setTop (mkF m 49 #[.val (.ref a), .val (.ref tx), .val (.ref sc), .val (.int en), .val .null, .val .null, .val .null, .val (.int po), .val (.ref pa)] [])) _
    exact X30.returnOut hx Bd.returns (Jvm.hb hby d_prog_10_method_2_49) hr
  · show Q_rmUi Z _ _ _ _ _ _ h0 n0 _ T30.heap _
    rw [e30]
    exact ⟨rfl, N30, (((((((((Keep.refl h0 [a]).wr W2 (Or.inl (by simp))).wr W6 (Or.inl (by simp))).wr W10 (Or.inl (by simp))).wr W14 (Or.inl (by simp))).wr W18 (Or.inl (by simp))).wr W22 (Or.inl (by simp))).wr W26 (Or.inl (by simp))).wr W30 (Or.inl (by simp))), f33, f34, F30⟩
theorem d_prog_10_method_17_0 : decode prog_10_method_17_code 0 = .ok (.aload_n 0, 1) := by decide +kernel
theorem d_prog_10_method_17_1 : decode prog_10_method_17_code 1 = .ok (.getfield 19, 3) := by decide +kernel
theorem d_prog_10_method_17_4 : decode prog_10_method_17_code 4 = .ok (.aload_n 0, 1) := by decide +kernel
theorem d_prog_10_method_17_5 : decode prog_10_method_17_code 5 = .ok (.getfield 35, 3) := by decide +kernel
theorem pd___I : parseMethodDescriptor "()I" = some ⟨[], some .int⟩ := by decide +kernel
theorem d_prog_10_method_17_8 : decode prog_10_method_17_code 8 = .ok (.invokevirtual 73, 3) := by decide +kernel
theorem d_prog_10_method_17_11 : decode prog_10_method_17_code 11 = .ok (.isub, 1) := by decide +kernel
theorem d_prog_10_method_17_12 : decode prog_10_method_17_code 12 = .ok (.ireturn, 1) := by decide +kernel
theorem ef_rmPix (m : MethodId) (x0 : Addr) : entryFrame m #[(.ref x0)] 1 = mkF m 0 #[.val (.ref x0)] [] := by first | (simp [entryFrame, mkF, argsToLocals, Value.category]; done) | rfl
def Q_rmPix (Z : State) (a : Addr) (en : Int32) (pa : Addr) (cst : Int32) (b : Addr) (kb : ClassId) (cs : List Int32) (h0 : Heap) (n0 : Nat) (v : Option Value) (h : Heap) (L : List Loc) : Prop := (v = some (.int (en - (Int32.ofNat cs.length)))) ∧ (Fr n0 L) ∧ (h = h0)
set_option maxRecDepth 65536 in
set_option maxHeartbeats 40000000 in
theorem rmPix (l : Launch) (Z : State) (a0 : Array Value) (hw : ∀ d ∈ tables_1, d.before a0 Z = true) (ws : List Jvm.Cond) (a : Addr) (en : Int32) (pa : Addr) (cst : Int32) (b : Addr) (kb : ClassId) (cs : List Int32) (h0 : Heap) (n0 : Nat) (Z0 : n0 ≤ h0.size) (I1 : Sta Z Z.heap "java/lang/String" "COMPACT_STRINGS" "Z" (.int cst)) (OX : Old Z n0 h0) (hcst : ¬ (cst = (0 : Int32))) (I2 : Exa Z h0 a "com/example/odysseus/odysseus/Url") (I3 : Fld Z h0 a "com/example/odysseus/odysseus/Url" "schemeSpecificEnd" "I" (.int en)) (I4 : Fld Z h0 a "com/example/odysseus/odysseus/Url" "urlPath" "Ljava/lang/String;" (.ref pa)) (I5 : Exa Z h0 pa "java/lang/String") (I6 : Fld Z h0 pa "java/lang/String" "value" "[B" (.ref b)) (I7 : Fld Z h0 pa "java/lang/String" "coder" "B" (.int (own_cod cs))) (I8 : Arv Z h0 b kb .byte (Int32.ofNat (own_enl cs)) (own_enc cs) (.int (0 : Int32))) (hb : cs.length ≤ 13) :
    MetFree l (⟨"com/example/odysseus/odysseus/Url", "urlPathIndex", "()I"⟩ : MethodName) (head1 (Jvm.Cond.code (⟨"com/example/odysseus/odysseus/Url", "urlPathIndex", "()I"⟩ : MethodName) prog_10_method_17_code 1 (some .int) :: ws) ({ frames := 2, cells := 0, slots := 0, locals := 26 } : Room)) (fun ar_ U => ar_ = #[(.ref a)] ∧ Z.Warmed39 U.vm ∧ U.heap = h0) (fun _ _ _ _ _ => True) (fun _ U o U' => ∃ v L, o = .returned v ∧ Q_rmPix Z a en pa cst b kb cs h0 n0 v U'.heap L ∧ FrameEnd U o U' L ({ frames := 2, cells := 0, slots := 0, locals := 26 } : Room).cells ({ frames := 2, cells := 0, slots := 0, locals := 26 } : Room).slots) := by
  refine MetFree.of_bodySF (plainFor_of_name pn_com_example_odysseus_odysseus_Url) hisR ?_
  intro p e s m args below meth c s₁ Bd hml0 hP hK
  obtain ⟨rfl, hZ, hh⟩ := hP
  have hx := Bd.exec
  have hby := Bd.bytes
  have hml : c.maxLocals = 1 := hml0
  have hown : s.vm.findClass "com/example/odysseus/odysseus/Url" = some m.cls := findClass_of_methodNamed Bd.named
  have hnm := (name_of_methodNamed Bd.named Bd.method).1
  have X0 : Stand p l e ({ frames := 2, cells := 0, slots := 0, locals := 26 } : Room) s m #[(.ref a)] below meth c s₁ [] 0 0 := Stand.of_body Bd
  have e0 : s₁.heap = h0 := by rw [← hh, Bd.state]; rfl
  have N0 := Fr.nil n0
  have pre0 : ∀ t_, Steps p.tables e below (s₁.setTop (mkF m 0 #[.val (.ref a)] [])) t_ → Steps p.tables e below (s₁.setTop (entryFrame m #[(.ref a)] 1)) t_ := fun t_ k_ => castTop (ef_rmPix m a) k_
  have lt_I2 : @LT.lt Nat _ a h0.size := I2.lt
  have lt_I3 : @LT.lt Nat _ a h0.size := I3.lt
  have lt_I4 : @LT.lt Nat _ a h0.size := I4.lt
  have lt_I5 : @LT.lt Nat _ pa h0.size := I5.lt
  have lt_I6 : @LT.lt Nat _ pa h0.size := I6.lt
  have lt_I7 : @LT.lt Nat _ pa h0.size := I7.lt
  have lt_I8 : @LT.lt Nat _ b h0.size := I8.lt
  obtain ⟨T1, X1, e1, st1⟩ := getF X0 hx hZ hown (host := "") (Or.inl (hw _ (List.mem_of_getElem? (i := 45) rfl))) Via.refl e0 I3 (g := (mkF m 1 #[.val (.ref a)] [(.ref a)])) rfl rfl (Jvm.hb hby d_prog_10_method_17_1)
  obtain ⟨T2, X2, e2, st2⟩ := getF X1 hx hZ hown (host := "") (Or.inl (hw _ (List.mem_of_getElem? (i := 55) rfl))) Via.refl e1 I4 (g := (mkF m 5 #[.val (.ref a)] [(.ref a), (.int en)])) rfl rfl (Jvm.hb hby d_prog_10_method_17_5)
  have Zc3 : n0 ≤ h0.size := by omega
  obtain ⟨cq4, kq4, q4a, q4b, q4c⟩ := isOf hZ e2 I5
  obtain ⟨_, _, ⟨T4, L4, k4, n4⟩, -, X4, ⟨Lc4, hQ4, l4, y4, z4⟩, st4⟩ := X2.virtualBack hx (y := (⟨"java/lang/String", "length", "()I"⟩ : MethodName)) (z := (⟨"java/lang/String", "length", "()I"⟩ : MethodName)) hown (mvT hZ (hw _ (List.mem_of_getElem? (i := 62) rfl))) (mvT hZ (hw _ (List.mem_of_getElem? (i := 63) rfl))) (notFace_of_selects (args := #[]) (mvT hZ (hw _ (List.mem_of_getElem? (i := 65) rfl)))) (mvT hZ (hw _ (List.mem_of_getElem? (i := 65) rfl))) (mvT hZ (hw _ (List.mem_of_getElem? (i := 64) rfl))) (by decide) (backOf (W := 1) (rmLen l Z a0 hw [] pa cst b kb cs h0 n0 Zc3 I1 OX (hcst : ¬ (cst = (0 : Int32))) I5 I6 I7 I8 (hb : cs.length ≤ 13)) hZ (hw _ (List.mem_of_getElem? (i := 66) rfl)) (hw _ (List.mem_of_getElem? (i := 4) rfl)) (by decide) (by decide)) q4a q4c (g := (mkF m 8 #[.val (.ref a)] [(.ref pa), (.int en)])) rfl (by rw [hml]; rfl) (Steps.refl _) (argsL := []) (rest := [(.int en)]) (lenOf pd___I rfl) rfl (by show 2 * 0 + _ ≤ _; exact Nat.le_of_eq rfl) (Jvm.hb hby d_prog_10_method_17_8) (fun _ _ => ⟨rfl, e2, (by decide : 0 + 0 ≤ _), (by decide : 0 + 0 ≤ _)⟩)
  dsimp only [Pt.U, Pt.locs, Pt.cells, Pt.slots] at X4 l4 y4 z4 st4 hQ4
  subst l4 y4 z4
  obtain ⟨rfl, N4q, e4⟩ := hQ4
  have N4 := Fr.app N0 N4q
  have s5 : ∀ t_, Steps p.tables e below (T4.setTop (mkF m 12 #[.val (.ref a)] [(.int (en - (Int32.ofNat cs.length)))])) t_ → Steps p.tables e below (s₁.setTop (entryFrame m #[(.ref a)] 1)) t_ := fun t_ k_ => pre0 t_ (by
    show Steps p.tables e below (s₁.setTop (mkF m 0 #[.val (.ref a)] [])) t_
    refine XS.aloadN X0.here hx rfl (Jvm.hb hby d_prog_10_method_17_0) rfl rfl ?_
    refine st1 _ ?_
    show Steps p.tables e below (T1.setTop (mkF m 4 #[.val (.ref a)] [(.int en)])) _
    refine XS.aloadN X1.here hx rfl (Jvm.hb hby d_prog_10_method_17_4) rfl rfl ?_
    refine st2 _ ?_
    show Steps p.tables e below (T2.setTop (mkF m 8 #[.val (.ref a)] [(.ref pa), (.int en)])) _
    refine st4.trans ?_
    show Steps p.tables e below (T4.setTop (mkF m 11 #[.val (.ref a)] [(.int (Int32.ofNat cs.length)), (.int en)])) _
    refine XS.isub X4.here hx rfl (Jvm.hb hby d_prog_10_method_17_11) rfl ?_
    show Steps p.tables e below (T4.setTop (mkF m 12 #[.val (.ref a)] [(.int (en - (Int32.ofNat cs.length)))])) t_
    exact k_)
  obtain ⟨fs, hr, hrun, hended, hW, hsame⟩ := X4.leave (v := some (.int (en - (Int32.ofNat cs.length)))) (fun h => by rw [Bd.returns] at h; cases h)
  refine ⟨_, _, s5 _ ?_, hrun, hended, _, _, rfl, ?_, ⟨_, rfl⟩, hW, hsame.mono (by decide) (by decide)⟩
  · show Steps p.tables e below (T4.setTop (mkF m 12 #[.val (.ref a)] [(.int (en - (Int32.ofNat cs.length)))])) _
    exact retI X4 hx Bd.returns (Jvm.hb hby d_prog_10_method_17_12) hr
  · show Q_rmPix Z _ _ _ _ _ _ _ h0 n0 _ T4.heap _
    rw [e4]
    exact ⟨rfl, N4, rfl⟩
theorem pn_com_example_odysseus_odysseus_UrlUrlPathIndexPinLaw : plainName "com/example/odysseus/odysseus/UrlUrlPathIndexPinLaw" = true := by first | (simp [plainName, overriddenIn]; done) | decide +kernel
theorem pd___C_V : parseMethodDescriptor "([C)V" = some ⟨[(.array .char)], none⟩ := by decide +kernel
theorem pd__Ljava_lang_String_Ljava_lang_String_ILjava_lang_String_Ljava_lang_String_Ljava_lang_String_ILjava_lang_String__V : parseMethodDescriptor "(Ljava/lang/String;Ljava/lang/String;ILjava/lang/String;Ljava/lang/String;Ljava/lang/String;ILjava/lang/String;)V" = some ⟨[(.object "java/lang/String"), (.object "java/lang/String"), .int, (.object "java/lang/String"), (.object "java/lang/String"), (.object "java/lang/String"), .int, (.object "java/lang/String")], none⟩ := by decide +kernel
theorem ef_rmLaw (m : MethodId) (x0 : Int32) (x1 : Int32) (x2 : Int64) : entryFrame m #[(.int x0), (.int x1), (.long x2)] maxLocals = mkF m 0 #[.val (.int x0), .val (.int x1), .val (.long x2), .second, .unset, .unset, .unset, .unset, .unset, .unset, .unset, .unset, .unset, .unset, .unset, .unset, .unset, .unset, .unset, .unset, .unset, .unset] [] := by first | (simp [entryFrame, mkF, argsToLocals, Value.category, maxLocals]; done) | rfl
def Q_rmLaw (Z : State) (layout : Int32) (shape : Int32) (lc : Int64) (cst : Int32) (h0 : Heap) (n0 : Nat) (v : Option Value) (h : Heap) (L : List Loc) : Prop := v = some (.int 1) ∧ Fr n0 L
set_option maxRecDepth 65536 in
set_option maxHeartbeats 40000000 in
theorem rmLaw (l : Launch) (Z : State) (a0 : Array Value) (hw : ∀ d ∈ tables_1, d.before a0 Z = true) (ws : List Jvm.Cond) (layout : Int32) (shape : Int32) (lc : Int64) (cst : Int32) (h0 : Heap) (n0 : Nat) (Z0 : n0 ≤ h0.size) (I1 : Sta Z Z.heap "java/lang/String" "COMPACT_STRINGS" "Z" (.int cst)) (OX : Old Z n0 h0) (hcst : ¬ (cst = (0 : Int32))) :
    MetFree l x (head1 (Jvm.Cond.code x code maxLocals ret :: ws) room_1) (fun ar_ U => ar_ = #[(.int layout), (.int shape), (.long lc)] ∧ Z.Warmed39 U.vm ∧ U.heap = h0 ∧ CHv Z ELs U.vm h0) (fun _ _ _ _ _ => True) (fun _ U o U' => ∃ v L, o = .returned v ∧ Q_rmLaw Z layout shape lc cst h0 n0 v U'.heap L ∧ CHr Z ELs U.vm U.heap U'.vm U'.heap ∧ ReturnedEndW U o U' L room_1.cells room_1.slots) := by
  refine MetFree.of_bodySF (plainFor_of_name pn_com_example_odysseus_odysseus_UrlUrlPathIndexPinLaw) hisR ?_
  intro p e s m args below meth c s₁ Bd hml0 hP hK
  obtain ⟨rfl, hZ, hh, hCH⟩ := hP
  have hx := Bd.exec
  have hby := Bd.bytes
  have hml : c.maxLocals = 22 := hml0
  have hown : s.vm.findClass "com/example/odysseus/odysseus/UrlUrlPathIndexPinLaw" = some m.cls := findClass_of_methodNamed Bd.named
  have hnm := (name_of_methodNamed Bd.named Bd.method).1
  have X0 : Stand p l e room_1 (s.setVm s.vm) m #[(.int layout), (.int shape), (.long lc)] below meth c s₁ [] 0 0 := Stand.of_body Bd
  have e0 : s₁.heap = h0 := by rw [← hh, Bd.state]; rfl
  have N0 := Fr.nil n0
  have pre0 : ∀ t_, Steps p.tables e below (s₁.setTop (mkF m 0 #[.val (.int layout), .val (.int shape), .val (.long lc), .second, .unset, .unset, .unset, .unset, .unset, .unset, .unset, .unset, .unset, .unset, .unset, .unset, .unset, .unset, .unset, .unset, .unset, .unset] [])) t_ → Steps p.tables e below (s₁.setTop (entryFrame m #[(.int layout), (.int shape), (.long lc)] maxLocals)) t_ := fun t_ k_ => castTop (ef_rmLaw m layout shape lc) k_
  have hEL : EW Z a0 ELs := own_EW hw
  have wS : ∀ a ∈ Bundle.stringAtoms, a.before a0 Z = true := own_wS hw
  have hS : s.Since s.vm s.heap.size := (State.WarmedH.refl s).since _
  have hk : s.heap.size ≤ h0.size := by rw [hh]; exact Nat.le_refl _
  have CR : CHr Z ELs s.vm h0 s.vm h0 := CHr.refl hCH
  obtain ⟨ms, hms, hmsl⟩ := own_sl6 layout
  obtain ⟨mp, hmp, hmpl⟩ := own_and3 shape
  obtain ⟨q1, hq1⟩ : ∃ z : Int32, z = (shape &&& (4 : Int32)) := ⟨_, rfl⟩
  have s2 : ∀ t_, Steps p.tables e below (s₁.setTop (mkF m 16 #[.val (.int layout), .val (.int shape), .val (.long lc), .second, .val (.int (Int32.ofNat ms)), .val (.int (Int32.ofNat mp)), .unset, .unset, .unset, .unset, .unset, .unset, .unset, .unset, .unset, .unset, .unset, .unset, .unset, .unset, .unset, .unset] [(.int q1)])) t_ → Steps p.tables e below (s₁.setTop (entryFrame m #[(.int layout), (.int shape), (.long lc)] maxLocals)) t_ := fun t_ k_ => pre0 t_ (by
    show Steps p.tables e below (s₁.setTop (mkF m 0 #[.val (.int layout), .val (.int shape), .val (.long lc), .second, .unset, .unset, .unset, .unset, .unset, .unset, .unset, .unset, .unset, .unset, .unset, .unset, .unset, .unset, .unset, .unset, .unset, .unset] [])) t_
    refine XS.bipush X0.here hx rfl (Jvm.hb hby at_0) ?_
    refine XS.iloadN X0.here hx rfl (Jvm.hb hby at_2) rfl ?_
    refine XS.iconst X0.here hx rfl (Jvm.hb hby at_3) ?_
    refine XS.iand X0.here hx rfl (Jvm.hb hby at_4) rfl ?_
    refine XS.iadd X0.here hx rfl (Jvm.hb hby at_5) rfl ?_
    refine XS.istore X0.here hx rfl (Jvm.hb hby at_6) rfl (l' := #[.val (.int layout), .val (.int shape), .val (.long lc), .second, .val (.int ((6 : Int32) + (layout &&& (3 : Int32)))), .unset, .unset, .unset, .unset, .unset, .unset, .unset, .unset, .unset, .unset, .unset, .unset, .unset, .unset, .unset, .unset, .unset]) rfl ?_
    show Steps p.tables e below (s₁.setTop (mkF m 8 #[.val (.int layout), .val (.int shape), .val (.long lc), .second, .val (.int ((6 : Int32) + (layout &&& (3 : Int32)))), .unset, .unset, .unset, .unset, .unset, .unset, .unset, .unset, .unset, .unset, .unset, .unset, .unset, .unset, .unset, .unset, .unset] [])) _
    refine XS.iloadN X0.here hx rfl (Jvm.hb hby at_8) rfl ?_
    refine XS.iconst X0.here hx rfl (Jvm.hb hby at_9) ?_
    refine XS.iand X0.here hx rfl (Jvm.hb hby at_10) rfl ?_
    refine XS.istore X0.here hx rfl (Jvm.hb hby at_11) rfl (l' := #[.val (.int layout), .val (.int shape), .val (.long lc), .second, .val (.int ((6 : Int32) + (layout &&& (3 : Int32)))), .val (.int (shape &&& (3 : Int32))), .unset, .unset, .unset, .unset, .unset, .unset, .unset, .unset, .unset, .unset, .unset, .unset, .unset, .unset, .unset, .unset]) rfl ?_
    refine XS.iloadN X0.here hx rfl (Jvm.hb hby at_13) rfl ?_
    refine XS.iconst X0.here hx rfl (Jvm.hb hby at_14) ?_
    show Steps p.tables e below (s₁.setTop (mkF m 15 #[.val (.int layout), .val (.int shape), .val (.long lc), .second, .val (.int ((6 : Int32) + (layout &&& (3 : Int32)))), .val (.int (shape &&& (3 : Int32))), .unset, .unset, .unset, .unset, .unset, .unset, .unset, .unset, .unset, .unset, .unset, .unset, .unset, .unset, .unset, .unset] [(.int (4 : Int32)), (.int shape)])) _
    refine XS.iand X0.here hx rfl (Jvm.hb hby at_15) rfl ?_
    show Steps p.tables e below (s₁.setTop (mkF m 16 #[.val (.int layout), .val (.int shape), .val (.long lc), .second, .val (.int ((6 : Int32) + (layout &&& (3 : Int32)))), .val (.int (shape &&& (3 : Int32))), .unset, .unset, .unset, .unset, .unset, .unset, .unset, .unset, .unset, .unset, .unset, .unset, .unset, .unset, .unset, .unset] [(.int (shape &&& (4 : Int32)))])) t_
    exact castTop (by simp only [hms, hmp, hq1]) k_)
  obtain ⟨q3, hq3⟩ : ∃ z : Int32, z = (if q1 = (0 : Int32) then (0 : Int32) else (1 : Int32)) := ⟨_, rfl⟩
  obtain ⟨T4, X4, e4, s4⟩ := seg X0 (fun T' => T'.heap = h0 ∧ ∀ t_, Steps p.tables e below (T'.setTop (mkF m 24 #[.val (.int layout), .val (.int shape), .val (.long lc), .second, .val (.int (Int32.ofNat ms)), .val (.int (Int32.ofNat mp)), .unset, .unset, .unset, .unset, .unset, .unset, .unset, .unset, .unset, .unset, .unset, .unset, .unset, .unset, .unset, .unset] [(.int q3)])) t_ → Steps p.tables e below (s₁.setTop (entryFrame m #[(.int layout), (.int shape), (.long lc)] maxLocals)) t_) (by
    by_cases h5 : q1 = (0 : Int32)
    · have s6 : ∀ t_, Steps p.tables e below (s₁.setTop (mkF m 24 #[.val (.int layout), .val (.int shape), .val (.long lc), .second, .val (.int (Int32.ofNat ms)), .val (.int (Int32.ofNat mp)), .unset, .unset, .unset, .unset, .unset, .unset, .unset, .unset, .unset, .unset, .unset, .unset, .unset, .unset, .unset, .unset] [(.int (0 : Int32))])) t_ → Steps p.tables e below (s₁.setTop (entryFrame m #[(.int layout), (.int shape), (.long lc)] maxLocals)) t_ := fun t_ k_ => s2 t_ (by
        show Steps p.tables e below (s₁.setTop (mkF m 16 #[.val (.int layout), .val (.int shape), .val (.long lc), .second, .val (.int (Int32.ofNat ms)), .val (.int (Int32.ofNat mp)), .unset, .unset, .unset, .unset, .unset, .unset, .unset, .unset, .unset, .unset, .unset, .unset, .unset, .unset, .unset, .unset] [(.int q1)])) t_
        refine XS.ifYes X0.here hx rfl (pc0 := 16) (pc' := 23) rfl (Jvm.hb hby at_16) rfl ((if0 _ _).trans (teq h5).1) (by decide) (by decide) ?_
        show Steps p.tables e below (s₁.setTop (mkF m 23 #[.val (.int layout), .val (.int shape), .val (.long lc), .second, .val (.int (Int32.ofNat ms)), .val (.int (Int32.ofNat mp)), .unset, .unset, .unset, .unset, .unset, .unset, .unset, .unset, .unset, .unset, .unset, .unset, .unset, .unset, .unset, .unset] [])) _
        refine XS.iconst X0.here hx rfl (Jvm.hb hby at_23) ?_
        show Steps p.tables e below (s₁.setTop (mkF m 24 #[.val (.int layout), .val (.int shape), .val (.long lc), .second, .val (.int (Int32.ofNat ms)), .val (.int (Int32.ofNat mp)), .unset, .unset, .unset, .unset, .unset, .unset, .unset, .unset, .unset, .unset, .unset, .unset, .unset, .unset, .unset, .unset] [(.int (0 : Int32))])) t_
        exact k_)
      exact ⟨s₁, X0, e0, fun t_ k_ => s6 t_ (castTop (by simp only [hq3, if_pos h5]) k_)⟩
    · have s7 : ∀ t_, Steps p.tables e below (s₁.setTop (mkF m 24 #[.val (.int layout), .val (.int shape), .val (.long lc), .second, .val (.int (Int32.ofNat ms)), .val (.int (Int32.ofNat mp)), .unset, .unset, .unset, .unset, .unset, .unset, .unset, .unset, .unset, .unset, .unset, .unset, .unset, .unset, .unset, .unset] [(.int (1 : Int32))])) t_ → Steps p.tables e below (s₁.setTop (entryFrame m #[(.int layout), (.int shape), (.long lc)] maxLocals)) t_ := fun t_ k_ => s2 t_ (by
        show Steps p.tables e below (s₁.setTop (mkF m 16 #[.val (.int layout), .val (.int shape), .val (.long lc), .second, .val (.int (Int32.ofNat ms)), .val (.int (Int32.ofNat mp)), .unset, .unset, .unset, .unset, .unset, .unset, .unset, .unset, .unset, .unset, .unset, .unset, .unset, .unset, .unset, .unset] [(.int q1)])) t_
        refine XS.ifNo X0.here hx rfl (Jvm.hb hby at_16) rfl ((if0 _ _).trans (feq h5).1) ?_
        show Steps p.tables e below (s₁.setTop (mkF m 19 #[.val (.int layout), .val (.int shape), .val (.long lc), .second, .val (.int (Int32.ofNat ms)), .val (.int (Int32.ofNat mp)), .unset, .unset, .unset, .unset, .unset, .unset, .unset, .unset, .unset, .unset, .unset, .unset, .unset, .unset, .unset, .unset] [])) _
        refine XS.iconst X0.here hx rfl (Jvm.hb hby at_19) ?_
        refine XS.goto X0.here hx rfl (pc0 := 20) (pc' := 24) rfl (Jvm.hb hby at_20) (by decide) (by decide) ?_
        show Steps p.tables e below (s₁.setTop (mkF m 24 #[.val (.int layout), .val (.int shape), .val (.long lc), .second, .val (.int (Int32.ofNat ms)), .val (.int (Int32.ofNat mp)), .unset, .unset, .unset, .unset, .unset, .unset, .unset, .unset, .unset, .unset, .unset, .unset, .unset, .unset, .unset, .unset] [(.int (1 : Int32))])) t_
        exact k_)
      exact ⟨s₁, X0, e0, fun t_ k_ => s7 t_ (castTop (by simp only [hq3, if_neg h5]) k_)⟩)
  have hend : ((Int32.ofNat ms) + (1 : Int32)) + (Int32.ofNat mp) = Int32.ofNat (ms + 1 + mp) := by rw [← own_up, ← Int32.ofNat_add]
  obtain ⟨q8, hq8⟩ : ∃ z : Int32, z = (i2c ((lc &&& (255 : Int64)).toInt32)) := ⟨_, rfl⟩
  obtain ⟨q9, hq9⟩ : ∃ z : Int32, z = (i2c (((ushrJ lc (8 : Int32)) &&& (255 : Int64)).toInt32)) := ⟨_, rfl⟩
  obtain ⟨q10, hq10⟩ : ∃ z : Int32, z = (i2c (((ushrJ lc (16 : Int32)) &&& (255 : Int64)).toInt32)) := ⟨_, rfl⟩
  have s11 : ∀ t_, Steps p.tables e below (T4.setTop (mkF m 68 #[.val (.int layout), .val (.int shape), .val (.long lc), .second, .val (.int (Int32.ofNat ms)), .val (.int (Int32.ofNat mp)), .val (.int q3), .val (.int (Int32.ofNat (ms + 1 + mp))), .val (.int q8), .val (.int q9), .val (.int q10), .unset, .unset, .unset, .unset, .unset, .unset, .unset, .unset, .unset, .unset, .unset] [])) t_ → Steps p.tables e below (s₁.setTop (entryFrame m #[(.int layout), (.int shape), (.long lc)] maxLocals)) t_ := fun t_ k_ => s4 t_ (by
    show Steps p.tables e below (T4.setTop (mkF m 24 #[.val (.int layout), .val (.int shape), .val (.long lc), .second, .val (.int (Int32.ofNat ms)), .val (.int (Int32.ofNat mp)), .unset, .unset, .unset, .unset, .unset, .unset, .unset, .unset, .unset, .unset, .unset, .unset, .unset, .unset, .unset, .unset] [(.int q3)])) t_
    refine XS.istore X4.here hx rfl (Jvm.hb hby at_24) rfl (l' := #[.val (.int layout), .val (.int shape), .val (.long lc), .second, .val (.int (Int32.ofNat ms)), .val (.int (Int32.ofNat mp)), .val (.int q3), .unset, .unset, .unset, .unset, .unset, .unset, .unset, .unset, .unset, .unset, .unset, .unset, .unset, .unset, .unset]) rfl ?_
    refine XS.iload X4.here hx rfl (Jvm.hb hby at_26) rfl ?_
    refine XS.iconst X4.here hx rfl (Jvm.hb hby at_28) ?_
    refine XS.iadd X4.here hx rfl (Jvm.hb hby at_29) rfl ?_
    refine XS.iload X4.here hx rfl (Jvm.hb hby at_30) rfl ?_
    show Steps p.tables e below (T4.setTop (mkF m 32 #[.val (.int layout), .val (.int shape), .val (.long lc), .second, .val (.int (Int32.ofNat ms)), .val (.int (Int32.ofNat mp)), .val (.int q3), .unset, .unset, .unset, .unset, .unset, .unset, .unset, .unset, .unset, .unset, .unset, .unset, .unset, .unset, .unset] [(.int (Int32.ofNat mp)), (.int ((Int32.ofNat ms) + (1 : Int32)))])) _
    refine XS.iadd X4.here hx rfl (Jvm.hb hby at_32) rfl ?_
    refine XS.istore X4.here hx rfl (Jvm.hb hby at_33) rfl (l' := #[.val (.int layout), .val (.int shape), .val (.long lc), .second, .val (.int (Int32.ofNat ms)), .val (.int (Int32.ofNat mp)), .val (.int q3), .val (.int (((Int32.ofNat ms) + (1 : Int32)) + (Int32.ofNat mp))), .unset, .unset, .unset, .unset, .unset, .unset, .unset, .unset, .unset, .unset, .unset, .unset, .unset, .unset]) rfl ?_
    refine XS.lloadN X4.here hx rfl (Jvm.hb hby at_35) rfl ?_
    refine X4.ldc2Long hx hown (mvT hZ (hw _ (List.mem_of_getElem? (i := 0) rfl))) (g := (mkF m 36 #[.val (.int layout), .val (.int shape), .val (.long lc), .second, .val (.int (Int32.ofNat ms)), .val (.int (Int32.ofNat mp)), .val (.int q3), .val (.int (((Int32.ofNat ms) + (1 : Int32)) + (Int32.ofNat mp))), .unset, .unset, .unset, .unset, .unset, .unset, .unset, .unset, .unset, .unset, .unset, .unset, .unset, .unset] [(.long lc)])) rfl (Jvm.hb hby at_36) _ ?_
    show Steps p.tables e below (T4.setTop (mkF m 39 #[.val (.int layout), .val (.int shape), .val (.long lc), .second, .val (.int (Int32.ofNat ms)), .val (.int (Int32.ofNat mp)), .val (.int q3), .val (.int (((Int32.ofNat ms) + (1 : Int32)) + (Int32.ofNat mp))), .unset, .unset, .unset, .unset, .unset, .unset, .unset, .unset, .unset, .unset, .unset, .unset, .unset, .unset] [(.long (255 : Int64)), (.long lc)])) _
    refine XS.land X4.here hx rfl (Jvm.hb hby at_39) rfl ?_
    refine XS.l2i X4.here hx rfl (Jvm.hb hby at_40) rfl ?_
    refine XS.i2c X4.here hx rfl (Jvm.hb hby at_41) rfl ?_
    refine XS.istore X4.here hx rfl (Jvm.hb hby at_42) rfl (l' := #[.val (.int layout), .val (.int shape), .val (.long lc), .second, .val (.int (Int32.ofNat ms)), .val (.int (Int32.ofNat mp)), .val (.int q3), .val (.int (((Int32.ofNat ms) + (1 : Int32)) + (Int32.ofNat mp))), .val (.int (i2c ((lc &&& (255 : Int64)).toInt32))), .unset, .unset, .unset, .unset, .unset, .unset, .unset, .unset, .unset, .unset, .unset, .unset, .unset]) rfl ?_
    refine XS.lloadN X4.here hx rfl (Jvm.hb hby at_44) rfl ?_
    refine XS.bipush X4.here hx rfl (Jvm.hb hby at_45) ?_
    show Steps p.tables e below (T4.setTop (mkF m 47 #[.val (.int layout), .val (.int shape), .val (.long lc), .second, .val (.int (Int32.ofNat ms)), .val (.int (Int32.ofNat mp)), .val (.int q3), .val (.int (((Int32.ofNat ms) + (1 : Int32)) + (Int32.ofNat mp))), .val (.int (i2c ((lc &&& (255 : Int64)).toInt32))), .unset, .unset, .unset, .unset, .unset, .unset, .unset, .unset, .unset, .unset, .unset, .unset, .unset] [(.int (8 : Int32)), (.long lc)])) _
    refine XS.lushr X4.here hx rfl (Jvm.hb hby at_47) rfl ?_
    refine X4.ldc2Long hx hown (mvT hZ (hw _ (List.mem_of_getElem? (i := 0) rfl))) (g := (mkF m 48 #[.val (.int layout), .val (.int shape), .val (.long lc), .second, .val (.int (Int32.ofNat ms)), .val (.int (Int32.ofNat mp)), .val (.int q3), .val (.int (((Int32.ofNat ms) + (1 : Int32)) + (Int32.ofNat mp))), .val (.int (i2c ((lc &&& (255 : Int64)).toInt32))), .unset, .unset, .unset, .unset, .unset, .unset, .unset, .unset, .unset, .unset, .unset, .unset, .unset] [(.long (ushrJ lc (8 : Int32)))])) rfl (Jvm.hb hby at_48) _ ?_
    show Steps p.tables e below (T4.setTop (mkF m 51 #[.val (.int layout), .val (.int shape), .val (.long lc), .second, .val (.int (Int32.ofNat ms)), .val (.int (Int32.ofNat mp)), .val (.int q3), .val (.int (((Int32.ofNat ms) + (1 : Int32)) + (Int32.ofNat mp))), .val (.int (i2c ((lc &&& (255 : Int64)).toInt32))), .unset, .unset, .unset, .unset, .unset, .unset, .unset, .unset, .unset, .unset, .unset, .unset, .unset] [(.long (255 : Int64)), (.long (ushrJ lc (8 : Int32)))])) _
    refine XS.land X4.here hx rfl (Jvm.hb hby at_51) rfl ?_
    refine XS.l2i X4.here hx rfl (Jvm.hb hby at_52) rfl ?_
    refine XS.i2c X4.here hx rfl (Jvm.hb hby at_53) rfl ?_
    refine XS.istore X4.here hx rfl (Jvm.hb hby at_54) rfl (l' := #[.val (.int layout), .val (.int shape), .val (.long lc), .second, .val (.int (Int32.ofNat ms)), .val (.int (Int32.ofNat mp)), .val (.int q3), .val (.int (((Int32.ofNat ms) + (1 : Int32)) + (Int32.ofNat mp))), .val (.int (i2c ((lc &&& (255 : Int64)).toInt32))), .val (.int (i2c (((ushrJ lc (8 : Int32)) &&& (255 : Int64)).toInt32))), .unset, .unset, .unset, .unset, .unset, .unset, .unset, .unset, .unset, .unset, .unset, .unset]) rfl ?_
    refine XS.lloadN X4.here hx rfl (Jvm.hb hby at_56) rfl ?_
    refine XS.bipush X4.here hx rfl (Jvm.hb hby at_57) ?_
    show Steps p.tables e below (T4.setTop (mkF m 59 #[.val (.int layout), .val (.int shape), .val (.long lc), .second, .val (.int (Int32.ofNat ms)), .val (.int (Int32.ofNat mp)), .val (.int q3), .val (.int (((Int32.ofNat ms) + (1 : Int32)) + (Int32.ofNat mp))), .val (.int (i2c ((lc &&& (255 : Int64)).toInt32))), .val (.int (i2c (((ushrJ lc (8 : Int32)) &&& (255 : Int64)).toInt32))), .unset, .unset, .unset, .unset, .unset, .unset, .unset, .unset, .unset, .unset, .unset, .unset] [(.int (16 : Int32)), (.long lc)])) _
    refine XS.lushr X4.here hx rfl (Jvm.hb hby at_59) rfl ?_
    refine X4.ldc2Long hx hown (mvT hZ (hw _ (List.mem_of_getElem? (i := 0) rfl))) (g := (mkF m 60 #[.val (.int layout), .val (.int shape), .val (.long lc), .second, .val (.int (Int32.ofNat ms)), .val (.int (Int32.ofNat mp)), .val (.int q3), .val (.int (((Int32.ofNat ms) + (1 : Int32)) + (Int32.ofNat mp))), .val (.int (i2c ((lc &&& (255 : Int64)).toInt32))), .val (.int (i2c (((ushrJ lc (8 : Int32)) &&& (255 : Int64)).toInt32))), .unset, .unset, .unset, .unset, .unset, .unset, .unset, .unset, .unset, .unset, .unset, .unset] [(.long (ushrJ lc (16 : Int32)))])) rfl (Jvm.hb hby at_60) _ ?_
    show Steps p.tables e below (T4.setTop (mkF m 63 #[.val (.int layout), .val (.int shape), .val (.long lc), .second, .val (.int (Int32.ofNat ms)), .val (.int (Int32.ofNat mp)), .val (.int q3), .val (.int (((Int32.ofNat ms) + (1 : Int32)) + (Int32.ofNat mp))), .val (.int (i2c ((lc &&& (255 : Int64)).toInt32))), .val (.int (i2c (((ushrJ lc (8 : Int32)) &&& (255 : Int64)).toInt32))), .unset, .unset, .unset, .unset, .unset, .unset, .unset, .unset, .unset, .unset, .unset, .unset] [(.long (255 : Int64)), (.long (ushrJ lc (16 : Int32)))])) _
    refine XS.land X4.here hx rfl (Jvm.hb hby at_63) rfl ?_
    refine XS.l2i X4.here hx rfl (Jvm.hb hby at_64) rfl ?_
    refine XS.i2c X4.here hx rfl (Jvm.hb hby at_65) rfl ?_
    refine XS.istore X4.here hx rfl (Jvm.hb hby at_66) rfl (l' := #[.val (.int layout), .val (.int shape), .val (.long lc), .second, .val (.int (Int32.ofNat ms)), .val (.int (Int32.ofNat mp)), .val (.int q3), .val (.int (((Int32.ofNat ms) + (1 : Int32)) + (Int32.ofNat mp))), .val (.int (i2c ((lc &&& (255 : Int64)).toInt32))), .val (.int (i2c (((ushrJ lc (8 : Int32)) &&& (255 : Int64)).toInt32))), .val (.int (i2c (((ushrJ lc (16 : Int32)) &&& (255 : Int64)).toInt32))), .unset, .unset, .unset, .unset, .unset, .unset, .unset, .unset, .unset, .unset, .unset]) rfl ?_
    show Steps p.tables e below (T4.setTop (mkF m 68 #[.val (.int layout), .val (.int shape), .val (.long lc), .second, .val (.int (Int32.ofNat ms)), .val (.int (Int32.ofNat mp)), .val (.int q3), .val (.int (((Int32.ofNat ms) + (1 : Int32)) + (Int32.ofNat mp))), .val (.int (i2c ((lc &&& (255 : Int64)).toInt32))), .val (.int (i2c (((ushrJ lc (8 : Int32)) &&& (255 : Int64)).toInt32))), .val (.int (i2c (((ushrJ lc (16 : Int32)) &&& (255 : Int64)).toInt32))), .unset, .unset, .unset, .unset, .unset, .unset, .unset, .unset, .unset, .unset, .unset] [])) t_
    exact castTop (by simp only [hend, hq8, hq9, hq10]) k_)
  have rg12 : ¬ (q8 < (0 : Int32)) ∧ ¬ ((255 : Int32) < q8) := by rw [hq8]; exact own_d255 _
  have rh12 : ¬ (q8 < (0 : Int32)) ∧ ¬ ((65535 : Int32) < q8) := ⟨rg12.1, own_le64k rg12.2⟩
  have rg13 : ¬ (q9 < (0 : Int32)) ∧ ¬ ((255 : Int32) < q9) := by rw [hq9]; exact own_d255 _
  have rh13 : ¬ (q9 < (0 : Int32)) ∧ ¬ ((65535 : Int32) < q9) := ⟨rg13.1, own_le64k rg13.2⟩
  have rg14 : ¬ (q10 < (0 : Int32)) ∧ ¬ ((255 : Int32) < q10) := by rw [hq10]; exact own_d255 _
  have rh14 : ¬ (q10 < (0 : Int32)) ∧ ¬ ((65535 : Int32) < q10) := ⟨rg14.1, own_le64k rg14.2⟩
  obtain ⟨T15, h15, k15, X15, e15, E15, A15, st15⟩ := newP X4 hx hZ (hw _ (List.mem_of_getElem? (i := 1) rfl)) e4 (g := (mkF m 70 #[.val (.int layout), .val (.int shape), .val (.long lc), .second, .val (.int (Int32.ofNat ms)), .val (.int (Int32.ofNat mp)), .val (.int q3), .val (.int (Int32.ofNat (ms + 1 + mp))), .val (.int q8), .val (.int q9), .val (.int q10), .unset, .unset, .unset, .unset, .unset, .unset, .unset, .unset, .unset, .unset, .unset] [(.int (13 : Int32))])) rfl (Jvm.hb hby at_70) rfl (by decide) (cap := 13) (by decide) (by decide) (by decide) (by decide)
  obtain ⟨b15, g15⟩ : ∃ z, z = h0.size := ⟨_, rfl⟩
  rw [← g15] at A15 st15
  have z16 : h0.size ≤ h15.size := E15.1
  have Cp16 : CHr Z ELs s.vm h0 s.vm h15 := CHr.ext E15 CR.1
  have hk := Nat.le_trans hk z16
  have CR := CR.trans Cp16
  have l15 : b15 < h15.size := A15.lt
  have V15 : Arv Z h15 b15 k15 .char (13 : Int32) [(.int (0 : Int32)), (.int (0 : Int32)), (.int (0 : Int32)), (.int (0 : Int32)), (.int (0 : Int32)), (.int (0 : Int32)), (.int (0 : Int32)), (.int (0 : Int32)), (.int (0 : Int32)), (.int (0 : Int32)), (.int (0 : Int32)), (.int (0 : Int32)), (.int (0 : Int32))] (.int (0 : Int32)) := (Arv.new A15 (by decide)).pad (pad_rep [] (.int (0 : Int32)) 13)
  obtain ⟨cl17, Ar17, q17, S17, M17, H17, G17⟩ := id V15
  have hin17 : ¬ ((0 : Int32) < 0 ∨ cl17.slots.size ≤ ((0 : Int32)).toNatClampNeg) := inb_of S17 ⟨by decide, by decide⟩
  obtain ⟨T18, h18, X18, e18, W18, st18⟩ := stC X15 hx hZ e15 Ar17 (j := (0 : Int32)) hin17 (g := (mkF m 76 #[.val (.int layout), .val (.int shape), .val (.long lc), .second, .val (.int (Int32.ofNat ms)), .val (.int (Int32.ofNat mp)), .val (.int q3), .val (.int (Int32.ofNat (ms + 1 + mp))), .val (.int q8), .val (.int q9), .val (.int q10), .unset, .unset, .unset, .unset, .unset, .unset, .unset, .unset, .unset, .unset, .unset] [(.int (97 : Int32)), (.int (0 : Int32)), (.ref b15), (.ref b15)])) rfl rfl (Jvm.hb hby at_76)
  have z19 : h15.size ≤ h18.size := Nat.le_of_eq W18.size.symm
  have Cp19 : CHr Z ELs s.vm h15 s.vm h18 := CHr.wr W18 (Safe.arv hZ.alike V15 (by decide)) CR.1
  have hk := Nat.le_trans hk z19
  have CR := CR.trans Cp19
  have V18 : Arv Z h18 b15 k15 .char (13 : Int32) [(.int (97 : Int32)), (.int (0 : Int32)), (.int (0 : Int32)), (.int (0 : Int32)), (.int (0 : Int32)), (.int (0 : Int32)), (.int (0 : Int32)), (.int (0 : Int32)), (.int (0 : Int32)), (.int (0 : Int32)), (.int (0 : Int32)), (.int (0 : Int32)), (.int (0 : Int32))] (.int (0 : Int32)) := by have q : Arv Z h18 b15 k15 .char (13 : Int32) [(.int (nar .char (97 : Int32))), (.int (0 : Int32)), (.int (0 : Int32)), (.int (0 : Int32)), (.int (0 : Int32)), (.int (0 : Int32)), (.int (0 : Int32)), (.int (0 : Int32)), (.int (0 : Int32)), (.int (0 : Int32)), (.int (0 : Int32)), (.int (0 : Int32)), (.int (0 : Int32))] (.int (0 : Int32)) := Arv.set Ar17 q17 S17 M17 H17 G17 (fits_nar_char _) W18 0 rfl (Nat.le_of_ble_eq_true rfl); rw [show nar .char (97 : Int32) = (97 : Int32) from rfl] at q; exact q
  have N18 := Fr.snoc X18 N0 (show n0 ≤ b15 by omega)
  obtain ⟨cl20, Ar20, q20, S20, M20, H20, G20⟩ := id V18
  have hin20 : ¬ ((1 : Int32) < 0 ∨ cl20.slots.size ≤ ((1 : Int32)).toNatClampNeg) := inb_of S20 ⟨by decide, by decide⟩
  obtain ⟨T21, h21, X21, e21, W21, st21⟩ := stC X18 hx hZ e18 Ar20 (j := (1 : Int32)) hin20 (g := (mkF m 81 #[.val (.int layout), .val (.int shape), .val (.long lc), .second, .val (.int (Int32.ofNat ms)), .val (.int (Int32.ofNat mp)), .val (.int q3), .val (.int (Int32.ofNat (ms + 1 + mp))), .val (.int q8), .val (.int q9), .val (.int q10), .unset, .unset, .unset, .unset, .unset, .unset, .unset, .unset, .unset, .unset, .unset] [(.int (58 : Int32)), (.int (1 : Int32)), (.ref b15), (.ref b15)])) rfl rfl (Jvm.hb hby at_81)
  have z22 : h18.size ≤ h21.size := Nat.le_of_eq W21.size.symm
  have Cp22 : CHr Z ELs s.vm h18 s.vm h21 := CHr.wr W21 (Safe.arv hZ.alike V18 (by decide)) CR.1
  have hk := Nat.le_trans hk z22
  have CR := CR.trans Cp22
  have V21 : Arv Z h21 b15 k15 .char (13 : Int32) [(.int (97 : Int32)), (.int (58 : Int32)), (.int (0 : Int32)), (.int (0 : Int32)), (.int (0 : Int32)), (.int (0 : Int32)), (.int (0 : Int32)), (.int (0 : Int32)), (.int (0 : Int32)), (.int (0 : Int32)), (.int (0 : Int32)), (.int (0 : Int32)), (.int (0 : Int32))] (.int (0 : Int32)) := by have q : Arv Z h21 b15 k15 .char (13 : Int32) [(.int (97 : Int32)), (.int (nar .char (58 : Int32))), (.int (0 : Int32)), (.int (0 : Int32)), (.int (0 : Int32)), (.int (0 : Int32)), (.int (0 : Int32)), (.int (0 : Int32)), (.int (0 : Int32)), (.int (0 : Int32)), (.int (0 : Int32)), (.int (0 : Int32)), (.int (0 : Int32))] (.int (0 : Int32)) := Arv.set Ar20 q20 S20 M20 H20 G20 (fits_nar_char _) W21 1 rfl (Nat.le_of_ble_eq_true rfl); rw [show nar .char (58 : Int32) = (58 : Int32) from rfl] at q; exact q
  have N21 := Fr.snoc X21 N18 (show n0 ≤ b15 by omega)
  obtain ⟨cl23, Ar23, q23, S23, M23, H23, G23⟩ := id V21
  have hin23 : ¬ ((2 : Int32) < 0 ∨ cl23.slots.size ≤ ((2 : Int32)).toNatClampNeg) := inb_of S23 ⟨by decide, by decide⟩
  obtain ⟨T24, h24, X24, e24, W24, st24⟩ := stC X21 hx hZ e21 Ar23 (j := (2 : Int32)) hin23 (g := (mkF m 86 #[.val (.int layout), .val (.int shape), .val (.long lc), .second, .val (.int (Int32.ofNat ms)), .val (.int (Int32.ofNat mp)), .val (.int q3), .val (.int (Int32.ofNat (ms + 1 + mp))), .val (.int q8), .val (.int q9), .val (.int q10), .unset, .unset, .unset, .unset, .unset, .unset, .unset, .unset, .unset, .unset, .unset] [(.int (47 : Int32)), (.int (2 : Int32)), (.ref b15), (.ref b15)])) rfl rfl (Jvm.hb hby at_86)
  have z25 : h21.size ≤ h24.size := Nat.le_of_eq W24.size.symm
  have Cp25 : CHr Z ELs s.vm h21 s.vm h24 := CHr.wr W24 (Safe.arv hZ.alike V21 (by decide)) CR.1
  have hk := Nat.le_trans hk z25
  have CR := CR.trans Cp25
  have V24 : Arv Z h24 b15 k15 .char (13 : Int32) [(.int (97 : Int32)), (.int (58 : Int32)), (.int (47 : Int32)), (.int (0 : Int32)), (.int (0 : Int32)), (.int (0 : Int32)), (.int (0 : Int32)), (.int (0 : Int32)), (.int (0 : Int32)), (.int (0 : Int32)), (.int (0 : Int32)), (.int (0 : Int32)), (.int (0 : Int32))] (.int (0 : Int32)) := by have q : Arv Z h24 b15 k15 .char (13 : Int32) [(.int (97 : Int32)), (.int (58 : Int32)), (.int (nar .char (47 : Int32))), (.int (0 : Int32)), (.int (0 : Int32)), (.int (0 : Int32)), (.int (0 : Int32)), (.int (0 : Int32)), (.int (0 : Int32)), (.int (0 : Int32)), (.int (0 : Int32)), (.int (0 : Int32)), (.int (0 : Int32))] (.int (0 : Int32)) := Arv.set Ar23 q23 S23 M23 H23 G23 (fits_nar_char _) W24 2 rfl (Nat.le_of_ble_eq_true rfl); rw [show nar .char (47 : Int32) = (47 : Int32) from rfl] at q; exact q
  have N24 := Fr.snoc X24 N21 (show n0 ≤ b15 by omega)
  obtain ⟨cl26, Ar26, q26, S26, M26, H26, G26⟩ := id V24
  have hin26 : ¬ ((3 : Int32) < 0 ∨ cl26.slots.size ≤ ((3 : Int32)).toNatClampNeg) := inb_of S26 ⟨by decide, by decide⟩
  obtain ⟨T27, h27, X27, e27, W27, st27⟩ := stC X24 hx hZ e24 Ar26 (j := (3 : Int32)) hin26 (g := (mkF m 91 #[.val (.int layout), .val (.int shape), .val (.long lc), .second, .val (.int (Int32.ofNat ms)), .val (.int (Int32.ofNat mp)), .val (.int q3), .val (.int (Int32.ofNat (ms + 1 + mp))), .val (.int q8), .val (.int q9), .val (.int q10), .unset, .unset, .unset, .unset, .unset, .unset, .unset, .unset, .unset, .unset, .unset] [(.int (47 : Int32)), (.int (3 : Int32)), (.ref b15), (.ref b15)])) rfl rfl (Jvm.hb hby at_91)
  have z28 : h24.size ≤ h27.size := Nat.le_of_eq W27.size.symm
  have Cp28 : CHr Z ELs s.vm h24 s.vm h27 := CHr.wr W27 (Safe.arv hZ.alike V24 (by decide)) CR.1
  have hk := Nat.le_trans hk z28
  have CR := CR.trans Cp28
  have V27 : Arv Z h27 b15 k15 .char (13 : Int32) [(.int (97 : Int32)), (.int (58 : Int32)), (.int (47 : Int32)), (.int (47 : Int32)), (.int (0 : Int32)), (.int (0 : Int32)), (.int (0 : Int32)), (.int (0 : Int32)), (.int (0 : Int32)), (.int (0 : Int32)), (.int (0 : Int32)), (.int (0 : Int32)), (.int (0 : Int32))] (.int (0 : Int32)) := by have q : Arv Z h27 b15 k15 .char (13 : Int32) [(.int (97 : Int32)), (.int (58 : Int32)), (.int (47 : Int32)), (.int (nar .char (47 : Int32))), (.int (0 : Int32)), (.int (0 : Int32)), (.int (0 : Int32)), (.int (0 : Int32)), (.int (0 : Int32)), (.int (0 : Int32)), (.int (0 : Int32)), (.int (0 : Int32)), (.int (0 : Int32))] (.int (0 : Int32)) := Arv.set Ar26 q26 S26 M26 H26 G26 (fits_nar_char _) W27 3 rfl (Nat.le_of_ble_eq_true rfl); rw [show nar .char (47 : Int32) = (47 : Int32) from rfl] at q; exact q
  have N27 := Fr.snoc X27 N24 (show n0 ≤ b15 by omega)
  obtain ⟨cl29, Ar29, q29, S29, M29, H29, G29⟩ := id V27
  have hin29 : ¬ ((4 : Int32) < 0 ∨ cl29.slots.size ≤ ((4 : Int32)).toNatClampNeg) := inb_of S29 ⟨by decide, by decide⟩
  obtain ⟨T30, h30, X30, e30, W30, st30⟩ := stC X27 hx hZ e27 Ar29 (j := (4 : Int32)) hin29 (g := (mkF m 96 #[.val (.int layout), .val (.int shape), .val (.long lc), .second, .val (.int (Int32.ofNat ms)), .val (.int (Int32.ofNat mp)), .val (.int q3), .val (.int (Int32.ofNat (ms + 1 + mp))), .val (.int q8), .val (.int q9), .val (.int q10), .unset, .unset, .unset, .unset, .unset, .unset, .unset, .unset, .unset, .unset, .unset] [(.int (104 : Int32)), (.int (4 : Int32)), (.ref b15), (.ref b15)])) rfl rfl (Jvm.hb hby at_96)
  have z31 : h27.size ≤ h30.size := Nat.le_of_eq W30.size.symm
  have Cp31 : CHr Z ELs s.vm h27 s.vm h30 := CHr.wr W30 (Safe.arv hZ.alike V27 (by decide)) CR.1
  have hk := Nat.le_trans hk z31
  have CR := CR.trans Cp31
  have V30 : Arv Z h30 b15 k15 .char (13 : Int32) [(.int (97 : Int32)), (.int (58 : Int32)), (.int (47 : Int32)), (.int (47 : Int32)), (.int (104 : Int32)), (.int (0 : Int32)), (.int (0 : Int32)), (.int (0 : Int32)), (.int (0 : Int32)), (.int (0 : Int32)), (.int (0 : Int32)), (.int (0 : Int32)), (.int (0 : Int32))] (.int (0 : Int32)) := by have q : Arv Z h30 b15 k15 .char (13 : Int32) [(.int (97 : Int32)), (.int (58 : Int32)), (.int (47 : Int32)), (.int (47 : Int32)), (.int (nar .char (104 : Int32))), (.int (0 : Int32)), (.int (0 : Int32)), (.int (0 : Int32)), (.int (0 : Int32)), (.int (0 : Int32)), (.int (0 : Int32)), (.int (0 : Int32)), (.int (0 : Int32))] (.int (0 : Int32)) := Arv.set Ar29 q29 S29 M29 H29 G29 (fits_nar_char _) W30 4 rfl (Nat.le_of_ble_eq_true rfl); rw [show nar .char (104 : Int32) = (104 : Int32) from rfl] at q; exact q
  have N30 := Fr.snoc X30 N27 (show n0 ≤ b15 by omega)
  obtain ⟨cl32, Ar32, q32, S32, M32, H32, G32⟩ := id V30
  have hin32 : ¬ ((5 : Int32) < 0 ∨ cl32.slots.size ≤ ((5 : Int32)).toNatClampNeg) := inb_of S32 ⟨by decide, by decide⟩
  obtain ⟨T33, h33, X33, e33, W33, st33⟩ := stC X30 hx hZ e30 Ar32 (j := (5 : Int32)) hin32 (g := (mkF m 101 #[.val (.int layout), .val (.int shape), .val (.long lc), .second, .val (.int (Int32.ofNat ms)), .val (.int (Int32.ofNat mp)), .val (.int q3), .val (.int (Int32.ofNat (ms + 1 + mp))), .val (.int q8), .val (.int q9), .val (.int q10), .unset, .unset, .unset, .unset, .unset, .unset, .unset, .unset, .unset, .unset, .unset] [(.int (104 : Int32)), (.int (5 : Int32)), (.ref b15), (.ref b15)])) rfl rfl (Jvm.hb hby at_101)
  have z34 : h30.size ≤ h33.size := Nat.le_of_eq W33.size.symm
  have Cp34 : CHr Z ELs s.vm h30 s.vm h33 := CHr.wr W33 (Safe.arv hZ.alike V30 (by decide)) CR.1
  have hk := Nat.le_trans hk z34
  have CR := CR.trans Cp34
  have V33 : Arv Z h33 b15 k15 .char (13 : Int32) [(.int (97 : Int32)), (.int (58 : Int32)), (.int (47 : Int32)), (.int (47 : Int32)), (.int (104 : Int32)), (.int (104 : Int32)), (.int (0 : Int32)), (.int (0 : Int32)), (.int (0 : Int32)), (.int (0 : Int32)), (.int (0 : Int32)), (.int (0 : Int32)), (.int (0 : Int32))] (.int (0 : Int32)) := by have q : Arv Z h33 b15 k15 .char (13 : Int32) [(.int (97 : Int32)), (.int (58 : Int32)), (.int (47 : Int32)), (.int (47 : Int32)), (.int (104 : Int32)), (.int (nar .char (104 : Int32))), (.int (0 : Int32)), (.int (0 : Int32)), (.int (0 : Int32)), (.int (0 : Int32)), (.int (0 : Int32)), (.int (0 : Int32)), (.int (0 : Int32))] (.int (0 : Int32)) := Arv.set Ar32 q32 S32 M32 H32 G32 (fits_nar_char _) W33 5 rfl (Nat.le_of_ble_eq_true rfl); rw [show nar .char (104 : Int32) = (104 : Int32) from rfl] at q; exact q
  have N33 := Fr.snoc X33 N30 (show n0 ≤ b15 by omega)
  obtain ⟨cl35, Ar35, q35, S35, M35, H35, G35⟩ := id V33
  have hin35 : ¬ ((6 : Int32) < 0 ∨ cl35.slots.size ≤ ((6 : Int32)).toNatClampNeg) := inb_of S35 ⟨by decide, by decide⟩
  obtain ⟨T36, h36, X36, e36, W36, st36⟩ := stC X33 hx hZ e33 Ar35 (j := (6 : Int32)) hin35 (g := (mkF m 107 #[.val (.int layout), .val (.int shape), .val (.long lc), .second, .val (.int (Int32.ofNat ms)), .val (.int (Int32.ofNat mp)), .val (.int q3), .val (.int (Int32.ofNat (ms + 1 + mp))), .val (.int q8), .val (.int q9), .val (.int q10), .unset, .unset, .unset, .unset, .unset, .unset, .unset, .unset, .unset, .unset, .unset] [(.int (104 : Int32)), (.int (6 : Int32)), (.ref b15), (.ref b15)])) rfl rfl (Jvm.hb hby at_107)
  have z37 : h33.size ≤ h36.size := Nat.le_of_eq W36.size.symm
  have Cp37 : CHr Z ELs s.vm h33 s.vm h36 := CHr.wr W36 (Safe.arv hZ.alike V33 (by decide)) CR.1
  have hk := Nat.le_trans hk z37
  have CR := CR.trans Cp37
  have V36 : Arv Z h36 b15 k15 .char (13 : Int32) [(.int (97 : Int32)), (.int (58 : Int32)), (.int (47 : Int32)), (.int (47 : Int32)), (.int (104 : Int32)), (.int (104 : Int32)), (.int (104 : Int32)), (.int (0 : Int32)), (.int (0 : Int32)), (.int (0 : Int32)), (.int (0 : Int32)), (.int (0 : Int32)), (.int (0 : Int32))] (.int (0 : Int32)) := by have q : Arv Z h36 b15 k15 .char (13 : Int32) [(.int (97 : Int32)), (.int (58 : Int32)), (.int (47 : Int32)), (.int (47 : Int32)), (.int (104 : Int32)), (.int (104 : Int32)), (.int (nar .char (104 : Int32))), (.int (0 : Int32)), (.int (0 : Int32)), (.int (0 : Int32)), (.int (0 : Int32)), (.int (0 : Int32)), (.int (0 : Int32))] (.int (0 : Int32)) := Arv.set Ar35 q35 S35 M35 H35 G35 (fits_nar_char _) W36 6 rfl (Nat.le_of_ble_eq_true rfl); rw [show nar .char (104 : Int32) = (104 : Int32) from rfl] at q; exact q
  have N36 := Fr.snoc X36 N33 (show n0 ≤ b15 by omega)
  obtain ⟨cl38, Ar38, q38, S38, M38, H38, G38⟩ := id V36
  have hin38 : ¬ ((7 : Int32) < 0 ∨ cl38.slots.size ≤ ((7 : Int32)).toNatClampNeg) := inb_of S38 ⟨by decide, by decide⟩
  obtain ⟨T39, h39, X39, e39, W39, st39⟩ := stC X36 hx hZ e36 Ar38 (j := (7 : Int32)) hin38 (g := (mkF m 113 #[.val (.int layout), .val (.int shape), .val (.long lc), .second, .val (.int (Int32.ofNat ms)), .val (.int (Int32.ofNat mp)), .val (.int q3), .val (.int (Int32.ofNat (ms + 1 + mp))), .val (.int q8), .val (.int q9), .val (.int q10), .unset, .unset, .unset, .unset, .unset, .unset, .unset, .unset, .unset, .unset, .unset] [(.int (104 : Int32)), (.int (7 : Int32)), (.ref b15), (.ref b15)])) rfl rfl (Jvm.hb hby at_113)
  have z40 : h36.size ≤ h39.size := Nat.le_of_eq W39.size.symm
  have Cp40 : CHr Z ELs s.vm h36 s.vm h39 := CHr.wr W39 (Safe.arv hZ.alike V36 (by decide)) CR.1
  have hk := Nat.le_trans hk z40
  have CR := CR.trans Cp40
  have V39 : Arv Z h39 b15 k15 .char (13 : Int32) [(.int (97 : Int32)), (.int (58 : Int32)), (.int (47 : Int32)), (.int (47 : Int32)), (.int (104 : Int32)), (.int (104 : Int32)), (.int (104 : Int32)), (.int (104 : Int32)), (.int (0 : Int32)), (.int (0 : Int32)), (.int (0 : Int32)), (.int (0 : Int32)), (.int (0 : Int32))] (.int (0 : Int32)) := by have q : Arv Z h39 b15 k15 .char (13 : Int32) [(.int (97 : Int32)), (.int (58 : Int32)), (.int (47 : Int32)), (.int (47 : Int32)), (.int (104 : Int32)), (.int (104 : Int32)), (.int (104 : Int32)), (.int (nar .char (104 : Int32))), (.int (0 : Int32)), (.int (0 : Int32)), (.int (0 : Int32)), (.int (0 : Int32)), (.int (0 : Int32))] (.int (0 : Int32)) := Arv.set Ar38 q38 S38 M38 H38 G38 (fits_nar_char _) W39 7 rfl (Nat.le_of_ble_eq_true rfl); rw [show nar .char (104 : Int32) = (104 : Int32) from rfl] at q; exact q
  have N39 := Fr.snoc X39 N36 (show n0 ≤ b15 by omega)
  obtain ⟨cl41, Ar41, q41, S41, M41, H41, G41⟩ := id V39
  have hin41 : ¬ ((8 : Int32) < 0 ∨ cl41.slots.size ≤ ((8 : Int32)).toNatClampNeg) := inb_of S41 ⟨by decide, by decide⟩
  obtain ⟨T42, h42, X42, e42, W42, st42⟩ := stC X39 hx hZ e39 Ar41 (j := (8 : Int32)) hin41 (g := (mkF m 119 #[.val (.int layout), .val (.int shape), .val (.long lc), .second, .val (.int (Int32.ofNat ms)), .val (.int (Int32.ofNat mp)), .val (.int q3), .val (.int (Int32.ofNat (ms + 1 + mp))), .val (.int q8), .val (.int q9), .val (.int q10), .unset, .unset, .unset, .unset, .unset, .unset, .unset, .unset, .unset, .unset, .unset] [(.int (104 : Int32)), (.int (8 : Int32)), (.ref b15), (.ref b15)])) rfl rfl (Jvm.hb hby at_119)
  have z43 : h39.size ≤ h42.size := Nat.le_of_eq W42.size.symm
  have Cp43 : CHr Z ELs s.vm h39 s.vm h42 := CHr.wr W42 (Safe.arv hZ.alike V39 (by decide)) CR.1
  have hk := Nat.le_trans hk z43
  have CR := CR.trans Cp43
  have V42 : Arv Z h42 b15 k15 .char (13 : Int32) [(.int (97 : Int32)), (.int (58 : Int32)), (.int (47 : Int32)), (.int (47 : Int32)), (.int (104 : Int32)), (.int (104 : Int32)), (.int (104 : Int32)), (.int (104 : Int32)), (.int (104 : Int32)), (.int (0 : Int32)), (.int (0 : Int32)), (.int (0 : Int32)), (.int (0 : Int32))] (.int (0 : Int32)) := by have q : Arv Z h42 b15 k15 .char (13 : Int32) [(.int (97 : Int32)), (.int (58 : Int32)), (.int (47 : Int32)), (.int (47 : Int32)), (.int (104 : Int32)), (.int (104 : Int32)), (.int (104 : Int32)), (.int (104 : Int32)), (.int (nar .char (104 : Int32))), (.int (0 : Int32)), (.int (0 : Int32)), (.int (0 : Int32)), (.int (0 : Int32))] (.int (0 : Int32)) := Arv.set Ar41 q41 S41 M41 H41 G41 (fits_nar_char _) W42 8 rfl (Nat.le_of_ble_eq_true rfl); rw [show nar .char (104 : Int32) = (104 : Int32) from rfl] at q; exact q
  have N42 := Fr.snoc X42 N39 (show n0 ≤ b15 by omega)
  obtain ⟨cl44, Ar44, q44, S44, M44, H44, G44⟩ := id V42
  have hin44 : ¬ ((9 : Int32) < 0 ∨ cl44.slots.size ≤ ((9 : Int32)).toNatClampNeg) := inb_of S44 ⟨by decide, by decide⟩
  obtain ⟨T45, h45, X45, e45, W45, st45⟩ := stC X42 hx hZ e42 Ar44 (j := (9 : Int32)) hin44 (g := (mkF m 125 #[.val (.int layout), .val (.int shape), .val (.long lc), .second, .val (.int (Int32.ofNat ms)), .val (.int (Int32.ofNat mp)), .val (.int q3), .val (.int (Int32.ofNat (ms + 1 + mp))), .val (.int q8), .val (.int q9), .val (.int q10), .unset, .unset, .unset, .unset, .unset, .unset, .unset, .unset, .unset, .unset, .unset] [(.int (104 : Int32)), (.int (9 : Int32)), (.ref b15), (.ref b15)])) rfl rfl (Jvm.hb hby at_125)
  have z46 : h42.size ≤ h45.size := Nat.le_of_eq W45.size.symm
  have Cp46 : CHr Z ELs s.vm h42 s.vm h45 := CHr.wr W45 (Safe.arv hZ.alike V42 (by decide)) CR.1
  have hk := Nat.le_trans hk z46
  have CR := CR.trans Cp46
  have V45 : Arv Z h45 b15 k15 .char (13 : Int32) [(.int (97 : Int32)), (.int (58 : Int32)), (.int (47 : Int32)), (.int (47 : Int32)), (.int (104 : Int32)), (.int (104 : Int32)), (.int (104 : Int32)), (.int (104 : Int32)), (.int (104 : Int32)), (.int (104 : Int32)), (.int (0 : Int32)), (.int (0 : Int32)), (.int (0 : Int32))] (.int (0 : Int32)) := by have q : Arv Z h45 b15 k15 .char (13 : Int32) [(.int (97 : Int32)), (.int (58 : Int32)), (.int (47 : Int32)), (.int (47 : Int32)), (.int (104 : Int32)), (.int (104 : Int32)), (.int (104 : Int32)), (.int (104 : Int32)), (.int (104 : Int32)), (.int (nar .char (104 : Int32))), (.int (0 : Int32)), (.int (0 : Int32)), (.int (0 : Int32))] (.int (0 : Int32)) := Arv.set Ar44 q44 S44 M44 H44 G44 (fits_nar_char _) W45 9 rfl (Nat.le_of_ble_eq_true rfl); rw [show nar .char (104 : Int32) = (104 : Int32) from rfl] at q; exact q
  have N45 := Fr.snoc X45 N42 (show n0 ≤ b15 by omega)
  obtain ⟨cl47, Ar47, q47, S47, M47, H47, G47⟩ := id V45
  have hin47 : ¬ ((10 : Int32) < 0 ∨ cl47.slots.size ≤ ((10 : Int32)).toNatClampNeg) := inb_of S47 ⟨by decide, by decide⟩
  obtain ⟨T48, h48, X48, e48, W48, st48⟩ := stC X45 hx hZ e45 Ar47 (j := (10 : Int32)) hin47 (g := (mkF m 131 #[.val (.int layout), .val (.int shape), .val (.long lc), .second, .val (.int (Int32.ofNat ms)), .val (.int (Int32.ofNat mp)), .val (.int q3), .val (.int (Int32.ofNat (ms + 1 + mp))), .val (.int q8), .val (.int q9), .val (.int q10), .unset, .unset, .unset, .unset, .unset, .unset, .unset, .unset, .unset, .unset, .unset] [(.int (104 : Int32)), (.int (10 : Int32)), (.ref b15), (.ref b15)])) rfl rfl (Jvm.hb hby at_131)
  have z49 : h45.size ≤ h48.size := Nat.le_of_eq W48.size.symm
  have Cp49 : CHr Z ELs s.vm h45 s.vm h48 := CHr.wr W48 (Safe.arv hZ.alike V45 (by decide)) CR.1
  have hk := Nat.le_trans hk z49
  have CR := CR.trans Cp49
  have V48 : Arv Z h48 b15 k15 .char (13 : Int32) [(.int (97 : Int32)), (.int (58 : Int32)), (.int (47 : Int32)), (.int (47 : Int32)), (.int (104 : Int32)), (.int (104 : Int32)), (.int (104 : Int32)), (.int (104 : Int32)), (.int (104 : Int32)), (.int (104 : Int32)), (.int (104 : Int32)), (.int (0 : Int32)), (.int (0 : Int32))] (.int (0 : Int32)) := by have q : Arv Z h48 b15 k15 .char (13 : Int32) [(.int (97 : Int32)), (.int (58 : Int32)), (.int (47 : Int32)), (.int (47 : Int32)), (.int (104 : Int32)), (.int (104 : Int32)), (.int (104 : Int32)), (.int (104 : Int32)), (.int (104 : Int32)), (.int (104 : Int32)), (.int (nar .char (104 : Int32))), (.int (0 : Int32)), (.int (0 : Int32))] (.int (0 : Int32)) := Arv.set Ar47 q47 S47 M47 H47 G47 (fits_nar_char _) W48 10 rfl (Nat.le_of_ble_eq_true rfl); rw [show nar .char (104 : Int32) = (104 : Int32) from rfl] at q; exact q
  have N48 := Fr.snoc X48 N45 (show n0 ≤ b15 by omega)
  obtain ⟨cl50, Ar50, q50, S50, M50, H50, G50⟩ := id V48
  have hin50 : ¬ ((11 : Int32) < 0 ∨ cl50.slots.size ≤ ((11 : Int32)).toNatClampNeg) := inb_of S50 ⟨by decide, by decide⟩
  obtain ⟨T51, h51, X51, e51, W51, st51⟩ := stC X48 hx hZ e48 Ar50 (j := (11 : Int32)) hin50 (g := (mkF m 137 #[.val (.int layout), .val (.int shape), .val (.long lc), .second, .val (.int (Int32.ofNat ms)), .val (.int (Int32.ofNat mp)), .val (.int q3), .val (.int (Int32.ofNat (ms + 1 + mp))), .val (.int q8), .val (.int q9), .val (.int q10), .unset, .unset, .unset, .unset, .unset, .unset, .unset, .unset, .unset, .unset, .unset] [(.int (104 : Int32)), (.int (11 : Int32)), (.ref b15), (.ref b15)])) rfl rfl (Jvm.hb hby at_137)
  have z52 : h48.size ≤ h51.size := Nat.le_of_eq W51.size.symm
  have Cp52 : CHr Z ELs s.vm h48 s.vm h51 := CHr.wr W51 (Safe.arv hZ.alike V48 (by decide)) CR.1
  have hk := Nat.le_trans hk z52
  have CR := CR.trans Cp52
  have V51 : Arv Z h51 b15 k15 .char (13 : Int32) [(.int (97 : Int32)), (.int (58 : Int32)), (.int (47 : Int32)), (.int (47 : Int32)), (.int (104 : Int32)), (.int (104 : Int32)), (.int (104 : Int32)), (.int (104 : Int32)), (.int (104 : Int32)), (.int (104 : Int32)), (.int (104 : Int32)), (.int (104 : Int32)), (.int (0 : Int32))] (.int (0 : Int32)) := by have q : Arv Z h51 b15 k15 .char (13 : Int32) [(.int (97 : Int32)), (.int (58 : Int32)), (.int (47 : Int32)), (.int (47 : Int32)), (.int (104 : Int32)), (.int (104 : Int32)), (.int (104 : Int32)), (.int (104 : Int32)), (.int (104 : Int32)), (.int (104 : Int32)), (.int (104 : Int32)), (.int (nar .char (104 : Int32))), (.int (0 : Int32))] (.int (0 : Int32)) := Arv.set Ar50 q50 S50 M50 H50 G50 (fits_nar_char _) W51 11 rfl (Nat.le_of_ble_eq_true rfl); rw [show nar .char (104 : Int32) = (104 : Int32) from rfl] at q; exact q
  have N51 := Fr.snoc X51 N48 (show n0 ≤ b15 by omega)
  obtain ⟨cl53, Ar53, q53, S53, M53, H53, G53⟩ := id V51
  have hin53 : ¬ ((12 : Int32) < 0 ∨ cl53.slots.size ≤ ((12 : Int32)).toNatClampNeg) := inb_of S53 ⟨by decide, by decide⟩
  obtain ⟨T54, h54, X54, e54, W54, st54⟩ := stC X51 hx hZ e51 Ar53 (j := (12 : Int32)) hin53 (g := (mkF m 143 #[.val (.int layout), .val (.int shape), .val (.long lc), .second, .val (.int (Int32.ofNat ms)), .val (.int (Int32.ofNat mp)), .val (.int q3), .val (.int (Int32.ofNat (ms + 1 + mp))), .val (.int q8), .val (.int q9), .val (.int q10), .unset, .unset, .unset, .unset, .unset, .unset, .unset, .unset, .unset, .unset, .unset] [(.int (104 : Int32)), (.int (12 : Int32)), (.ref b15), (.ref b15)])) rfl rfl (Jvm.hb hby at_143)
  have z55 : h51.size ≤ h54.size := Nat.le_of_eq W54.size.symm
  have Cp55 : CHr Z ELs s.vm h51 s.vm h54 := CHr.wr W54 (Safe.arv hZ.alike V51 (by decide)) CR.1
  have hk := Nat.le_trans hk z55
  have CR := CR.trans Cp55
  have V54 : Arv Z h54 b15 k15 .char (13 : Int32) [(.int (97 : Int32)), (.int (58 : Int32)), (.int (47 : Int32)), (.int (47 : Int32)), (.int (104 : Int32)), (.int (104 : Int32)), (.int (104 : Int32)), (.int (104 : Int32)), (.int (104 : Int32)), (.int (104 : Int32)), (.int (104 : Int32)), (.int (104 : Int32)), (.int (104 : Int32))] (.int (0 : Int32)) := by have q : Arv Z h54 b15 k15 .char (13 : Int32) [(.int (97 : Int32)), (.int (58 : Int32)), (.int (47 : Int32)), (.int (47 : Int32)), (.int (104 : Int32)), (.int (104 : Int32)), (.int (104 : Int32)), (.int (104 : Int32)), (.int (104 : Int32)), (.int (104 : Int32)), (.int (104 : Int32)), (.int (104 : Int32)), (.int (nar .char (104 : Int32)))] (.int (0 : Int32)) := Arv.set Ar53 q53 S53 M53 H53 G53 (fits_nar_char _) W54 12 rfl (Nat.le_of_ble_eq_true rfl); rw [show nar .char (104 : Int32) = (104 : Int32) from rfl] at q; exact q
  have N54 := Fr.snoc X54 N51 (show n0 ≤ b15 by omega)
  obtain ⟨T56, h56, k56, X56, e56, E56, A56, st56⟩ := newP X54 hx hZ (hw _ (List.mem_of_getElem? (i := 1) rfl)) e54 (g := (mkF m 148 #[.val (.int layout), .val (.int shape), .val (.long lc), .second, .val (.int (Int32.ofNat ms)), .val (.int (Int32.ofNat mp)), .val (.int q3), .val (.int (Int32.ofNat (ms + 1 + mp))), .val (.int q8), .val (.int q9), .val (.int q10), .val (.ref b15), .unset, .unset, .unset, .unset, .unset, .unset, .unset, .unset, .unset, .unset] [(.int (13 : Int32))])) rfl (Jvm.hb hby at_148) rfl (by decide) (cap := 13) (by decide) (by decide) (by decide) (by decide)
  obtain ⟨b56, g56⟩ : ∃ z, z = h54.size := ⟨_, rfl⟩
  rw [← g56] at A56 st56
  have z57 : h54.size ≤ h56.size := E56.1
  have Cp57 : CHr Z ELs s.vm h54 s.vm h56 := CHr.ext E56 CR.1
  have hk := Nat.le_trans hk z57
  have CR := CR.trans Cp57
  have l56 : b56 < h56.size := A56.lt
  have V56 : Arv Z h56 b56 k56 .char (13 : Int32) [(.int (0 : Int32)), (.int (0 : Int32)), (.int (0 : Int32)), (.int (0 : Int32)), (.int (0 : Int32)), (.int (0 : Int32)), (.int (0 : Int32)), (.int (0 : Int32)), (.int (0 : Int32)), (.int (0 : Int32)), (.int (0 : Int32)), (.int (0 : Int32)), (.int (0 : Int32))] (.int (0 : Int32)) := (Arv.new A56 (by decide)).pad (pad_rep [] (.int (0 : Int32)) 13)
  obtain ⟨cl58, Ar58, q58, S58, M58, H58, G58⟩ := id V56
  have hin58 : ¬ ((0 : Int32) < 0 ∨ cl58.slots.size ≤ ((0 : Int32)).toNatClampNeg) := inb_of S58 ⟨by decide, by decide⟩
  obtain ⟨T59, h59, X59, e59, W59, st59⟩ := stC X56 hx hZ e56 Ar58 (j := (0 : Int32)) hin58 (g := (mkF m 154 #[.val (.int layout), .val (.int shape), .val (.long lc), .second, .val (.int (Int32.ofNat ms)), .val (.int (Int32.ofNat mp)), .val (.int q3), .val (.int (Int32.ofNat (ms + 1 + mp))), .val (.int q8), .val (.int q9), .val (.int q10), .val (.ref b15), .unset, .unset, .unset, .unset, .unset, .unset, .unset, .unset, .unset, .unset] [(.int (97 : Int32)), (.int (0 : Int32)), (.ref b56), (.ref b56)])) rfl rfl (Jvm.hb hby at_154)
  have z60 : h56.size ≤ h59.size := Nat.le_of_eq W59.size.symm
  have Cp60 : CHr Z ELs s.vm h56 s.vm h59 := CHr.wr W59 (Safe.arv hZ.alike V56 (by decide)) CR.1
  have hk := Nat.le_trans hk z60
  have CR := CR.trans Cp60
  have V59 : Arv Z h59 b56 k56 .char (13 : Int32) [(.int (97 : Int32)), (.int (0 : Int32)), (.int (0 : Int32)), (.int (0 : Int32)), (.int (0 : Int32)), (.int (0 : Int32)), (.int (0 : Int32)), (.int (0 : Int32)), (.int (0 : Int32)), (.int (0 : Int32)), (.int (0 : Int32)), (.int (0 : Int32)), (.int (0 : Int32))] (.int (0 : Int32)) := by have q : Arv Z h59 b56 k56 .char (13 : Int32) [(.int (nar .char (97 : Int32))), (.int (0 : Int32)), (.int (0 : Int32)), (.int (0 : Int32)), (.int (0 : Int32)), (.int (0 : Int32)), (.int (0 : Int32)), (.int (0 : Int32)), (.int (0 : Int32)), (.int (0 : Int32)), (.int (0 : Int32)), (.int (0 : Int32)), (.int (0 : Int32))] (.int (0 : Int32)) := Arv.set Ar58 q58 S58 M58 H58 G58 (fits_nar_char _) W59 0 rfl (Nat.le_of_ble_eq_true rfl); rw [show nar .char (97 : Int32) = (97 : Int32) from rfl] at q; exact q
  have N59 := Fr.snoc X59 N54 (show n0 ≤ b56 by omega)
  obtain ⟨cl61, Ar61, q61, S61, M61, H61, G61⟩ := id V59
  have hin61 : ¬ ((1 : Int32) < 0 ∨ cl61.slots.size ≤ ((1 : Int32)).toNatClampNeg) := inb_of S61 ⟨by decide, by decide⟩
  obtain ⟨T62, h62, X62, e62, W62, st62⟩ := stC X59 hx hZ e59 Ar61 (j := (1 : Int32)) hin61 (g := (mkF m 159 #[.val (.int layout), .val (.int shape), .val (.long lc), .second, .val (.int (Int32.ofNat ms)), .val (.int (Int32.ofNat mp)), .val (.int q3), .val (.int (Int32.ofNat (ms + 1 + mp))), .val (.int q8), .val (.int q9), .val (.int q10), .val (.ref b15), .unset, .unset, .unset, .unset, .unset, .unset, .unset, .unset, .unset, .unset] [(.int (98 : Int32)), (.int (1 : Int32)), (.ref b56), (.ref b56)])) rfl rfl (Jvm.hb hby at_159)
  have z63 : h59.size ≤ h62.size := Nat.le_of_eq W62.size.symm
  have Cp63 : CHr Z ELs s.vm h59 s.vm h62 := CHr.wr W62 (Safe.arv hZ.alike V59 (by decide)) CR.1
  have hk := Nat.le_trans hk z63
  have CR := CR.trans Cp63
  have V62 : Arv Z h62 b56 k56 .char (13 : Int32) [(.int (97 : Int32)), (.int (98 : Int32)), (.int (0 : Int32)), (.int (0 : Int32)), (.int (0 : Int32)), (.int (0 : Int32)), (.int (0 : Int32)), (.int (0 : Int32)), (.int (0 : Int32)), (.int (0 : Int32)), (.int (0 : Int32)), (.int (0 : Int32)), (.int (0 : Int32))] (.int (0 : Int32)) := by have q : Arv Z h62 b56 k56 .char (13 : Int32) [(.int (97 : Int32)), (.int (nar .char (98 : Int32))), (.int (0 : Int32)), (.int (0 : Int32)), (.int (0 : Int32)), (.int (0 : Int32)), (.int (0 : Int32)), (.int (0 : Int32)), (.int (0 : Int32)), (.int (0 : Int32)), (.int (0 : Int32)), (.int (0 : Int32)), (.int (0 : Int32))] (.int (0 : Int32)) := Arv.set Ar61 q61 S61 M61 H61 G61 (fits_nar_char _) W62 1 rfl (Nat.le_of_ble_eq_true rfl); rw [show nar .char (98 : Int32) = (98 : Int32) from rfl] at q; exact q
  have N62 := Fr.snoc X62 N59 (show n0 ≤ b56 by omega)
  obtain ⟨cl64, Ar64, q64, S64, M64, H64, G64⟩ := id V62
  have hin64 : ¬ ((2 : Int32) < 0 ∨ cl64.slots.size ≤ ((2 : Int32)).toNatClampNeg) := inb_of S64 ⟨by decide, by decide⟩
  obtain ⟨T65, h65, X65, e65, W65, st65⟩ := stC X62 hx hZ e62 Ar64 (j := (2 : Int32)) hin64 (g := (mkF m 164 #[.val (.int layout), .val (.int shape), .val (.long lc), .second, .val (.int (Int32.ofNat ms)), .val (.int (Int32.ofNat mp)), .val (.int q3), .val (.int (Int32.ofNat (ms + 1 + mp))), .val (.int q8), .val (.int q9), .val (.int q10), .val (.ref b15), .unset, .unset, .unset, .unset, .unset, .unset, .unset, .unset, .unset, .unset] [(.int (58 : Int32)), (.int (2 : Int32)), (.ref b56), (.ref b56)])) rfl rfl (Jvm.hb hby at_164)
  have z66 : h62.size ≤ h65.size := Nat.le_of_eq W65.size.symm
  have Cp66 : CHr Z ELs s.vm h62 s.vm h65 := CHr.wr W65 (Safe.arv hZ.alike V62 (by decide)) CR.1
  have hk := Nat.le_trans hk z66
  have CR := CR.trans Cp66
  have V65 : Arv Z h65 b56 k56 .char (13 : Int32) [(.int (97 : Int32)), (.int (98 : Int32)), (.int (58 : Int32)), (.int (0 : Int32)), (.int (0 : Int32)), (.int (0 : Int32)), (.int (0 : Int32)), (.int (0 : Int32)), (.int (0 : Int32)), (.int (0 : Int32)), (.int (0 : Int32)), (.int (0 : Int32)), (.int (0 : Int32))] (.int (0 : Int32)) := by have q : Arv Z h65 b56 k56 .char (13 : Int32) [(.int (97 : Int32)), (.int (98 : Int32)), (.int (nar .char (58 : Int32))), (.int (0 : Int32)), (.int (0 : Int32)), (.int (0 : Int32)), (.int (0 : Int32)), (.int (0 : Int32)), (.int (0 : Int32)), (.int (0 : Int32)), (.int (0 : Int32)), (.int (0 : Int32)), (.int (0 : Int32))] (.int (0 : Int32)) := Arv.set Ar64 q64 S64 M64 H64 G64 (fits_nar_char _) W65 2 rfl (Nat.le_of_ble_eq_true rfl); rw [show nar .char (58 : Int32) = (58 : Int32) from rfl] at q; exact q
  have N65 := Fr.snoc X65 N62 (show n0 ≤ b56 by omega)
  obtain ⟨cl67, Ar67, q67, S67, M67, H67, G67⟩ := id V65
  have hin67 : ¬ ((3 : Int32) < 0 ∨ cl67.slots.size ≤ ((3 : Int32)).toNatClampNeg) := inb_of S67 ⟨by decide, by decide⟩
  obtain ⟨T68, h68, X68, e68, W68, st68⟩ := stC X65 hx hZ e65 Ar67 (j := (3 : Int32)) hin67 (g := (mkF m 169 #[.val (.int layout), .val (.int shape), .val (.long lc), .second, .val (.int (Int32.ofNat ms)), .val (.int (Int32.ofNat mp)), .val (.int q3), .val (.int (Int32.ofNat (ms + 1 + mp))), .val (.int q8), .val (.int q9), .val (.int q10), .val (.ref b15), .unset, .unset, .unset, .unset, .unset, .unset, .unset, .unset, .unset, .unset] [(.int (47 : Int32)), (.int (3 : Int32)), (.ref b56), (.ref b56)])) rfl rfl (Jvm.hb hby at_169)
  have z69 : h65.size ≤ h68.size := Nat.le_of_eq W68.size.symm
  have Cp69 : CHr Z ELs s.vm h65 s.vm h68 := CHr.wr W68 (Safe.arv hZ.alike V65 (by decide)) CR.1
  have hk := Nat.le_trans hk z69
  have CR := CR.trans Cp69
  have V68 : Arv Z h68 b56 k56 .char (13 : Int32) [(.int (97 : Int32)), (.int (98 : Int32)), (.int (58 : Int32)), (.int (47 : Int32)), (.int (0 : Int32)), (.int (0 : Int32)), (.int (0 : Int32)), (.int (0 : Int32)), (.int (0 : Int32)), (.int (0 : Int32)), (.int (0 : Int32)), (.int (0 : Int32)), (.int (0 : Int32))] (.int (0 : Int32)) := by have q : Arv Z h68 b56 k56 .char (13 : Int32) [(.int (97 : Int32)), (.int (98 : Int32)), (.int (58 : Int32)), (.int (nar .char (47 : Int32))), (.int (0 : Int32)), (.int (0 : Int32)), (.int (0 : Int32)), (.int (0 : Int32)), (.int (0 : Int32)), (.int (0 : Int32)), (.int (0 : Int32)), (.int (0 : Int32)), (.int (0 : Int32))] (.int (0 : Int32)) := Arv.set Ar67 q67 S67 M67 H67 G67 (fits_nar_char _) W68 3 rfl (Nat.le_of_ble_eq_true rfl); rw [show nar .char (47 : Int32) = (47 : Int32) from rfl] at q; exact q
  have N68 := Fr.snoc X68 N65 (show n0 ≤ b56 by omega)
  obtain ⟨cl70, Ar70, q70, S70, M70, H70, G70⟩ := id V68
  have hin70 : ¬ ((4 : Int32) < 0 ∨ cl70.slots.size ≤ ((4 : Int32)).toNatClampNeg) := inb_of S70 ⟨by decide, by decide⟩
  obtain ⟨T71, h71, X71, e71, W71, st71⟩ := stC X68 hx hZ e68 Ar70 (j := (4 : Int32)) hin70 (g := (mkF m 174 #[.val (.int layout), .val (.int shape), .val (.long lc), .second, .val (.int (Int32.ofNat ms)), .val (.int (Int32.ofNat mp)), .val (.int q3), .val (.int (Int32.ofNat (ms + 1 + mp))), .val (.int q8), .val (.int q9), .val (.int q10), .val (.ref b15), .unset, .unset, .unset, .unset, .unset, .unset, .unset, .unset, .unset, .unset] [(.int (47 : Int32)), (.int (4 : Int32)), (.ref b56), (.ref b56)])) rfl rfl (Jvm.hb hby at_174)
  have z72 : h68.size ≤ h71.size := Nat.le_of_eq W71.size.symm
  have Cp72 : CHr Z ELs s.vm h68 s.vm h71 := CHr.wr W71 (Safe.arv hZ.alike V68 (by decide)) CR.1
  have hk := Nat.le_trans hk z72
  have CR := CR.trans Cp72
  have V71 : Arv Z h71 b56 k56 .char (13 : Int32) [(.int (97 : Int32)), (.int (98 : Int32)), (.int (58 : Int32)), (.int (47 : Int32)), (.int (47 : Int32)), (.int (0 : Int32)), (.int (0 : Int32)), (.int (0 : Int32)), (.int (0 : Int32)), (.int (0 : Int32)), (.int (0 : Int32)), (.int (0 : Int32)), (.int (0 : Int32))] (.int (0 : Int32)) := by have q : Arv Z h71 b56 k56 .char (13 : Int32) [(.int (97 : Int32)), (.int (98 : Int32)), (.int (58 : Int32)), (.int (47 : Int32)), (.int (nar .char (47 : Int32))), (.int (0 : Int32)), (.int (0 : Int32)), (.int (0 : Int32)), (.int (0 : Int32)), (.int (0 : Int32)), (.int (0 : Int32)), (.int (0 : Int32)), (.int (0 : Int32))] (.int (0 : Int32)) := Arv.set Ar70 q70 S70 M70 H70 G70 (fits_nar_char _) W71 4 rfl (Nat.le_of_ble_eq_true rfl); rw [show nar .char (47 : Int32) = (47 : Int32) from rfl] at q; exact q
  have N71 := Fr.snoc X71 N68 (show n0 ≤ b56 by omega)
  obtain ⟨cl73, Ar73, q73, S73, M73, H73, G73⟩ := id V71
  have hin73 : ¬ ((5 : Int32) < 0 ∨ cl73.slots.size ≤ ((5 : Int32)).toNatClampNeg) := inb_of S73 ⟨by decide, by decide⟩
  obtain ⟨T74, h74, X74, e74, W74, st74⟩ := stC X71 hx hZ e71 Ar73 (j := (5 : Int32)) hin73 (g := (mkF m 179 #[.val (.int layout), .val (.int shape), .val (.long lc), .second, .val (.int (Int32.ofNat ms)), .val (.int (Int32.ofNat mp)), .val (.int q3), .val (.int (Int32.ofNat (ms + 1 + mp))), .val (.int q8), .val (.int q9), .val (.int q10), .val (.ref b15), .unset, .unset, .unset, .unset, .unset, .unset, .unset, .unset, .unset, .unset] [(.int (104 : Int32)), (.int (5 : Int32)), (.ref b56), (.ref b56)])) rfl rfl (Jvm.hb hby at_179)
  have z75 : h71.size ≤ h74.size := Nat.le_of_eq W74.size.symm
  have Cp75 : CHr Z ELs s.vm h71 s.vm h74 := CHr.wr W74 (Safe.arv hZ.alike V71 (by decide)) CR.1
  have hk := Nat.le_trans hk z75
  have CR := CR.trans Cp75
  have V74 : Arv Z h74 b56 k56 .char (13 : Int32) [(.int (97 : Int32)), (.int (98 : Int32)), (.int (58 : Int32)), (.int (47 : Int32)), (.int (47 : Int32)), (.int (104 : Int32)), (.int (0 : Int32)), (.int (0 : Int32)), (.int (0 : Int32)), (.int (0 : Int32)), (.int (0 : Int32)), (.int (0 : Int32)), (.int (0 : Int32))] (.int (0 : Int32)) := by have q : Arv Z h74 b56 k56 .char (13 : Int32) [(.int (97 : Int32)), (.int (98 : Int32)), (.int (58 : Int32)), (.int (47 : Int32)), (.int (47 : Int32)), (.int (nar .char (104 : Int32))), (.int (0 : Int32)), (.int (0 : Int32)), (.int (0 : Int32)), (.int (0 : Int32)), (.int (0 : Int32)), (.int (0 : Int32)), (.int (0 : Int32))] (.int (0 : Int32)) := Arv.set Ar73 q73 S73 M73 H73 G73 (fits_nar_char _) W74 5 rfl (Nat.le_of_ble_eq_true rfl); rw [show nar .char (104 : Int32) = (104 : Int32) from rfl] at q; exact q
  have N74 := Fr.snoc X74 N71 (show n0 ≤ b56 by omega)
  obtain ⟨cl76, Ar76, q76, S76, M76, H76, G76⟩ := id V74
  have hin76 : ¬ ((6 : Int32) < 0 ∨ cl76.slots.size ≤ ((6 : Int32)).toNatClampNeg) := inb_of S76 ⟨by decide, by decide⟩
  obtain ⟨T77, h77, X77, e77, W77, st77⟩ := stC X74 hx hZ e74 Ar76 (j := (6 : Int32)) hin76 (g := (mkF m 185 #[.val (.int layout), .val (.int shape), .val (.long lc), .second, .val (.int (Int32.ofNat ms)), .val (.int (Int32.ofNat mp)), .val (.int q3), .val (.int (Int32.ofNat (ms + 1 + mp))), .val (.int q8), .val (.int q9), .val (.int q10), .val (.ref b15), .unset, .unset, .unset, .unset, .unset, .unset, .unset, .unset, .unset, .unset] [(.int (104 : Int32)), (.int (6 : Int32)), (.ref b56), (.ref b56)])) rfl rfl (Jvm.hb hby at_185)
  have z78 : h74.size ≤ h77.size := Nat.le_of_eq W77.size.symm
  have Cp78 : CHr Z ELs s.vm h74 s.vm h77 := CHr.wr W77 (Safe.arv hZ.alike V74 (by decide)) CR.1
  have hk := Nat.le_trans hk z78
  have CR := CR.trans Cp78
  have V77 : Arv Z h77 b56 k56 .char (13 : Int32) [(.int (97 : Int32)), (.int (98 : Int32)), (.int (58 : Int32)), (.int (47 : Int32)), (.int (47 : Int32)), (.int (104 : Int32)), (.int (104 : Int32)), (.int (0 : Int32)), (.int (0 : Int32)), (.int (0 : Int32)), (.int (0 : Int32)), (.int (0 : Int32)), (.int (0 : Int32))] (.int (0 : Int32)) := by have q : Arv Z h77 b56 k56 .char (13 : Int32) [(.int (97 : Int32)), (.int (98 : Int32)), (.int (58 : Int32)), (.int (47 : Int32)), (.int (47 : Int32)), (.int (104 : Int32)), (.int (nar .char (104 : Int32))), (.int (0 : Int32)), (.int (0 : Int32)), (.int (0 : Int32)), (.int (0 : Int32)), (.int (0 : Int32)), (.int (0 : Int32))] (.int (0 : Int32)) := Arv.set Ar76 q76 S76 M76 H76 G76 (fits_nar_char _) W77 6 rfl (Nat.le_of_ble_eq_true rfl); rw [show nar .char (104 : Int32) = (104 : Int32) from rfl] at q; exact q
  have N77 := Fr.snoc X77 N74 (show n0 ≤ b56 by omega)
  obtain ⟨cl79, Ar79, q79, S79, M79, H79, G79⟩ := id V77
  have hin79 : ¬ ((7 : Int32) < 0 ∨ cl79.slots.size ≤ ((7 : Int32)).toNatClampNeg) := inb_of S79 ⟨by decide, by decide⟩
  obtain ⟨T80, h80, X80, e80, W80, st80⟩ := stC X77 hx hZ e77 Ar79 (j := (7 : Int32)) hin79 (g := (mkF m 191 #[.val (.int layout), .val (.int shape), .val (.long lc), .second, .val (.int (Int32.ofNat ms)), .val (.int (Int32.ofNat mp)), .val (.int q3), .val (.int (Int32.ofNat (ms + 1 + mp))), .val (.int q8), .val (.int q9), .val (.int q10), .val (.ref b15), .unset, .unset, .unset, .unset, .unset, .unset, .unset, .unset, .unset, .unset] [(.int (104 : Int32)), (.int (7 : Int32)), (.ref b56), (.ref b56)])) rfl rfl (Jvm.hb hby at_191)
  have z81 : h77.size ≤ h80.size := Nat.le_of_eq W80.size.symm
  have Cp81 : CHr Z ELs s.vm h77 s.vm h80 := CHr.wr W80 (Safe.arv hZ.alike V77 (by decide)) CR.1
  have hk := Nat.le_trans hk z81
  have CR := CR.trans Cp81
  have V80 : Arv Z h80 b56 k56 .char (13 : Int32) [(.int (97 : Int32)), (.int (98 : Int32)), (.int (58 : Int32)), (.int (47 : Int32)), (.int (47 : Int32)), (.int (104 : Int32)), (.int (104 : Int32)), (.int (104 : Int32)), (.int (0 : Int32)), (.int (0 : Int32)), (.int (0 : Int32)), (.int (0 : Int32)), (.int (0 : Int32))] (.int (0 : Int32)) := by have q : Arv Z h80 b56 k56 .char (13 : Int32) [(.int (97 : Int32)), (.int (98 : Int32)), (.int (58 : Int32)), (.int (47 : Int32)), (.int (47 : Int32)), (.int (104 : Int32)), (.int (104 : Int32)), (.int (nar .char (104 : Int32))), (.int (0 : Int32)), (.int (0 : Int32)), (.int (0 : Int32)), (.int (0 : Int32)), (.int (0 : Int32))] (.int (0 : Int32)) := Arv.set Ar79 q79 S79 M79 H79 G79 (fits_nar_char _) W80 7 rfl (Nat.le_of_ble_eq_true rfl); rw [show nar .char (104 : Int32) = (104 : Int32) from rfl] at q; exact q
  have N80 := Fr.snoc X80 N77 (show n0 ≤ b56 by omega)
  obtain ⟨cl82, Ar82, q82, S82, M82, H82, G82⟩ := id V80
  have hin82 : ¬ ((8 : Int32) < 0 ∨ cl82.slots.size ≤ ((8 : Int32)).toNatClampNeg) := inb_of S82 ⟨by decide, by decide⟩
  obtain ⟨T83, h83, X83, e83, W83, st83⟩ := stC X80 hx hZ e80 Ar82 (j := (8 : Int32)) hin82 (g := (mkF m 197 #[.val (.int layout), .val (.int shape), .val (.long lc), .second, .val (.int (Int32.ofNat ms)), .val (.int (Int32.ofNat mp)), .val (.int q3), .val (.int (Int32.ofNat (ms + 1 + mp))), .val (.int q8), .val (.int q9), .val (.int q10), .val (.ref b15), .unset, .unset, .unset, .unset, .unset, .unset, .unset, .unset, .unset, .unset] [(.int (104 : Int32)), (.int (8 : Int32)), (.ref b56), (.ref b56)])) rfl rfl (Jvm.hb hby at_197)
  have z84 : h80.size ≤ h83.size := Nat.le_of_eq W83.size.symm
  have Cp84 : CHr Z ELs s.vm h80 s.vm h83 := CHr.wr W83 (Safe.arv hZ.alike V80 (by decide)) CR.1
  have hk := Nat.le_trans hk z84
  have CR := CR.trans Cp84
  have V83 : Arv Z h83 b56 k56 .char (13 : Int32) [(.int (97 : Int32)), (.int (98 : Int32)), (.int (58 : Int32)), (.int (47 : Int32)), (.int (47 : Int32)), (.int (104 : Int32)), (.int (104 : Int32)), (.int (104 : Int32)), (.int (104 : Int32)), (.int (0 : Int32)), (.int (0 : Int32)), (.int (0 : Int32)), (.int (0 : Int32))] (.int (0 : Int32)) := by have q : Arv Z h83 b56 k56 .char (13 : Int32) [(.int (97 : Int32)), (.int (98 : Int32)), (.int (58 : Int32)), (.int (47 : Int32)), (.int (47 : Int32)), (.int (104 : Int32)), (.int (104 : Int32)), (.int (104 : Int32)), (.int (nar .char (104 : Int32))), (.int (0 : Int32)), (.int (0 : Int32)), (.int (0 : Int32)), (.int (0 : Int32))] (.int (0 : Int32)) := Arv.set Ar82 q82 S82 M82 H82 G82 (fits_nar_char _) W83 8 rfl (Nat.le_of_ble_eq_true rfl); rw [show nar .char (104 : Int32) = (104 : Int32) from rfl] at q; exact q
  have N83 := Fr.snoc X83 N80 (show n0 ≤ b56 by omega)
  obtain ⟨cl85, Ar85, q85, S85, M85, H85, G85⟩ := id V83
  have hin85 : ¬ ((9 : Int32) < 0 ∨ cl85.slots.size ≤ ((9 : Int32)).toNatClampNeg) := inb_of S85 ⟨by decide, by decide⟩
  obtain ⟨T86, h86, X86, e86, W86, st86⟩ := stC X83 hx hZ e83 Ar85 (j := (9 : Int32)) hin85 (g := (mkF m 203 #[.val (.int layout), .val (.int shape), .val (.long lc), .second, .val (.int (Int32.ofNat ms)), .val (.int (Int32.ofNat mp)), .val (.int q3), .val (.int (Int32.ofNat (ms + 1 + mp))), .val (.int q8), .val (.int q9), .val (.int q10), .val (.ref b15), .unset, .unset, .unset, .unset, .unset, .unset, .unset, .unset, .unset, .unset] [(.int (104 : Int32)), (.int (9 : Int32)), (.ref b56), (.ref b56)])) rfl rfl (Jvm.hb hby at_203)
  have z87 : h83.size ≤ h86.size := Nat.le_of_eq W86.size.symm
  have Cp87 : CHr Z ELs s.vm h83 s.vm h86 := CHr.wr W86 (Safe.arv hZ.alike V83 (by decide)) CR.1
  have hk := Nat.le_trans hk z87
  have CR := CR.trans Cp87
  have V86 : Arv Z h86 b56 k56 .char (13 : Int32) [(.int (97 : Int32)), (.int (98 : Int32)), (.int (58 : Int32)), (.int (47 : Int32)), (.int (47 : Int32)), (.int (104 : Int32)), (.int (104 : Int32)), (.int (104 : Int32)), (.int (104 : Int32)), (.int (104 : Int32)), (.int (0 : Int32)), (.int (0 : Int32)), (.int (0 : Int32))] (.int (0 : Int32)) := by have q : Arv Z h86 b56 k56 .char (13 : Int32) [(.int (97 : Int32)), (.int (98 : Int32)), (.int (58 : Int32)), (.int (47 : Int32)), (.int (47 : Int32)), (.int (104 : Int32)), (.int (104 : Int32)), (.int (104 : Int32)), (.int (104 : Int32)), (.int (nar .char (104 : Int32))), (.int (0 : Int32)), (.int (0 : Int32)), (.int (0 : Int32))] (.int (0 : Int32)) := Arv.set Ar85 q85 S85 M85 H85 G85 (fits_nar_char _) W86 9 rfl (Nat.le_of_ble_eq_true rfl); rw [show nar .char (104 : Int32) = (104 : Int32) from rfl] at q; exact q
  have N86 := Fr.snoc X86 N83 (show n0 ≤ b56 by omega)
  obtain ⟨cl88, Ar88, q88, S88, M88, H88, G88⟩ := id V86
  have hin88 : ¬ ((10 : Int32) < 0 ∨ cl88.slots.size ≤ ((10 : Int32)).toNatClampNeg) := inb_of S88 ⟨by decide, by decide⟩
  obtain ⟨T89, h89, X89, e89, W89, st89⟩ := stC X86 hx hZ e86 Ar88 (j := (10 : Int32)) hin88 (g := (mkF m 209 #[.val (.int layout), .val (.int shape), .val (.long lc), .second, .val (.int (Int32.ofNat ms)), .val (.int (Int32.ofNat mp)), .val (.int q3), .val (.int (Int32.ofNat (ms + 1 + mp))), .val (.int q8), .val (.int q9), .val (.int q10), .val (.ref b15), .unset, .unset, .unset, .unset, .unset, .unset, .unset, .unset, .unset, .unset] [(.int (104 : Int32)), (.int (10 : Int32)), (.ref b56), (.ref b56)])) rfl rfl (Jvm.hb hby at_209)
  have z90 : h86.size ≤ h89.size := Nat.le_of_eq W89.size.symm
  have Cp90 : CHr Z ELs s.vm h86 s.vm h89 := CHr.wr W89 (Safe.arv hZ.alike V86 (by decide)) CR.1
  have hk := Nat.le_trans hk z90
  have CR := CR.trans Cp90
  have V89 : Arv Z h89 b56 k56 .char (13 : Int32) [(.int (97 : Int32)), (.int (98 : Int32)), (.int (58 : Int32)), (.int (47 : Int32)), (.int (47 : Int32)), (.int (104 : Int32)), (.int (104 : Int32)), (.int (104 : Int32)), (.int (104 : Int32)), (.int (104 : Int32)), (.int (104 : Int32)), (.int (0 : Int32)), (.int (0 : Int32))] (.int (0 : Int32)) := by have q : Arv Z h89 b56 k56 .char (13 : Int32) [(.int (97 : Int32)), (.int (98 : Int32)), (.int (58 : Int32)), (.int (47 : Int32)), (.int (47 : Int32)), (.int (104 : Int32)), (.int (104 : Int32)), (.int (104 : Int32)), (.int (104 : Int32)), (.int (104 : Int32)), (.int (nar .char (104 : Int32))), (.int (0 : Int32)), (.int (0 : Int32))] (.int (0 : Int32)) := Arv.set Ar88 q88 S88 M88 H88 G88 (fits_nar_char _) W89 10 rfl (Nat.le_of_ble_eq_true rfl); rw [show nar .char (104 : Int32) = (104 : Int32) from rfl] at q; exact q
  have N89 := Fr.snoc X89 N86 (show n0 ≤ b56 by omega)
  obtain ⟨cl91, Ar91, q91, S91, M91, H91, G91⟩ := id V89
  have hin91 : ¬ ((11 : Int32) < 0 ∨ cl91.slots.size ≤ ((11 : Int32)).toNatClampNeg) := inb_of S91 ⟨by decide, by decide⟩
  obtain ⟨T92, h92, X92, e92, W92, st92⟩ := stC X89 hx hZ e89 Ar91 (j := (11 : Int32)) hin91 (g := (mkF m 215 #[.val (.int layout), .val (.int shape), .val (.long lc), .second, .val (.int (Int32.ofNat ms)), .val (.int (Int32.ofNat mp)), .val (.int q3), .val (.int (Int32.ofNat (ms + 1 + mp))), .val (.int q8), .val (.int q9), .val (.int q10), .val (.ref b15), .unset, .unset, .unset, .unset, .unset, .unset, .unset, .unset, .unset, .unset] [(.int (104 : Int32)), (.int (11 : Int32)), (.ref b56), (.ref b56)])) rfl rfl (Jvm.hb hby at_215)
  have z93 : h89.size ≤ h92.size := Nat.le_of_eq W92.size.symm
  have Cp93 : CHr Z ELs s.vm h89 s.vm h92 := CHr.wr W92 (Safe.arv hZ.alike V89 (by decide)) CR.1
  have hk := Nat.le_trans hk z93
  have CR := CR.trans Cp93
  have V92 : Arv Z h92 b56 k56 .char (13 : Int32) [(.int (97 : Int32)), (.int (98 : Int32)), (.int (58 : Int32)), (.int (47 : Int32)), (.int (47 : Int32)), (.int (104 : Int32)), (.int (104 : Int32)), (.int (104 : Int32)), (.int (104 : Int32)), (.int (104 : Int32)), (.int (104 : Int32)), (.int (104 : Int32)), (.int (0 : Int32))] (.int (0 : Int32)) := by have q : Arv Z h92 b56 k56 .char (13 : Int32) [(.int (97 : Int32)), (.int (98 : Int32)), (.int (58 : Int32)), (.int (47 : Int32)), (.int (47 : Int32)), (.int (104 : Int32)), (.int (104 : Int32)), (.int (104 : Int32)), (.int (104 : Int32)), (.int (104 : Int32)), (.int (104 : Int32)), (.int (nar .char (104 : Int32))), (.int (0 : Int32))] (.int (0 : Int32)) := Arv.set Ar91 q91 S91 M91 H91 G91 (fits_nar_char _) W92 11 rfl (Nat.le_of_ble_eq_true rfl); rw [show nar .char (104 : Int32) = (104 : Int32) from rfl] at q; exact q
  have N92 := Fr.snoc X92 N89 (show n0 ≤ b56 by omega)
  obtain ⟨cl94, Ar94, q94, S94, M94, H94, G94⟩ := id V92
  have hin94 : ¬ ((12 : Int32) < 0 ∨ cl94.slots.size ≤ ((12 : Int32)).toNatClampNeg) := inb_of S94 ⟨by decide, by decide⟩
  obtain ⟨T95, h95, X95, e95, W95, st95⟩ := stC X92 hx hZ e92 Ar94 (j := (12 : Int32)) hin94 (g := (mkF m 221 #[.val (.int layout), .val (.int shape), .val (.long lc), .second, .val (.int (Int32.ofNat ms)), .val (.int (Int32.ofNat mp)), .val (.int q3), .val (.int (Int32.ofNat (ms + 1 + mp))), .val (.int q8), .val (.int q9), .val (.int q10), .val (.ref b15), .unset, .unset, .unset, .unset, .unset, .unset, .unset, .unset, .unset, .unset] [(.int (104 : Int32)), (.int (12 : Int32)), (.ref b56), (.ref b56)])) rfl rfl (Jvm.hb hby at_221)
  have z96 : h92.size ≤ h95.size := Nat.le_of_eq W95.size.symm
  have Cp96 : CHr Z ELs s.vm h92 s.vm h95 := CHr.wr W95 (Safe.arv hZ.alike V92 (by decide)) CR.1
  have hk := Nat.le_trans hk z96
  have CR := CR.trans Cp96
  have V95 : Arv Z h95 b56 k56 .char (13 : Int32) [(.int (97 : Int32)), (.int (98 : Int32)), (.int (58 : Int32)), (.int (47 : Int32)), (.int (47 : Int32)), (.int (104 : Int32)), (.int (104 : Int32)), (.int (104 : Int32)), (.int (104 : Int32)), (.int (104 : Int32)), (.int (104 : Int32)), (.int (104 : Int32)), (.int (104 : Int32))] (.int (0 : Int32)) := by have q : Arv Z h95 b56 k56 .char (13 : Int32) [(.int (97 : Int32)), (.int (98 : Int32)), (.int (58 : Int32)), (.int (47 : Int32)), (.int (47 : Int32)), (.int (104 : Int32)), (.int (104 : Int32)), (.int (104 : Int32)), (.int (104 : Int32)), (.int (104 : Int32)), (.int (104 : Int32)), (.int (104 : Int32)), (.int (nar .char (104 : Int32)))] (.int (0 : Int32)) := Arv.set Ar94 q94 S94 M94 H94 G94 (fits_nar_char _) W95 12 rfl (Nat.le_of_ble_eq_true rfl); rw [show nar .char (104 : Int32) = (104 : Int32) from rfl] at q; exact q
  have N95 := Fr.snoc X95 N92 (show n0 ≤ b56 by omega)
  have s97 : ∀ t_, Steps p.tables e below (T95.setTop (mkF m 224 #[.val (.int layout), .val (.int shape), .val (.long lc), .second, .val (.int (Int32.ofNat ms)), .val (.int (Int32.ofNat mp)), .val (.int q3), .val (.int (Int32.ofNat (ms + 1 + mp))), .val (.int q8), .val (.int q9), .val (.int q10), .val (.ref b15), .val (.ref b56), .unset, .unset, .unset, .unset, .unset, .unset, .unset, .unset, .unset] [])) t_ → Steps p.tables e below (s₁.setTop (entryFrame m #[(.int layout), (.int shape), (.long lc)] maxLocals)) t_ := fun t_ k_ => s11 t_ (by
    show Steps p.tables e below (T4.setTop (mkF m 68 #[.val (.int layout), .val (.int shape), .val (.long lc), .second, .val (.int (Int32.ofNat ms)), .val (.int (Int32.ofNat mp)), .val (.int q3), .val (.int (Int32.ofNat (ms + 1 + mp))), .val (.int q8), .val (.int q9), .val (.int q10), .unset, .unset, .unset, .unset, .unset, .unset, .unset, .unset, .unset, .unset, .unset] [])) t_
    refine XS.bipush X4.here hx rfl (Jvm.hb hby at_68) ?_
    refine st15 _ ?_
    show Steps p.tables e below (T15.setTop (mkF m 72 #[.val (.int layout), .val (.int shape), .val (.long lc), .second, .val (.int (Int32.ofNat ms)), .val (.int (Int32.ofNat mp)), .val (.int q3), .val (.int (Int32.ofNat (ms + 1 + mp))), .val (.int q8), .val (.int q9), .val (.int q10), .unset, .unset, .unset, .unset, .unset, .unset, .unset, .unset, .unset, .unset, .unset] [(.ref b15)])) _
    refine XS.dup X15.here hx rfl (Jvm.hb hby at_72) rfl rfl ?_
    refine XS.iconst X15.here hx rfl (Jvm.hb hby at_73) ?_
    refine XS.bipush X15.here hx rfl (Jvm.hb hby at_74) ?_
    refine st18 _ ?_
    show Steps p.tables e below (T18.setTop (mkF m 77 #[.val (.int layout), .val (.int shape), .val (.long lc), .second, .val (.int (Int32.ofNat ms)), .val (.int (Int32.ofNat mp)), .val (.int q3), .val (.int (Int32.ofNat (ms + 1 + mp))), .val (.int q8), .val (.int q9), .val (.int q10), .unset, .unset, .unset, .unset, .unset, .unset, .unset, .unset, .unset, .unset, .unset] [(.ref b15)])) _
    refine XS.dup X18.here hx rfl (Jvm.hb hby at_77) rfl rfl ?_
    refine XS.iconst X18.here hx rfl (Jvm.hb hby at_78) ?_
    refine XS.bipush X18.here hx rfl (Jvm.hb hby at_79) ?_
    refine st21 _ ?_
    show Steps p.tables e below (T21.setTop (mkF m 82 #[.val (.int layout), .val (.int shape), .val (.long lc), .second, .val (.int (Int32.ofNat ms)), .val (.int (Int32.ofNat mp)), .val (.int q3), .val (.int (Int32.ofNat (ms + 1 + mp))), .val (.int q8), .val (.int q9), .val (.int q10), .unset, .unset, .unset, .unset, .unset, .unset, .unset, .unset, .unset, .unset, .unset] [(.ref b15)])) _
    refine XS.dup X21.here hx rfl (Jvm.hb hby at_82) rfl rfl ?_
    refine XS.iconst X21.here hx rfl (Jvm.hb hby at_83) ?_
    refine XS.bipush X21.here hx rfl (Jvm.hb hby at_84) ?_
    refine st24 _ ?_
    show Steps p.tables e below (T24.setTop (mkF m 87 #[.val (.int layout), .val (.int shape), .val (.long lc), .second, .val (.int (Int32.ofNat ms)), .val (.int (Int32.ofNat mp)), .val (.int q3), .val (.int (Int32.ofNat (ms + 1 + mp))), .val (.int q8), .val (.int q9), .val (.int q10), .unset, .unset, .unset, .unset, .unset, .unset, .unset, .unset, .unset, .unset, .unset] [(.ref b15)])) _
    refine XS.dup X24.here hx rfl (Jvm.hb hby at_87) rfl rfl ?_
    refine XS.iconst X24.here hx rfl (Jvm.hb hby at_88) ?_
    refine XS.bipush X24.here hx rfl (Jvm.hb hby at_89) ?_
    refine st27 _ ?_
    show Steps p.tables e below (T27.setTop (mkF m 92 #[.val (.int layout), .val (.int shape), .val (.long lc), .second, .val (.int (Int32.ofNat ms)), .val (.int (Int32.ofNat mp)), .val (.int q3), .val (.int (Int32.ofNat (ms + 1 + mp))), .val (.int q8), .val (.int q9), .val (.int q10), .unset, .unset, .unset, .unset, .unset, .unset, .unset, .unset, .unset, .unset, .unset] [(.ref b15)])) _
    refine XS.dup X27.here hx rfl (Jvm.hb hby at_92) rfl rfl ?_
    refine XS.iconst X27.here hx rfl (Jvm.hb hby at_93) ?_
    refine XS.bipush X27.here hx rfl (Jvm.hb hby at_94) ?_
    refine st30 _ ?_
    show Steps p.tables e below (T30.setTop (mkF m 97 #[.val (.int layout), .val (.int shape), .val (.long lc), .second, .val (.int (Int32.ofNat ms)), .val (.int (Int32.ofNat mp)), .val (.int q3), .val (.int (Int32.ofNat (ms + 1 + mp))), .val (.int q8), .val (.int q9), .val (.int q10), .unset, .unset, .unset, .unset, .unset, .unset, .unset, .unset, .unset, .unset, .unset] [(.ref b15)])) _
    refine XS.dup X30.here hx rfl (Jvm.hb hby at_97) rfl rfl ?_
    refine XS.iconst X30.here hx rfl (Jvm.hb hby at_98) ?_
    refine XS.bipush X30.here hx rfl (Jvm.hb hby at_99) ?_
    refine st33 _ ?_
    show Steps p.tables e below (T33.setTop (mkF m 102 #[.val (.int layout), .val (.int shape), .val (.long lc), .second, .val (.int (Int32.ofNat ms)), .val (.int (Int32.ofNat mp)), .val (.int q3), .val (.int (Int32.ofNat (ms + 1 + mp))), .val (.int q8), .val (.int q9), .val (.int q10), .unset, .unset, .unset, .unset, .unset, .unset, .unset, .unset, .unset, .unset, .unset] [(.ref b15)])) _
    refine XS.dup X33.here hx rfl (Jvm.hb hby at_102) rfl rfl ?_
    refine XS.bipush X33.here hx rfl (Jvm.hb hby at_103) ?_
    refine XS.bipush X33.here hx rfl (Jvm.hb hby at_105) ?_
    refine st36 _ ?_
    show Steps p.tables e below (T36.setTop (mkF m 108 #[.val (.int layout), .val (.int shape), .val (.long lc), .second, .val (.int (Int32.ofNat ms)), .val (.int (Int32.ofNat mp)), .val (.int q3), .val (.int (Int32.ofNat (ms + 1 + mp))), .val (.int q8), .val (.int q9), .val (.int q10), .unset, .unset, .unset, .unset, .unset, .unset, .unset, .unset, .unset, .unset, .unset] [(.ref b15)])) _
    refine XS.dup X36.here hx rfl (Jvm.hb hby at_108) rfl rfl ?_
    refine XS.bipush X36.here hx rfl (Jvm.hb hby at_109) ?_
    refine XS.bipush X36.here hx rfl (Jvm.hb hby at_111) ?_
    refine st39 _ ?_
    show Steps p.tables e below (T39.setTop (mkF m 114 #[.val (.int layout), .val (.int shape), .val (.long lc), .second, .val (.int (Int32.ofNat ms)), .val (.int (Int32.ofNat mp)), .val (.int q3), .val (.int (Int32.ofNat (ms + 1 + mp))), .val (.int q8), .val (.int q9), .val (.int q10), .unset, .unset, .unset, .unset, .unset, .unset, .unset, .unset, .unset, .unset, .unset] [(.ref b15)])) _
    refine XS.dup X39.here hx rfl (Jvm.hb hby at_114) rfl rfl ?_
    refine XS.bipush X39.here hx rfl (Jvm.hb hby at_115) ?_
    refine XS.bipush X39.here hx rfl (Jvm.hb hby at_117) ?_
    refine st42 _ ?_
    show Steps p.tables e below (T42.setTop (mkF m 120 #[.val (.int layout), .val (.int shape), .val (.long lc), .second, .val (.int (Int32.ofNat ms)), .val (.int (Int32.ofNat mp)), .val (.int q3), .val (.int (Int32.ofNat (ms + 1 + mp))), .val (.int q8), .val (.int q9), .val (.int q10), .unset, .unset, .unset, .unset, .unset, .unset, .unset, .unset, .unset, .unset, .unset] [(.ref b15)])) _
    refine XS.dup X42.here hx rfl (Jvm.hb hby at_120) rfl rfl ?_
    refine XS.bipush X42.here hx rfl (Jvm.hb hby at_121) ?_
    refine XS.bipush X42.here hx rfl (Jvm.hb hby at_123) ?_
    refine st45 _ ?_
    show Steps p.tables e below (T45.setTop (mkF m 126 #[.val (.int layout), .val (.int shape), .val (.long lc), .second, .val (.int (Int32.ofNat ms)), .val (.int (Int32.ofNat mp)), .val (.int q3), .val (.int (Int32.ofNat (ms + 1 + mp))), .val (.int q8), .val (.int q9), .val (.int q10), .unset, .unset, .unset, .unset, .unset, .unset, .unset, .unset, .unset, .unset, .unset] [(.ref b15)])) _
    refine XS.dup X45.here hx rfl (Jvm.hb hby at_126) rfl rfl ?_
    refine XS.bipush X45.here hx rfl (Jvm.hb hby at_127) ?_
    refine XS.bipush X45.here hx rfl (Jvm.hb hby at_129) ?_
    refine st48 _ ?_
    show Steps p.tables e below (T48.setTop (mkF m 132 #[.val (.int layout), .val (.int shape), .val (.long lc), .second, .val (.int (Int32.ofNat ms)), .val (.int (Int32.ofNat mp)), .val (.int q3), .val (.int (Int32.ofNat (ms + 1 + mp))), .val (.int q8), .val (.int q9), .val (.int q10), .unset, .unset, .unset, .unset, .unset, .unset, .unset, .unset, .unset, .unset, .unset] [(.ref b15)])) _
    refine XS.dup X48.here hx rfl (Jvm.hb hby at_132) rfl rfl ?_
    refine XS.bipush X48.here hx rfl (Jvm.hb hby at_133) ?_
    refine XS.bipush X48.here hx rfl (Jvm.hb hby at_135) ?_
    refine st51 _ ?_
    show Steps p.tables e below (T51.setTop (mkF m 138 #[.val (.int layout), .val (.int shape), .val (.long lc), .second, .val (.int (Int32.ofNat ms)), .val (.int (Int32.ofNat mp)), .val (.int q3), .val (.int (Int32.ofNat (ms + 1 + mp))), .val (.int q8), .val (.int q9), .val (.int q10), .unset, .unset, .unset, .unset, .unset, .unset, .unset, .unset, .unset, .unset, .unset] [(.ref b15)])) _
    refine XS.dup X51.here hx rfl (Jvm.hb hby at_138) rfl rfl ?_
    refine XS.bipush X51.here hx rfl (Jvm.hb hby at_139) ?_
    refine XS.bipush X51.here hx rfl (Jvm.hb hby at_141) ?_
    refine st54 _ ?_
    show Steps p.tables e below (T54.setTop (mkF m 144 #[.val (.int layout), .val (.int shape), .val (.long lc), .second, .val (.int (Int32.ofNat ms)), .val (.int (Int32.ofNat mp)), .val (.int q3), .val (.int (Int32.ofNat (ms + 1 + mp))), .val (.int q8), .val (.int q9), .val (.int q10), .unset, .unset, .unset, .unset, .unset, .unset, .unset, .unset, .unset, .unset, .unset] [(.ref b15)])) _
    refine XS.astore X54.here hx rfl (Jvm.hb hby at_144) rfl rfl (l' := #[.val (.int layout), .val (.int shape), .val (.long lc), .second, .val (.int (Int32.ofNat ms)), .val (.int (Int32.ofNat mp)), .val (.int q3), .val (.int (Int32.ofNat (ms + 1 + mp))), .val (.int q8), .val (.int q9), .val (.int q10), .val (.ref b15), .unset, .unset, .unset, .unset, .unset, .unset, .unset, .unset, .unset, .unset]) rfl ?_
    refine XS.bipush X54.here hx rfl (Jvm.hb hby at_146) ?_
    refine st56 _ ?_
    show Steps p.tables e below (T56.setTop (mkF m 150 #[.val (.int layout), .val (.int shape), .val (.long lc), .second, .val (.int (Int32.ofNat ms)), .val (.int (Int32.ofNat mp)), .val (.int q3), .val (.int (Int32.ofNat (ms + 1 + mp))), .val (.int q8), .val (.int q9), .val (.int q10), .val (.ref b15), .unset, .unset, .unset, .unset, .unset, .unset, .unset, .unset, .unset, .unset] [(.ref b56)])) _
    refine XS.dup X56.here hx rfl (Jvm.hb hby at_150) rfl rfl ?_
    refine XS.iconst X56.here hx rfl (Jvm.hb hby at_151) ?_
    refine XS.bipush X56.here hx rfl (Jvm.hb hby at_152) ?_
    refine st59 _ ?_
    show Steps p.tables e below (T59.setTop (mkF m 155 #[.val (.int layout), .val (.int shape), .val (.long lc), .second, .val (.int (Int32.ofNat ms)), .val (.int (Int32.ofNat mp)), .val (.int q3), .val (.int (Int32.ofNat (ms + 1 + mp))), .val (.int q8), .val (.int q9), .val (.int q10), .val (.ref b15), .unset, .unset, .unset, .unset, .unset, .unset, .unset, .unset, .unset, .unset] [(.ref b56)])) _
    refine XS.dup X59.here hx rfl (Jvm.hb hby at_155) rfl rfl ?_
    refine XS.iconst X59.here hx rfl (Jvm.hb hby at_156) ?_
    refine XS.bipush X59.here hx rfl (Jvm.hb hby at_157) ?_
    refine st62 _ ?_
    show Steps p.tables e below (T62.setTop (mkF m 160 #[.val (.int layout), .val (.int shape), .val (.long lc), .second, .val (.int (Int32.ofNat ms)), .val (.int (Int32.ofNat mp)), .val (.int q3), .val (.int (Int32.ofNat (ms + 1 + mp))), .val (.int q8), .val (.int q9), .val (.int q10), .val (.ref b15), .unset, .unset, .unset, .unset, .unset, .unset, .unset, .unset, .unset, .unset] [(.ref b56)])) _
    refine XS.dup X62.here hx rfl (Jvm.hb hby at_160) rfl rfl ?_
    refine XS.iconst X62.here hx rfl (Jvm.hb hby at_161) ?_
    refine XS.bipush X62.here hx rfl (Jvm.hb hby at_162) ?_
    refine st65 _ ?_
    show Steps p.tables e below (T65.setTop (mkF m 165 #[.val (.int layout), .val (.int shape), .val (.long lc), .second, .val (.int (Int32.ofNat ms)), .val (.int (Int32.ofNat mp)), .val (.int q3), .val (.int (Int32.ofNat (ms + 1 + mp))), .val (.int q8), .val (.int q9), .val (.int q10), .val (.ref b15), .unset, .unset, .unset, .unset, .unset, .unset, .unset, .unset, .unset, .unset] [(.ref b56)])) _
    refine XS.dup X65.here hx rfl (Jvm.hb hby at_165) rfl rfl ?_
    refine XS.iconst X65.here hx rfl (Jvm.hb hby at_166) ?_
    refine XS.bipush X65.here hx rfl (Jvm.hb hby at_167) ?_
    refine st68 _ ?_
    show Steps p.tables e below (T68.setTop (mkF m 170 #[.val (.int layout), .val (.int shape), .val (.long lc), .second, .val (.int (Int32.ofNat ms)), .val (.int (Int32.ofNat mp)), .val (.int q3), .val (.int (Int32.ofNat (ms + 1 + mp))), .val (.int q8), .val (.int q9), .val (.int q10), .val (.ref b15), .unset, .unset, .unset, .unset, .unset, .unset, .unset, .unset, .unset, .unset] [(.ref b56)])) _
    refine XS.dup X68.here hx rfl (Jvm.hb hby at_170) rfl rfl ?_
    refine XS.iconst X68.here hx rfl (Jvm.hb hby at_171) ?_
    refine XS.bipush X68.here hx rfl (Jvm.hb hby at_172) ?_
    refine st71 _ ?_
    show Steps p.tables e below (T71.setTop (mkF m 175 #[.val (.int layout), .val (.int shape), .val (.long lc), .second, .val (.int (Int32.ofNat ms)), .val (.int (Int32.ofNat mp)), .val (.int q3), .val (.int (Int32.ofNat (ms + 1 + mp))), .val (.int q8), .val (.int q9), .val (.int q10), .val (.ref b15), .unset, .unset, .unset, .unset, .unset, .unset, .unset, .unset, .unset, .unset] [(.ref b56)])) _
    refine XS.dup X71.here hx rfl (Jvm.hb hby at_175) rfl rfl ?_
    refine XS.iconst X71.here hx rfl (Jvm.hb hby at_176) ?_
    refine XS.bipush X71.here hx rfl (Jvm.hb hby at_177) ?_
    refine st74 _ ?_
    show Steps p.tables e below (T74.setTop (mkF m 180 #[.val (.int layout), .val (.int shape), .val (.long lc), .second, .val (.int (Int32.ofNat ms)), .val (.int (Int32.ofNat mp)), .val (.int q3), .val (.int (Int32.ofNat (ms + 1 + mp))), .val (.int q8), .val (.int q9), .val (.int q10), .val (.ref b15), .unset, .unset, .unset, .unset, .unset, .unset, .unset, .unset, .unset, .unset] [(.ref b56)])) _
    refine XS.dup X74.here hx rfl (Jvm.hb hby at_180) rfl rfl ?_
    refine XS.bipush X74.here hx rfl (Jvm.hb hby at_181) ?_
    refine XS.bipush X74.here hx rfl (Jvm.hb hby at_183) ?_
    refine st77 _ ?_
    show Steps p.tables e below (T77.setTop (mkF m 186 #[.val (.int layout), .val (.int shape), .val (.long lc), .second, .val (.int (Int32.ofNat ms)), .val (.int (Int32.ofNat mp)), .val (.int q3), .val (.int (Int32.ofNat (ms + 1 + mp))), .val (.int q8), .val (.int q9), .val (.int q10), .val (.ref b15), .unset, .unset, .unset, .unset, .unset, .unset, .unset, .unset, .unset, .unset] [(.ref b56)])) _
    refine XS.dup X77.here hx rfl (Jvm.hb hby at_186) rfl rfl ?_
    refine XS.bipush X77.here hx rfl (Jvm.hb hby at_187) ?_
    refine XS.bipush X77.here hx rfl (Jvm.hb hby at_189) ?_
    refine st80 _ ?_
    show Steps p.tables e below (T80.setTop (mkF m 192 #[.val (.int layout), .val (.int shape), .val (.long lc), .second, .val (.int (Int32.ofNat ms)), .val (.int (Int32.ofNat mp)), .val (.int q3), .val (.int (Int32.ofNat (ms + 1 + mp))), .val (.int q8), .val (.int q9), .val (.int q10), .val (.ref b15), .unset, .unset, .unset, .unset, .unset, .unset, .unset, .unset, .unset, .unset] [(.ref b56)])) _
    refine XS.dup X80.here hx rfl (Jvm.hb hby at_192) rfl rfl ?_
    refine XS.bipush X80.here hx rfl (Jvm.hb hby at_193) ?_
    refine XS.bipush X80.here hx rfl (Jvm.hb hby at_195) ?_
    refine st83 _ ?_
    show Steps p.tables e below (T83.setTop (mkF m 198 #[.val (.int layout), .val (.int shape), .val (.long lc), .second, .val (.int (Int32.ofNat ms)), .val (.int (Int32.ofNat mp)), .val (.int q3), .val (.int (Int32.ofNat (ms + 1 + mp))), .val (.int q8), .val (.int q9), .val (.int q10), .val (.ref b15), .unset, .unset, .unset, .unset, .unset, .unset, .unset, .unset, .unset, .unset] [(.ref b56)])) _
    refine XS.dup X83.here hx rfl (Jvm.hb hby at_198) rfl rfl ?_
    refine XS.bipush X83.here hx rfl (Jvm.hb hby at_199) ?_
    refine XS.bipush X83.here hx rfl (Jvm.hb hby at_201) ?_
    refine st86 _ ?_
    show Steps p.tables e below (T86.setTop (mkF m 204 #[.val (.int layout), .val (.int shape), .val (.long lc), .second, .val (.int (Int32.ofNat ms)), .val (.int (Int32.ofNat mp)), .val (.int q3), .val (.int (Int32.ofNat (ms + 1 + mp))), .val (.int q8), .val (.int q9), .val (.int q10), .val (.ref b15), .unset, .unset, .unset, .unset, .unset, .unset, .unset, .unset, .unset, .unset] [(.ref b56)])) _
    refine XS.dup X86.here hx rfl (Jvm.hb hby at_204) rfl rfl ?_
    refine XS.bipush X86.here hx rfl (Jvm.hb hby at_205) ?_
    refine XS.bipush X86.here hx rfl (Jvm.hb hby at_207) ?_
    refine st89 _ ?_
    show Steps p.tables e below (T89.setTop (mkF m 210 #[.val (.int layout), .val (.int shape), .val (.long lc), .second, .val (.int (Int32.ofNat ms)), .val (.int (Int32.ofNat mp)), .val (.int q3), .val (.int (Int32.ofNat (ms + 1 + mp))), .val (.int q8), .val (.int q9), .val (.int q10), .val (.ref b15), .unset, .unset, .unset, .unset, .unset, .unset, .unset, .unset, .unset, .unset] [(.ref b56)])) _
    refine XS.dup X89.here hx rfl (Jvm.hb hby at_210) rfl rfl ?_
    refine XS.bipush X89.here hx rfl (Jvm.hb hby at_211) ?_
    refine XS.bipush X89.here hx rfl (Jvm.hb hby at_213) ?_
    refine st92 _ ?_
    show Steps p.tables e below (T92.setTop (mkF m 216 #[.val (.int layout), .val (.int shape), .val (.long lc), .second, .val (.int (Int32.ofNat ms)), .val (.int (Int32.ofNat mp)), .val (.int q3), .val (.int (Int32.ofNat (ms + 1 + mp))), .val (.int q8), .val (.int q9), .val (.int q10), .val (.ref b15), .unset, .unset, .unset, .unset, .unset, .unset, .unset, .unset, .unset, .unset] [(.ref b56)])) _
    refine XS.dup X92.here hx rfl (Jvm.hb hby at_216) rfl rfl ?_
    refine XS.bipush X92.here hx rfl (Jvm.hb hby at_217) ?_
    refine XS.bipush X92.here hx rfl (Jvm.hb hby at_219) ?_
    refine st95 _ ?_
    show Steps p.tables e below (T95.setTop (mkF m 222 #[.val (.int layout), .val (.int shape), .val (.long lc), .second, .val (.int (Int32.ofNat ms)), .val (.int (Int32.ofNat mp)), .val (.int q3), .val (.int (Int32.ofNat (ms + 1 + mp))), .val (.int q8), .val (.int q9), .val (.int q10), .val (.ref b15), .unset, .unset, .unset, .unset, .unset, .unset, .unset, .unset, .unset, .unset] [(.ref b56)])) _
    refine XS.astore X95.here hx rfl (Jvm.hb hby at_222) rfl rfl (l' := #[.val (.int layout), .val (.int shape), .val (.long lc), .second, .val (.int (Int32.ofNat ms)), .val (.int (Int32.ofNat mp)), .val (.int q3), .val (.int (Int32.ofNat (ms + 1 + mp))), .val (.int q8), .val (.int q9), .val (.int q10), .val (.ref b15), .val (.ref b56), .unset, .unset, .unset, .unset, .unset, .unset, .unset, .unset, .unset]) rfl ?_
    show Steps p.tables e below (T95.setTop (mkF m 224 #[.val (.int layout), .val (.int shape), .val (.long lc), .second, .val (.int (Int32.ofNat ms)), .val (.int (Int32.ofNat mp)), .val (.int q3), .val (.int (Int32.ofNat (ms + 1 + mp))), .val (.int q8), .val (.int q9), .val (.int q10), .val (.ref b15), .val (.ref b56), .unset, .unset, .unset, .unset, .unset, .unset, .unset, .unset, .unset] [])) t_
    exact k_)
  have bk98 : ∃ (T' : State) (lo' : List Loc) (hx_ : Heap) (fe_ : JFrame), Stand p l e room_1 (s.setVm s.vm) m #[(.int layout), (.int shape), (.long lc)] below meth c T' lo' 2 26 ∧ T'.heap = hx_ ∧ Fr n0 lo' ∧ Keep h95 hx_ [b15, b56] ∧ ((∃ (tE : Addr), ∃ (kE : ClassId), ∃ (csE : List Int32), fe_ = (mkF m 304 #[.val (.int layout), .val (.int shape), .val (.long lc), .second, .val (.int (Int32.ofNat ms)), .val (.int (Int32.ofNat mp)), .val (.int q3), .val (.int (Int32.ofNat (ms + 1 + mp))), .val (.int q8), .val (.int q9), .val (.int q10), .val (.ref b15), .val (.ref b56), .val (.ref tE), .unset, .unset, .unset, .unset, .unset, .unset, .unset, .unset] []) ∧ Arv Z hx_ tE kE .char (13 : Int32) (csE.map Value.int) (.int (0 : Int32)) ∧ (csE.length = 13) ∧ (own_lat csE) ∧ (n0 ≤ tE))) ∧ ∀ t_, Steps p.tables e below (T'.setTop fe_) t_ → Steps p.tables e below (s₁.setTop (entryFrame m #[(.int layout), (.int shape), (.long lc)] maxLocals)) t_ := by
    have s99 : ∀ t_, Steps p.tables e below (T95.setTop (mkF m 226 #[.val (.int layout), .val (.int shape), .val (.long lc), .second, .val (.int (Int32.ofNat ms)), .val (.int (Int32.ofNat mp)), .val (.int q3), .val (.int (Int32.ofNat (ms + 1 + mp))), .val (.int q8), .val (.int q9), .val (.int q10), .val (.ref b15), .val (.ref b56), .unset, .unset, .unset, .unset, .unset, .unset, .unset, .unset, .unset] [(.int q3)])) t_ → Steps p.tables e below (s₁.setTop (entryFrame m #[(.int layout), (.int shape), (.long lc)] maxLocals)) t_ := fun t_ k_ => s97 t_ (by
      show Steps p.tables e below (T95.setTop (mkF m 224 #[.val (.int layout), .val (.int shape), .val (.long lc), .second, .val (.int (Int32.ofNat ms)), .val (.int (Int32.ofNat mp)), .val (.int q3), .val (.int (Int32.ofNat (ms + 1 + mp))), .val (.int q8), .val (.int q9), .val (.int q10), .val (.ref b15), .val (.ref b56), .unset, .unset, .unset, .unset, .unset, .unset, .unset, .unset, .unset] [])) t_
      refine XS.iload X95.here hx rfl (Jvm.hb hby at_224) rfl ?_
      show Steps p.tables e below (T95.setTop (mkF m 226 #[.val (.int layout), .val (.int shape), .val (.long lc), .second, .val (.int (Int32.ofNat ms)), .val (.int (Int32.ofNat mp)), .val (.int q3), .val (.int (Int32.ofNat (ms + 1 + mp))), .val (.int q8), .val (.int q9), .val (.int q10), .val (.ref b15), .val (.ref b56), .unset, .unset, .unset, .unset, .unset, .unset, .unset, .unset, .unset] [(.int q3)])) t_
      exact k_)
    by_cases h100 : q3 = (0 : Int32)
    · have f101 : Arv Z h95 b15 k15 .char (13 : Int32) [(.int (97 : Int32)), (.int (58 : Int32)), (.int (47 : Int32)), (.int (47 : Int32)), (.int (104 : Int32)), (.int (104 : Int32)), (.int (104 : Int32)), (.int (104 : Int32)), (.int (104 : Int32)), (.int (104 : Int32)), (.int (104 : Int32)), (.int (104 : Int32)), (.int (104 : Int32))] (.int (0 : Int32)) := ((((((((((((((V54.ext E56).other W59 (show @Ne Nat b15 b56 by omega)).other W62 (show @Ne Nat b15 b56 by omega)).other W65 (show @Ne Nat b15 b56 by omega)).other W68 (show @Ne Nat b15 b56 by omega)).other W71 (show @Ne Nat b15 b56 by omega)).other W74 (show @Ne Nat b15 b56 by omega)).other W77 (show @Ne Nat b15 b56 by omega)).other W80 (show @Ne Nat b15 b56 by omega)).other W83 (show @Ne Nat b15 b56 by omega)).other W86 (show @Ne Nat b15 b56 by omega)).other W89 (show @Ne Nat b15 b56 by omega)).other W92 (show @Ne Nat b15 b56 by omega)).other W95 (show @Ne Nat b15 b56 by omega))
      obtain ⟨cl102, Ar102, q102, S102, M102, H102, G102⟩ := id f101
      have hin102 : ¬ ((Int32.ofNat ms) < 0 ∨ cl102.slots.size ≤ ((Int32.ofNat ms)).toNatClampNeg) := inb_of S102 (own_in (n := 13) (by omega) (by decide))
      obtain ⟨T103, h103, X103, e103, W103, st103⟩ := stC X95 hx hZ e95 Ar102 (j := (Int32.ofNat ms)) hin102 (g := (mkF m 244 #[.val (.int layout), .val (.int shape), .val (.long lc), .second, .val (.int (Int32.ofNat ms)), .val (.int (Int32.ofNat mp)), .val (.int q3), .val (.int (Int32.ofNat (ms + 1 + mp))), .val (.int q8), .val (.int q9), .val (.int q10), .val (.ref b15), .val (.ref b56), .val (.ref b15), .unset, .unset, .unset, .unset, .unset, .unset, .unset, .unset] [(.int (47 : Int32)), (.int (Int32.ofNat ms)), (.ref b15)])) rfl rfl (Jvm.hb hby at_244)
      have z104 : h95.size ≤ h103.size := Nat.le_of_eq W103.size.symm
      have Cp104 : CHr Z ELs s.vm h95 s.vm h103 := CHr.wr W103 (Safe.arv hZ.alike f101 (by decide)) CR.1
      have hk := Nat.le_trans hk z104
      have CR := CR.trans Cp104
      obtain ⟨cs105, hcs105⟩ : ∃ z : List Int32, z = List.set [(97 : Int32), (58 : Int32), (47 : Int32), (47 : Int32), (104 : Int32), (104 : Int32), (104 : Int32), (104 : Int32), (104 : Int32), (104 : Int32), (104 : Int32), (104 : Int32), (104 : Int32)] (ms) (47 : Int32) := ⟨_, rfl⟩
      have lat105 : own_lat cs105 := by rw [hcs105]; exact own_latset (own_latS (by decide) (own_latS (by decide) (own_latS (by decide) (own_latS (by decide) (own_latS (by decide) (own_latS (by decide) (own_latS (by decide) (own_latS (by decide) (own_latS (by decide) (own_latS (by decide) (own_latS (by decide) (own_latS (by decide) (own_latS (by decide) own_lat0))))))))))))) (by decide)
      have len105 : cs105.length = 13 := by rw [hcs105, List.length_set]; exact rfl
      have V103 : Arv Z h103 b15 k15 .char (13 : Int32) (cs105.map Value.int) (.int (0 : Int32)) := by
        have q : Arv Z h103 b15 k15 .char (13 : Int32) (List.set (List.map Value.int [(97 : Int32), (58 : Int32), (47 : Int32), (47 : Int32), (104 : Int32), (104 : Int32), (104 : Int32), (104 : Int32), (104 : Int32), (104 : Int32), (104 : Int32), (104 : Int32), (104 : Int32)]) (ms) (.int (nar .char (47 : Int32)))) (.int (0 : Int32)) := Arv.set Ar102 q102 S102 M102 H102 G102 (fits_nar_char _) W103 (ms) (own_tn (by omega)) (by first | (simp only [List.length_map]; omega) | (show _ < 13; omega))
        rw [show nar .char (47 : Int32) = (47 : Int32) from rfl] at q
        rw [hcs105, List.map_set]
        exact q
      have N103 := Fr.snoc X103 N95 (show n0 ≤ b15 by omega)
      have s106 : ∀ t_, Steps p.tables e below (T103.setTop (mkF m 248 #[.val (.int layout), .val (.int shape), .val (.long lc), .second, .val (.int (Int32.ofNat ms)), .val (.int (Int32.ofNat mp)), .val (.int q3), .val (.int (Int32.ofNat (ms + 1 + mp))), .val (.int q8), .val (.int q9), .val (.int q10), .val (.ref b15), .val (.ref b56), .val (.ref b15), .unset, .unset, .unset, .unset, .unset, .unset, .unset, .unset] [(.int (1 : Int32)), (.int (Int32.ofNat mp))])) t_ → Steps p.tables e below (s₁.setTop (entryFrame m #[(.int layout), (.int shape), (.long lc)] maxLocals)) t_ := fun t_ k_ => s99 t_ (by
        show Steps p.tables e below (T95.setTop (mkF m 226 #[.val (.int layout), .val (.int shape), .val (.long lc), .second, .val (.int (Int32.ofNat ms)), .val (.int (Int32.ofNat mp)), .val (.int q3), .val (.int (Int32.ofNat (ms + 1 + mp))), .val (.int q8), .val (.int q9), .val (.int q10), .val (.ref b15), .val (.ref b56), .unset, .unset, .unset, .unset, .unset, .unset, .unset, .unset, .unset] [(.int q3)])) t_
        refine XS.ifYes X95.here hx rfl (pc0 := 226) (pc' := 234) rfl (Jvm.hb hby at_226) rfl ((if0 _ _).trans (teq h100).1) (by decide) (by decide) ?_
        show Steps p.tables e below (T95.setTop (mkF m 234 #[.val (.int layout), .val (.int shape), .val (.long lc), .second, .val (.int (Int32.ofNat ms)), .val (.int (Int32.ofNat mp)), .val (.int q3), .val (.int (Int32.ofNat (ms + 1 + mp))), .val (.int q8), .val (.int q9), .val (.int q10), .val (.ref b15), .val (.ref b56), .unset, .unset, .unset, .unset, .unset, .unset, .unset, .unset, .unset] [])) _
        refine XS.aload X95.here hx rfl (Jvm.hb hby at_234) rfl rfl ?_
        refine XS.astore X95.here hx rfl (Jvm.hb hby at_236) rfl rfl (l' := #[.val (.int layout), .val (.int shape), .val (.long lc), .second, .val (.int (Int32.ofNat ms)), .val (.int (Int32.ofNat mp)), .val (.int q3), .val (.int (Int32.ofNat (ms + 1 + mp))), .val (.int q8), .val (.int q9), .val (.int q10), .val (.ref b15), .val (.ref b56), .val (.ref b15), .unset, .unset, .unset, .unset, .unset, .unset, .unset, .unset]) rfl ?_
        refine XS.aload X95.here hx rfl (Jvm.hb hby at_238) rfl rfl ?_
        refine XS.iload X95.here hx rfl (Jvm.hb hby at_240) rfl ?_
        refine XS.bipush X95.here hx rfl (Jvm.hb hby at_242) ?_
        refine st103 _ ?_
        show Steps p.tables e below (T103.setTop (mkF m 245 #[.val (.int layout), .val (.int shape), .val (.long lc), .second, .val (.int (Int32.ofNat ms)), .val (.int (Int32.ofNat mp)), .val (.int q3), .val (.int (Int32.ofNat (ms + 1 + mp))), .val (.int q8), .val (.int q9), .val (.int q10), .val (.ref b15), .val (.ref b56), .val (.ref b15), .unset, .unset, .unset, .unset, .unset, .unset, .unset, .unset] [])) _
        refine XS.iload X103.here hx rfl (Jvm.hb hby at_245) rfl ?_
        refine XS.iconst X103.here hx rfl (Jvm.hb hby at_247) ?_
        show Steps p.tables e below (T103.setTop (mkF m 248 #[.val (.int layout), .val (.int shape), .val (.long lc), .second, .val (.int (Int32.ofNat ms)), .val (.int (Int32.ofNat mp)), .val (.int q3), .val (.int (Int32.ofNat (ms + 1 + mp))), .val (.int q8), .val (.int q9), .val (.int q10), .val (.ref b15), .val (.ref b56), .val (.ref b15), .unset, .unset, .unset, .unset, .unset, .unset, .unset, .unset] [(.int (1 : Int32)), (.int (Int32.ofNat mp))])) t_
        exact k_)
      by_cases h107 : (Int32.ofNat mp) < (1 : Int32)
      · have s108 : ∀ t_, Steps p.tables e below (T103.setTop (mkF m 263 #[.val (.int layout), .val (.int shape), .val (.long lc), .second, .val (.int (Int32.ofNat ms)), .val (.int (Int32.ofNat mp)), .val (.int q3), .val (.int (Int32.ofNat (ms + 1 + mp))), .val (.int q8), .val (.int q9), .val (.int q10), .val (.ref b15), .val (.ref b56), .val (.ref b15), .unset, .unset, .unset, .unset, .unset, .unset, .unset, .unset] [(.int (2 : Int32)), (.int (Int32.ofNat mp))])) t_ → Steps p.tables e below (s₁.setTop (entryFrame m #[(.int layout), (.int shape), (.long lc)] maxLocals)) t_ := fun t_ k_ => s106 t_ (by
          show Steps p.tables e below (T103.setTop (mkF m 248 #[.val (.int layout), .val (.int shape), .val (.long lc), .second, .val (.int (Int32.ofNat ms)), .val (.int (Int32.ofNat mp)), .val (.int q3), .val (.int (Int32.ofNat (ms + 1 + mp))), .val (.int q8), .val (.int q9), .val (.int q10), .val (.ref b15), .val (.ref b56), .val (.ref b15), .unset, .unset, .unset, .unset, .unset, .unset, .unset, .unset] [(.int (1 : Int32)), (.int (Int32.ofNat mp))])) t_
          refine XS.icmpYes X103.here hx rfl (pc0 := 248) (pc' := 260) rfl (Jvm.hb hby at_248) rfl (tlt h107).1 (by decide) (by decide) ?_
          show Steps p.tables e below (T103.setTop (mkF m 260 #[.val (.int layout), .val (.int shape), .val (.long lc), .second, .val (.int (Int32.ofNat ms)), .val (.int (Int32.ofNat mp)), .val (.int q3), .val (.int (Int32.ofNat (ms + 1 + mp))), .val (.int q8), .val (.int q9), .val (.int q10), .val (.ref b15), .val (.ref b56), .val (.ref b15), .unset, .unset, .unset, .unset, .unset, .unset, .unset, .unset] [])) _
          refine XS.iload X103.here hx rfl (Jvm.hb hby at_260) rfl ?_
          refine XS.iconst X103.here hx rfl (Jvm.hb hby at_262) ?_
          show Steps p.tables e below (T103.setTop (mkF m 263 #[.val (.int layout), .val (.int shape), .val (.long lc), .second, .val (.int (Int32.ofNat ms)), .val (.int (Int32.ofNat mp)), .val (.int q3), .val (.int (Int32.ofNat (ms + 1 + mp))), .val (.int q8), .val (.int q9), .val (.int q10), .val (.ref b15), .val (.ref b56), .val (.ref b15), .unset, .unset, .unset, .unset, .unset, .unset, .unset, .unset] [(.int (2 : Int32)), (.int (Int32.ofNat mp))])) t_
          exact k_)
        by_cases h109 : (Int32.ofNat mp) < (2 : Int32)
        · have s110 : ∀ t_, Steps p.tables e below (T103.setTop (mkF m 278 #[.val (.int layout), .val (.int shape), .val (.long lc), .second, .val (.int (Int32.ofNat ms)), .val (.int (Int32.ofNat mp)), .val (.int q3), .val (.int (Int32.ofNat (ms + 1 + mp))), .val (.int q8), .val (.int q9), .val (.int q10), .val (.ref b15), .val (.ref b56), .val (.ref b15), .unset, .unset, .unset, .unset, .unset, .unset, .unset, .unset] [(.int (3 : Int32)), (.int (Int32.ofNat mp))])) t_ → Steps p.tables e below (s₁.setTop (entryFrame m #[(.int layout), (.int shape), (.long lc)] maxLocals)) t_ := fun t_ k_ => s108 t_ (by
            show Steps p.tables e below (T103.setTop (mkF m 263 #[.val (.int layout), .val (.int shape), .val (.long lc), .second, .val (.int (Int32.ofNat ms)), .val (.int (Int32.ofNat mp)), .val (.int q3), .val (.int (Int32.ofNat (ms + 1 + mp))), .val (.int q8), .val (.int q9), .val (.int q10), .val (.ref b15), .val (.ref b56), .val (.ref b15), .unset, .unset, .unset, .unset, .unset, .unset, .unset, .unset] [(.int (2 : Int32)), (.int (Int32.ofNat mp))])) t_
            refine XS.icmpYes X103.here hx rfl (pc0 := 263) (pc' := 275) rfl (Jvm.hb hby at_263) rfl (tlt h109).1 (by decide) (by decide) ?_
            show Steps p.tables e below (T103.setTop (mkF m 275 #[.val (.int layout), .val (.int shape), .val (.long lc), .second, .val (.int (Int32.ofNat ms)), .val (.int (Int32.ofNat mp)), .val (.int q3), .val (.int (Int32.ofNat (ms + 1 + mp))), .val (.int q8), .val (.int q9), .val (.int q10), .val (.ref b15), .val (.ref b56), .val (.ref b15), .unset, .unset, .unset, .unset, .unset, .unset, .unset, .unset] [])) _
            refine XS.iload X103.here hx rfl (Jvm.hb hby at_275) rfl ?_
            refine XS.iconst X103.here hx rfl (Jvm.hb hby at_277) ?_
            show Steps p.tables e below (T103.setTop (mkF m 278 #[.val (.int layout), .val (.int shape), .val (.long lc), .second, .val (.int (Int32.ofNat ms)), .val (.int (Int32.ofNat mp)), .val (.int q3), .val (.int (Int32.ofNat (ms + 1 + mp))), .val (.int q8), .val (.int q9), .val (.int q10), .val (.ref b15), .val (.ref b56), .val (.ref b15), .unset, .unset, .unset, .unset, .unset, .unset, .unset, .unset] [(.int (3 : Int32)), (.int (Int32.ofNat mp))])) t_
            exact k_)
          by_cases h111 : (Int32.ofNat mp) < (3 : Int32)
          · have s112 : ∀ t_, Steps p.tables e below (T103.setTop (mkF m 294 #[.val (.int layout), .val (.int shape), .val (.long lc), .second, .val (.int (Int32.ofNat ms)), .val (.int (Int32.ofNat mp)), .val (.int q3), .val (.int (Int32.ofNat (ms + 1 + mp))), .val (.int q8), .val (.int q9), .val (.int q10), .val (.ref b15), .val (.ref b56), .val (.ref b15), .unset, .unset, .unset, .unset, .unset, .unset, .unset, .unset] [(.int (13 : Int32)), (.int (Int32.ofNat (ms + 1 + mp)))])) t_ → Steps p.tables e below (s₁.setTop (entryFrame m #[(.int layout), (.int shape), (.long lc)] maxLocals)) t_ := fun t_ k_ => s110 t_ (by
              show Steps p.tables e below (T103.setTop (mkF m 278 #[.val (.int layout), .val (.int shape), .val (.long lc), .second, .val (.int (Int32.ofNat ms)), .val (.int (Int32.ofNat mp)), .val (.int q3), .val (.int (Int32.ofNat (ms + 1 + mp))), .val (.int q8), .val (.int q9), .val (.int q10), .val (.ref b15), .val (.ref b56), .val (.ref b15), .unset, .unset, .unset, .unset, .unset, .unset, .unset, .unset] [(.int (3 : Int32)), (.int (Int32.ofNat mp))])) t_
              refine XS.icmpYes X103.here hx rfl (pc0 := 278) (pc' := 290) rfl (Jvm.hb hby at_278) rfl (tlt h111).1 (by decide) (by decide) ?_
              show Steps p.tables e below (T103.setTop (mkF m 290 #[.val (.int layout), .val (.int shape), .val (.long lc), .second, .val (.int (Int32.ofNat ms)), .val (.int (Int32.ofNat mp)), .val (.int q3), .val (.int (Int32.ofNat (ms + 1 + mp))), .val (.int q8), .val (.int q9), .val (.int q10), .val (.ref b15), .val (.ref b56), .val (.ref b15), .unset, .unset, .unset, .unset, .unset, .unset, .unset, .unset] [])) _
              refine XS.iload X103.here hx rfl (Jvm.hb hby at_290) rfl ?_
              refine XS.bipush X103.here hx rfl (Jvm.hb hby at_292) ?_
              show Steps p.tables e below (T103.setTop (mkF m 294 #[.val (.int layout), .val (.int shape), .val (.long lc), .second, .val (.int (Int32.ofNat ms)), .val (.int (Int32.ofNat mp)), .val (.int q3), .val (.int (Int32.ofNat (ms + 1 + mp))), .val (.int q8), .val (.int q9), .val (.int q10), .val (.ref b15), .val (.ref b56), .val (.ref b15), .unset, .unset, .unset, .unset, .unset, .unset, .unset, .unset] [(.int (13 : Int32)), (.int (Int32.ofNat (ms + 1 + mp)))])) t_
              exact k_)
            by_cases h113 : (Int32.ofNat (ms + 1 + mp)) < (13 : Int32)
            · have hj13 : ms + 1 + mp < 13 := own_lt13 (by omega) h113
              obtain ⟨cl114, Ar114, q114, S114, M114, H114, G114⟩ := id V103
              have hin114 : ¬ ((Int32.ofNat (ms + 1 + mp)) < 0 ∨ cl114.slots.size ≤ ((Int32.ofNat (ms + 1 + mp))).toNatClampNeg) := inb_of S114 (own_in (n := 13) hj13 (by decide))
              obtain ⟨T115, h115, X115, e115, W115, st115⟩ := stC X103 hx hZ e103 Ar114 (j := (Int32.ofNat (ms + 1 + mp))) hin114 (g := (mkF m 303 #[.val (.int layout), .val (.int shape), .val (.long lc), .second, .val (.int (Int32.ofNat ms)), .val (.int (Int32.ofNat mp)), .val (.int q3), .val (.int (Int32.ofNat (ms + 1 + mp))), .val (.int q8), .val (.int q9), .val (.int q10), .val (.ref b15), .val (.ref b56), .val (.ref b15), .unset, .unset, .unset, .unset, .unset, .unset, .unset, .unset] [(.int (35 : Int32)), (.int (Int32.ofNat (ms + 1 + mp))), (.ref b15)])) rfl rfl (Jvm.hb hby at_303)
              have z116 : h103.size ≤ h115.size := Nat.le_of_eq W115.size.symm
              have Cp116 : CHr Z ELs s.vm h103 s.vm h115 := CHr.wr W115 (Safe.arv hZ.alike V103 (by decide)) CR.1
              have hk := Nat.le_trans hk z116
              have CR := CR.trans Cp116
              obtain ⟨cs117, hcs117⟩ : ∃ z : List Int32, z = List.set cs105 ((ms + 1 + mp)) (35 : Int32) := ⟨_, rfl⟩
              have lat117 : own_lat cs117 := by rw [hcs117]; exact own_latset lat105 (by decide)
              have len117 : cs117.length = 13 := by rw [hcs117, List.length_set]; exact len105
              have V115 : Arv Z h115 b15 k15 .char (13 : Int32) (cs117.map Value.int) (.int (0 : Int32)) := by
                have q : Arv Z h115 b15 k15 .char (13 : Int32) (List.set (List.map Value.int cs105) ((ms + 1 + mp)) (.int (nar .char (35 : Int32)))) (.int (0 : Int32)) := Arv.set Ar114 q114 S114 M114 H114 G114 (fits_nar_char _) W115 ((ms + 1 + mp)) (own_tn (by omega)) (by first | (simp only [List.length_map]; omega) | (show _ < 13; omega))
                rw [show nar .char (35 : Int32) = (35 : Int32) from rfl] at q
                rw [hcs117, List.map_set]
                exact q
              have N115 := Fr.snoc X115 N103 (show n0 ≤ b15 by omega)
              have s118 : ∀ t_, Steps p.tables e below (T115.setTop (mkF m 304 #[.val (.int layout), .val (.int shape), .val (.long lc), .second, .val (.int (Int32.ofNat ms)), .val (.int (Int32.ofNat mp)), .val (.int q3), .val (.int (Int32.ofNat (ms + 1 + mp))), .val (.int q8), .val (.int q9), .val (.int q10), .val (.ref b15), .val (.ref b56), .val (.ref b15), .unset, .unset, .unset, .unset, .unset, .unset, .unset, .unset] [])) t_ → Steps p.tables e below (s₁.setTop (entryFrame m #[(.int layout), (.int shape), (.long lc)] maxLocals)) t_ := fun t_ k_ => s112 t_ (by
                show Steps p.tables e below (T103.setTop (mkF m 294 #[.val (.int layout), .val (.int shape), .val (.long lc), .second, .val (.int (Int32.ofNat ms)), .val (.int (Int32.ofNat mp)), .val (.int q3), .val (.int (Int32.ofNat (ms + 1 + mp))), .val (.int q8), .val (.int q9), .val (.int q10), .val (.ref b15), .val (.ref b56), .val (.ref b15), .unset, .unset, .unset, .unset, .unset, .unset, .unset, .unset] [(.int (13 : Int32)), (.int (Int32.ofNat (ms + 1 + mp)))])) t_
                refine XS.icmpNo X103.here hx rfl (Jvm.hb hby at_294) rfl (tlt h113).2.1 ?_
                show Steps p.tables e below (T103.setTop (mkF m 297 #[.val (.int layout), .val (.int shape), .val (.long lc), .second, .val (.int (Int32.ofNat ms)), .val (.int (Int32.ofNat mp)), .val (.int q3), .val (.int (Int32.ofNat (ms + 1 + mp))), .val (.int q8), .val (.int q9), .val (.int q10), .val (.ref b15), .val (.ref b56), .val (.ref b15), .unset, .unset, .unset, .unset, .unset, .unset, .unset, .unset] [])) _
                refine XS.aload X103.here hx rfl (Jvm.hb hby at_297) rfl rfl ?_
                refine XS.iload X103.here hx rfl (Jvm.hb hby at_299) rfl ?_
                refine XS.bipush X103.here hx rfl (Jvm.hb hby at_301) ?_
                refine st115 _ ?_
                show Steps p.tables e below (T115.setTop (mkF m 304 #[.val (.int layout), .val (.int shape), .val (.long lc), .second, .val (.int (Int32.ofNat ms)), .val (.int (Int32.ofNat mp)), .val (.int q3), .val (.int (Int32.ofNat (ms + 1 + mp))), .val (.int q8), .val (.int q9), .val (.int q10), .val (.ref b15), .val (.ref b56), .val (.ref b15), .unset, .unset, .unset, .unset, .unset, .unset, .unset, .unset] [])) _
                show Steps p.tables e below (T115.setTop (mkF m 304 #[.val (.int layout), .val (.int shape), .val (.long lc), .second, .val (.int (Int32.ofNat ms)), .val (.int (Int32.ofNat mp)), .val (.int q3), .val (.int (Int32.ofNat (ms + 1 + mp))), .val (.int q8), .val (.int q9), .val (.int q10), .val (.ref b15), .val (.ref b56), .val (.ref b15), .unset, .unset, .unset, .unset, .unset, .unset, .unset, .unset] [])) t_
                exact k_)
              exact ⟨T115, _, _, _, X115, e115, N115, (((Keep.refl h95 [b15, b56]).wr W103 (Or.inl (by simp))).wr W115 (Or.inl (by simp))), ⟨b15, k15, cs117, rfl, V115, len117, lat117, (by omega)⟩, s118⟩
            · have s119 : ∀ t_, Steps p.tables e below (T103.setTop (mkF m 304 #[.val (.int layout), .val (.int shape), .val (.long lc), .second, .val (.int (Int32.ofNat ms)), .val (.int (Int32.ofNat mp)), .val (.int q3), .val (.int (Int32.ofNat (ms + 1 + mp))), .val (.int q8), .val (.int q9), .val (.int q10), .val (.ref b15), .val (.ref b56), .val (.ref b15), .unset, .unset, .unset, .unset, .unset, .unset, .unset, .unset] [])) t_ → Steps p.tables e below (s₁.setTop (entryFrame m #[(.int layout), (.int shape), (.long lc)] maxLocals)) t_ := fun t_ k_ => s112 t_ (by
                show Steps p.tables e below (T103.setTop (mkF m 294 #[.val (.int layout), .val (.int shape), .val (.long lc), .second, .val (.int (Int32.ofNat ms)), .val (.int (Int32.ofNat mp)), .val (.int q3), .val (.int (Int32.ofNat (ms + 1 + mp))), .val (.int q8), .val (.int q9), .val (.int q10), .val (.ref b15), .val (.ref b56), .val (.ref b15), .unset, .unset, .unset, .unset, .unset, .unset, .unset, .unset] [(.int (13 : Int32)), (.int (Int32.ofNat (ms + 1 + mp)))])) t_
                refine XS.icmpYes X103.here hx rfl (pc0 := 294) (pc' := 304) rfl (Jvm.hb hby at_294) rfl (flt h113).2.1 (by decide) (by decide) ?_
                show Steps p.tables e below (T103.setTop (mkF m 304 #[.val (.int layout), .val (.int shape), .val (.long lc), .second, .val (.int (Int32.ofNat ms)), .val (.int (Int32.ofNat mp)), .val (.int q3), .val (.int (Int32.ofNat (ms + 1 + mp))), .val (.int q8), .val (.int q9), .val (.int q10), .val (.ref b15), .val (.ref b56), .val (.ref b15), .unset, .unset, .unset, .unset, .unset, .unset, .unset, .unset] [])) _
                show Steps p.tables e below (T103.setTop (mkF m 304 #[.val (.int layout), .val (.int shape), .val (.long lc), .second, .val (.int (Int32.ofNat ms)), .val (.int (Int32.ofNat mp)), .val (.int q3), .val (.int (Int32.ofNat (ms + 1 + mp))), .val (.int q8), .val (.int q9), .val (.int q10), .val (.ref b15), .val (.ref b56), .val (.ref b15), .unset, .unset, .unset, .unset, .unset, .unset, .unset, .unset] [])) t_
                exact k_)
              exact ⟨T103, _, _, _, X103, e103, N103, ((Keep.refl h95 [b15, b56]).wr W103 (Or.inl (by simp))), ⟨b15, k15, cs105, rfl, V103, len105, lat105, (by omega)⟩, s119⟩
          · obtain ⟨cl120, Ar120, q120, S120, M120, H120, G120⟩ := id V103
            have hin120 : ¬ ((Int32.ofNat (ms + 3)) < 0 ∨ cl120.slots.size ≤ ((Int32.ofNat (ms + 3))).toNatClampNeg) := inb_of S120 (own_in (n := 13) (by omega) (by decide))
            obtain ⟨T121, h121, X121, e121, W121, st121⟩ := stC X103 hx hZ e103 Ar120 (j := (Int32.ofNat (ms + 3))) hin120 (g := (mkF m 289 #[.val (.int layout), .val (.int shape), .val (.long lc), .second, .val (.int (Int32.ofNat ms)), .val (.int (Int32.ofNat mp)), .val (.int q3), .val (.int (Int32.ofNat (ms + 1 + mp))), .val (.int q8), .val (.int q9), .val (.int q10), .val (.ref b15), .val (.ref b56), .val (.ref b15), .unset, .unset, .unset, .unset, .unset, .unset, .unset, .unset] [(.int q10), (.int (Int32.ofNat (ms + 3))), (.ref b15)])) rfl rfl (Jvm.hb hby at_289)
            have z122 : h103.size ≤ h121.size := Nat.le_of_eq W121.size.symm
            have Cp122 : CHr Z ELs s.vm h103 s.vm h121 := CHr.wr W121 (Safe.arv hZ.alike V103 (by decide)) CR.1
            have hk := Nat.le_trans hk z122
            have CR := CR.trans Cp122
            obtain ⟨cs123, hcs123⟩ : ∃ z : List Int32, z = List.set cs105 ((ms + 3)) q10 := ⟨_, rfl⟩
            have lat123 : own_lat cs123 := by rw [hcs123]; exact own_latset lat105 rg14.2
            have len123 : cs123.length = 13 := by rw [hcs123, List.length_set]; exact len105
            have V121 : Arv Z h121 b15 k15 .char (13 : Int32) (cs123.map Value.int) (.int (0 : Int32)) := by
              have q : Arv Z h121 b15 k15 .char (13 : Int32) (List.set (List.map Value.int cs105) ((ms + 3)) (.int (nar .char q10))) (.int (0 : Int32)) := Arv.set Ar120 q120 S120 M120 H120 G120 (fits_nar_char _) W121 ((ms + 3)) (own_tn (by omega)) (by first | (simp only [List.length_map]; omega) | (show _ < 13; omega))
              rw [show nar .char q10 = q10 from own_narc rg14.1 (own_le64k rg14.2)] at q
              rw [hcs123, List.map_set]
              exact q
            have N121 := Fr.snoc X121 N103 (show n0 ≤ b15 by omega)
            have s124 : ∀ t_, Steps p.tables e below (T121.setTop (mkF m 294 #[.val (.int layout), .val (.int shape), .val (.long lc), .second, .val (.int (Int32.ofNat ms)), .val (.int (Int32.ofNat mp)), .val (.int q3), .val (.int (Int32.ofNat (ms + 1 + mp))), .val (.int q8), .val (.int q9), .val (.int q10), .val (.ref b15), .val (.ref b56), .val (.ref b15), .unset, .unset, .unset, .unset, .unset, .unset, .unset, .unset] [(.int (13 : Int32)), (.int (Int32.ofNat (ms + 1 + mp)))])) t_ → Steps p.tables e below (s₁.setTop (entryFrame m #[(.int layout), (.int shape), (.long lc)] maxLocals)) t_ := fun t_ k_ => s110 t_ (by
              show Steps p.tables e below (T103.setTop (mkF m 278 #[.val (.int layout), .val (.int shape), .val (.long lc), .second, .val (.int (Int32.ofNat ms)), .val (.int (Int32.ofNat mp)), .val (.int q3), .val (.int (Int32.ofNat (ms + 1 + mp))), .val (.int q8), .val (.int q9), .val (.int q10), .val (.ref b15), .val (.ref b56), .val (.ref b15), .unset, .unset, .unset, .unset, .unset, .unset, .unset, .unset] [(.int (3 : Int32)), (.int (Int32.ofNat mp))])) t_
              refine XS.icmpNo X103.here hx rfl (Jvm.hb hby at_278) rfl (flt h111).1 ?_
              show Steps p.tables e below (T103.setTop (mkF m 281 #[.val (.int layout), .val (.int shape), .val (.long lc), .second, .val (.int (Int32.ofNat ms)), .val (.int (Int32.ofNat mp)), .val (.int q3), .val (.int (Int32.ofNat (ms + 1 + mp))), .val (.int q8), .val (.int q9), .val (.int q10), .val (.ref b15), .val (.ref b56), .val (.ref b15), .unset, .unset, .unset, .unset, .unset, .unset, .unset, .unset] [])) _
              refine XS.aload X103.here hx rfl (Jvm.hb hby at_281) rfl rfl ?_
              refine XS.iload X103.here hx rfl (Jvm.hb hby at_283) rfl ?_
              refine XS.iconst X103.here hx rfl (Jvm.hb hby at_285) ?_
              refine XS.iadd X103.here hx rfl (Jvm.hb hby at_286) rfl ?_
              show Steps p.tables e below (T103.setTop (mkF m 287 #[.val (.int layout), .val (.int shape), .val (.long lc), .second, .val (.int (Int32.ofNat ms)), .val (.int (Int32.ofNat mp)), .val (.int q3), .val (.int (Int32.ofNat (ms + 1 + mp))), .val (.int q8), .val (.int q9), .val (.int q10), .val (.ref b15), .val (.ref b56), .val (.ref b15), .unset, .unset, .unset, .unset, .unset, .unset, .unset, .unset] [(.int ((Int32.ofNat ms) + (3 : Int32))), (.ref b15)])) _
              refine castTop (g' := (mkF m 287 #[.val (.int layout), .val (.int shape), .val (.long lc), .second, .val (.int (Int32.ofNat ms)), .val (.int (Int32.ofNat mp)), .val (.int q3), .val (.int (Int32.ofNat (ms + 1 + mp))), .val (.int q8), .val (.int q9), .val (.int q10), .val (.ref b15), .val (.ref b56), .val (.ref b15), .unset, .unset, .unset, .unset, .unset, .unset, .unset, .unset] [(.int (Int32.ofNat (ms + 3))), (.ref b15)])) (by rw [show Int32.ofNat (ms + 3) = (Int32.ofNat ms) + (3 : Int32) from Int32.ofNat_add ms 3]) ?_
              show Steps p.tables e below (T103.setTop (mkF m 287 #[.val (.int layout), .val (.int shape), .val (.long lc), .second, .val (.int (Int32.ofNat ms)), .val (.int (Int32.ofNat mp)), .val (.int q3), .val (.int (Int32.ofNat (ms + 1 + mp))), .val (.int q8), .val (.int q9), .val (.int q10), .val (.ref b15), .val (.ref b56), .val (.ref b15), .unset, .unset, .unset, .unset, .unset, .unset, .unset, .unset] [(.int (Int32.ofNat (ms + 3))), (.ref b15)])) _
              refine XS.iload X103.here hx rfl (Jvm.hb hby at_287) rfl ?_
              refine st121 _ ?_
              show Steps p.tables e below (T121.setTop (mkF m 290 #[.val (.int layout), .val (.int shape), .val (.long lc), .second, .val (.int (Int32.ofNat ms)), .val (.int (Int32.ofNat mp)), .val (.int q3), .val (.int (Int32.ofNat (ms + 1 + mp))), .val (.int q8), .val (.int q9), .val (.int q10), .val (.ref b15), .val (.ref b56), .val (.ref b15), .unset, .unset, .unset, .unset, .unset, .unset, .unset, .unset] [])) _
              refine XS.iload X121.here hx rfl (Jvm.hb hby at_290) rfl ?_
              refine XS.bipush X121.here hx rfl (Jvm.hb hby at_292) ?_
              show Steps p.tables e below (T121.setTop (mkF m 294 #[.val (.int layout), .val (.int shape), .val (.long lc), .second, .val (.int (Int32.ofNat ms)), .val (.int (Int32.ofNat mp)), .val (.int q3), .val (.int (Int32.ofNat (ms + 1 + mp))), .val (.int q8), .val (.int q9), .val (.int q10), .val (.ref b15), .val (.ref b56), .val (.ref b15), .unset, .unset, .unset, .unset, .unset, .unset, .unset, .unset] [(.int (13 : Int32)), (.int (Int32.ofNat (ms + 1 + mp)))])) t_
              exact k_)
            by_cases h125 : (Int32.ofNat (ms + 1 + mp)) < (13 : Int32)
            · have hj13 : ms + 1 + mp < 13 := own_lt13 (by omega) h125
              obtain ⟨cl126, Ar126, q126, S126, M126, H126, G126⟩ := id V121
              have hin126 : ¬ ((Int32.ofNat (ms + 1 + mp)) < 0 ∨ cl126.slots.size ≤ ((Int32.ofNat (ms + 1 + mp))).toNatClampNeg) := inb_of S126 (own_in (n := 13) hj13 (by decide))
              obtain ⟨T127, h127, X127, e127, W127, st127⟩ := stC X121 hx hZ e121 Ar126 (j := (Int32.ofNat (ms + 1 + mp))) hin126 (g := (mkF m 303 #[.val (.int layout), .val (.int shape), .val (.long lc), .second, .val (.int (Int32.ofNat ms)), .val (.int (Int32.ofNat mp)), .val (.int q3), .val (.int (Int32.ofNat (ms + 1 + mp))), .val (.int q8), .val (.int q9), .val (.int q10), .val (.ref b15), .val (.ref b56), .val (.ref b15), .unset, .unset, .unset, .unset, .unset, .unset, .unset, .unset] [(.int (35 : Int32)), (.int (Int32.ofNat (ms + 1 + mp))), (.ref b15)])) rfl rfl (Jvm.hb hby at_303)
              have z128 : h121.size ≤ h127.size := Nat.le_of_eq W127.size.symm
              have Cp128 : CHr Z ELs s.vm h121 s.vm h127 := CHr.wr W127 (Safe.arv hZ.alike V121 (by decide)) CR.1
              have hk := Nat.le_trans hk z128
              have CR := CR.trans Cp128
              obtain ⟨cs129, hcs129⟩ : ∃ z : List Int32, z = List.set cs123 ((ms + 1 + mp)) (35 : Int32) := ⟨_, rfl⟩
              have lat129 : own_lat cs129 := by rw [hcs129]; exact own_latset lat123 (by decide)
              have len129 : cs129.length = 13 := by rw [hcs129, List.length_set]; exact len123
              have V127 : Arv Z h127 b15 k15 .char (13 : Int32) (cs129.map Value.int) (.int (0 : Int32)) := by
                have q : Arv Z h127 b15 k15 .char (13 : Int32) (List.set (List.map Value.int cs123) ((ms + 1 + mp)) (.int (nar .char (35 : Int32)))) (.int (0 : Int32)) := Arv.set Ar126 q126 S126 M126 H126 G126 (fits_nar_char _) W127 ((ms + 1 + mp)) (own_tn (by omega)) (by first | (simp only [List.length_map]; omega) | (show _ < 13; omega))
                rw [show nar .char (35 : Int32) = (35 : Int32) from rfl] at q
                rw [hcs129, List.map_set]
                exact q
              have N127 := Fr.snoc X127 N121 (show n0 ≤ b15 by omega)
              have s130 : ∀ t_, Steps p.tables e below (T127.setTop (mkF m 304 #[.val (.int layout), .val (.int shape), .val (.long lc), .second, .val (.int (Int32.ofNat ms)), .val (.int (Int32.ofNat mp)), .val (.int q3), .val (.int (Int32.ofNat (ms + 1 + mp))), .val (.int q8), .val (.int q9), .val (.int q10), .val (.ref b15), .val (.ref b56), .val (.ref b15), .unset, .unset, .unset, .unset, .unset, .unset, .unset, .unset] [])) t_ → Steps p.tables e below (s₁.setTop (entryFrame m #[(.int layout), (.int shape), (.long lc)] maxLocals)) t_ := fun t_ k_ => s124 t_ (by
                show Steps p.tables e below (T121.setTop (mkF m 294 #[.val (.int layout), .val (.int shape), .val (.long lc), .second, .val (.int (Int32.ofNat ms)), .val (.int (Int32.ofNat mp)), .val (.int q3), .val (.int (Int32.ofNat (ms + 1 + mp))), .val (.int q8), .val (.int q9), .val (.int q10), .val (.ref b15), .val (.ref b56), .val (.ref b15), .unset, .unset, .unset, .unset, .unset, .unset, .unset, .unset] [(.int (13 : Int32)), (.int (Int32.ofNat (ms + 1 + mp)))])) t_
                refine XS.icmpNo X121.here hx rfl (Jvm.hb hby at_294) rfl (tlt h125).2.1 ?_
                show Steps p.tables e below (T121.setTop (mkF m 297 #[.val (.int layout), .val (.int shape), .val (.long lc), .second, .val (.int (Int32.ofNat ms)), .val (.int (Int32.ofNat mp)), .val (.int q3), .val (.int (Int32.ofNat (ms + 1 + mp))), .val (.int q8), .val (.int q9), .val (.int q10), .val (.ref b15), .val (.ref b56), .val (.ref b15), .unset, .unset, .unset, .unset, .unset, .unset, .unset, .unset] [])) _
                refine XS.aload X121.here hx rfl (Jvm.hb hby at_297) rfl rfl ?_
                refine XS.iload X121.here hx rfl (Jvm.hb hby at_299) rfl ?_
                refine XS.bipush X121.here hx rfl (Jvm.hb hby at_301) ?_
                refine st127 _ ?_
                show Steps p.tables e below (T127.setTop (mkF m 304 #[.val (.int layout), .val (.int shape), .val (.long lc), .second, .val (.int (Int32.ofNat ms)), .val (.int (Int32.ofNat mp)), .val (.int q3), .val (.int (Int32.ofNat (ms + 1 + mp))), .val (.int q8), .val (.int q9), .val (.int q10), .val (.ref b15), .val (.ref b56), .val (.ref b15), .unset, .unset, .unset, .unset, .unset, .unset, .unset, .unset] [])) _
                show Steps p.tables e below (T127.setTop (mkF m 304 #[.val (.int layout), .val (.int shape), .val (.long lc), .second, .val (.int (Int32.ofNat ms)), .val (.int (Int32.ofNat mp)), .val (.int q3), .val (.int (Int32.ofNat (ms + 1 + mp))), .val (.int q8), .val (.int q9), .val (.int q10), .val (.ref b15), .val (.ref b56), .val (.ref b15), .unset, .unset, .unset, .unset, .unset, .unset, .unset, .unset] [])) t_
                exact k_)
              exact ⟨T127, _, _, _, X127, e127, N127, ((((Keep.refl h95 [b15, b56]).wr W103 (Or.inl (by simp))).wr W121 (Or.inl (by simp))).wr W127 (Or.inl (by simp))), ⟨b15, k15, cs129, rfl, V127, len129, lat129, (by omega)⟩, s130⟩
            · have s131 : ∀ t_, Steps p.tables e below (T121.setTop (mkF m 304 #[.val (.int layout), .val (.int shape), .val (.long lc), .second, .val (.int (Int32.ofNat ms)), .val (.int (Int32.ofNat mp)), .val (.int q3), .val (.int (Int32.ofNat (ms + 1 + mp))), .val (.int q8), .val (.int q9), .val (.int q10), .val (.ref b15), .val (.ref b56), .val (.ref b15), .unset, .unset, .unset, .unset, .unset, .unset, .unset, .unset] [])) t_ → Steps p.tables e below (s₁.setTop (entryFrame m #[(.int layout), (.int shape), (.long lc)] maxLocals)) t_ := fun t_ k_ => s124 t_ (by
                show Steps p.tables e below (T121.setTop (mkF m 294 #[.val (.int layout), .val (.int shape), .val (.long lc), .second, .val (.int (Int32.ofNat ms)), .val (.int (Int32.ofNat mp)), .val (.int q3), .val (.int (Int32.ofNat (ms + 1 + mp))), .val (.int q8), .val (.int q9), .val (.int q10), .val (.ref b15), .val (.ref b56), .val (.ref b15), .unset, .unset, .unset, .unset, .unset, .unset, .unset, .unset] [(.int (13 : Int32)), (.int (Int32.ofNat (ms + 1 + mp)))])) t_
                refine XS.icmpYes X121.here hx rfl (pc0 := 294) (pc' := 304) rfl (Jvm.hb hby at_294) rfl (flt h125).2.1 (by decide) (by decide) ?_
                show Steps p.tables e below (T121.setTop (mkF m 304 #[.val (.int layout), .val (.int shape), .val (.long lc), .second, .val (.int (Int32.ofNat ms)), .val (.int (Int32.ofNat mp)), .val (.int q3), .val (.int (Int32.ofNat (ms + 1 + mp))), .val (.int q8), .val (.int q9), .val (.int q10), .val (.ref b15), .val (.ref b56), .val (.ref b15), .unset, .unset, .unset, .unset, .unset, .unset, .unset, .unset] [])) _
                show Steps p.tables e below (T121.setTop (mkF m 304 #[.val (.int layout), .val (.int shape), .val (.long lc), .second, .val (.int (Int32.ofNat ms)), .val (.int (Int32.ofNat mp)), .val (.int q3), .val (.int (Int32.ofNat (ms + 1 + mp))), .val (.int q8), .val (.int q9), .val (.int q10), .val (.ref b15), .val (.ref b56), .val (.ref b15), .unset, .unset, .unset, .unset, .unset, .unset, .unset, .unset] [])) t_
                exact k_)
              exact ⟨T121, _, _, _, X121, e121, N121, (((Keep.refl h95 [b15, b56]).wr W103 (Or.inl (by simp))).wr W121 (Or.inl (by simp))), ⟨b15, k15, cs123, rfl, V121, len123, lat123, (by omega)⟩, s131⟩
        · obtain ⟨cl132, Ar132, q132, S132, M132, H132, G132⟩ := id V103
          have hin132 : ¬ ((Int32.ofNat (ms + 2)) < 0 ∨ cl132.slots.size ≤ ((Int32.ofNat (ms + 2))).toNatClampNeg) := inb_of S132 (own_in (n := 13) (by omega) (by decide))
          obtain ⟨T133, h133, X133, e133, W133, st133⟩ := stC X103 hx hZ e103 Ar132 (j := (Int32.ofNat (ms + 2))) hin132 (g := (mkF m 274 #[.val (.int layout), .val (.int shape), .val (.long lc), .second, .val (.int (Int32.ofNat ms)), .val (.int (Int32.ofNat mp)), .val (.int q3), .val (.int (Int32.ofNat (ms + 1 + mp))), .val (.int q8), .val (.int q9), .val (.int q10), .val (.ref b15), .val (.ref b56), .val (.ref b15), .unset, .unset, .unset, .unset, .unset, .unset, .unset, .unset] [(.int q9), (.int (Int32.ofNat (ms + 2))), (.ref b15)])) rfl rfl (Jvm.hb hby at_274)
          have z134 : h103.size ≤ h133.size := Nat.le_of_eq W133.size.symm
          have Cp134 : CHr Z ELs s.vm h103 s.vm h133 := CHr.wr W133 (Safe.arv hZ.alike V103 (by decide)) CR.1
          have hk := Nat.le_trans hk z134
          have CR := CR.trans Cp134
          obtain ⟨cs135, hcs135⟩ : ∃ z : List Int32, z = List.set cs105 ((ms + 2)) q9 := ⟨_, rfl⟩
          have lat135 : own_lat cs135 := by rw [hcs135]; exact own_latset lat105 rg13.2
          have len135 : cs135.length = 13 := by rw [hcs135, List.length_set]; exact len105
          have V133 : Arv Z h133 b15 k15 .char (13 : Int32) (cs135.map Value.int) (.int (0 : Int32)) := by
            have q : Arv Z h133 b15 k15 .char (13 : Int32) (List.set (List.map Value.int cs105) ((ms + 2)) (.int (nar .char q9))) (.int (0 : Int32)) := Arv.set Ar132 q132 S132 M132 H132 G132 (fits_nar_char _) W133 ((ms + 2)) (own_tn (by omega)) (by first | (simp only [List.length_map]; omega) | (show _ < 13; omega))
            rw [show nar .char q9 = q9 from own_narc rg13.1 (own_le64k rg13.2)] at q
            rw [hcs135, List.map_set]
            exact q
          have N133 := Fr.snoc X133 N103 (show n0 ≤ b15 by omega)
          have s136 : ∀ t_, Steps p.tables e below (T133.setTop (mkF m 278 #[.val (.int layout), .val (.int shape), .val (.long lc), .second, .val (.int (Int32.ofNat ms)), .val (.int (Int32.ofNat mp)), .val (.int q3), .val (.int (Int32.ofNat (ms + 1 + mp))), .val (.int q8), .val (.int q9), .val (.int q10), .val (.ref b15), .val (.ref b56), .val (.ref b15), .unset, .unset, .unset, .unset, .unset, .unset, .unset, .unset] [(.int (3 : Int32)), (.int (Int32.ofNat mp))])) t_ → Steps p.tables e below (s₁.setTop (entryFrame m #[(.int layout), (.int shape), (.long lc)] maxLocals)) t_ := fun t_ k_ => s108 t_ (by
            show Steps p.tables e below (T103.setTop (mkF m 263 #[.val (.int layout), .val (.int shape), .val (.long lc), .second, .val (.int (Int32.ofNat ms)), .val (.int (Int32.ofNat mp)), .val (.int q3), .val (.int (Int32.ofNat (ms + 1 + mp))), .val (.int q8), .val (.int q9), .val (.int q10), .val (.ref b15), .val (.ref b56), .val (.ref b15), .unset, .unset, .unset, .unset, .unset, .unset, .unset, .unset] [(.int (2 : Int32)), (.int (Int32.ofNat mp))])) t_
            refine XS.icmpNo X103.here hx rfl (Jvm.hb hby at_263) rfl (flt h109).1 ?_
            show Steps p.tables e below (T103.setTop (mkF m 266 #[.val (.int layout), .val (.int shape), .val (.long lc), .second, .val (.int (Int32.ofNat ms)), .val (.int (Int32.ofNat mp)), .val (.int q3), .val (.int (Int32.ofNat (ms + 1 + mp))), .val (.int q8), .val (.int q9), .val (.int q10), .val (.ref b15), .val (.ref b56), .val (.ref b15), .unset, .unset, .unset, .unset, .unset, .unset, .unset, .unset] [])) _
            refine XS.aload X103.here hx rfl (Jvm.hb hby at_266) rfl rfl ?_
            refine XS.iload X103.here hx rfl (Jvm.hb hby at_268) rfl ?_
            refine XS.iconst X103.here hx rfl (Jvm.hb hby at_270) ?_
            refine XS.iadd X103.here hx rfl (Jvm.hb hby at_271) rfl ?_
            show Steps p.tables e below (T103.setTop (mkF m 272 #[.val (.int layout), .val (.int shape), .val (.long lc), .second, .val (.int (Int32.ofNat ms)), .val (.int (Int32.ofNat mp)), .val (.int q3), .val (.int (Int32.ofNat (ms + 1 + mp))), .val (.int q8), .val (.int q9), .val (.int q10), .val (.ref b15), .val (.ref b56), .val (.ref b15), .unset, .unset, .unset, .unset, .unset, .unset, .unset, .unset] [(.int ((Int32.ofNat ms) + (2 : Int32))), (.ref b15)])) _
            refine castTop (g' := (mkF m 272 #[.val (.int layout), .val (.int shape), .val (.long lc), .second, .val (.int (Int32.ofNat ms)), .val (.int (Int32.ofNat mp)), .val (.int q3), .val (.int (Int32.ofNat (ms + 1 + mp))), .val (.int q8), .val (.int q9), .val (.int q10), .val (.ref b15), .val (.ref b56), .val (.ref b15), .unset, .unset, .unset, .unset, .unset, .unset, .unset, .unset] [(.int (Int32.ofNat (ms + 2))), (.ref b15)])) (by rw [show Int32.ofNat (ms + 2) = (Int32.ofNat ms) + (2 : Int32) from Int32.ofNat_add ms 2]) ?_
            show Steps p.tables e below (T103.setTop (mkF m 272 #[.val (.int layout), .val (.int shape), .val (.long lc), .second, .val (.int (Int32.ofNat ms)), .val (.int (Int32.ofNat mp)), .val (.int q3), .val (.int (Int32.ofNat (ms + 1 + mp))), .val (.int q8), .val (.int q9), .val (.int q10), .val (.ref b15), .val (.ref b56), .val (.ref b15), .unset, .unset, .unset, .unset, .unset, .unset, .unset, .unset] [(.int (Int32.ofNat (ms + 2))), (.ref b15)])) _
            refine XS.iload X103.here hx rfl (Jvm.hb hby at_272) rfl ?_
            refine st133 _ ?_
            show Steps p.tables e below (T133.setTop (mkF m 275 #[.val (.int layout), .val (.int shape), .val (.long lc), .second, .val (.int (Int32.ofNat ms)), .val (.int (Int32.ofNat mp)), .val (.int q3), .val (.int (Int32.ofNat (ms + 1 + mp))), .val (.int q8), .val (.int q9), .val (.int q10), .val (.ref b15), .val (.ref b56), .val (.ref b15), .unset, .unset, .unset, .unset, .unset, .unset, .unset, .unset] [])) _
            refine XS.iload X133.here hx rfl (Jvm.hb hby at_275) rfl ?_
            refine XS.iconst X133.here hx rfl (Jvm.hb hby at_277) ?_
            show Steps p.tables e below (T133.setTop (mkF m 278 #[.val (.int layout), .val (.int shape), .val (.long lc), .second, .val (.int (Int32.ofNat ms)), .val (.int (Int32.ofNat mp)), .val (.int q3), .val (.int (Int32.ofNat (ms + 1 + mp))), .val (.int q8), .val (.int q9), .val (.int q10), .val (.ref b15), .val (.ref b56), .val (.ref b15), .unset, .unset, .unset, .unset, .unset, .unset, .unset, .unset] [(.int (3 : Int32)), (.int (Int32.ofNat mp))])) t_
            exact k_)
          by_cases h137 : (Int32.ofNat mp) < (3 : Int32)
          · have s138 : ∀ t_, Steps p.tables e below (T133.setTop (mkF m 294 #[.val (.int layout), .val (.int shape), .val (.long lc), .second, .val (.int (Int32.ofNat ms)), .val (.int (Int32.ofNat mp)), .val (.int q3), .val (.int (Int32.ofNat (ms + 1 + mp))), .val (.int q8), .val (.int q9), .val (.int q10), .val (.ref b15), .val (.ref b56), .val (.ref b15), .unset, .unset, .unset, .unset, .unset, .unset, .unset, .unset] [(.int (13 : Int32)), (.int (Int32.ofNat (ms + 1 + mp)))])) t_ → Steps p.tables e below (s₁.setTop (entryFrame m #[(.int layout), (.int shape), (.long lc)] maxLocals)) t_ := fun t_ k_ => s136 t_ (by
              show Steps p.tables e below (T133.setTop (mkF m 278 #[.val (.int layout), .val (.int shape), .val (.long lc), .second, .val (.int (Int32.ofNat ms)), .val (.int (Int32.ofNat mp)), .val (.int q3), .val (.int (Int32.ofNat (ms + 1 + mp))), .val (.int q8), .val (.int q9), .val (.int q10), .val (.ref b15), .val (.ref b56), .val (.ref b15), .unset, .unset, .unset, .unset, .unset, .unset, .unset, .unset] [(.int (3 : Int32)), (.int (Int32.ofNat mp))])) t_
              refine XS.icmpYes X133.here hx rfl (pc0 := 278) (pc' := 290) rfl (Jvm.hb hby at_278) rfl (tlt h137).1 (by decide) (by decide) ?_
              show Steps p.tables e below (T133.setTop (mkF m 290 #[.val (.int layout), .val (.int shape), .val (.long lc), .second, .val (.int (Int32.ofNat ms)), .val (.int (Int32.ofNat mp)), .val (.int q3), .val (.int (Int32.ofNat (ms + 1 + mp))), .val (.int q8), .val (.int q9), .val (.int q10), .val (.ref b15), .val (.ref b56), .val (.ref b15), .unset, .unset, .unset, .unset, .unset, .unset, .unset, .unset] [])) _
              refine XS.iload X133.here hx rfl (Jvm.hb hby at_290) rfl ?_
              refine XS.bipush X133.here hx rfl (Jvm.hb hby at_292) ?_
              show Steps p.tables e below (T133.setTop (mkF m 294 #[.val (.int layout), .val (.int shape), .val (.long lc), .second, .val (.int (Int32.ofNat ms)), .val (.int (Int32.ofNat mp)), .val (.int q3), .val (.int (Int32.ofNat (ms + 1 + mp))), .val (.int q8), .val (.int q9), .val (.int q10), .val (.ref b15), .val (.ref b56), .val (.ref b15), .unset, .unset, .unset, .unset, .unset, .unset, .unset, .unset] [(.int (13 : Int32)), (.int (Int32.ofNat (ms + 1 + mp)))])) t_
              exact k_)
            by_cases h139 : (Int32.ofNat (ms + 1 + mp)) < (13 : Int32)
            · have hj13 : ms + 1 + mp < 13 := own_lt13 (by omega) h139
              obtain ⟨cl140, Ar140, q140, S140, M140, H140, G140⟩ := id V133
              have hin140 : ¬ ((Int32.ofNat (ms + 1 + mp)) < 0 ∨ cl140.slots.size ≤ ((Int32.ofNat (ms + 1 + mp))).toNatClampNeg) := inb_of S140 (own_in (n := 13) hj13 (by decide))
              obtain ⟨T141, h141, X141, e141, W141, st141⟩ := stC X133 hx hZ e133 Ar140 (j := (Int32.ofNat (ms + 1 + mp))) hin140 (g := (mkF m 303 #[.val (.int layout), .val (.int shape), .val (.long lc), .second, .val (.int (Int32.ofNat ms)), .val (.int (Int32.ofNat mp)), .val (.int q3), .val (.int (Int32.ofNat (ms + 1 + mp))), .val (.int q8), .val (.int q9), .val (.int q10), .val (.ref b15), .val (.ref b56), .val (.ref b15), .unset, .unset, .unset, .unset, .unset, .unset, .unset, .unset] [(.int (35 : Int32)), (.int (Int32.ofNat (ms + 1 + mp))), (.ref b15)])) rfl rfl (Jvm.hb hby at_303)
              have z142 : h133.size ≤ h141.size := Nat.le_of_eq W141.size.symm
              have Cp142 : CHr Z ELs s.vm h133 s.vm h141 := CHr.wr W141 (Safe.arv hZ.alike V133 (by decide)) CR.1
              have hk := Nat.le_trans hk z142
              have CR := CR.trans Cp142
              obtain ⟨cs143, hcs143⟩ : ∃ z : List Int32, z = List.set cs135 ((ms + 1 + mp)) (35 : Int32) := ⟨_, rfl⟩
              have lat143 : own_lat cs143 := by rw [hcs143]; exact own_latset lat135 (by decide)
              have len143 : cs143.length = 13 := by rw [hcs143, List.length_set]; exact len135
              have V141 : Arv Z h141 b15 k15 .char (13 : Int32) (cs143.map Value.int) (.int (0 : Int32)) := by
                have q : Arv Z h141 b15 k15 .char (13 : Int32) (List.set (List.map Value.int cs135) ((ms + 1 + mp)) (.int (nar .char (35 : Int32)))) (.int (0 : Int32)) := Arv.set Ar140 q140 S140 M140 H140 G140 (fits_nar_char _) W141 ((ms + 1 + mp)) (own_tn (by omega)) (by first | (simp only [List.length_map]; omega) | (show _ < 13; omega))
                rw [show nar .char (35 : Int32) = (35 : Int32) from rfl] at q
                rw [hcs143, List.map_set]
                exact q
              have N141 := Fr.snoc X141 N133 (show n0 ≤ b15 by omega)
              have s144 : ∀ t_, Steps p.tables e below (T141.setTop (mkF m 304 #[.val (.int layout), .val (.int shape), .val (.long lc), .second, .val (.int (Int32.ofNat ms)), .val (.int (Int32.ofNat mp)), .val (.int q3), .val (.int (Int32.ofNat (ms + 1 + mp))), .val (.int q8), .val (.int q9), .val (.int q10), .val (.ref b15), .val (.ref b56), .val (.ref b15), .unset, .unset, .unset, .unset, .unset, .unset, .unset, .unset] [])) t_ → Steps p.tables e below (s₁.setTop (entryFrame m #[(.int layout), (.int shape), (.long lc)] maxLocals)) t_ := fun t_ k_ => s138 t_ (by
                show Steps p.tables e below (T133.setTop (mkF m 294 #[.val (.int layout), .val (.int shape), .val (.long lc), .second, .val (.int (Int32.ofNat ms)), .val (.int (Int32.ofNat mp)), .val (.int q3), .val (.int (Int32.ofNat (ms + 1 + mp))), .val (.int q8), .val (.int q9), .val (.int q10), .val (.ref b15), .val (.ref b56), .val (.ref b15), .unset, .unset, .unset, .unset, .unset, .unset, .unset, .unset] [(.int (13 : Int32)), (.int (Int32.ofNat (ms + 1 + mp)))])) t_
                refine XS.icmpNo X133.here hx rfl (Jvm.hb hby at_294) rfl (tlt h139).2.1 ?_
                show Steps p.tables e below (T133.setTop (mkF m 297 #[.val (.int layout), .val (.int shape), .val (.long lc), .second, .val (.int (Int32.ofNat ms)), .val (.int (Int32.ofNat mp)), .val (.int q3), .val (.int (Int32.ofNat (ms + 1 + mp))), .val (.int q8), .val (.int q9), .val (.int q10), .val (.ref b15), .val (.ref b56), .val (.ref b15), .unset, .unset, .unset, .unset, .unset, .unset, .unset, .unset] [])) _
                refine XS.aload X133.here hx rfl (Jvm.hb hby at_297) rfl rfl ?_
                refine XS.iload X133.here hx rfl (Jvm.hb hby at_299) rfl ?_
                refine XS.bipush X133.here hx rfl (Jvm.hb hby at_301) ?_
                refine st141 _ ?_
                show Steps p.tables e below (T141.setTop (mkF m 304 #[.val (.int layout), .val (.int shape), .val (.long lc), .second, .val (.int (Int32.ofNat ms)), .val (.int (Int32.ofNat mp)), .val (.int q3), .val (.int (Int32.ofNat (ms + 1 + mp))), .val (.int q8), .val (.int q9), .val (.int q10), .val (.ref b15), .val (.ref b56), .val (.ref b15), .unset, .unset, .unset, .unset, .unset, .unset, .unset, .unset] [])) _
                show Steps p.tables e below (T141.setTop (mkF m 304 #[.val (.int layout), .val (.int shape), .val (.long lc), .second, .val (.int (Int32.ofNat ms)), .val (.int (Int32.ofNat mp)), .val (.int q3), .val (.int (Int32.ofNat (ms + 1 + mp))), .val (.int q8), .val (.int q9), .val (.int q10), .val (.ref b15), .val (.ref b56), .val (.ref b15), .unset, .unset, .unset, .unset, .unset, .unset, .unset, .unset] [])) t_
                exact k_)
              exact ⟨T141, _, _, _, X141, e141, N141, ((((Keep.refl h95 [b15, b56]).wr W103 (Or.inl (by simp))).wr W133 (Or.inl (by simp))).wr W141 (Or.inl (by simp))), ⟨b15, k15, cs143, rfl, V141, len143, lat143, (by omega)⟩, s144⟩
            · have s145 : ∀ t_, Steps p.tables e below (T133.setTop (mkF m 304 #[.val (.int layout), .val (.int shape), .val (.long lc), .second, .val (.int (Int32.ofNat ms)), .val (.int (Int32.ofNat mp)), .val (.int q3), .val (.int (Int32.ofNat (ms + 1 + mp))), .val (.int q8), .val (.int q9), .val (.int q10), .val (.ref b15), .val (.ref b56), .val (.ref b15), .unset, .unset, .unset, .unset, .unset, .unset, .unset, .unset] [])) t_ → Steps p.tables e below (s₁.setTop (entryFrame m #[(.int layout), (.int shape), (.long lc)] maxLocals)) t_ := fun t_ k_ => s138 t_ (by
                show Steps p.tables e below (T133.setTop (mkF m 294 #[.val (.int layout), .val (.int shape), .val (.long lc), .second, .val (.int (Int32.ofNat ms)), .val (.int (Int32.ofNat mp)), .val (.int q3), .val (.int (Int32.ofNat (ms + 1 + mp))), .val (.int q8), .val (.int q9), .val (.int q10), .val (.ref b15), .val (.ref b56), .val (.ref b15), .unset, .unset, .unset, .unset, .unset, .unset, .unset, .unset] [(.int (13 : Int32)), (.int (Int32.ofNat (ms + 1 + mp)))])) t_
                refine XS.icmpYes X133.here hx rfl (pc0 := 294) (pc' := 304) rfl (Jvm.hb hby at_294) rfl (flt h139).2.1 (by decide) (by decide) ?_
                show Steps p.tables e below (T133.setTop (mkF m 304 #[.val (.int layout), .val (.int shape), .val (.long lc), .second, .val (.int (Int32.ofNat ms)), .val (.int (Int32.ofNat mp)), .val (.int q3), .val (.int (Int32.ofNat (ms + 1 + mp))), .val (.int q8), .val (.int q9), .val (.int q10), .val (.ref b15), .val (.ref b56), .val (.ref b15), .unset, .unset, .unset, .unset, .unset, .unset, .unset, .unset] [])) _
                show Steps p.tables e below (T133.setTop (mkF m 304 #[.val (.int layout), .val (.int shape), .val (.long lc), .second, .val (.int (Int32.ofNat ms)), .val (.int (Int32.ofNat mp)), .val (.int q3), .val (.int (Int32.ofNat (ms + 1 + mp))), .val (.int q8), .val (.int q9), .val (.int q10), .val (.ref b15), .val (.ref b56), .val (.ref b15), .unset, .unset, .unset, .unset, .unset, .unset, .unset, .unset] [])) t_
                exact k_)
              exact ⟨T133, _, _, _, X133, e133, N133, (((Keep.refl h95 [b15, b56]).wr W103 (Or.inl (by simp))).wr W133 (Or.inl (by simp))), ⟨b15, k15, cs135, rfl, V133, len135, lat135, (by omega)⟩, s145⟩
          · obtain ⟨cl146, Ar146, q146, S146, M146, H146, G146⟩ := id V133
            have hin146 : ¬ ((Int32.ofNat (ms + 3)) < 0 ∨ cl146.slots.size ≤ ((Int32.ofNat (ms + 3))).toNatClampNeg) := inb_of S146 (own_in (n := 13) (by omega) (by decide))
            obtain ⟨T147, h147, X147, e147, W147, st147⟩ := stC X133 hx hZ e133 Ar146 (j := (Int32.ofNat (ms + 3))) hin146 (g := (mkF m 289 #[.val (.int layout), .val (.int shape), .val (.long lc), .second, .val (.int (Int32.ofNat ms)), .val (.int (Int32.ofNat mp)), .val (.int q3), .val (.int (Int32.ofNat (ms + 1 + mp))), .val (.int q8), .val (.int q9), .val (.int q10), .val (.ref b15), .val (.ref b56), .val (.ref b15), .unset, .unset, .unset, .unset, .unset, .unset, .unset, .unset] [(.int q10), (.int (Int32.ofNat (ms + 3))), (.ref b15)])) rfl rfl (Jvm.hb hby at_289)
            have z148 : h133.size ≤ h147.size := Nat.le_of_eq W147.size.symm
            have Cp148 : CHr Z ELs s.vm h133 s.vm h147 := CHr.wr W147 (Safe.arv hZ.alike V133 (by decide)) CR.1
            have hk := Nat.le_trans hk z148
            have CR := CR.trans Cp148
            obtain ⟨cs149, hcs149⟩ : ∃ z : List Int32, z = List.set cs135 ((ms + 3)) q10 := ⟨_, rfl⟩
            have lat149 : own_lat cs149 := by rw [hcs149]; exact own_latset lat135 rg14.2
            have len149 : cs149.length = 13 := by rw [hcs149, List.length_set]; exact len135
            have V147 : Arv Z h147 b15 k15 .char (13 : Int32) (cs149.map Value.int) (.int (0 : Int32)) := by
              have q : Arv Z h147 b15 k15 .char (13 : Int32) (List.set (List.map Value.int cs135) ((ms + 3)) (.int (nar .char q10))) (.int (0 : Int32)) := Arv.set Ar146 q146 S146 M146 H146 G146 (fits_nar_char _) W147 ((ms + 3)) (own_tn (by omega)) (by first | (simp only [List.length_map]; omega) | (show _ < 13; omega))
              rw [show nar .char q10 = q10 from own_narc rg14.1 (own_le64k rg14.2)] at q
              rw [hcs149, List.map_set]
              exact q
            have N147 := Fr.snoc X147 N133 (show n0 ≤ b15 by omega)
            have s150 : ∀ t_, Steps p.tables e below (T147.setTop (mkF m 294 #[.val (.int layout), .val (.int shape), .val (.long lc), .second, .val (.int (Int32.ofNat ms)), .val (.int (Int32.ofNat mp)), .val (.int q3), .val (.int (Int32.ofNat (ms + 1 + mp))), .val (.int q8), .val (.int q9), .val (.int q10), .val (.ref b15), .val (.ref b56), .val (.ref b15), .unset, .unset, .unset, .unset, .unset, .unset, .unset, .unset] [(.int (13 : Int32)), (.int (Int32.ofNat (ms + 1 + mp)))])) t_ → Steps p.tables e below (s₁.setTop (entryFrame m #[(.int layout), (.int shape), (.long lc)] maxLocals)) t_ := fun t_ k_ => s136 t_ (by
              show Steps p.tables e below (T133.setTop (mkF m 278 #[.val (.int layout), .val (.int shape), .val (.long lc), .second, .val (.int (Int32.ofNat ms)), .val (.int (Int32.ofNat mp)), .val (.int q3), .val (.int (Int32.ofNat (ms + 1 + mp))), .val (.int q8), .val (.int q9), .val (.int q10), .val (.ref b15), .val (.ref b56), .val (.ref b15), .unset, .unset, .unset, .unset, .unset, .unset, .unset, .unset] [(.int (3 : Int32)), (.int (Int32.ofNat mp))])) t_
              refine XS.icmpNo X133.here hx rfl (Jvm.hb hby at_278) rfl (flt h137).1 ?_
              show Steps p.tables e below (T133.setTop (mkF m 281 #[.val (.int layout), .val (.int shape), .val (.long lc), .second, .val (.int (Int32.ofNat ms)), .val (.int (Int32.ofNat mp)), .val (.int q3), .val (.int (Int32.ofNat (ms + 1 + mp))), .val (.int q8), .val (.int q9), .val (.int q10), .val (.ref b15), .val (.ref b56), .val (.ref b15), .unset, .unset, .unset, .unset, .unset, .unset, .unset, .unset] [])) _
              refine XS.aload X133.here hx rfl (Jvm.hb hby at_281) rfl rfl ?_
              refine XS.iload X133.here hx rfl (Jvm.hb hby at_283) rfl ?_
              refine XS.iconst X133.here hx rfl (Jvm.hb hby at_285) ?_
              refine XS.iadd X133.here hx rfl (Jvm.hb hby at_286) rfl ?_
              show Steps p.tables e below (T133.setTop (mkF m 287 #[.val (.int layout), .val (.int shape), .val (.long lc), .second, .val (.int (Int32.ofNat ms)), .val (.int (Int32.ofNat mp)), .val (.int q3), .val (.int (Int32.ofNat (ms + 1 + mp))), .val (.int q8), .val (.int q9), .val (.int q10), .val (.ref b15), .val (.ref b56), .val (.ref b15), .unset, .unset, .unset, .unset, .unset, .unset, .unset, .unset] [(.int ((Int32.ofNat ms) + (3 : Int32))), (.ref b15)])) _
              refine castTop (g' := (mkF m 287 #[.val (.int layout), .val (.int shape), .val (.long lc), .second, .val (.int (Int32.ofNat ms)), .val (.int (Int32.ofNat mp)), .val (.int q3), .val (.int (Int32.ofNat (ms + 1 + mp))), .val (.int q8), .val (.int q9), .val (.int q10), .val (.ref b15), .val (.ref b56), .val (.ref b15), .unset, .unset, .unset, .unset, .unset, .unset, .unset, .unset] [(.int (Int32.ofNat (ms + 3))), (.ref b15)])) (by rw [show Int32.ofNat (ms + 3) = (Int32.ofNat ms) + (3 : Int32) from Int32.ofNat_add ms 3]) ?_
              show Steps p.tables e below (T133.setTop (mkF m 287 #[.val (.int layout), .val (.int shape), .val (.long lc), .second, .val (.int (Int32.ofNat ms)), .val (.int (Int32.ofNat mp)), .val (.int q3), .val (.int (Int32.ofNat (ms + 1 + mp))), .val (.int q8), .val (.int q9), .val (.int q10), .val (.ref b15), .val (.ref b56), .val (.ref b15), .unset, .unset, .unset, .unset, .unset, .unset, .unset, .unset] [(.int (Int32.ofNat (ms + 3))), (.ref b15)])) _
              refine XS.iload X133.here hx rfl (Jvm.hb hby at_287) rfl ?_
              refine st147 _ ?_
              show Steps p.tables e below (T147.setTop (mkF m 290 #[.val (.int layout), .val (.int shape), .val (.long lc), .second, .val (.int (Int32.ofNat ms)), .val (.int (Int32.ofNat mp)), .val (.int q3), .val (.int (Int32.ofNat (ms + 1 + mp))), .val (.int q8), .val (.int q9), .val (.int q10), .val (.ref b15), .val (.ref b56), .val (.ref b15), .unset, .unset, .unset, .unset, .unset, .unset, .unset, .unset] [])) _
              refine XS.iload X147.here hx rfl (Jvm.hb hby at_290) rfl ?_
              refine XS.bipush X147.here hx rfl (Jvm.hb hby at_292) ?_
              show Steps p.tables e below (T147.setTop (mkF m 294 #[.val (.int layout), .val (.int shape), .val (.long lc), .second, .val (.int (Int32.ofNat ms)), .val (.int (Int32.ofNat mp)), .val (.int q3), .val (.int (Int32.ofNat (ms + 1 + mp))), .val (.int q8), .val (.int q9), .val (.int q10), .val (.ref b15), .val (.ref b56), .val (.ref b15), .unset, .unset, .unset, .unset, .unset, .unset, .unset, .unset] [(.int (13 : Int32)), (.int (Int32.ofNat (ms + 1 + mp)))])) t_
              exact k_)
            by_cases h151 : (Int32.ofNat (ms + 1 + mp)) < (13 : Int32)
            · have hj13 : ms + 1 + mp < 13 := own_lt13 (by omega) h151
              obtain ⟨cl152, Ar152, q152, S152, M152, H152, G152⟩ := id V147
              have hin152 : ¬ ((Int32.ofNat (ms + 1 + mp)) < 0 ∨ cl152.slots.size ≤ ((Int32.ofNat (ms + 1 + mp))).toNatClampNeg) := inb_of S152 (own_in (n := 13) hj13 (by decide))
              obtain ⟨T153, h153, X153, e153, W153, st153⟩ := stC X147 hx hZ e147 Ar152 (j := (Int32.ofNat (ms + 1 + mp))) hin152 (g := (mkF m 303 #[.val (.int layout), .val (.int shape), .val (.long lc), .second, .val (.int (Int32.ofNat ms)), .val (.int (Int32.ofNat mp)), .val (.int q3), .val (.int (Int32.ofNat (ms + 1 + mp))), .val (.int q8), .val (.int q9), .val (.int q10), .val (.ref b15), .val (.ref b56), .val (.ref b15), .unset, .unset, .unset, .unset, .unset, .unset, .unset, .unset] [(.int (35 : Int32)), (.int (Int32.ofNat (ms + 1 + mp))), (.ref b15)])) rfl rfl (Jvm.hb hby at_303)
              have z154 : h147.size ≤ h153.size := Nat.le_of_eq W153.size.symm
              have Cp154 : CHr Z ELs s.vm h147 s.vm h153 := CHr.wr W153 (Safe.arv hZ.alike V147 (by decide)) CR.1
              have hk := Nat.le_trans hk z154
              have CR := CR.trans Cp154
              obtain ⟨cs155, hcs155⟩ : ∃ z : List Int32, z = List.set cs149 ((ms + 1 + mp)) (35 : Int32) := ⟨_, rfl⟩
              have lat155 : own_lat cs155 := by rw [hcs155]; exact own_latset lat149 (by decide)
              have len155 : cs155.length = 13 := by rw [hcs155, List.length_set]; exact len149
              have V153 : Arv Z h153 b15 k15 .char (13 : Int32) (cs155.map Value.int) (.int (0 : Int32)) := by
                have q : Arv Z h153 b15 k15 .char (13 : Int32) (List.set (List.map Value.int cs149) ((ms + 1 + mp)) (.int (nar .char (35 : Int32)))) (.int (0 : Int32)) := Arv.set Ar152 q152 S152 M152 H152 G152 (fits_nar_char _) W153 ((ms + 1 + mp)) (own_tn (by omega)) (by first | (simp only [List.length_map]; omega) | (show _ < 13; omega))
                rw [show nar .char (35 : Int32) = (35 : Int32) from rfl] at q
                rw [hcs155, List.map_set]
                exact q
              have N153 := Fr.snoc X153 N147 (show n0 ≤ b15 by omega)
              have s156 : ∀ t_, Steps p.tables e below (T153.setTop (mkF m 304 #[.val (.int layout), .val (.int shape), .val (.long lc), .second, .val (.int (Int32.ofNat ms)), .val (.int (Int32.ofNat mp)), .val (.int q3), .val (.int (Int32.ofNat (ms + 1 + mp))), .val (.int q8), .val (.int q9), .val (.int q10), .val (.ref b15), .val (.ref b56), .val (.ref b15), .unset, .unset, .unset, .unset, .unset, .unset, .unset, .unset] [])) t_ → Steps p.tables e below (s₁.setTop (entryFrame m #[(.int layout), (.int shape), (.long lc)] maxLocals)) t_ := fun t_ k_ => s150 t_ (by
                show Steps p.tables e below (T147.setTop (mkF m 294 #[.val (.int layout), .val (.int shape), .val (.long lc), .second, .val (.int (Int32.ofNat ms)), .val (.int (Int32.ofNat mp)), .val (.int q3), .val (.int (Int32.ofNat (ms + 1 + mp))), .val (.int q8), .val (.int q9), .val (.int q10), .val (.ref b15), .val (.ref b56), .val (.ref b15), .unset, .unset, .unset, .unset, .unset, .unset, .unset, .unset] [(.int (13 : Int32)), (.int (Int32.ofNat (ms + 1 + mp)))])) t_
                refine XS.icmpNo X147.here hx rfl (Jvm.hb hby at_294) rfl (tlt h151).2.1 ?_
                show Steps p.tables e below (T147.setTop (mkF m 297 #[.val (.int layout), .val (.int shape), .val (.long lc), .second, .val (.int (Int32.ofNat ms)), .val (.int (Int32.ofNat mp)), .val (.int q3), .val (.int (Int32.ofNat (ms + 1 + mp))), .val (.int q8), .val (.int q9), .val (.int q10), .val (.ref b15), .val (.ref b56), .val (.ref b15), .unset, .unset, .unset, .unset, .unset, .unset, .unset, .unset] [])) _
                refine XS.aload X147.here hx rfl (Jvm.hb hby at_297) rfl rfl ?_
                refine XS.iload X147.here hx rfl (Jvm.hb hby at_299) rfl ?_
                refine XS.bipush X147.here hx rfl (Jvm.hb hby at_301) ?_
                refine st153 _ ?_
                show Steps p.tables e below (T153.setTop (mkF m 304 #[.val (.int layout), .val (.int shape), .val (.long lc), .second, .val (.int (Int32.ofNat ms)), .val (.int (Int32.ofNat mp)), .val (.int q3), .val (.int (Int32.ofNat (ms + 1 + mp))), .val (.int q8), .val (.int q9), .val (.int q10), .val (.ref b15), .val (.ref b56), .val (.ref b15), .unset, .unset, .unset, .unset, .unset, .unset, .unset, .unset] [])) _
                show Steps p.tables e below (T153.setTop (mkF m 304 #[.val (.int layout), .val (.int shape), .val (.long lc), .second, .val (.int (Int32.ofNat ms)), .val (.int (Int32.ofNat mp)), .val (.int q3), .val (.int (Int32.ofNat (ms + 1 + mp))), .val (.int q8), .val (.int q9), .val (.int q10), .val (.ref b15), .val (.ref b56), .val (.ref b15), .unset, .unset, .unset, .unset, .unset, .unset, .unset, .unset] [])) t_
                exact k_)
              exact ⟨T153, _, _, _, X153, e153, N153, (((((Keep.refl h95 [b15, b56]).wr W103 (Or.inl (by simp))).wr W133 (Or.inl (by simp))).wr W147 (Or.inl (by simp))).wr W153 (Or.inl (by simp))), ⟨b15, k15, cs155, rfl, V153, len155, lat155, (by omega)⟩, s156⟩
            · have s157 : ∀ t_, Steps p.tables e below (T147.setTop (mkF m 304 #[.val (.int layout), .val (.int shape), .val (.long lc), .second, .val (.int (Int32.ofNat ms)), .val (.int (Int32.ofNat mp)), .val (.int q3), .val (.int (Int32.ofNat (ms + 1 + mp))), .val (.int q8), .val (.int q9), .val (.int q10), .val (.ref b15), .val (.ref b56), .val (.ref b15), .unset, .unset, .unset, .unset, .unset, .unset, .unset, .unset] [])) t_ → Steps p.tables e below (s₁.setTop (entryFrame m #[(.int layout), (.int shape), (.long lc)] maxLocals)) t_ := fun t_ k_ => s150 t_ (by
                show Steps p.tables e below (T147.setTop (mkF m 294 #[.val (.int layout), .val (.int shape), .val (.long lc), .second, .val (.int (Int32.ofNat ms)), .val (.int (Int32.ofNat mp)), .val (.int q3), .val (.int (Int32.ofNat (ms + 1 + mp))), .val (.int q8), .val (.int q9), .val (.int q10), .val (.ref b15), .val (.ref b56), .val (.ref b15), .unset, .unset, .unset, .unset, .unset, .unset, .unset, .unset] [(.int (13 : Int32)), (.int (Int32.ofNat (ms + 1 + mp)))])) t_
                refine XS.icmpYes X147.here hx rfl (pc0 := 294) (pc' := 304) rfl (Jvm.hb hby at_294) rfl (flt h151).2.1 (by decide) (by decide) ?_
                show Steps p.tables e below (T147.setTop (mkF m 304 #[.val (.int layout), .val (.int shape), .val (.long lc), .second, .val (.int (Int32.ofNat ms)), .val (.int (Int32.ofNat mp)), .val (.int q3), .val (.int (Int32.ofNat (ms + 1 + mp))), .val (.int q8), .val (.int q9), .val (.int q10), .val (.ref b15), .val (.ref b56), .val (.ref b15), .unset, .unset, .unset, .unset, .unset, .unset, .unset, .unset] [])) _
                show Steps p.tables e below (T147.setTop (mkF m 304 #[.val (.int layout), .val (.int shape), .val (.long lc), .second, .val (.int (Int32.ofNat ms)), .val (.int (Int32.ofNat mp)), .val (.int q3), .val (.int (Int32.ofNat (ms + 1 + mp))), .val (.int q8), .val (.int q9), .val (.int q10), .val (.ref b15), .val (.ref b56), .val (.ref b15), .unset, .unset, .unset, .unset, .unset, .unset, .unset, .unset] [])) t_
                exact k_)
              exact ⟨T147, _, _, _, X147, e147, N147, ((((Keep.refl h95 [b15, b56]).wr W103 (Or.inl (by simp))).wr W133 (Or.inl (by simp))).wr W147 (Or.inl (by simp))), ⟨b15, k15, cs149, rfl, V147, len149, lat149, (by omega)⟩, s157⟩
      · obtain ⟨cl158, Ar158, q158, S158, M158, H158, G158⟩ := id V103
        have hin158 : ¬ ((Int32.ofNat (ms + 1)) < 0 ∨ cl158.slots.size ≤ ((Int32.ofNat (ms + 1))).toNatClampNeg) := inb_of S158 (own_in (n := 13) (by omega) (by decide))
        obtain ⟨T159, h159, X159, e159, W159, st159⟩ := stC X103 hx hZ e103 Ar158 (j := (Int32.ofNat (ms + 1))) hin158 (g := (mkF m 259 #[.val (.int layout), .val (.int shape), .val (.long lc), .second, .val (.int (Int32.ofNat ms)), .val (.int (Int32.ofNat mp)), .val (.int q3), .val (.int (Int32.ofNat (ms + 1 + mp))), .val (.int q8), .val (.int q9), .val (.int q10), .val (.ref b15), .val (.ref b56), .val (.ref b15), .unset, .unset, .unset, .unset, .unset, .unset, .unset, .unset] [(.int q8), (.int (Int32.ofNat (ms + 1))), (.ref b15)])) rfl rfl (Jvm.hb hby at_259)
        have z160 : h103.size ≤ h159.size := Nat.le_of_eq W159.size.symm
        have Cp160 : CHr Z ELs s.vm h103 s.vm h159 := CHr.wr W159 (Safe.arv hZ.alike V103 (by decide)) CR.1
        have hk := Nat.le_trans hk z160
        have CR := CR.trans Cp160
        obtain ⟨cs161, hcs161⟩ : ∃ z : List Int32, z = List.set cs105 ((ms + 1)) q8 := ⟨_, rfl⟩
        have lat161 : own_lat cs161 := by rw [hcs161]; exact own_latset lat105 rg12.2
        have len161 : cs161.length = 13 := by rw [hcs161, List.length_set]; exact len105
        have V159 : Arv Z h159 b15 k15 .char (13 : Int32) (cs161.map Value.int) (.int (0 : Int32)) := by
          have q : Arv Z h159 b15 k15 .char (13 : Int32) (List.set (List.map Value.int cs105) ((ms + 1)) (.int (nar .char q8))) (.int (0 : Int32)) := Arv.set Ar158 q158 S158 M158 H158 G158 (fits_nar_char _) W159 ((ms + 1)) (own_tn (by omega)) (by first | (simp only [List.length_map]; omega) | (show _ < 13; omega))
          rw [show nar .char q8 = q8 from own_narc rg12.1 (own_le64k rg12.2)] at q
          rw [hcs161, List.map_set]
          exact q
        have N159 := Fr.snoc X159 N103 (show n0 ≤ b15 by omega)
        have s162 : ∀ t_, Steps p.tables e below (T159.setTop (mkF m 263 #[.val (.int layout), .val (.int shape), .val (.long lc), .second, .val (.int (Int32.ofNat ms)), .val (.int (Int32.ofNat mp)), .val (.int q3), .val (.int (Int32.ofNat (ms + 1 + mp))), .val (.int q8), .val (.int q9), .val (.int q10), .val (.ref b15), .val (.ref b56), .val (.ref b15), .unset, .unset, .unset, .unset, .unset, .unset, .unset, .unset] [(.int (2 : Int32)), (.int (Int32.ofNat mp))])) t_ → Steps p.tables e below (s₁.setTop (entryFrame m #[(.int layout), (.int shape), (.long lc)] maxLocals)) t_ := fun t_ k_ => s106 t_ (by
          show Steps p.tables e below (T103.setTop (mkF m 248 #[.val (.int layout), .val (.int shape), .val (.long lc), .second, .val (.int (Int32.ofNat ms)), .val (.int (Int32.ofNat mp)), .val (.int q3), .val (.int (Int32.ofNat (ms + 1 + mp))), .val (.int q8), .val (.int q9), .val (.int q10), .val (.ref b15), .val (.ref b56), .val (.ref b15), .unset, .unset, .unset, .unset, .unset, .unset, .unset, .unset] [(.int (1 : Int32)), (.int (Int32.ofNat mp))])) t_
          refine XS.icmpNo X103.here hx rfl (Jvm.hb hby at_248) rfl (flt h107).1 ?_
          show Steps p.tables e below (T103.setTop (mkF m 251 #[.val (.int layout), .val (.int shape), .val (.long lc), .second, .val (.int (Int32.ofNat ms)), .val (.int (Int32.ofNat mp)), .val (.int q3), .val (.int (Int32.ofNat (ms + 1 + mp))), .val (.int q8), .val (.int q9), .val (.int q10), .val (.ref b15), .val (.ref b56), .val (.ref b15), .unset, .unset, .unset, .unset, .unset, .unset, .unset, .unset] [])) _
          refine XS.aload X103.here hx rfl (Jvm.hb hby at_251) rfl rfl ?_
          refine XS.iload X103.here hx rfl (Jvm.hb hby at_253) rfl ?_
          refine XS.iconst X103.here hx rfl (Jvm.hb hby at_255) ?_
          refine XS.iadd X103.here hx rfl (Jvm.hb hby at_256) rfl ?_
          show Steps p.tables e below (T103.setTop (mkF m 257 #[.val (.int layout), .val (.int shape), .val (.long lc), .second, .val (.int (Int32.ofNat ms)), .val (.int (Int32.ofNat mp)), .val (.int q3), .val (.int (Int32.ofNat (ms + 1 + mp))), .val (.int q8), .val (.int q9), .val (.int q10), .val (.ref b15), .val (.ref b56), .val (.ref b15), .unset, .unset, .unset, .unset, .unset, .unset, .unset, .unset] [(.int ((Int32.ofNat ms) + (1 : Int32))), (.ref b15)])) _
          refine castTop (g' := (mkF m 257 #[.val (.int layout), .val (.int shape), .val (.long lc), .second, .val (.int (Int32.ofNat ms)), .val (.int (Int32.ofNat mp)), .val (.int q3), .val (.int (Int32.ofNat (ms + 1 + mp))), .val (.int q8), .val (.int q9), .val (.int q10), .val (.ref b15), .val (.ref b56), .val (.ref b15), .unset, .unset, .unset, .unset, .unset, .unset, .unset, .unset] [(.int (Int32.ofNat (ms + 1))), (.ref b15)])) (by rw [show Int32.ofNat (ms + 1) = (Int32.ofNat ms) + (1 : Int32) from Int32.ofNat_add ms 1]) ?_
          show Steps p.tables e below (T103.setTop (mkF m 257 #[.val (.int layout), .val (.int shape), .val (.long lc), .second, .val (.int (Int32.ofNat ms)), .val (.int (Int32.ofNat mp)), .val (.int q3), .val (.int (Int32.ofNat (ms + 1 + mp))), .val (.int q8), .val (.int q9), .val (.int q10), .val (.ref b15), .val (.ref b56), .val (.ref b15), .unset, .unset, .unset, .unset, .unset, .unset, .unset, .unset] [(.int (Int32.ofNat (ms + 1))), (.ref b15)])) _
          refine XS.iload X103.here hx rfl (Jvm.hb hby at_257) rfl ?_
          refine st159 _ ?_
          show Steps p.tables e below (T159.setTop (mkF m 260 #[.val (.int layout), .val (.int shape), .val (.long lc), .second, .val (.int (Int32.ofNat ms)), .val (.int (Int32.ofNat mp)), .val (.int q3), .val (.int (Int32.ofNat (ms + 1 + mp))), .val (.int q8), .val (.int q9), .val (.int q10), .val (.ref b15), .val (.ref b56), .val (.ref b15), .unset, .unset, .unset, .unset, .unset, .unset, .unset, .unset] [])) _
          refine XS.iload X159.here hx rfl (Jvm.hb hby at_260) rfl ?_
          refine XS.iconst X159.here hx rfl (Jvm.hb hby at_262) ?_
          show Steps p.tables e below (T159.setTop (mkF m 263 #[.val (.int layout), .val (.int shape), .val (.long lc), .second, .val (.int (Int32.ofNat ms)), .val (.int (Int32.ofNat mp)), .val (.int q3), .val (.int (Int32.ofNat (ms + 1 + mp))), .val (.int q8), .val (.int q9), .val (.int q10), .val (.ref b15), .val (.ref b56), .val (.ref b15), .unset, .unset, .unset, .unset, .unset, .unset, .unset, .unset] [(.int (2 : Int32)), (.int (Int32.ofNat mp))])) t_
          exact k_)
        by_cases h163 : (Int32.ofNat mp) < (2 : Int32)
        · have s164 : ∀ t_, Steps p.tables e below (T159.setTop (mkF m 278 #[.val (.int layout), .val (.int shape), .val (.long lc), .second, .val (.int (Int32.ofNat ms)), .val (.int (Int32.ofNat mp)), .val (.int q3), .val (.int (Int32.ofNat (ms + 1 + mp))), .val (.int q8), .val (.int q9), .val (.int q10), .val (.ref b15), .val (.ref b56), .val (.ref b15), .unset, .unset, .unset, .unset, .unset, .unset, .unset, .unset] [(.int (3 : Int32)), (.int (Int32.ofNat mp))])) t_ → Steps p.tables e below (s₁.setTop (entryFrame m #[(.int layout), (.int shape), (.long lc)] maxLocals)) t_ := fun t_ k_ => s162 t_ (by
            show Steps p.tables e below (T159.setTop (mkF m 263 #[.val (.int layout), .val (.int shape), .val (.long lc), .second, .val (.int (Int32.ofNat ms)), .val (.int (Int32.ofNat mp)), .val (.int q3), .val (.int (Int32.ofNat (ms + 1 + mp))), .val (.int q8), .val (.int q9), .val (.int q10), .val (.ref b15), .val (.ref b56), .val (.ref b15), .unset, .unset, .unset, .unset, .unset, .unset, .unset, .unset] [(.int (2 : Int32)), (.int (Int32.ofNat mp))])) t_
            refine XS.icmpYes X159.here hx rfl (pc0 := 263) (pc' := 275) rfl (Jvm.hb hby at_263) rfl (tlt h163).1 (by decide) (by decide) ?_
            show Steps p.tables e below (T159.setTop (mkF m 275 #[.val (.int layout), .val (.int shape), .val (.long lc), .second, .val (.int (Int32.ofNat ms)), .val (.int (Int32.ofNat mp)), .val (.int q3), .val (.int (Int32.ofNat (ms + 1 + mp))), .val (.int q8), .val (.int q9), .val (.int q10), .val (.ref b15), .val (.ref b56), .val (.ref b15), .unset, .unset, .unset, .unset, .unset, .unset, .unset, .unset] [])) _
            refine XS.iload X159.here hx rfl (Jvm.hb hby at_275) rfl ?_
            refine XS.iconst X159.here hx rfl (Jvm.hb hby at_277) ?_
            show Steps p.tables e below (T159.setTop (mkF m 278 #[.val (.int layout), .val (.int shape), .val (.long lc), .second, .val (.int (Int32.ofNat ms)), .val (.int (Int32.ofNat mp)), .val (.int q3), .val (.int (Int32.ofNat (ms + 1 + mp))), .val (.int q8), .val (.int q9), .val (.int q10), .val (.ref b15), .val (.ref b56), .val (.ref b15), .unset, .unset, .unset, .unset, .unset, .unset, .unset, .unset] [(.int (3 : Int32)), (.int (Int32.ofNat mp))])) t_
            exact k_)
          by_cases h165 : (Int32.ofNat mp) < (3 : Int32)
          · have s166 : ∀ t_, Steps p.tables e below (T159.setTop (mkF m 294 #[.val (.int layout), .val (.int shape), .val (.long lc), .second, .val (.int (Int32.ofNat ms)), .val (.int (Int32.ofNat mp)), .val (.int q3), .val (.int (Int32.ofNat (ms + 1 + mp))), .val (.int q8), .val (.int q9), .val (.int q10), .val (.ref b15), .val (.ref b56), .val (.ref b15), .unset, .unset, .unset, .unset, .unset, .unset, .unset, .unset] [(.int (13 : Int32)), (.int (Int32.ofNat (ms + 1 + mp)))])) t_ → Steps p.tables e below (s₁.setTop (entryFrame m #[(.int layout), (.int shape), (.long lc)] maxLocals)) t_ := fun t_ k_ => s164 t_ (by
              show Steps p.tables e below (T159.setTop (mkF m 278 #[.val (.int layout), .val (.int shape), .val (.long lc), .second, .val (.int (Int32.ofNat ms)), .val (.int (Int32.ofNat mp)), .val (.int q3), .val (.int (Int32.ofNat (ms + 1 + mp))), .val (.int q8), .val (.int q9), .val (.int q10), .val (.ref b15), .val (.ref b56), .val (.ref b15), .unset, .unset, .unset, .unset, .unset, .unset, .unset, .unset] [(.int (3 : Int32)), (.int (Int32.ofNat mp))])) t_
              refine XS.icmpYes X159.here hx rfl (pc0 := 278) (pc' := 290) rfl (Jvm.hb hby at_278) rfl (tlt h165).1 (by decide) (by decide) ?_
              show Steps p.tables e below (T159.setTop (mkF m 290 #[.val (.int layout), .val (.int shape), .val (.long lc), .second, .val (.int (Int32.ofNat ms)), .val (.int (Int32.ofNat mp)), .val (.int q3), .val (.int (Int32.ofNat (ms + 1 + mp))), .val (.int q8), .val (.int q9), .val (.int q10), .val (.ref b15), .val (.ref b56), .val (.ref b15), .unset, .unset, .unset, .unset, .unset, .unset, .unset, .unset] [])) _
              refine XS.iload X159.here hx rfl (Jvm.hb hby at_290) rfl ?_
              refine XS.bipush X159.here hx rfl (Jvm.hb hby at_292) ?_
              show Steps p.tables e below (T159.setTop (mkF m 294 #[.val (.int layout), .val (.int shape), .val (.long lc), .second, .val (.int (Int32.ofNat ms)), .val (.int (Int32.ofNat mp)), .val (.int q3), .val (.int (Int32.ofNat (ms + 1 + mp))), .val (.int q8), .val (.int q9), .val (.int q10), .val (.ref b15), .val (.ref b56), .val (.ref b15), .unset, .unset, .unset, .unset, .unset, .unset, .unset, .unset] [(.int (13 : Int32)), (.int (Int32.ofNat (ms + 1 + mp)))])) t_
              exact k_)
            by_cases h167 : (Int32.ofNat (ms + 1 + mp)) < (13 : Int32)
            · have hj13 : ms + 1 + mp < 13 := own_lt13 (by omega) h167
              obtain ⟨cl168, Ar168, q168, S168, M168, H168, G168⟩ := id V159
              have hin168 : ¬ ((Int32.ofNat (ms + 1 + mp)) < 0 ∨ cl168.slots.size ≤ ((Int32.ofNat (ms + 1 + mp))).toNatClampNeg) := inb_of S168 (own_in (n := 13) hj13 (by decide))
              obtain ⟨T169, h169, X169, e169, W169, st169⟩ := stC X159 hx hZ e159 Ar168 (j := (Int32.ofNat (ms + 1 + mp))) hin168 (g := (mkF m 303 #[.val (.int layout), .val (.int shape), .val (.long lc), .second, .val (.int (Int32.ofNat ms)), .val (.int (Int32.ofNat mp)), .val (.int q3), .val (.int (Int32.ofNat (ms + 1 + mp))), .val (.int q8), .val (.int q9), .val (.int q10), .val (.ref b15), .val (.ref b56), .val (.ref b15), .unset, .unset, .unset, .unset, .unset, .unset, .unset, .unset] [(.int (35 : Int32)), (.int (Int32.ofNat (ms + 1 + mp))), (.ref b15)])) rfl rfl (Jvm.hb hby at_303)
              have z170 : h159.size ≤ h169.size := Nat.le_of_eq W169.size.symm
              have Cp170 : CHr Z ELs s.vm h159 s.vm h169 := CHr.wr W169 (Safe.arv hZ.alike V159 (by decide)) CR.1
              have hk := Nat.le_trans hk z170
              have CR := CR.trans Cp170
              obtain ⟨cs171, hcs171⟩ : ∃ z : List Int32, z = List.set cs161 ((ms + 1 + mp)) (35 : Int32) := ⟨_, rfl⟩
              have lat171 : own_lat cs171 := by rw [hcs171]; exact own_latset lat161 (by decide)
              have len171 : cs171.length = 13 := by rw [hcs171, List.length_set]; exact len161
              have V169 : Arv Z h169 b15 k15 .char (13 : Int32) (cs171.map Value.int) (.int (0 : Int32)) := by
                have q : Arv Z h169 b15 k15 .char (13 : Int32) (List.set (List.map Value.int cs161) ((ms + 1 + mp)) (.int (nar .char (35 : Int32)))) (.int (0 : Int32)) := Arv.set Ar168 q168 S168 M168 H168 G168 (fits_nar_char _) W169 ((ms + 1 + mp)) (own_tn (by omega)) (by first | (simp only [List.length_map]; omega) | (show _ < 13; omega))
                rw [show nar .char (35 : Int32) = (35 : Int32) from rfl] at q
                rw [hcs171, List.map_set]
                exact q
              have N169 := Fr.snoc X169 N159 (show n0 ≤ b15 by omega)
              have s172 : ∀ t_, Steps p.tables e below (T169.setTop (mkF m 304 #[.val (.int layout), .val (.int shape), .val (.long lc), .second, .val (.int (Int32.ofNat ms)), .val (.int (Int32.ofNat mp)), .val (.int q3), .val (.int (Int32.ofNat (ms + 1 + mp))), .val (.int q8), .val (.int q9), .val (.int q10), .val (.ref b15), .val (.ref b56), .val (.ref b15), .unset, .unset, .unset, .unset, .unset, .unset, .unset, .unset] [])) t_ → Steps p.tables e below (s₁.setTop (entryFrame m #[(.int layout), (.int shape), (.long lc)] maxLocals)) t_ := fun t_ k_ => s166 t_ (by
                show Steps p.tables e below (T159.setTop (mkF m 294 #[.val (.int layout), .val (.int shape), .val (.long lc), .second, .val (.int (Int32.ofNat ms)), .val (.int (Int32.ofNat mp)), .val (.int q3), .val (.int (Int32.ofNat (ms + 1 + mp))), .val (.int q8), .val (.int q9), .val (.int q10), .val (.ref b15), .val (.ref b56), .val (.ref b15), .unset, .unset, .unset, .unset, .unset, .unset, .unset, .unset] [(.int (13 : Int32)), (.int (Int32.ofNat (ms + 1 + mp)))])) t_
                refine XS.icmpNo X159.here hx rfl (Jvm.hb hby at_294) rfl (tlt h167).2.1 ?_
                show Steps p.tables e below (T159.setTop (mkF m 297 #[.val (.int layout), .val (.int shape), .val (.long lc), .second, .val (.int (Int32.ofNat ms)), .val (.int (Int32.ofNat mp)), .val (.int q3), .val (.int (Int32.ofNat (ms + 1 + mp))), .val (.int q8), .val (.int q9), .val (.int q10), .val (.ref b15), .val (.ref b56), .val (.ref b15), .unset, .unset, .unset, .unset, .unset, .unset, .unset, .unset] [])) _
                refine XS.aload X159.here hx rfl (Jvm.hb hby at_297) rfl rfl ?_
                refine XS.iload X159.here hx rfl (Jvm.hb hby at_299) rfl ?_
                refine XS.bipush X159.here hx rfl (Jvm.hb hby at_301) ?_
                refine st169 _ ?_
                show Steps p.tables e below (T169.setTop (mkF m 304 #[.val (.int layout), .val (.int shape), .val (.long lc), .second, .val (.int (Int32.ofNat ms)), .val (.int (Int32.ofNat mp)), .val (.int q3), .val (.int (Int32.ofNat (ms + 1 + mp))), .val (.int q8), .val (.int q9), .val (.int q10), .val (.ref b15), .val (.ref b56), .val (.ref b15), .unset, .unset, .unset, .unset, .unset, .unset, .unset, .unset] [])) _
                show Steps p.tables e below (T169.setTop (mkF m 304 #[.val (.int layout), .val (.int shape), .val (.long lc), .second, .val (.int (Int32.ofNat ms)), .val (.int (Int32.ofNat mp)), .val (.int q3), .val (.int (Int32.ofNat (ms + 1 + mp))), .val (.int q8), .val (.int q9), .val (.int q10), .val (.ref b15), .val (.ref b56), .val (.ref b15), .unset, .unset, .unset, .unset, .unset, .unset, .unset, .unset] [])) t_
                exact k_)
              exact ⟨T169, _, _, _, X169, e169, N169, ((((Keep.refl h95 [b15, b56]).wr W103 (Or.inl (by simp))).wr W159 (Or.inl (by simp))).wr W169 (Or.inl (by simp))), ⟨b15, k15, cs171, rfl, V169, len171, lat171, (by omega)⟩, s172⟩
            · have s173 : ∀ t_, Steps p.tables e below (T159.setTop (mkF m 304 #[.val (.int layout), .val (.int shape), .val (.long lc), .second, .val (.int (Int32.ofNat ms)), .val (.int (Int32.ofNat mp)), .val (.int q3), .val (.int (Int32.ofNat (ms + 1 + mp))), .val (.int q8), .val (.int q9), .val (.int q10), .val (.ref b15), .val (.ref b56), .val (.ref b15), .unset, .unset, .unset, .unset, .unset, .unset, .unset, .unset] [])) t_ → Steps p.tables e below (s₁.setTop (entryFrame m #[(.int layout), (.int shape), (.long lc)] maxLocals)) t_ := fun t_ k_ => s166 t_ (by
                show Steps p.tables e below (T159.setTop (mkF m 294 #[.val (.int layout), .val (.int shape), .val (.long lc), .second, .val (.int (Int32.ofNat ms)), .val (.int (Int32.ofNat mp)), .val (.int q3), .val (.int (Int32.ofNat (ms + 1 + mp))), .val (.int q8), .val (.int q9), .val (.int q10), .val (.ref b15), .val (.ref b56), .val (.ref b15), .unset, .unset, .unset, .unset, .unset, .unset, .unset, .unset] [(.int (13 : Int32)), (.int (Int32.ofNat (ms + 1 + mp)))])) t_
                refine XS.icmpYes X159.here hx rfl (pc0 := 294) (pc' := 304) rfl (Jvm.hb hby at_294) rfl (flt h167).2.1 (by decide) (by decide) ?_
                show Steps p.tables e below (T159.setTop (mkF m 304 #[.val (.int layout), .val (.int shape), .val (.long lc), .second, .val (.int (Int32.ofNat ms)), .val (.int (Int32.ofNat mp)), .val (.int q3), .val (.int (Int32.ofNat (ms + 1 + mp))), .val (.int q8), .val (.int q9), .val (.int q10), .val (.ref b15), .val (.ref b56), .val (.ref b15), .unset, .unset, .unset, .unset, .unset, .unset, .unset, .unset] [])) _
                show Steps p.tables e below (T159.setTop (mkF m 304 #[.val (.int layout), .val (.int shape), .val (.long lc), .second, .val (.int (Int32.ofNat ms)), .val (.int (Int32.ofNat mp)), .val (.int q3), .val (.int (Int32.ofNat (ms + 1 + mp))), .val (.int q8), .val (.int q9), .val (.int q10), .val (.ref b15), .val (.ref b56), .val (.ref b15), .unset, .unset, .unset, .unset, .unset, .unset, .unset, .unset] [])) t_
                exact k_)
              exact ⟨T159, _, _, _, X159, e159, N159, (((Keep.refl h95 [b15, b56]).wr W103 (Or.inl (by simp))).wr W159 (Or.inl (by simp))), ⟨b15, k15, cs161, rfl, V159, len161, lat161, (by omega)⟩, s173⟩
          · obtain ⟨cl174, Ar174, q174, S174, M174, H174, G174⟩ := id V159
            have hin174 : ¬ ((Int32.ofNat (ms + 3)) < 0 ∨ cl174.slots.size ≤ ((Int32.ofNat (ms + 3))).toNatClampNeg) := inb_of S174 (own_in (n := 13) (by omega) (by decide))
            obtain ⟨T175, h175, X175, e175, W175, st175⟩ := stC X159 hx hZ e159 Ar174 (j := (Int32.ofNat (ms + 3))) hin174 (g := (mkF m 289 #[.val (.int layout), .val (.int shape), .val (.long lc), .second, .val (.int (Int32.ofNat ms)), .val (.int (Int32.ofNat mp)), .val (.int q3), .val (.int (Int32.ofNat (ms + 1 + mp))), .val (.int q8), .val (.int q9), .val (.int q10), .val (.ref b15), .val (.ref b56), .val (.ref b15), .unset, .unset, .unset, .unset, .unset, .unset, .unset, .unset] [(.int q10), (.int (Int32.ofNat (ms + 3))), (.ref b15)])) rfl rfl (Jvm.hb hby at_289)
            have z176 : h159.size ≤ h175.size := Nat.le_of_eq W175.size.symm
            have Cp176 : CHr Z ELs s.vm h159 s.vm h175 := CHr.wr W175 (Safe.arv hZ.alike V159 (by decide)) CR.1
            have hk := Nat.le_trans hk z176
            have CR := CR.trans Cp176
            obtain ⟨cs177, hcs177⟩ : ∃ z : List Int32, z = List.set cs161 ((ms + 3)) q10 := ⟨_, rfl⟩
            have lat177 : own_lat cs177 := by rw [hcs177]; exact own_latset lat161 rg14.2
            have len177 : cs177.length = 13 := by rw [hcs177, List.length_set]; exact len161
            have V175 : Arv Z h175 b15 k15 .char (13 : Int32) (cs177.map Value.int) (.int (0 : Int32)) := by
              have q : Arv Z h175 b15 k15 .char (13 : Int32) (List.set (List.map Value.int cs161) ((ms + 3)) (.int (nar .char q10))) (.int (0 : Int32)) := Arv.set Ar174 q174 S174 M174 H174 G174 (fits_nar_char _) W175 ((ms + 3)) (own_tn (by omega)) (by first | (simp only [List.length_map]; omega) | (show _ < 13; omega))
              rw [show nar .char q10 = q10 from own_narc rg14.1 (own_le64k rg14.2)] at q
              rw [hcs177, List.map_set]
              exact q
            have N175 := Fr.snoc X175 N159 (show n0 ≤ b15 by omega)
            have s178 : ∀ t_, Steps p.tables e below (T175.setTop (mkF m 294 #[.val (.int layout), .val (.int shape), .val (.long lc), .second, .val (.int (Int32.ofNat ms)), .val (.int (Int32.ofNat mp)), .val (.int q3), .val (.int (Int32.ofNat (ms + 1 + mp))), .val (.int q8), .val (.int q9), .val (.int q10), .val (.ref b15), .val (.ref b56), .val (.ref b15), .unset, .unset, .unset, .unset, .unset, .unset, .unset, .unset] [(.int (13 : Int32)), (.int (Int32.ofNat (ms + 1 + mp)))])) t_ → Steps p.tables e below (s₁.setTop (entryFrame m #[(.int layout), (.int shape), (.long lc)] maxLocals)) t_ := fun t_ k_ => s164 t_ (by
              show Steps p.tables e below (T159.setTop (mkF m 278 #[.val (.int layout), .val (.int shape), .val (.long lc), .second, .val (.int (Int32.ofNat ms)), .val (.int (Int32.ofNat mp)), .val (.int q3), .val (.int (Int32.ofNat (ms + 1 + mp))), .val (.int q8), .val (.int q9), .val (.int q10), .val (.ref b15), .val (.ref b56), .val (.ref b15), .unset, .unset, .unset, .unset, .unset, .unset, .unset, .unset] [(.int (3 : Int32)), (.int (Int32.ofNat mp))])) t_
              refine XS.icmpNo X159.here hx rfl (Jvm.hb hby at_278) rfl (flt h165).1 ?_
              show Steps p.tables e below (T159.setTop (mkF m 281 #[.val (.int layout), .val (.int shape), .val (.long lc), .second, .val (.int (Int32.ofNat ms)), .val (.int (Int32.ofNat mp)), .val (.int q3), .val (.int (Int32.ofNat (ms + 1 + mp))), .val (.int q8), .val (.int q9), .val (.int q10), .val (.ref b15), .val (.ref b56), .val (.ref b15), .unset, .unset, .unset, .unset, .unset, .unset, .unset, .unset] [])) _
              refine XS.aload X159.here hx rfl (Jvm.hb hby at_281) rfl rfl ?_
              refine XS.iload X159.here hx rfl (Jvm.hb hby at_283) rfl ?_
              refine XS.iconst X159.here hx rfl (Jvm.hb hby at_285) ?_
              refine XS.iadd X159.here hx rfl (Jvm.hb hby at_286) rfl ?_
              show Steps p.tables e below (T159.setTop (mkF m 287 #[.val (.int layout), .val (.int shape), .val (.long lc), .second, .val (.int (Int32.ofNat ms)), .val (.int (Int32.ofNat mp)), .val (.int q3), .val (.int (Int32.ofNat (ms + 1 + mp))), .val (.int q8), .val (.int q9), .val (.int q10), .val (.ref b15), .val (.ref b56), .val (.ref b15), .unset, .unset, .unset, .unset, .unset, .unset, .unset, .unset] [(.int ((Int32.ofNat ms) + (3 : Int32))), (.ref b15)])) _
              refine castTop (g' := (mkF m 287 #[.val (.int layout), .val (.int shape), .val (.long lc), .second, .val (.int (Int32.ofNat ms)), .val (.int (Int32.ofNat mp)), .val (.int q3), .val (.int (Int32.ofNat (ms + 1 + mp))), .val (.int q8), .val (.int q9), .val (.int q10), .val (.ref b15), .val (.ref b56), .val (.ref b15), .unset, .unset, .unset, .unset, .unset, .unset, .unset, .unset] [(.int (Int32.ofNat (ms + 3))), (.ref b15)])) (by rw [show Int32.ofNat (ms + 3) = (Int32.ofNat ms) + (3 : Int32) from Int32.ofNat_add ms 3]) ?_
              show Steps p.tables e below (T159.setTop (mkF m 287 #[.val (.int layout), .val (.int shape), .val (.long lc), .second, .val (.int (Int32.ofNat ms)), .val (.int (Int32.ofNat mp)), .val (.int q3), .val (.int (Int32.ofNat (ms + 1 + mp))), .val (.int q8), .val (.int q9), .val (.int q10), .val (.ref b15), .val (.ref b56), .val (.ref b15), .unset, .unset, .unset, .unset, .unset, .unset, .unset, .unset] [(.int (Int32.ofNat (ms + 3))), (.ref b15)])) _
              refine XS.iload X159.here hx rfl (Jvm.hb hby at_287) rfl ?_
              refine st175 _ ?_
              show Steps p.tables e below (T175.setTop (mkF m 290 #[.val (.int layout), .val (.int shape), .val (.long lc), .second, .val (.int (Int32.ofNat ms)), .val (.int (Int32.ofNat mp)), .val (.int q3), .val (.int (Int32.ofNat (ms + 1 + mp))), .val (.int q8), .val (.int q9), .val (.int q10), .val (.ref b15), .val (.ref b56), .val (.ref b15), .unset, .unset, .unset, .unset, .unset, .unset, .unset, .unset] [])) _
              refine XS.iload X175.here hx rfl (Jvm.hb hby at_290) rfl ?_
              refine XS.bipush X175.here hx rfl (Jvm.hb hby at_292) ?_
              show Steps p.tables e below (T175.setTop (mkF m 294 #[.val (.int layout), .val (.int shape), .val (.long lc), .second, .val (.int (Int32.ofNat ms)), .val (.int (Int32.ofNat mp)), .val (.int q3), .val (.int (Int32.ofNat (ms + 1 + mp))), .val (.int q8), .val (.int q9), .val (.int q10), .val (.ref b15), .val (.ref b56), .val (.ref b15), .unset, .unset, .unset, .unset, .unset, .unset, .unset, .unset] [(.int (13 : Int32)), (.int (Int32.ofNat (ms + 1 + mp)))])) t_
              exact k_)
            by_cases h179 : (Int32.ofNat (ms + 1 + mp)) < (13 : Int32)
            · have hj13 : ms + 1 + mp < 13 := own_lt13 (by omega) h179
              obtain ⟨cl180, Ar180, q180, S180, M180, H180, G180⟩ := id V175
              have hin180 : ¬ ((Int32.ofNat (ms + 1 + mp)) < 0 ∨ cl180.slots.size ≤ ((Int32.ofNat (ms + 1 + mp))).toNatClampNeg) := inb_of S180 (own_in (n := 13) hj13 (by decide))
              obtain ⟨T181, h181, X181, e181, W181, st181⟩ := stC X175 hx hZ e175 Ar180 (j := (Int32.ofNat (ms + 1 + mp))) hin180 (g := (mkF m 303 #[.val (.int layout), .val (.int shape), .val (.long lc), .second, .val (.int (Int32.ofNat ms)), .val (.int (Int32.ofNat mp)), .val (.int q3), .val (.int (Int32.ofNat (ms + 1 + mp))), .val (.int q8), .val (.int q9), .val (.int q10), .val (.ref b15), .val (.ref b56), .val (.ref b15), .unset, .unset, .unset, .unset, .unset, .unset, .unset, .unset] [(.int (35 : Int32)), (.int (Int32.ofNat (ms + 1 + mp))), (.ref b15)])) rfl rfl (Jvm.hb hby at_303)
              have z182 : h175.size ≤ h181.size := Nat.le_of_eq W181.size.symm
              have Cp182 : CHr Z ELs s.vm h175 s.vm h181 := CHr.wr W181 (Safe.arv hZ.alike V175 (by decide)) CR.1
              have hk := Nat.le_trans hk z182
              have CR := CR.trans Cp182
              obtain ⟨cs183, hcs183⟩ : ∃ z : List Int32, z = List.set cs177 ((ms + 1 + mp)) (35 : Int32) := ⟨_, rfl⟩
              have lat183 : own_lat cs183 := by rw [hcs183]; exact own_latset lat177 (by decide)
              have len183 : cs183.length = 13 := by rw [hcs183, List.length_set]; exact len177
              have V181 : Arv Z h181 b15 k15 .char (13 : Int32) (cs183.map Value.int) (.int (0 : Int32)) := by
                have q : Arv Z h181 b15 k15 .char (13 : Int32) (List.set (List.map Value.int cs177) ((ms + 1 + mp)) (.int (nar .char (35 : Int32)))) (.int (0 : Int32)) := Arv.set Ar180 q180 S180 M180 H180 G180 (fits_nar_char _) W181 ((ms + 1 + mp)) (own_tn (by omega)) (by first | (simp only [List.length_map]; omega) | (show _ < 13; omega))
                rw [show nar .char (35 : Int32) = (35 : Int32) from rfl] at q
                rw [hcs183, List.map_set]
                exact q
              have N181 := Fr.snoc X181 N175 (show n0 ≤ b15 by omega)
              have s184 : ∀ t_, Steps p.tables e below (T181.setTop (mkF m 304 #[.val (.int layout), .val (.int shape), .val (.long lc), .second, .val (.int (Int32.ofNat ms)), .val (.int (Int32.ofNat mp)), .val (.int q3), .val (.int (Int32.ofNat (ms + 1 + mp))), .val (.int q8), .val (.int q9), .val (.int q10), .val (.ref b15), .val (.ref b56), .val (.ref b15), .unset, .unset, .unset, .unset, .unset, .unset, .unset, .unset] [])) t_ → Steps p.tables e below (s₁.setTop (entryFrame m #[(.int layout), (.int shape), (.long lc)] maxLocals)) t_ := fun t_ k_ => s178 t_ (by
                show Steps p.tables e below (T175.setTop (mkF m 294 #[.val (.int layout), .val (.int shape), .val (.long lc), .second, .val (.int (Int32.ofNat ms)), .val (.int (Int32.ofNat mp)), .val (.int q3), .val (.int (Int32.ofNat (ms + 1 + mp))), .val (.int q8), .val (.int q9), .val (.int q10), .val (.ref b15), .val (.ref b56), .val (.ref b15), .unset, .unset, .unset, .unset, .unset, .unset, .unset, .unset] [(.int (13 : Int32)), (.int (Int32.ofNat (ms + 1 + mp)))])) t_
                refine XS.icmpNo X175.here hx rfl (Jvm.hb hby at_294) rfl (tlt h179).2.1 ?_
                show Steps p.tables e below (T175.setTop (mkF m 297 #[.val (.int layout), .val (.int shape), .val (.long lc), .second, .val (.int (Int32.ofNat ms)), .val (.int (Int32.ofNat mp)), .val (.int q3), .val (.int (Int32.ofNat (ms + 1 + mp))), .val (.int q8), .val (.int q9), .val (.int q10), .val (.ref b15), .val (.ref b56), .val (.ref b15), .unset, .unset, .unset, .unset, .unset, .unset, .unset, .unset] [])) _
                refine XS.aload X175.here hx rfl (Jvm.hb hby at_297) rfl rfl ?_
                refine XS.iload X175.here hx rfl (Jvm.hb hby at_299) rfl ?_
                refine XS.bipush X175.here hx rfl (Jvm.hb hby at_301) ?_
                refine st181 _ ?_
                show Steps p.tables e below (T181.setTop (mkF m 304 #[.val (.int layout), .val (.int shape), .val (.long lc), .second, .val (.int (Int32.ofNat ms)), .val (.int (Int32.ofNat mp)), .val (.int q3), .val (.int (Int32.ofNat (ms + 1 + mp))), .val (.int q8), .val (.int q9), .val (.int q10), .val (.ref b15), .val (.ref b56), .val (.ref b15), .unset, .unset, .unset, .unset, .unset, .unset, .unset, .unset] [])) _
                show Steps p.tables e below (T181.setTop (mkF m 304 #[.val (.int layout), .val (.int shape), .val (.long lc), .second, .val (.int (Int32.ofNat ms)), .val (.int (Int32.ofNat mp)), .val (.int q3), .val (.int (Int32.ofNat (ms + 1 + mp))), .val (.int q8), .val (.int q9), .val (.int q10), .val (.ref b15), .val (.ref b56), .val (.ref b15), .unset, .unset, .unset, .unset, .unset, .unset, .unset, .unset] [])) t_
                exact k_)
              exact ⟨T181, _, _, _, X181, e181, N181, (((((Keep.refl h95 [b15, b56]).wr W103 (Or.inl (by simp))).wr W159 (Or.inl (by simp))).wr W175 (Or.inl (by simp))).wr W181 (Or.inl (by simp))), ⟨b15, k15, cs183, rfl, V181, len183, lat183, (by omega)⟩, s184⟩
            · have s185 : ∀ t_, Steps p.tables e below (T175.setTop (mkF m 304 #[.val (.int layout), .val (.int shape), .val (.long lc), .second, .val (.int (Int32.ofNat ms)), .val (.int (Int32.ofNat mp)), .val (.int q3), .val (.int (Int32.ofNat (ms + 1 + mp))), .val (.int q8), .val (.int q9), .val (.int q10), .val (.ref b15), .val (.ref b56), .val (.ref b15), .unset, .unset, .unset, .unset, .unset, .unset, .unset, .unset] [])) t_ → Steps p.tables e below (s₁.setTop (entryFrame m #[(.int layout), (.int shape), (.long lc)] maxLocals)) t_ := fun t_ k_ => s178 t_ (by
                show Steps p.tables e below (T175.setTop (mkF m 294 #[.val (.int layout), .val (.int shape), .val (.long lc), .second, .val (.int (Int32.ofNat ms)), .val (.int (Int32.ofNat mp)), .val (.int q3), .val (.int (Int32.ofNat (ms + 1 + mp))), .val (.int q8), .val (.int q9), .val (.int q10), .val (.ref b15), .val (.ref b56), .val (.ref b15), .unset, .unset, .unset, .unset, .unset, .unset, .unset, .unset] [(.int (13 : Int32)), (.int (Int32.ofNat (ms + 1 + mp)))])) t_
                refine XS.icmpYes X175.here hx rfl (pc0 := 294) (pc' := 304) rfl (Jvm.hb hby at_294) rfl (flt h179).2.1 (by decide) (by decide) ?_
                show Steps p.tables e below (T175.setTop (mkF m 304 #[.val (.int layout), .val (.int shape), .val (.long lc), .second, .val (.int (Int32.ofNat ms)), .val (.int (Int32.ofNat mp)), .val (.int q3), .val (.int (Int32.ofNat (ms + 1 + mp))), .val (.int q8), .val (.int q9), .val (.int q10), .val (.ref b15), .val (.ref b56), .val (.ref b15), .unset, .unset, .unset, .unset, .unset, .unset, .unset, .unset] [])) _
                show Steps p.tables e below (T175.setTop (mkF m 304 #[.val (.int layout), .val (.int shape), .val (.long lc), .second, .val (.int (Int32.ofNat ms)), .val (.int (Int32.ofNat mp)), .val (.int q3), .val (.int (Int32.ofNat (ms + 1 + mp))), .val (.int q8), .val (.int q9), .val (.int q10), .val (.ref b15), .val (.ref b56), .val (.ref b15), .unset, .unset, .unset, .unset, .unset, .unset, .unset, .unset] [])) t_
                exact k_)
              exact ⟨T175, _, _, _, X175, e175, N175, ((((Keep.refl h95 [b15, b56]).wr W103 (Or.inl (by simp))).wr W159 (Or.inl (by simp))).wr W175 (Or.inl (by simp))), ⟨b15, k15, cs177, rfl, V175, len177, lat177, (by omega)⟩, s185⟩
        · obtain ⟨cl186, Ar186, q186, S186, M186, H186, G186⟩ := id V159
          have hin186 : ¬ ((Int32.ofNat (ms + 2)) < 0 ∨ cl186.slots.size ≤ ((Int32.ofNat (ms + 2))).toNatClampNeg) := inb_of S186 (own_in (n := 13) (by omega) (by decide))
          obtain ⟨T187, h187, X187, e187, W187, st187⟩ := stC X159 hx hZ e159 Ar186 (j := (Int32.ofNat (ms + 2))) hin186 (g := (mkF m 274 #[.val (.int layout), .val (.int shape), .val (.long lc), .second, .val (.int (Int32.ofNat ms)), .val (.int (Int32.ofNat mp)), .val (.int q3), .val (.int (Int32.ofNat (ms + 1 + mp))), .val (.int q8), .val (.int q9), .val (.int q10), .val (.ref b15), .val (.ref b56), .val (.ref b15), .unset, .unset, .unset, .unset, .unset, .unset, .unset, .unset] [(.int q9), (.int (Int32.ofNat (ms + 2))), (.ref b15)])) rfl rfl (Jvm.hb hby at_274)
          have z188 : h159.size ≤ h187.size := Nat.le_of_eq W187.size.symm
          have Cp188 : CHr Z ELs s.vm h159 s.vm h187 := CHr.wr W187 (Safe.arv hZ.alike V159 (by decide)) CR.1
          have hk := Nat.le_trans hk z188
          have CR := CR.trans Cp188
          obtain ⟨cs189, hcs189⟩ : ∃ z : List Int32, z = List.set cs161 ((ms + 2)) q9 := ⟨_, rfl⟩
          have lat189 : own_lat cs189 := by rw [hcs189]; exact own_latset lat161 rg13.2
          have len189 : cs189.length = 13 := by rw [hcs189, List.length_set]; exact len161
          have V187 : Arv Z h187 b15 k15 .char (13 : Int32) (cs189.map Value.int) (.int (0 : Int32)) := by
            have q : Arv Z h187 b15 k15 .char (13 : Int32) (List.set (List.map Value.int cs161) ((ms + 2)) (.int (nar .char q9))) (.int (0 : Int32)) := Arv.set Ar186 q186 S186 M186 H186 G186 (fits_nar_char _) W187 ((ms + 2)) (own_tn (by omega)) (by first | (simp only [List.length_map]; omega) | (show _ < 13; omega))
            rw [show nar .char q9 = q9 from own_narc rg13.1 (own_le64k rg13.2)] at q
            rw [hcs189, List.map_set]
            exact q
          have N187 := Fr.snoc X187 N159 (show n0 ≤ b15 by omega)
          have s190 : ∀ t_, Steps p.tables e below (T187.setTop (mkF m 278 #[.val (.int layout), .val (.int shape), .val (.long lc), .second, .val (.int (Int32.ofNat ms)), .val (.int (Int32.ofNat mp)), .val (.int q3), .val (.int (Int32.ofNat (ms + 1 + mp))), .val (.int q8), .val (.int q9), .val (.int q10), .val (.ref b15), .val (.ref b56), .val (.ref b15), .unset, .unset, .unset, .unset, .unset, .unset, .unset, .unset] [(.int (3 : Int32)), (.int (Int32.ofNat mp))])) t_ → Steps p.tables e below (s₁.setTop (entryFrame m #[(.int layout), (.int shape), (.long lc)] maxLocals)) t_ := fun t_ k_ => s162 t_ (by
            show Steps p.tables e below (T159.setTop (mkF m 263 #[.val (.int layout), .val (.int shape), .val (.long lc), .second, .val (.int (Int32.ofNat ms)), .val (.int (Int32.ofNat mp)), .val (.int q3), .val (.int (Int32.ofNat (ms + 1 + mp))), .val (.int q8), .val (.int q9), .val (.int q10), .val (.ref b15), .val (.ref b56), .val (.ref b15), .unset, .unset, .unset, .unset, .unset, .unset, .unset, .unset] [(.int (2 : Int32)), (.int (Int32.ofNat mp))])) t_
            refine XS.icmpNo X159.here hx rfl (Jvm.hb hby at_263) rfl (flt h163).1 ?_
            show Steps p.tables e below (T159.setTop (mkF m 266 #[.val (.int layout), .val (.int shape), .val (.long lc), .second, .val (.int (Int32.ofNat ms)), .val (.int (Int32.ofNat mp)), .val (.int q3), .val (.int (Int32.ofNat (ms + 1 + mp))), .val (.int q8), .val (.int q9), .val (.int q10), .val (.ref b15), .val (.ref b56), .val (.ref b15), .unset, .unset, .unset, .unset, .unset, .unset, .unset, .unset] [])) _
            refine XS.aload X159.here hx rfl (Jvm.hb hby at_266) rfl rfl ?_
            refine XS.iload X159.here hx rfl (Jvm.hb hby at_268) rfl ?_
            refine XS.iconst X159.here hx rfl (Jvm.hb hby at_270) ?_
            refine XS.iadd X159.here hx rfl (Jvm.hb hby at_271) rfl ?_
            show Steps p.tables e below (T159.setTop (mkF m 272 #[.val (.int layout), .val (.int shape), .val (.long lc), .second, .val (.int (Int32.ofNat ms)), .val (.int (Int32.ofNat mp)), .val (.int q3), .val (.int (Int32.ofNat (ms + 1 + mp))), .val (.int q8), .val (.int q9), .val (.int q10), .val (.ref b15), .val (.ref b56), .val (.ref b15), .unset, .unset, .unset, .unset, .unset, .unset, .unset, .unset] [(.int ((Int32.ofNat ms) + (2 : Int32))), (.ref b15)])) _
            refine castTop (g' := (mkF m 272 #[.val (.int layout), .val (.int shape), .val (.long lc), .second, .val (.int (Int32.ofNat ms)), .val (.int (Int32.ofNat mp)), .val (.int q3), .val (.int (Int32.ofNat (ms + 1 + mp))), .val (.int q8), .val (.int q9), .val (.int q10), .val (.ref b15), .val (.ref b56), .val (.ref b15), .unset, .unset, .unset, .unset, .unset, .unset, .unset, .unset] [(.int (Int32.ofNat (ms + 2))), (.ref b15)])) (by rw [show Int32.ofNat (ms + 2) = (Int32.ofNat ms) + (2 : Int32) from Int32.ofNat_add ms 2]) ?_
            show Steps p.tables e below (T159.setTop (mkF m 272 #[.val (.int layout), .val (.int shape), .val (.long lc), .second, .val (.int (Int32.ofNat ms)), .val (.int (Int32.ofNat mp)), .val (.int q3), .val (.int (Int32.ofNat (ms + 1 + mp))), .val (.int q8), .val (.int q9), .val (.int q10), .val (.ref b15), .val (.ref b56), .val (.ref b15), .unset, .unset, .unset, .unset, .unset, .unset, .unset, .unset] [(.int (Int32.ofNat (ms + 2))), (.ref b15)])) _
            refine XS.iload X159.here hx rfl (Jvm.hb hby at_272) rfl ?_
            refine st187 _ ?_
            show Steps p.tables e below (T187.setTop (mkF m 275 #[.val (.int layout), .val (.int shape), .val (.long lc), .second, .val (.int (Int32.ofNat ms)), .val (.int (Int32.ofNat mp)), .val (.int q3), .val (.int (Int32.ofNat (ms + 1 + mp))), .val (.int q8), .val (.int q9), .val (.int q10), .val (.ref b15), .val (.ref b56), .val (.ref b15), .unset, .unset, .unset, .unset, .unset, .unset, .unset, .unset] [])) _
            refine XS.iload X187.here hx rfl (Jvm.hb hby at_275) rfl ?_
            refine XS.iconst X187.here hx rfl (Jvm.hb hby at_277) ?_
            show Steps p.tables e below (T187.setTop (mkF m 278 #[.val (.int layout), .val (.int shape), .val (.long lc), .second, .val (.int (Int32.ofNat ms)), .val (.int (Int32.ofNat mp)), .val (.int q3), .val (.int (Int32.ofNat (ms + 1 + mp))), .val (.int q8), .val (.int q9), .val (.int q10), .val (.ref b15), .val (.ref b56), .val (.ref b15), .unset, .unset, .unset, .unset, .unset, .unset, .unset, .unset] [(.int (3 : Int32)), (.int (Int32.ofNat mp))])) t_
            exact k_)
          by_cases h191 : (Int32.ofNat mp) < (3 : Int32)
          · have s192 : ∀ t_, Steps p.tables e below (T187.setTop (mkF m 294 #[.val (.int layout), .val (.int shape), .val (.long lc), .second, .val (.int (Int32.ofNat ms)), .val (.int (Int32.ofNat mp)), .val (.int q3), .val (.int (Int32.ofNat (ms + 1 + mp))), .val (.int q8), .val (.int q9), .val (.int q10), .val (.ref b15), .val (.ref b56), .val (.ref b15), .unset, .unset, .unset, .unset, .unset, .unset, .unset, .unset] [(.int (13 : Int32)), (.int (Int32.ofNat (ms + 1 + mp)))])) t_ → Steps p.tables e below (s₁.setTop (entryFrame m #[(.int layout), (.int shape), (.long lc)] maxLocals)) t_ := fun t_ k_ => s190 t_ (by
              show Steps p.tables e below (T187.setTop (mkF m 278 #[.val (.int layout), .val (.int shape), .val (.long lc), .second, .val (.int (Int32.ofNat ms)), .val (.int (Int32.ofNat mp)), .val (.int q3), .val (.int (Int32.ofNat (ms + 1 + mp))), .val (.int q8), .val (.int q9), .val (.int q10), .val (.ref b15), .val (.ref b56), .val (.ref b15), .unset, .unset, .unset, .unset, .unset, .unset, .unset, .unset] [(.int (3 : Int32)), (.int (Int32.ofNat mp))])) t_
              refine XS.icmpYes X187.here hx rfl (pc0 := 278) (pc' := 290) rfl (Jvm.hb hby at_278) rfl (tlt h191).1 (by decide) (by decide) ?_
              show Steps p.tables e below (T187.setTop (mkF m 290 #[.val (.int layout), .val (.int shape), .val (.long lc), .second, .val (.int (Int32.ofNat ms)), .val (.int (Int32.ofNat mp)), .val (.int q3), .val (.int (Int32.ofNat (ms + 1 + mp))), .val (.int q8), .val (.int q9), .val (.int q10), .val (.ref b15), .val (.ref b56), .val (.ref b15), .unset, .unset, .unset, .unset, .unset, .unset, .unset, .unset] [])) _
              refine XS.iload X187.here hx rfl (Jvm.hb hby at_290) rfl ?_
              refine XS.bipush X187.here hx rfl (Jvm.hb hby at_292) ?_
              show Steps p.tables e below (T187.setTop (mkF m 294 #[.val (.int layout), .val (.int shape), .val (.long lc), .second, .val (.int (Int32.ofNat ms)), .val (.int (Int32.ofNat mp)), .val (.int q3), .val (.int (Int32.ofNat (ms + 1 + mp))), .val (.int q8), .val (.int q9), .val (.int q10), .val (.ref b15), .val (.ref b56), .val (.ref b15), .unset, .unset, .unset, .unset, .unset, .unset, .unset, .unset] [(.int (13 : Int32)), (.int (Int32.ofNat (ms + 1 + mp)))])) t_
              exact k_)
            by_cases h193 : (Int32.ofNat (ms + 1 + mp)) < (13 : Int32)
            · have hj13 : ms + 1 + mp < 13 := own_lt13 (by omega) h193
              obtain ⟨cl194, Ar194, q194, S194, M194, H194, G194⟩ := id V187
              have hin194 : ¬ ((Int32.ofNat (ms + 1 + mp)) < 0 ∨ cl194.slots.size ≤ ((Int32.ofNat (ms + 1 + mp))).toNatClampNeg) := inb_of S194 (own_in (n := 13) hj13 (by decide))
              obtain ⟨T195, h195, X195, e195, W195, st195⟩ := stC X187 hx hZ e187 Ar194 (j := (Int32.ofNat (ms + 1 + mp))) hin194 (g := (mkF m 303 #[.val (.int layout), .val (.int shape), .val (.long lc), .second, .val (.int (Int32.ofNat ms)), .val (.int (Int32.ofNat mp)), .val (.int q3), .val (.int (Int32.ofNat (ms + 1 + mp))), .val (.int q8), .val (.int q9), .val (.int q10), .val (.ref b15), .val (.ref b56), .val (.ref b15), .unset, .unset, .unset, .unset, .unset, .unset, .unset, .unset] [(.int (35 : Int32)), (.int (Int32.ofNat (ms + 1 + mp))), (.ref b15)])) rfl rfl (Jvm.hb hby at_303)
              have z196 : h187.size ≤ h195.size := Nat.le_of_eq W195.size.symm
              have Cp196 : CHr Z ELs s.vm h187 s.vm h195 := CHr.wr W195 (Safe.arv hZ.alike V187 (by decide)) CR.1
              have hk := Nat.le_trans hk z196
              have CR := CR.trans Cp196
              obtain ⟨cs197, hcs197⟩ : ∃ z : List Int32, z = List.set cs189 ((ms + 1 + mp)) (35 : Int32) := ⟨_, rfl⟩
              have lat197 : own_lat cs197 := by rw [hcs197]; exact own_latset lat189 (by decide)
              have len197 : cs197.length = 13 := by rw [hcs197, List.length_set]; exact len189
              have V195 : Arv Z h195 b15 k15 .char (13 : Int32) (cs197.map Value.int) (.int (0 : Int32)) := by
                have q : Arv Z h195 b15 k15 .char (13 : Int32) (List.set (List.map Value.int cs189) ((ms + 1 + mp)) (.int (nar .char (35 : Int32)))) (.int (0 : Int32)) := Arv.set Ar194 q194 S194 M194 H194 G194 (fits_nar_char _) W195 ((ms + 1 + mp)) (own_tn (by omega)) (by first | (simp only [List.length_map]; omega) | (show _ < 13; omega))
                rw [show nar .char (35 : Int32) = (35 : Int32) from rfl] at q
                rw [hcs197, List.map_set]
                exact q
              have N195 := Fr.snoc X195 N187 (show n0 ≤ b15 by omega)
              have s198 : ∀ t_, Steps p.tables e below (T195.setTop (mkF m 304 #[.val (.int layout), .val (.int shape), .val (.long lc), .second, .val (.int (Int32.ofNat ms)), .val (.int (Int32.ofNat mp)), .val (.int q3), .val (.int (Int32.ofNat (ms + 1 + mp))), .val (.int q8), .val (.int q9), .val (.int q10), .val (.ref b15), .val (.ref b56), .val (.ref b15), .unset, .unset, .unset, .unset, .unset, .unset, .unset, .unset] [])) t_ → Steps p.tables e below (s₁.setTop (entryFrame m #[(.int layout), (.int shape), (.long lc)] maxLocals)) t_ := fun t_ k_ => s192 t_ (by
                show Steps p.tables e below (T187.setTop (mkF m 294 #[.val (.int layout), .val (.int shape), .val (.long lc), .second, .val (.int (Int32.ofNat ms)), .val (.int (Int32.ofNat mp)), .val (.int q3), .val (.int (Int32.ofNat (ms + 1 + mp))), .val (.int q8), .val (.int q9), .val (.int q10), .val (.ref b15), .val (.ref b56), .val (.ref b15), .unset, .unset, .unset, .unset, .unset, .unset, .unset, .unset] [(.int (13 : Int32)), (.int (Int32.ofNat (ms + 1 + mp)))])) t_
                refine XS.icmpNo X187.here hx rfl (Jvm.hb hby at_294) rfl (tlt h193).2.1 ?_
                show Steps p.tables e below (T187.setTop (mkF m 297 #[.val (.int layout), .val (.int shape), .val (.long lc), .second, .val (.int (Int32.ofNat ms)), .val (.int (Int32.ofNat mp)), .val (.int q3), .val (.int (Int32.ofNat (ms + 1 + mp))), .val (.int q8), .val (.int q9), .val (.int q10), .val (.ref b15), .val (.ref b56), .val (.ref b15), .unset, .unset, .unset, .unset, .unset, .unset, .unset, .unset] [])) _
                refine XS.aload X187.here hx rfl (Jvm.hb hby at_297) rfl rfl ?_
                refine XS.iload X187.here hx rfl (Jvm.hb hby at_299) rfl ?_
                refine XS.bipush X187.here hx rfl (Jvm.hb hby at_301) ?_
                refine st195 _ ?_
                show Steps p.tables e below (T195.setTop (mkF m 304 #[.val (.int layout), .val (.int shape), .val (.long lc), .second, .val (.int (Int32.ofNat ms)), .val (.int (Int32.ofNat mp)), .val (.int q3), .val (.int (Int32.ofNat (ms + 1 + mp))), .val (.int q8), .val (.int q9), .val (.int q10), .val (.ref b15), .val (.ref b56), .val (.ref b15), .unset, .unset, .unset, .unset, .unset, .unset, .unset, .unset] [])) _
                show Steps p.tables e below (T195.setTop (mkF m 304 #[.val (.int layout), .val (.int shape), .val (.long lc), .second, .val (.int (Int32.ofNat ms)), .val (.int (Int32.ofNat mp)), .val (.int q3), .val (.int (Int32.ofNat (ms + 1 + mp))), .val (.int q8), .val (.int q9), .val (.int q10), .val (.ref b15), .val (.ref b56), .val (.ref b15), .unset, .unset, .unset, .unset, .unset, .unset, .unset, .unset] [])) t_
                exact k_)
              exact ⟨T195, _, _, _, X195, e195, N195, (((((Keep.refl h95 [b15, b56]).wr W103 (Or.inl (by simp))).wr W159 (Or.inl (by simp))).wr W187 (Or.inl (by simp))).wr W195 (Or.inl (by simp))), ⟨b15, k15, cs197, rfl, V195, len197, lat197, (by omega)⟩, s198⟩
            · have s199 : ∀ t_, Steps p.tables e below (T187.setTop (mkF m 304 #[.val (.int layout), .val (.int shape), .val (.long lc), .second, .val (.int (Int32.ofNat ms)), .val (.int (Int32.ofNat mp)), .val (.int q3), .val (.int (Int32.ofNat (ms + 1 + mp))), .val (.int q8), .val (.int q9), .val (.int q10), .val (.ref b15), .val (.ref b56), .val (.ref b15), .unset, .unset, .unset, .unset, .unset, .unset, .unset, .unset] [])) t_ → Steps p.tables e below (s₁.setTop (entryFrame m #[(.int layout), (.int shape), (.long lc)] maxLocals)) t_ := fun t_ k_ => s192 t_ (by
                show Steps p.tables e below (T187.setTop (mkF m 294 #[.val (.int layout), .val (.int shape), .val (.long lc), .second, .val (.int (Int32.ofNat ms)), .val (.int (Int32.ofNat mp)), .val (.int q3), .val (.int (Int32.ofNat (ms + 1 + mp))), .val (.int q8), .val (.int q9), .val (.int q10), .val (.ref b15), .val (.ref b56), .val (.ref b15), .unset, .unset, .unset, .unset, .unset, .unset, .unset, .unset] [(.int (13 : Int32)), (.int (Int32.ofNat (ms + 1 + mp)))])) t_
                refine XS.icmpYes X187.here hx rfl (pc0 := 294) (pc' := 304) rfl (Jvm.hb hby at_294) rfl (flt h193).2.1 (by decide) (by decide) ?_
                show Steps p.tables e below (T187.setTop (mkF m 304 #[.val (.int layout), .val (.int shape), .val (.long lc), .second, .val (.int (Int32.ofNat ms)), .val (.int (Int32.ofNat mp)), .val (.int q3), .val (.int (Int32.ofNat (ms + 1 + mp))), .val (.int q8), .val (.int q9), .val (.int q10), .val (.ref b15), .val (.ref b56), .val (.ref b15), .unset, .unset, .unset, .unset, .unset, .unset, .unset, .unset] [])) _
                show Steps p.tables e below (T187.setTop (mkF m 304 #[.val (.int layout), .val (.int shape), .val (.long lc), .second, .val (.int (Int32.ofNat ms)), .val (.int (Int32.ofNat mp)), .val (.int q3), .val (.int (Int32.ofNat (ms + 1 + mp))), .val (.int q8), .val (.int q9), .val (.int q10), .val (.ref b15), .val (.ref b56), .val (.ref b15), .unset, .unset, .unset, .unset, .unset, .unset, .unset, .unset] [])) t_
                exact k_)
              exact ⟨T187, _, _, _, X187, e187, N187, ((((Keep.refl h95 [b15, b56]).wr W103 (Or.inl (by simp))).wr W159 (Or.inl (by simp))).wr W187 (Or.inl (by simp))), ⟨b15, k15, cs189, rfl, V187, len189, lat189, (by omega)⟩, s199⟩
          · obtain ⟨cl200, Ar200, q200, S200, M200, H200, G200⟩ := id V187
            have hin200 : ¬ ((Int32.ofNat (ms + 3)) < 0 ∨ cl200.slots.size ≤ ((Int32.ofNat (ms + 3))).toNatClampNeg) := inb_of S200 (own_in (n := 13) (by omega) (by decide))
            obtain ⟨T201, h201, X201, e201, W201, st201⟩ := stC X187 hx hZ e187 Ar200 (j := (Int32.ofNat (ms + 3))) hin200 (g := (mkF m 289 #[.val (.int layout), .val (.int shape), .val (.long lc), .second, .val (.int (Int32.ofNat ms)), .val (.int (Int32.ofNat mp)), .val (.int q3), .val (.int (Int32.ofNat (ms + 1 + mp))), .val (.int q8), .val (.int q9), .val (.int q10), .val (.ref b15), .val (.ref b56), .val (.ref b15), .unset, .unset, .unset, .unset, .unset, .unset, .unset, .unset] [(.int q10), (.int (Int32.ofNat (ms + 3))), (.ref b15)])) rfl rfl (Jvm.hb hby at_289)
            have z202 : h187.size ≤ h201.size := Nat.le_of_eq W201.size.symm
            have Cp202 : CHr Z ELs s.vm h187 s.vm h201 := CHr.wr W201 (Safe.arv hZ.alike V187 (by decide)) CR.1
            have hk := Nat.le_trans hk z202
            have CR := CR.trans Cp202
            obtain ⟨cs203, hcs203⟩ : ∃ z : List Int32, z = List.set cs189 ((ms + 3)) q10 := ⟨_, rfl⟩
            have lat203 : own_lat cs203 := by rw [hcs203]; exact own_latset lat189 rg14.2
            have len203 : cs203.length = 13 := by rw [hcs203, List.length_set]; exact len189
            have V201 : Arv Z h201 b15 k15 .char (13 : Int32) (cs203.map Value.int) (.int (0 : Int32)) := by
              have q : Arv Z h201 b15 k15 .char (13 : Int32) (List.set (List.map Value.int cs189) ((ms + 3)) (.int (nar .char q10))) (.int (0 : Int32)) := Arv.set Ar200 q200 S200 M200 H200 G200 (fits_nar_char _) W201 ((ms + 3)) (own_tn (by omega)) (by first | (simp only [List.length_map]; omega) | (show _ < 13; omega))
              rw [show nar .char q10 = q10 from own_narc rg14.1 (own_le64k rg14.2)] at q
              rw [hcs203, List.map_set]
              exact q
            have N201 := Fr.snoc X201 N187 (show n0 ≤ b15 by omega)
            have s204 : ∀ t_, Steps p.tables e below (T201.setTop (mkF m 294 #[.val (.int layout), .val (.int shape), .val (.long lc), .second, .val (.int (Int32.ofNat ms)), .val (.int (Int32.ofNat mp)), .val (.int q3), .val (.int (Int32.ofNat (ms + 1 + mp))), .val (.int q8), .val (.int q9), .val (.int q10), .val (.ref b15), .val (.ref b56), .val (.ref b15), .unset, .unset, .unset, .unset, .unset, .unset, .unset, .unset] [(.int (13 : Int32)), (.int (Int32.ofNat (ms + 1 + mp)))])) t_ → Steps p.tables e below (s₁.setTop (entryFrame m #[(.int layout), (.int shape), (.long lc)] maxLocals)) t_ := fun t_ k_ => s190 t_ (by
              show Steps p.tables e below (T187.setTop (mkF m 278 #[.val (.int layout), .val (.int shape), .val (.long lc), .second, .val (.int (Int32.ofNat ms)), .val (.int (Int32.ofNat mp)), .val (.int q3), .val (.int (Int32.ofNat (ms + 1 + mp))), .val (.int q8), .val (.int q9), .val (.int q10), .val (.ref b15), .val (.ref b56), .val (.ref b15), .unset, .unset, .unset, .unset, .unset, .unset, .unset, .unset] [(.int (3 : Int32)), (.int (Int32.ofNat mp))])) t_
              refine XS.icmpNo X187.here hx rfl (Jvm.hb hby at_278) rfl (flt h191).1 ?_
              show Steps p.tables e below (T187.setTop (mkF m 281 #[.val (.int layout), .val (.int shape), .val (.long lc), .second, .val (.int (Int32.ofNat ms)), .val (.int (Int32.ofNat mp)), .val (.int q3), .val (.int (Int32.ofNat (ms + 1 + mp))), .val (.int q8), .val (.int q9), .val (.int q10), .val (.ref b15), .val (.ref b56), .val (.ref b15), .unset, .unset, .unset, .unset, .unset, .unset, .unset, .unset] [])) _
              refine XS.aload X187.here hx rfl (Jvm.hb hby at_281) rfl rfl ?_
              refine XS.iload X187.here hx rfl (Jvm.hb hby at_283) rfl ?_
              refine XS.iconst X187.here hx rfl (Jvm.hb hby at_285) ?_
              refine XS.iadd X187.here hx rfl (Jvm.hb hby at_286) rfl ?_
              show Steps p.tables e below (T187.setTop (mkF m 287 #[.val (.int layout), .val (.int shape), .val (.long lc), .second, .val (.int (Int32.ofNat ms)), .val (.int (Int32.ofNat mp)), .val (.int q3), .val (.int (Int32.ofNat (ms + 1 + mp))), .val (.int q8), .val (.int q9), .val (.int q10), .val (.ref b15), .val (.ref b56), .val (.ref b15), .unset, .unset, .unset, .unset, .unset, .unset, .unset, .unset] [(.int ((Int32.ofNat ms) + (3 : Int32))), (.ref b15)])) _
              refine castTop (g' := (mkF m 287 #[.val (.int layout), .val (.int shape), .val (.long lc), .second, .val (.int (Int32.ofNat ms)), .val (.int (Int32.ofNat mp)), .val (.int q3), .val (.int (Int32.ofNat (ms + 1 + mp))), .val (.int q8), .val (.int q9), .val (.int q10), .val (.ref b15), .val (.ref b56), .val (.ref b15), .unset, .unset, .unset, .unset, .unset, .unset, .unset, .unset] [(.int (Int32.ofNat (ms + 3))), (.ref b15)])) (by rw [show Int32.ofNat (ms + 3) = (Int32.ofNat ms) + (3 : Int32) from Int32.ofNat_add ms 3]) ?_
              show Steps p.tables e below (T187.setTop (mkF m 287 #[.val (.int layout), .val (.int shape), .val (.long lc), .second, .val (.int (Int32.ofNat ms)), .val (.int (Int32.ofNat mp)), .val (.int q3), .val (.int (Int32.ofNat (ms + 1 + mp))), .val (.int q8), .val (.int q9), .val (.int q10), .val (.ref b15), .val (.ref b56), .val (.ref b15), .unset, .unset, .unset, .unset, .unset, .unset, .unset, .unset] [(.int (Int32.ofNat (ms + 3))), (.ref b15)])) _
              refine XS.iload X187.here hx rfl (Jvm.hb hby at_287) rfl ?_
              refine st201 _ ?_
              show Steps p.tables e below (T201.setTop (mkF m 290 #[.val (.int layout), .val (.int shape), .val (.long lc), .second, .val (.int (Int32.ofNat ms)), .val (.int (Int32.ofNat mp)), .val (.int q3), .val (.int (Int32.ofNat (ms + 1 + mp))), .val (.int q8), .val (.int q9), .val (.int q10), .val (.ref b15), .val (.ref b56), .val (.ref b15), .unset, .unset, .unset, .unset, .unset, .unset, .unset, .unset] [])) _
              refine XS.iload X201.here hx rfl (Jvm.hb hby at_290) rfl ?_
              refine XS.bipush X201.here hx rfl (Jvm.hb hby at_292) ?_
              show Steps p.tables e below (T201.setTop (mkF m 294 #[.val (.int layout), .val (.int shape), .val (.long lc), .second, .val (.int (Int32.ofNat ms)), .val (.int (Int32.ofNat mp)), .val (.int q3), .val (.int (Int32.ofNat (ms + 1 + mp))), .val (.int q8), .val (.int q9), .val (.int q10), .val (.ref b15), .val (.ref b56), .val (.ref b15), .unset, .unset, .unset, .unset, .unset, .unset, .unset, .unset] [(.int (13 : Int32)), (.int (Int32.ofNat (ms + 1 + mp)))])) t_
              exact k_)
            by_cases h205 : (Int32.ofNat (ms + 1 + mp)) < (13 : Int32)
            · have hj13 : ms + 1 + mp < 13 := own_lt13 (by omega) h205
              obtain ⟨cl206, Ar206, q206, S206, M206, H206, G206⟩ := id V201
              have hin206 : ¬ ((Int32.ofNat (ms + 1 + mp)) < 0 ∨ cl206.slots.size ≤ ((Int32.ofNat (ms + 1 + mp))).toNatClampNeg) := inb_of S206 (own_in (n := 13) hj13 (by decide))
              obtain ⟨T207, h207, X207, e207, W207, st207⟩ := stC X201 hx hZ e201 Ar206 (j := (Int32.ofNat (ms + 1 + mp))) hin206 (g := (mkF m 303 #[.val (.int layout), .val (.int shape), .val (.long lc), .second, .val (.int (Int32.ofNat ms)), .val (.int (Int32.ofNat mp)), .val (.int q3), .val (.int (Int32.ofNat (ms + 1 + mp))), .val (.int q8), .val (.int q9), .val (.int q10), .val (.ref b15), .val (.ref b56), .val (.ref b15), .unset, .unset, .unset, .unset, .unset, .unset, .unset, .unset] [(.int (35 : Int32)), (.int (Int32.ofNat (ms + 1 + mp))), (.ref b15)])) rfl rfl (Jvm.hb hby at_303)
              have z208 : h201.size ≤ h207.size := Nat.le_of_eq W207.size.symm
              have Cp208 : CHr Z ELs s.vm h201 s.vm h207 := CHr.wr W207 (Safe.arv hZ.alike V201 (by decide)) CR.1
              have hk := Nat.le_trans hk z208
              have CR := CR.trans Cp208
              obtain ⟨cs209, hcs209⟩ : ∃ z : List Int32, z = List.set cs203 ((ms + 1 + mp)) (35 : Int32) := ⟨_, rfl⟩
              have lat209 : own_lat cs209 := by rw [hcs209]; exact own_latset lat203 (by decide)
              have len209 : cs209.length = 13 := by rw [hcs209, List.length_set]; exact len203
              have V207 : Arv Z h207 b15 k15 .char (13 : Int32) (cs209.map Value.int) (.int (0 : Int32)) := by
                have q : Arv Z h207 b15 k15 .char (13 : Int32) (List.set (List.map Value.int cs203) ((ms + 1 + mp)) (.int (nar .char (35 : Int32)))) (.int (0 : Int32)) := Arv.set Ar206 q206 S206 M206 H206 G206 (fits_nar_char _) W207 ((ms + 1 + mp)) (own_tn (by omega)) (by first | (simp only [List.length_map]; omega) | (show _ < 13; omega))
                rw [show nar .char (35 : Int32) = (35 : Int32) from rfl] at q
                rw [hcs209, List.map_set]
                exact q
              have N207 := Fr.snoc X207 N201 (show n0 ≤ b15 by omega)
              have s210 : ∀ t_, Steps p.tables e below (T207.setTop (mkF m 304 #[.val (.int layout), .val (.int shape), .val (.long lc), .second, .val (.int (Int32.ofNat ms)), .val (.int (Int32.ofNat mp)), .val (.int q3), .val (.int (Int32.ofNat (ms + 1 + mp))), .val (.int q8), .val (.int q9), .val (.int q10), .val (.ref b15), .val (.ref b56), .val (.ref b15), .unset, .unset, .unset, .unset, .unset, .unset, .unset, .unset] [])) t_ → Steps p.tables e below (s₁.setTop (entryFrame m #[(.int layout), (.int shape), (.long lc)] maxLocals)) t_ := fun t_ k_ => s204 t_ (by
                show Steps p.tables e below (T201.setTop (mkF m 294 #[.val (.int layout), .val (.int shape), .val (.long lc), .second, .val (.int (Int32.ofNat ms)), .val (.int (Int32.ofNat mp)), .val (.int q3), .val (.int (Int32.ofNat (ms + 1 + mp))), .val (.int q8), .val (.int q9), .val (.int q10), .val (.ref b15), .val (.ref b56), .val (.ref b15), .unset, .unset, .unset, .unset, .unset, .unset, .unset, .unset] [(.int (13 : Int32)), (.int (Int32.ofNat (ms + 1 + mp)))])) t_
                refine XS.icmpNo X201.here hx rfl (Jvm.hb hby at_294) rfl (tlt h205).2.1 ?_
                show Steps p.tables e below (T201.setTop (mkF m 297 #[.val (.int layout), .val (.int shape), .val (.long lc), .second, .val (.int (Int32.ofNat ms)), .val (.int (Int32.ofNat mp)), .val (.int q3), .val (.int (Int32.ofNat (ms + 1 + mp))), .val (.int q8), .val (.int q9), .val (.int q10), .val (.ref b15), .val (.ref b56), .val (.ref b15), .unset, .unset, .unset, .unset, .unset, .unset, .unset, .unset] [])) _
                refine XS.aload X201.here hx rfl (Jvm.hb hby at_297) rfl rfl ?_
                refine XS.iload X201.here hx rfl (Jvm.hb hby at_299) rfl ?_
                refine XS.bipush X201.here hx rfl (Jvm.hb hby at_301) ?_
                refine st207 _ ?_
                show Steps p.tables e below (T207.setTop (mkF m 304 #[.val (.int layout), .val (.int shape), .val (.long lc), .second, .val (.int (Int32.ofNat ms)), .val (.int (Int32.ofNat mp)), .val (.int q3), .val (.int (Int32.ofNat (ms + 1 + mp))), .val (.int q8), .val (.int q9), .val (.int q10), .val (.ref b15), .val (.ref b56), .val (.ref b15), .unset, .unset, .unset, .unset, .unset, .unset, .unset, .unset] [])) _
                show Steps p.tables e below (T207.setTop (mkF m 304 #[.val (.int layout), .val (.int shape), .val (.long lc), .second, .val (.int (Int32.ofNat ms)), .val (.int (Int32.ofNat mp)), .val (.int q3), .val (.int (Int32.ofNat (ms + 1 + mp))), .val (.int q8), .val (.int q9), .val (.int q10), .val (.ref b15), .val (.ref b56), .val (.ref b15), .unset, .unset, .unset, .unset, .unset, .unset, .unset, .unset] [])) t_
                exact k_)
              exact ⟨T207, _, _, _, X207, e207, N207, ((((((Keep.refl h95 [b15, b56]).wr W103 (Or.inl (by simp))).wr W159 (Or.inl (by simp))).wr W187 (Or.inl (by simp))).wr W201 (Or.inl (by simp))).wr W207 (Or.inl (by simp))), ⟨b15, k15, cs209, rfl, V207, len209, lat209, (by omega)⟩, s210⟩
            · have s211 : ∀ t_, Steps p.tables e below (T201.setTop (mkF m 304 #[.val (.int layout), .val (.int shape), .val (.long lc), .second, .val (.int (Int32.ofNat ms)), .val (.int (Int32.ofNat mp)), .val (.int q3), .val (.int (Int32.ofNat (ms + 1 + mp))), .val (.int q8), .val (.int q9), .val (.int q10), .val (.ref b15), .val (.ref b56), .val (.ref b15), .unset, .unset, .unset, .unset, .unset, .unset, .unset, .unset] [])) t_ → Steps p.tables e below (s₁.setTop (entryFrame m #[(.int layout), (.int shape), (.long lc)] maxLocals)) t_ := fun t_ k_ => s204 t_ (by
                show Steps p.tables e below (T201.setTop (mkF m 294 #[.val (.int layout), .val (.int shape), .val (.long lc), .second, .val (.int (Int32.ofNat ms)), .val (.int (Int32.ofNat mp)), .val (.int q3), .val (.int (Int32.ofNat (ms + 1 + mp))), .val (.int q8), .val (.int q9), .val (.int q10), .val (.ref b15), .val (.ref b56), .val (.ref b15), .unset, .unset, .unset, .unset, .unset, .unset, .unset, .unset] [(.int (13 : Int32)), (.int (Int32.ofNat (ms + 1 + mp)))])) t_
                refine XS.icmpYes X201.here hx rfl (pc0 := 294) (pc' := 304) rfl (Jvm.hb hby at_294) rfl (flt h205).2.1 (by decide) (by decide) ?_
                show Steps p.tables e below (T201.setTop (mkF m 304 #[.val (.int layout), .val (.int shape), .val (.long lc), .second, .val (.int (Int32.ofNat ms)), .val (.int (Int32.ofNat mp)), .val (.int q3), .val (.int (Int32.ofNat (ms + 1 + mp))), .val (.int q8), .val (.int q9), .val (.int q10), .val (.ref b15), .val (.ref b56), .val (.ref b15), .unset, .unset, .unset, .unset, .unset, .unset, .unset, .unset] [])) _
                show Steps p.tables e below (T201.setTop (mkF m 304 #[.val (.int layout), .val (.int shape), .val (.long lc), .second, .val (.int (Int32.ofNat ms)), .val (.int (Int32.ofNat mp)), .val (.int q3), .val (.int (Int32.ofNat (ms + 1 + mp))), .val (.int q8), .val (.int q9), .val (.int q10), .val (.ref b15), .val (.ref b56), .val (.ref b15), .unset, .unset, .unset, .unset, .unset, .unset, .unset, .unset] [])) t_
                exact k_)
              exact ⟨T201, _, _, _, X201, e201, N201, (((((Keep.refl h95 [b15, b56]).wr W103 (Or.inl (by simp))).wr W159 (Or.inl (by simp))).wr W187 (Or.inl (by simp))).wr W201 (Or.inl (by simp))), ⟨b15, k15, cs203, rfl, V201, len203, lat203, (by omega)⟩, s211⟩
    · obtain ⟨cl212, Ar212, q212, S212, M212, H212, G212⟩ := id V95
      have hin212 : ¬ ((Int32.ofNat ms) < 0 ∨ cl212.slots.size ≤ ((Int32.ofNat ms)).toNatClampNeg) := inb_of S212 (own_in (n := 13) (by omega) (by decide))
      obtain ⟨T213, h213, X213, e213, W213, st213⟩ := stC X95 hx hZ e95 Ar212 (j := (Int32.ofNat ms)) hin212 (g := (mkF m 244 #[.val (.int layout), .val (.int shape), .val (.long lc), .second, .val (.int (Int32.ofNat ms)), .val (.int (Int32.ofNat mp)), .val (.int q3), .val (.int (Int32.ofNat (ms + 1 + mp))), .val (.int q8), .val (.int q9), .val (.int q10), .val (.ref b15), .val (.ref b56), .val (.ref b56), .unset, .unset, .unset, .unset, .unset, .unset, .unset, .unset] [(.int (47 : Int32)), (.int (Int32.ofNat ms)), (.ref b56)])) rfl rfl (Jvm.hb hby at_244)
      have z214 : h95.size ≤ h213.size := Nat.le_of_eq W213.size.symm
      have Cp214 : CHr Z ELs s.vm h95 s.vm h213 := CHr.wr W213 (Safe.arv hZ.alike V95 (by decide)) CR.1
      have hk := Nat.le_trans hk z214
      have CR := CR.trans Cp214
      obtain ⟨cs215, hcs215⟩ : ∃ z : List Int32, z = List.set [(97 : Int32), (98 : Int32), (58 : Int32), (47 : Int32), (47 : Int32), (104 : Int32), (104 : Int32), (104 : Int32), (104 : Int32), (104 : Int32), (104 : Int32), (104 : Int32), (104 : Int32)] (ms) (47 : Int32) := ⟨_, rfl⟩
      have lat215 : own_lat cs215 := by rw [hcs215]; exact own_latset (own_latS (by decide) (own_latS (by decide) (own_latS (by decide) (own_latS (by decide) (own_latS (by decide) (own_latS (by decide) (own_latS (by decide) (own_latS (by decide) (own_latS (by decide) (own_latS (by decide) (own_latS (by decide) (own_latS (by decide) (own_latS (by decide) own_lat0))))))))))))) (by decide)
      have len215 : cs215.length = 13 := by rw [hcs215, List.length_set]; exact rfl
      have V213 : Arv Z h213 b56 k56 .char (13 : Int32) (cs215.map Value.int) (.int (0 : Int32)) := by
        have q : Arv Z h213 b56 k56 .char (13 : Int32) (List.set (List.map Value.int [(97 : Int32), (98 : Int32), (58 : Int32), (47 : Int32), (47 : Int32), (104 : Int32), (104 : Int32), (104 : Int32), (104 : Int32), (104 : Int32), (104 : Int32), (104 : Int32), (104 : Int32)]) (ms) (.int (nar .char (47 : Int32)))) (.int (0 : Int32)) := Arv.set Ar212 q212 S212 M212 H212 G212 (fits_nar_char _) W213 (ms) (own_tn (by omega)) (by first | (simp only [List.length_map]; omega) | (show _ < 13; omega))
        rw [show nar .char (47 : Int32) = (47 : Int32) from rfl] at q
        rw [hcs215, List.map_set]
        exact q
      have N213 := Fr.snoc X213 N95 (show n0 ≤ b56 by omega)
      have s216 : ∀ t_, Steps p.tables e below (T213.setTop (mkF m 248 #[.val (.int layout), .val (.int shape), .val (.long lc), .second, .val (.int (Int32.ofNat ms)), .val (.int (Int32.ofNat mp)), .val (.int q3), .val (.int (Int32.ofNat (ms + 1 + mp))), .val (.int q8), .val (.int q9), .val (.int q10), .val (.ref b15), .val (.ref b56), .val (.ref b56), .unset, .unset, .unset, .unset, .unset, .unset, .unset, .unset] [(.int (1 : Int32)), (.int (Int32.ofNat mp))])) t_ → Steps p.tables e below (s₁.setTop (entryFrame m #[(.int layout), (.int shape), (.long lc)] maxLocals)) t_ := fun t_ k_ => s99 t_ (by
        show Steps p.tables e below (T95.setTop (mkF m 226 #[.val (.int layout), .val (.int shape), .val (.long lc), .second, .val (.int (Int32.ofNat ms)), .val (.int (Int32.ofNat mp)), .val (.int q3), .val (.int (Int32.ofNat (ms + 1 + mp))), .val (.int q8), .val (.int q9), .val (.int q10), .val (.ref b15), .val (.ref b56), .unset, .unset, .unset, .unset, .unset, .unset, .unset, .unset, .unset] [(.int q3)])) t_
        refine XS.ifNo X95.here hx rfl (Jvm.hb hby at_226) rfl ((if0 _ _).trans (feq h100).1) ?_
        show Steps p.tables e below (T95.setTop (mkF m 229 #[.val (.int layout), .val (.int shape), .val (.long lc), .second, .val (.int (Int32.ofNat ms)), .val (.int (Int32.ofNat mp)), .val (.int q3), .val (.int (Int32.ofNat (ms + 1 + mp))), .val (.int q8), .val (.int q9), .val (.int q10), .val (.ref b15), .val (.ref b56), .unset, .unset, .unset, .unset, .unset, .unset, .unset, .unset, .unset] [])) _
        refine XS.aload X95.here hx rfl (Jvm.hb hby at_229) rfl rfl ?_
        refine XS.goto X95.here hx rfl (pc0 := 231) (pc' := 236) rfl (Jvm.hb hby at_231) (by decide) (by decide) ?_
        refine XS.astore X95.here hx rfl (Jvm.hb hby at_236) rfl rfl (l' := #[.val (.int layout), .val (.int shape), .val (.long lc), .second, .val (.int (Int32.ofNat ms)), .val (.int (Int32.ofNat mp)), .val (.int q3), .val (.int (Int32.ofNat (ms + 1 + mp))), .val (.int q8), .val (.int q9), .val (.int q10), .val (.ref b15), .val (.ref b56), .val (.ref b56), .unset, .unset, .unset, .unset, .unset, .unset, .unset, .unset]) rfl ?_
        refine XS.aload X95.here hx rfl (Jvm.hb hby at_238) rfl rfl ?_
        refine XS.iload X95.here hx rfl (Jvm.hb hby at_240) rfl ?_
        refine XS.bipush X95.here hx rfl (Jvm.hb hby at_242) ?_
        show Steps p.tables e below (T95.setTop (mkF m 244 #[.val (.int layout), .val (.int shape), .val (.long lc), .second, .val (.int (Int32.ofNat ms)), .val (.int (Int32.ofNat mp)), .val (.int q3), .val (.int (Int32.ofNat (ms + 1 + mp))), .val (.int q8), .val (.int q9), .val (.int q10), .val (.ref b15), .val (.ref b56), .val (.ref b56), .unset, .unset, .unset, .unset, .unset, .unset, .unset, .unset] [(.int (47 : Int32)), (.int (Int32.ofNat ms)), (.ref b56)])) _
        refine st213 _ ?_
        show Steps p.tables e below (T213.setTop (mkF m 245 #[.val (.int layout), .val (.int shape), .val (.long lc), .second, .val (.int (Int32.ofNat ms)), .val (.int (Int32.ofNat mp)), .val (.int q3), .val (.int (Int32.ofNat (ms + 1 + mp))), .val (.int q8), .val (.int q9), .val (.int q10), .val (.ref b15), .val (.ref b56), .val (.ref b56), .unset, .unset, .unset, .unset, .unset, .unset, .unset, .unset] [])) _
        refine XS.iload X213.here hx rfl (Jvm.hb hby at_245) rfl ?_
        refine XS.iconst X213.here hx rfl (Jvm.hb hby at_247) ?_
        show Steps p.tables e below (T213.setTop (mkF m 248 #[.val (.int layout), .val (.int shape), .val (.long lc), .second, .val (.int (Int32.ofNat ms)), .val (.int (Int32.ofNat mp)), .val (.int q3), .val (.int (Int32.ofNat (ms + 1 + mp))), .val (.int q8), .val (.int q9), .val (.int q10), .val (.ref b15), .val (.ref b56), .val (.ref b56), .unset, .unset, .unset, .unset, .unset, .unset, .unset, .unset] [(.int (1 : Int32)), (.int (Int32.ofNat mp))])) t_
        exact k_)
      by_cases h217 : (Int32.ofNat mp) < (1 : Int32)
      · have s218 : ∀ t_, Steps p.tables e below (T213.setTop (mkF m 263 #[.val (.int layout), .val (.int shape), .val (.long lc), .second, .val (.int (Int32.ofNat ms)), .val (.int (Int32.ofNat mp)), .val (.int q3), .val (.int (Int32.ofNat (ms + 1 + mp))), .val (.int q8), .val (.int q9), .val (.int q10), .val (.ref b15), .val (.ref b56), .val (.ref b56), .unset, .unset, .unset, .unset, .unset, .unset, .unset, .unset] [(.int (2 : Int32)), (.int (Int32.ofNat mp))])) t_ → Steps p.tables e below (s₁.setTop (entryFrame m #[(.int layout), (.int shape), (.long lc)] maxLocals)) t_ := fun t_ k_ => s216 t_ (by
          show Steps p.tables e below (T213.setTop (mkF m 248 #[.val (.int layout), .val (.int shape), .val (.long lc), .second, .val (.int (Int32.ofNat ms)), .val (.int (Int32.ofNat mp)), .val (.int q3), .val (.int (Int32.ofNat (ms + 1 + mp))), .val (.int q8), .val (.int q9), .val (.int q10), .val (.ref b15), .val (.ref b56), .val (.ref b56), .unset, .unset, .unset, .unset, .unset, .unset, .unset, .unset] [(.int (1 : Int32)), (.int (Int32.ofNat mp))])) t_
          refine XS.icmpYes X213.here hx rfl (pc0 := 248) (pc' := 260) rfl (Jvm.hb hby at_248) rfl (tlt h217).1 (by decide) (by decide) ?_
          show Steps p.tables e below (T213.setTop (mkF m 260 #[.val (.int layout), .val (.int shape), .val (.long lc), .second, .val (.int (Int32.ofNat ms)), .val (.int (Int32.ofNat mp)), .val (.int q3), .val (.int (Int32.ofNat (ms + 1 + mp))), .val (.int q8), .val (.int q9), .val (.int q10), .val (.ref b15), .val (.ref b56), .val (.ref b56), .unset, .unset, .unset, .unset, .unset, .unset, .unset, .unset] [])) _
          refine XS.iload X213.here hx rfl (Jvm.hb hby at_260) rfl ?_
          refine XS.iconst X213.here hx rfl (Jvm.hb hby at_262) ?_
          show Steps p.tables e below (T213.setTop (mkF m 263 #[.val (.int layout), .val (.int shape), .val (.long lc), .second, .val (.int (Int32.ofNat ms)), .val (.int (Int32.ofNat mp)), .val (.int q3), .val (.int (Int32.ofNat (ms + 1 + mp))), .val (.int q8), .val (.int q9), .val (.int q10), .val (.ref b15), .val (.ref b56), .val (.ref b56), .unset, .unset, .unset, .unset, .unset, .unset, .unset, .unset] [(.int (2 : Int32)), (.int (Int32.ofNat mp))])) t_
          exact k_)
        by_cases h219 : (Int32.ofNat mp) < (2 : Int32)
        · have s220 : ∀ t_, Steps p.tables e below (T213.setTop (mkF m 278 #[.val (.int layout), .val (.int shape), .val (.long lc), .second, .val (.int (Int32.ofNat ms)), .val (.int (Int32.ofNat mp)), .val (.int q3), .val (.int (Int32.ofNat (ms + 1 + mp))), .val (.int q8), .val (.int q9), .val (.int q10), .val (.ref b15), .val (.ref b56), .val (.ref b56), .unset, .unset, .unset, .unset, .unset, .unset, .unset, .unset] [(.int (3 : Int32)), (.int (Int32.ofNat mp))])) t_ → Steps p.tables e below (s₁.setTop (entryFrame m #[(.int layout), (.int shape), (.long lc)] maxLocals)) t_ := fun t_ k_ => s218 t_ (by
            show Steps p.tables e below (T213.setTop (mkF m 263 #[.val (.int layout), .val (.int shape), .val (.long lc), .second, .val (.int (Int32.ofNat ms)), .val (.int (Int32.ofNat mp)), .val (.int q3), .val (.int (Int32.ofNat (ms + 1 + mp))), .val (.int q8), .val (.int q9), .val (.int q10), .val (.ref b15), .val (.ref b56), .val (.ref b56), .unset, .unset, .unset, .unset, .unset, .unset, .unset, .unset] [(.int (2 : Int32)), (.int (Int32.ofNat mp))])) t_
            refine XS.icmpYes X213.here hx rfl (pc0 := 263) (pc' := 275) rfl (Jvm.hb hby at_263) rfl (tlt h219).1 (by decide) (by decide) ?_
            show Steps p.tables e below (T213.setTop (mkF m 275 #[.val (.int layout), .val (.int shape), .val (.long lc), .second, .val (.int (Int32.ofNat ms)), .val (.int (Int32.ofNat mp)), .val (.int q3), .val (.int (Int32.ofNat (ms + 1 + mp))), .val (.int q8), .val (.int q9), .val (.int q10), .val (.ref b15), .val (.ref b56), .val (.ref b56), .unset, .unset, .unset, .unset, .unset, .unset, .unset, .unset] [])) _
            refine XS.iload X213.here hx rfl (Jvm.hb hby at_275) rfl ?_
            refine XS.iconst X213.here hx rfl (Jvm.hb hby at_277) ?_
            show Steps p.tables e below (T213.setTop (mkF m 278 #[.val (.int layout), .val (.int shape), .val (.long lc), .second, .val (.int (Int32.ofNat ms)), .val (.int (Int32.ofNat mp)), .val (.int q3), .val (.int (Int32.ofNat (ms + 1 + mp))), .val (.int q8), .val (.int q9), .val (.int q10), .val (.ref b15), .val (.ref b56), .val (.ref b56), .unset, .unset, .unset, .unset, .unset, .unset, .unset, .unset] [(.int (3 : Int32)), (.int (Int32.ofNat mp))])) t_
            exact k_)
          by_cases h221 : (Int32.ofNat mp) < (3 : Int32)
          · have s222 : ∀ t_, Steps p.tables e below (T213.setTop (mkF m 294 #[.val (.int layout), .val (.int shape), .val (.long lc), .second, .val (.int (Int32.ofNat ms)), .val (.int (Int32.ofNat mp)), .val (.int q3), .val (.int (Int32.ofNat (ms + 1 + mp))), .val (.int q8), .val (.int q9), .val (.int q10), .val (.ref b15), .val (.ref b56), .val (.ref b56), .unset, .unset, .unset, .unset, .unset, .unset, .unset, .unset] [(.int (13 : Int32)), (.int (Int32.ofNat (ms + 1 + mp)))])) t_ → Steps p.tables e below (s₁.setTop (entryFrame m #[(.int layout), (.int shape), (.long lc)] maxLocals)) t_ := fun t_ k_ => s220 t_ (by
              show Steps p.tables e below (T213.setTop (mkF m 278 #[.val (.int layout), .val (.int shape), .val (.long lc), .second, .val (.int (Int32.ofNat ms)), .val (.int (Int32.ofNat mp)), .val (.int q3), .val (.int (Int32.ofNat (ms + 1 + mp))), .val (.int q8), .val (.int q9), .val (.int q10), .val (.ref b15), .val (.ref b56), .val (.ref b56), .unset, .unset, .unset, .unset, .unset, .unset, .unset, .unset] [(.int (3 : Int32)), (.int (Int32.ofNat mp))])) t_
              refine XS.icmpYes X213.here hx rfl (pc0 := 278) (pc' := 290) rfl (Jvm.hb hby at_278) rfl (tlt h221).1 (by decide) (by decide) ?_
              show Steps p.tables e below (T213.setTop (mkF m 290 #[.val (.int layout), .val (.int shape), .val (.long lc), .second, .val (.int (Int32.ofNat ms)), .val (.int (Int32.ofNat mp)), .val (.int q3), .val (.int (Int32.ofNat (ms + 1 + mp))), .val (.int q8), .val (.int q9), .val (.int q10), .val (.ref b15), .val (.ref b56), .val (.ref b56), .unset, .unset, .unset, .unset, .unset, .unset, .unset, .unset] [])) _
              refine XS.iload X213.here hx rfl (Jvm.hb hby at_290) rfl ?_
              refine XS.bipush X213.here hx rfl (Jvm.hb hby at_292) ?_
              show Steps p.tables e below (T213.setTop (mkF m 294 #[.val (.int layout), .val (.int shape), .val (.long lc), .second, .val (.int (Int32.ofNat ms)), .val (.int (Int32.ofNat mp)), .val (.int q3), .val (.int (Int32.ofNat (ms + 1 + mp))), .val (.int q8), .val (.int q9), .val (.int q10), .val (.ref b15), .val (.ref b56), .val (.ref b56), .unset, .unset, .unset, .unset, .unset, .unset, .unset, .unset] [(.int (13 : Int32)), (.int (Int32.ofNat (ms + 1 + mp)))])) t_
              exact k_)
            by_cases h223 : (Int32.ofNat (ms + 1 + mp)) < (13 : Int32)
            · have hj13 : ms + 1 + mp < 13 := own_lt13 (by omega) h223
              obtain ⟨cl224, Ar224, q224, S224, M224, H224, G224⟩ := id V213
              have hin224 : ¬ ((Int32.ofNat (ms + 1 + mp)) < 0 ∨ cl224.slots.size ≤ ((Int32.ofNat (ms + 1 + mp))).toNatClampNeg) := inb_of S224 (own_in (n := 13) hj13 (by decide))
              obtain ⟨T225, h225, X225, e225, W225, st225⟩ := stC X213 hx hZ e213 Ar224 (j := (Int32.ofNat (ms + 1 + mp))) hin224 (g := (mkF m 303 #[.val (.int layout), .val (.int shape), .val (.long lc), .second, .val (.int (Int32.ofNat ms)), .val (.int (Int32.ofNat mp)), .val (.int q3), .val (.int (Int32.ofNat (ms + 1 + mp))), .val (.int q8), .val (.int q9), .val (.int q10), .val (.ref b15), .val (.ref b56), .val (.ref b56), .unset, .unset, .unset, .unset, .unset, .unset, .unset, .unset] [(.int (35 : Int32)), (.int (Int32.ofNat (ms + 1 + mp))), (.ref b56)])) rfl rfl (Jvm.hb hby at_303)
              have z226 : h213.size ≤ h225.size := Nat.le_of_eq W225.size.symm
              have Cp226 : CHr Z ELs s.vm h213 s.vm h225 := CHr.wr W225 (Safe.arv hZ.alike V213 (by decide)) CR.1
              have hk := Nat.le_trans hk z226
              have CR := CR.trans Cp226
              obtain ⟨cs227, hcs227⟩ : ∃ z : List Int32, z = List.set cs215 ((ms + 1 + mp)) (35 : Int32) := ⟨_, rfl⟩
              have lat227 : own_lat cs227 := by rw [hcs227]; exact own_latset lat215 (by decide)
              have len227 : cs227.length = 13 := by rw [hcs227, List.length_set]; exact len215
              have V225 : Arv Z h225 b56 k56 .char (13 : Int32) (cs227.map Value.int) (.int (0 : Int32)) := by
                have q : Arv Z h225 b56 k56 .char (13 : Int32) (List.set (List.map Value.int cs215) ((ms + 1 + mp)) (.int (nar .char (35 : Int32)))) (.int (0 : Int32)) := Arv.set Ar224 q224 S224 M224 H224 G224 (fits_nar_char _) W225 ((ms + 1 + mp)) (own_tn (by omega)) (by first | (simp only [List.length_map]; omega) | (show _ < 13; omega))
                rw [show nar .char (35 : Int32) = (35 : Int32) from rfl] at q
                rw [hcs227, List.map_set]
                exact q
              have N225 := Fr.snoc X225 N213 (show n0 ≤ b56 by omega)
              have s228 : ∀ t_, Steps p.tables e below (T225.setTop (mkF m 304 #[.val (.int layout), .val (.int shape), .val (.long lc), .second, .val (.int (Int32.ofNat ms)), .val (.int (Int32.ofNat mp)), .val (.int q3), .val (.int (Int32.ofNat (ms + 1 + mp))), .val (.int q8), .val (.int q9), .val (.int q10), .val (.ref b15), .val (.ref b56), .val (.ref b56), .unset, .unset, .unset, .unset, .unset, .unset, .unset, .unset] [])) t_ → Steps p.tables e below (s₁.setTop (entryFrame m #[(.int layout), (.int shape), (.long lc)] maxLocals)) t_ := fun t_ k_ => s222 t_ (by
                show Steps p.tables e below (T213.setTop (mkF m 294 #[.val (.int layout), .val (.int shape), .val (.long lc), .second, .val (.int (Int32.ofNat ms)), .val (.int (Int32.ofNat mp)), .val (.int q3), .val (.int (Int32.ofNat (ms + 1 + mp))), .val (.int q8), .val (.int q9), .val (.int q10), .val (.ref b15), .val (.ref b56), .val (.ref b56), .unset, .unset, .unset, .unset, .unset, .unset, .unset, .unset] [(.int (13 : Int32)), (.int (Int32.ofNat (ms + 1 + mp)))])) t_
                refine XS.icmpNo X213.here hx rfl (Jvm.hb hby at_294) rfl (tlt h223).2.1 ?_
                show Steps p.tables e below (T213.setTop (mkF m 297 #[.val (.int layout), .val (.int shape), .val (.long lc), .second, .val (.int (Int32.ofNat ms)), .val (.int (Int32.ofNat mp)), .val (.int q3), .val (.int (Int32.ofNat (ms + 1 + mp))), .val (.int q8), .val (.int q9), .val (.int q10), .val (.ref b15), .val (.ref b56), .val (.ref b56), .unset, .unset, .unset, .unset, .unset, .unset, .unset, .unset] [])) _
                refine XS.aload X213.here hx rfl (Jvm.hb hby at_297) rfl rfl ?_
                refine XS.iload X213.here hx rfl (Jvm.hb hby at_299) rfl ?_
                refine XS.bipush X213.here hx rfl (Jvm.hb hby at_301) ?_
                refine st225 _ ?_
                show Steps p.tables e below (T225.setTop (mkF m 304 #[.val (.int layout), .val (.int shape), .val (.long lc), .second, .val (.int (Int32.ofNat ms)), .val (.int (Int32.ofNat mp)), .val (.int q3), .val (.int (Int32.ofNat (ms + 1 + mp))), .val (.int q8), .val (.int q9), .val (.int q10), .val (.ref b15), .val (.ref b56), .val (.ref b56), .unset, .unset, .unset, .unset, .unset, .unset, .unset, .unset] [])) _
                show Steps p.tables e below (T225.setTop (mkF m 304 #[.val (.int layout), .val (.int shape), .val (.long lc), .second, .val (.int (Int32.ofNat ms)), .val (.int (Int32.ofNat mp)), .val (.int q3), .val (.int (Int32.ofNat (ms + 1 + mp))), .val (.int q8), .val (.int q9), .val (.int q10), .val (.ref b15), .val (.ref b56), .val (.ref b56), .unset, .unset, .unset, .unset, .unset, .unset, .unset, .unset] [])) t_
                exact k_)
              exact ⟨T225, _, _, _, X225, e225, N225, (((Keep.refl h95 [b15, b56]).wr W213 (Or.inl (by simp))).wr W225 (Or.inl (by simp))), ⟨b56, k56, cs227, rfl, V225, len227, lat227, (by omega)⟩, s228⟩
            · have s229 : ∀ t_, Steps p.tables e below (T213.setTop (mkF m 304 #[.val (.int layout), .val (.int shape), .val (.long lc), .second, .val (.int (Int32.ofNat ms)), .val (.int (Int32.ofNat mp)), .val (.int q3), .val (.int (Int32.ofNat (ms + 1 + mp))), .val (.int q8), .val (.int q9), .val (.int q10), .val (.ref b15), .val (.ref b56), .val (.ref b56), .unset, .unset, .unset, .unset, .unset, .unset, .unset, .unset] [])) t_ → Steps p.tables e below (s₁.setTop (entryFrame m #[(.int layout), (.int shape), (.long lc)] maxLocals)) t_ := fun t_ k_ => s222 t_ (by
                show Steps p.tables e below (T213.setTop (mkF m 294 #[.val (.int layout), .val (.int shape), .val (.long lc), .second, .val (.int (Int32.ofNat ms)), .val (.int (Int32.ofNat mp)), .val (.int q3), .val (.int (Int32.ofNat (ms + 1 + mp))), .val (.int q8), .val (.int q9), .val (.int q10), .val (.ref b15), .val (.ref b56), .val (.ref b56), .unset, .unset, .unset, .unset, .unset, .unset, .unset, .unset] [(.int (13 : Int32)), (.int (Int32.ofNat (ms + 1 + mp)))])) t_
                refine XS.icmpYes X213.here hx rfl (pc0 := 294) (pc' := 304) rfl (Jvm.hb hby at_294) rfl (flt h223).2.1 (by decide) (by decide) ?_
                show Steps p.tables e below (T213.setTop (mkF m 304 #[.val (.int layout), .val (.int shape), .val (.long lc), .second, .val (.int (Int32.ofNat ms)), .val (.int (Int32.ofNat mp)), .val (.int q3), .val (.int (Int32.ofNat (ms + 1 + mp))), .val (.int q8), .val (.int q9), .val (.int q10), .val (.ref b15), .val (.ref b56), .val (.ref b56), .unset, .unset, .unset, .unset, .unset, .unset, .unset, .unset] [])) _
                show Steps p.tables e below (T213.setTop (mkF m 304 #[.val (.int layout), .val (.int shape), .val (.long lc), .second, .val (.int (Int32.ofNat ms)), .val (.int (Int32.ofNat mp)), .val (.int q3), .val (.int (Int32.ofNat (ms + 1 + mp))), .val (.int q8), .val (.int q9), .val (.int q10), .val (.ref b15), .val (.ref b56), .val (.ref b56), .unset, .unset, .unset, .unset, .unset, .unset, .unset, .unset] [])) t_
                exact k_)
              exact ⟨T213, _, _, _, X213, e213, N213, ((Keep.refl h95 [b15, b56]).wr W213 (Or.inl (by simp))), ⟨b56, k56, cs215, rfl, V213, len215, lat215, (by omega)⟩, s229⟩
          · obtain ⟨cl230, Ar230, q230, S230, M230, H230, G230⟩ := id V213
            have hin230 : ¬ ((Int32.ofNat (ms + 3)) < 0 ∨ cl230.slots.size ≤ ((Int32.ofNat (ms + 3))).toNatClampNeg) := inb_of S230 (own_in (n := 13) (by omega) (by decide))
            obtain ⟨T231, h231, X231, e231, W231, st231⟩ := stC X213 hx hZ e213 Ar230 (j := (Int32.ofNat (ms + 3))) hin230 (g := (mkF m 289 #[.val (.int layout), .val (.int shape), .val (.long lc), .second, .val (.int (Int32.ofNat ms)), .val (.int (Int32.ofNat mp)), .val (.int q3), .val (.int (Int32.ofNat (ms + 1 + mp))), .val (.int q8), .val (.int q9), .val (.int q10), .val (.ref b15), .val (.ref b56), .val (.ref b56), .unset, .unset, .unset, .unset, .unset, .unset, .unset, .unset] [(.int q10), (.int (Int32.ofNat (ms + 3))), (.ref b56)])) rfl rfl (Jvm.hb hby at_289)
            have z232 : h213.size ≤ h231.size := Nat.le_of_eq W231.size.symm
            have Cp232 : CHr Z ELs s.vm h213 s.vm h231 := CHr.wr W231 (Safe.arv hZ.alike V213 (by decide)) CR.1
            have hk := Nat.le_trans hk z232
            have CR := CR.trans Cp232
            obtain ⟨cs233, hcs233⟩ : ∃ z : List Int32, z = List.set cs215 ((ms + 3)) q10 := ⟨_, rfl⟩
            have lat233 : own_lat cs233 := by rw [hcs233]; exact own_latset lat215 rg14.2
            have len233 : cs233.length = 13 := by rw [hcs233, List.length_set]; exact len215
            have V231 : Arv Z h231 b56 k56 .char (13 : Int32) (cs233.map Value.int) (.int (0 : Int32)) := by
              have q : Arv Z h231 b56 k56 .char (13 : Int32) (List.set (List.map Value.int cs215) ((ms + 3)) (.int (nar .char q10))) (.int (0 : Int32)) := Arv.set Ar230 q230 S230 M230 H230 G230 (fits_nar_char _) W231 ((ms + 3)) (own_tn (by omega)) (by first | (simp only [List.length_map]; omega) | (show _ < 13; omega))
              rw [show nar .char q10 = q10 from own_narc rg14.1 (own_le64k rg14.2)] at q
              rw [hcs233, List.map_set]
              exact q
            have N231 := Fr.snoc X231 N213 (show n0 ≤ b56 by omega)
            have s234 : ∀ t_, Steps p.tables e below (T231.setTop (mkF m 294 #[.val (.int layout), .val (.int shape), .val (.long lc), .second, .val (.int (Int32.ofNat ms)), .val (.int (Int32.ofNat mp)), .val (.int q3), .val (.int (Int32.ofNat (ms + 1 + mp))), .val (.int q8), .val (.int q9), .val (.int q10), .val (.ref b15), .val (.ref b56), .val (.ref b56), .unset, .unset, .unset, .unset, .unset, .unset, .unset, .unset] [(.int (13 : Int32)), (.int (Int32.ofNat (ms + 1 + mp)))])) t_ → Steps p.tables e below (s₁.setTop (entryFrame m #[(.int layout), (.int shape), (.long lc)] maxLocals)) t_ := fun t_ k_ => s220 t_ (by
              show Steps p.tables e below (T213.setTop (mkF m 278 #[.val (.int layout), .val (.int shape), .val (.long lc), .second, .val (.int (Int32.ofNat ms)), .val (.int (Int32.ofNat mp)), .val (.int q3), .val (.int (Int32.ofNat (ms + 1 + mp))), .val (.int q8), .val (.int q9), .val (.int q10), .val (.ref b15), .val (.ref b56), .val (.ref b56), .unset, .unset, .unset, .unset, .unset, .unset, .unset, .unset] [(.int (3 : Int32)), (.int (Int32.ofNat mp))])) t_
              refine XS.icmpNo X213.here hx rfl (Jvm.hb hby at_278) rfl (flt h221).1 ?_
              show Steps p.tables e below (T213.setTop (mkF m 281 #[.val (.int layout), .val (.int shape), .val (.long lc), .second, .val (.int (Int32.ofNat ms)), .val (.int (Int32.ofNat mp)), .val (.int q3), .val (.int (Int32.ofNat (ms + 1 + mp))), .val (.int q8), .val (.int q9), .val (.int q10), .val (.ref b15), .val (.ref b56), .val (.ref b56), .unset, .unset, .unset, .unset, .unset, .unset, .unset, .unset] [])) _
              refine XS.aload X213.here hx rfl (Jvm.hb hby at_281) rfl rfl ?_
              refine XS.iload X213.here hx rfl (Jvm.hb hby at_283) rfl ?_
              refine XS.iconst X213.here hx rfl (Jvm.hb hby at_285) ?_
              refine XS.iadd X213.here hx rfl (Jvm.hb hby at_286) rfl ?_
              show Steps p.tables e below (T213.setTop (mkF m 287 #[.val (.int layout), .val (.int shape), .val (.long lc), .second, .val (.int (Int32.ofNat ms)), .val (.int (Int32.ofNat mp)), .val (.int q3), .val (.int (Int32.ofNat (ms + 1 + mp))), .val (.int q8), .val (.int q9), .val (.int q10), .val (.ref b15), .val (.ref b56), .val (.ref b56), .unset, .unset, .unset, .unset, .unset, .unset, .unset, .unset] [(.int ((Int32.ofNat ms) + (3 : Int32))), (.ref b56)])) _
              refine castTop (g' := (mkF m 287 #[.val (.int layout), .val (.int shape), .val (.long lc), .second, .val (.int (Int32.ofNat ms)), .val (.int (Int32.ofNat mp)), .val (.int q3), .val (.int (Int32.ofNat (ms + 1 + mp))), .val (.int q8), .val (.int q9), .val (.int q10), .val (.ref b15), .val (.ref b56), .val (.ref b56), .unset, .unset, .unset, .unset, .unset, .unset, .unset, .unset] [(.int (Int32.ofNat (ms + 3))), (.ref b56)])) (by rw [show Int32.ofNat (ms + 3) = (Int32.ofNat ms) + (3 : Int32) from Int32.ofNat_add ms 3]) ?_
              show Steps p.tables e below (T213.setTop (mkF m 287 #[.val (.int layout), .val (.int shape), .val (.long lc), .second, .val (.int (Int32.ofNat ms)), .val (.int (Int32.ofNat mp)), .val (.int q3), .val (.int (Int32.ofNat (ms + 1 + mp))), .val (.int q8), .val (.int q9), .val (.int q10), .val (.ref b15), .val (.ref b56), .val (.ref b56), .unset, .unset, .unset, .unset, .unset, .unset, .unset, .unset] [(.int (Int32.ofNat (ms + 3))), (.ref b56)])) _
              refine XS.iload X213.here hx rfl (Jvm.hb hby at_287) rfl ?_
              refine st231 _ ?_
              show Steps p.tables e below (T231.setTop (mkF m 290 #[.val (.int layout), .val (.int shape), .val (.long lc), .second, .val (.int (Int32.ofNat ms)), .val (.int (Int32.ofNat mp)), .val (.int q3), .val (.int (Int32.ofNat (ms + 1 + mp))), .val (.int q8), .val (.int q9), .val (.int q10), .val (.ref b15), .val (.ref b56), .val (.ref b56), .unset, .unset, .unset, .unset, .unset, .unset, .unset, .unset] [])) _
              refine XS.iload X231.here hx rfl (Jvm.hb hby at_290) rfl ?_
              refine XS.bipush X231.here hx rfl (Jvm.hb hby at_292) ?_
              show Steps p.tables e below (T231.setTop (mkF m 294 #[.val (.int layout), .val (.int shape), .val (.long lc), .second, .val (.int (Int32.ofNat ms)), .val (.int (Int32.ofNat mp)), .val (.int q3), .val (.int (Int32.ofNat (ms + 1 + mp))), .val (.int q8), .val (.int q9), .val (.int q10), .val (.ref b15), .val (.ref b56), .val (.ref b56), .unset, .unset, .unset, .unset, .unset, .unset, .unset, .unset] [(.int (13 : Int32)), (.int (Int32.ofNat (ms + 1 + mp)))])) t_
              exact k_)
            by_cases h235 : (Int32.ofNat (ms + 1 + mp)) < (13 : Int32)
            · have hj13 : ms + 1 + mp < 13 := own_lt13 (by omega) h235
              obtain ⟨cl236, Ar236, q236, S236, M236, H236, G236⟩ := id V231
              have hin236 : ¬ ((Int32.ofNat (ms + 1 + mp)) < 0 ∨ cl236.slots.size ≤ ((Int32.ofNat (ms + 1 + mp))).toNatClampNeg) := inb_of S236 (own_in (n := 13) hj13 (by decide))
              obtain ⟨T237, h237, X237, e237, W237, st237⟩ := stC X231 hx hZ e231 Ar236 (j := (Int32.ofNat (ms + 1 + mp))) hin236 (g := (mkF m 303 #[.val (.int layout), .val (.int shape), .val (.long lc), .second, .val (.int (Int32.ofNat ms)), .val (.int (Int32.ofNat mp)), .val (.int q3), .val (.int (Int32.ofNat (ms + 1 + mp))), .val (.int q8), .val (.int q9), .val (.int q10), .val (.ref b15), .val (.ref b56), .val (.ref b56), .unset, .unset, .unset, .unset, .unset, .unset, .unset, .unset] [(.int (35 : Int32)), (.int (Int32.ofNat (ms + 1 + mp))), (.ref b56)])) rfl rfl (Jvm.hb hby at_303)
              have z238 : h231.size ≤ h237.size := Nat.le_of_eq W237.size.symm
              have Cp238 : CHr Z ELs s.vm h231 s.vm h237 := CHr.wr W237 (Safe.arv hZ.alike V231 (by decide)) CR.1
              have hk := Nat.le_trans hk z238
              have CR := CR.trans Cp238
              obtain ⟨cs239, hcs239⟩ : ∃ z : List Int32, z = List.set cs233 ((ms + 1 + mp)) (35 : Int32) := ⟨_, rfl⟩
              have lat239 : own_lat cs239 := by rw [hcs239]; exact own_latset lat233 (by decide)
              have len239 : cs239.length = 13 := by rw [hcs239, List.length_set]; exact len233
              have V237 : Arv Z h237 b56 k56 .char (13 : Int32) (cs239.map Value.int) (.int (0 : Int32)) := by
                have q : Arv Z h237 b56 k56 .char (13 : Int32) (List.set (List.map Value.int cs233) ((ms + 1 + mp)) (.int (nar .char (35 : Int32)))) (.int (0 : Int32)) := Arv.set Ar236 q236 S236 M236 H236 G236 (fits_nar_char _) W237 ((ms + 1 + mp)) (own_tn (by omega)) (by first | (simp only [List.length_map]; omega) | (show _ < 13; omega))
                rw [show nar .char (35 : Int32) = (35 : Int32) from rfl] at q
                rw [hcs239, List.map_set]
                exact q
              have N237 := Fr.snoc X237 N231 (show n0 ≤ b56 by omega)
              have s240 : ∀ t_, Steps p.tables e below (T237.setTop (mkF m 304 #[.val (.int layout), .val (.int shape), .val (.long lc), .second, .val (.int (Int32.ofNat ms)), .val (.int (Int32.ofNat mp)), .val (.int q3), .val (.int (Int32.ofNat (ms + 1 + mp))), .val (.int q8), .val (.int q9), .val (.int q10), .val (.ref b15), .val (.ref b56), .val (.ref b56), .unset, .unset, .unset, .unset, .unset, .unset, .unset, .unset] [])) t_ → Steps p.tables e below (s₁.setTop (entryFrame m #[(.int layout), (.int shape), (.long lc)] maxLocals)) t_ := fun t_ k_ => s234 t_ (by
                show Steps p.tables e below (T231.setTop (mkF m 294 #[.val (.int layout), .val (.int shape), .val (.long lc), .second, .val (.int (Int32.ofNat ms)), .val (.int (Int32.ofNat mp)), .val (.int q3), .val (.int (Int32.ofNat (ms + 1 + mp))), .val (.int q8), .val (.int q9), .val (.int q10), .val (.ref b15), .val (.ref b56), .val (.ref b56), .unset, .unset, .unset, .unset, .unset, .unset, .unset, .unset] [(.int (13 : Int32)), (.int (Int32.ofNat (ms + 1 + mp)))])) t_
                refine XS.icmpNo X231.here hx rfl (Jvm.hb hby at_294) rfl (tlt h235).2.1 ?_
                show Steps p.tables e below (T231.setTop (mkF m 297 #[.val (.int layout), .val (.int shape), .val (.long lc), .second, .val (.int (Int32.ofNat ms)), .val (.int (Int32.ofNat mp)), .val (.int q3), .val (.int (Int32.ofNat (ms + 1 + mp))), .val (.int q8), .val (.int q9), .val (.int q10), .val (.ref b15), .val (.ref b56), .val (.ref b56), .unset, .unset, .unset, .unset, .unset, .unset, .unset, .unset] [])) _
                refine XS.aload X231.here hx rfl (Jvm.hb hby at_297) rfl rfl ?_
                refine XS.iload X231.here hx rfl (Jvm.hb hby at_299) rfl ?_
                refine XS.bipush X231.here hx rfl (Jvm.hb hby at_301) ?_
                refine st237 _ ?_
                show Steps p.tables e below (T237.setTop (mkF m 304 #[.val (.int layout), .val (.int shape), .val (.long lc), .second, .val (.int (Int32.ofNat ms)), .val (.int (Int32.ofNat mp)), .val (.int q3), .val (.int (Int32.ofNat (ms + 1 + mp))), .val (.int q8), .val (.int q9), .val (.int q10), .val (.ref b15), .val (.ref b56), .val (.ref b56), .unset, .unset, .unset, .unset, .unset, .unset, .unset, .unset] [])) _
                show Steps p.tables e below (T237.setTop (mkF m 304 #[.val (.int layout), .val (.int shape), .val (.long lc), .second, .val (.int (Int32.ofNat ms)), .val (.int (Int32.ofNat mp)), .val (.int q3), .val (.int (Int32.ofNat (ms + 1 + mp))), .val (.int q8), .val (.int q9), .val (.int q10), .val (.ref b15), .val (.ref b56), .val (.ref b56), .unset, .unset, .unset, .unset, .unset, .unset, .unset, .unset] [])) t_
                exact k_)
              exact ⟨T237, _, _, _, X237, e237, N237, ((((Keep.refl h95 [b15, b56]).wr W213 (Or.inl (by simp))).wr W231 (Or.inl (by simp))).wr W237 (Or.inl (by simp))), ⟨b56, k56, cs239, rfl, V237, len239, lat239, (by omega)⟩, s240⟩
            · have s241 : ∀ t_, Steps p.tables e below (T231.setTop (mkF m 304 #[.val (.int layout), .val (.int shape), .val (.long lc), .second, .val (.int (Int32.ofNat ms)), .val (.int (Int32.ofNat mp)), .val (.int q3), .val (.int (Int32.ofNat (ms + 1 + mp))), .val (.int q8), .val (.int q9), .val (.int q10), .val (.ref b15), .val (.ref b56), .val (.ref b56), .unset, .unset, .unset, .unset, .unset, .unset, .unset, .unset] [])) t_ → Steps p.tables e below (s₁.setTop (entryFrame m #[(.int layout), (.int shape), (.long lc)] maxLocals)) t_ := fun t_ k_ => s234 t_ (by
                show Steps p.tables e below (T231.setTop (mkF m 294 #[.val (.int layout), .val (.int shape), .val (.long lc), .second, .val (.int (Int32.ofNat ms)), .val (.int (Int32.ofNat mp)), .val (.int q3), .val (.int (Int32.ofNat (ms + 1 + mp))), .val (.int q8), .val (.int q9), .val (.int q10), .val (.ref b15), .val (.ref b56), .val (.ref b56), .unset, .unset, .unset, .unset, .unset, .unset, .unset, .unset] [(.int (13 : Int32)), (.int (Int32.ofNat (ms + 1 + mp)))])) t_
                refine XS.icmpYes X231.here hx rfl (pc0 := 294) (pc' := 304) rfl (Jvm.hb hby at_294) rfl (flt h235).2.1 (by decide) (by decide) ?_
                show Steps p.tables e below (T231.setTop (mkF m 304 #[.val (.int layout), .val (.int shape), .val (.long lc), .second, .val (.int (Int32.ofNat ms)), .val (.int (Int32.ofNat mp)), .val (.int q3), .val (.int (Int32.ofNat (ms + 1 + mp))), .val (.int q8), .val (.int q9), .val (.int q10), .val (.ref b15), .val (.ref b56), .val (.ref b56), .unset, .unset, .unset, .unset, .unset, .unset, .unset, .unset] [])) _
                show Steps p.tables e below (T231.setTop (mkF m 304 #[.val (.int layout), .val (.int shape), .val (.long lc), .second, .val (.int (Int32.ofNat ms)), .val (.int (Int32.ofNat mp)), .val (.int q3), .val (.int (Int32.ofNat (ms + 1 + mp))), .val (.int q8), .val (.int q9), .val (.int q10), .val (.ref b15), .val (.ref b56), .val (.ref b56), .unset, .unset, .unset, .unset, .unset, .unset, .unset, .unset] [])) t_
                exact k_)
              exact ⟨T231, _, _, _, X231, e231, N231, (((Keep.refl h95 [b15, b56]).wr W213 (Or.inl (by simp))).wr W231 (Or.inl (by simp))), ⟨b56, k56, cs233, rfl, V231, len233, lat233, (by omega)⟩, s241⟩
        · obtain ⟨cl242, Ar242, q242, S242, M242, H242, G242⟩ := id V213
          have hin242 : ¬ ((Int32.ofNat (ms + 2)) < 0 ∨ cl242.slots.size ≤ ((Int32.ofNat (ms + 2))).toNatClampNeg) := inb_of S242 (own_in (n := 13) (by omega) (by decide))
          obtain ⟨T243, h243, X243, e243, W243, st243⟩ := stC X213 hx hZ e213 Ar242 (j := (Int32.ofNat (ms + 2))) hin242 (g := (mkF m 274 #[.val (.int layout), .val (.int shape), .val (.long lc), .second, .val (.int (Int32.ofNat ms)), .val (.int (Int32.ofNat mp)), .val (.int q3), .val (.int (Int32.ofNat (ms + 1 + mp))), .val (.int q8), .val (.int q9), .val (.int q10), .val (.ref b15), .val (.ref b56), .val (.ref b56), .unset, .unset, .unset, .unset, .unset, .unset, .unset, .unset] [(.int q9), (.int (Int32.ofNat (ms + 2))), (.ref b56)])) rfl rfl (Jvm.hb hby at_274)
          have z244 : h213.size ≤ h243.size := Nat.le_of_eq W243.size.symm
          have Cp244 : CHr Z ELs s.vm h213 s.vm h243 := CHr.wr W243 (Safe.arv hZ.alike V213 (by decide)) CR.1
          have hk := Nat.le_trans hk z244
          have CR := CR.trans Cp244
          obtain ⟨cs245, hcs245⟩ : ∃ z : List Int32, z = List.set cs215 ((ms + 2)) q9 := ⟨_, rfl⟩
          have lat245 : own_lat cs245 := by rw [hcs245]; exact own_latset lat215 rg13.2
          have len245 : cs245.length = 13 := by rw [hcs245, List.length_set]; exact len215
          have V243 : Arv Z h243 b56 k56 .char (13 : Int32) (cs245.map Value.int) (.int (0 : Int32)) := by
            have q : Arv Z h243 b56 k56 .char (13 : Int32) (List.set (List.map Value.int cs215) ((ms + 2)) (.int (nar .char q9))) (.int (0 : Int32)) := Arv.set Ar242 q242 S242 M242 H242 G242 (fits_nar_char _) W243 ((ms + 2)) (own_tn (by omega)) (by first | (simp only [List.length_map]; omega) | (show _ < 13; omega))
            rw [show nar .char q9 = q9 from own_narc rg13.1 (own_le64k rg13.2)] at q
            rw [hcs245, List.map_set]
            exact q
          have N243 := Fr.snoc X243 N213 (show n0 ≤ b56 by omega)
          have s246 : ∀ t_, Steps p.tables e below (T243.setTop (mkF m 278 #[.val (.int layout), .val (.int shape), .val (.long lc), .second, .val (.int (Int32.ofNat ms)), .val (.int (Int32.ofNat mp)), .val (.int q3), .val (.int (Int32.ofNat (ms + 1 + mp))), .val (.int q8), .val (.int q9), .val (.int q10), .val (.ref b15), .val (.ref b56), .val (.ref b56), .unset, .unset, .unset, .unset, .unset, .unset, .unset, .unset] [(.int (3 : Int32)), (.int (Int32.ofNat mp))])) t_ → Steps p.tables e below (s₁.setTop (entryFrame m #[(.int layout), (.int shape), (.long lc)] maxLocals)) t_ := fun t_ k_ => s218 t_ (by
            show Steps p.tables e below (T213.setTop (mkF m 263 #[.val (.int layout), .val (.int shape), .val (.long lc), .second, .val (.int (Int32.ofNat ms)), .val (.int (Int32.ofNat mp)), .val (.int q3), .val (.int (Int32.ofNat (ms + 1 + mp))), .val (.int q8), .val (.int q9), .val (.int q10), .val (.ref b15), .val (.ref b56), .val (.ref b56), .unset, .unset, .unset, .unset, .unset, .unset, .unset, .unset] [(.int (2 : Int32)), (.int (Int32.ofNat mp))])) t_
            refine XS.icmpNo X213.here hx rfl (Jvm.hb hby at_263) rfl (flt h219).1 ?_
            show Steps p.tables e below (T213.setTop (mkF m 266 #[.val (.int layout), .val (.int shape), .val (.long lc), .second, .val (.int (Int32.ofNat ms)), .val (.int (Int32.ofNat mp)), .val (.int q3), .val (.int (Int32.ofNat (ms + 1 + mp))), .val (.int q8), .val (.int q9), .val (.int q10), .val (.ref b15), .val (.ref b56), .val (.ref b56), .unset, .unset, .unset, .unset, .unset, .unset, .unset, .unset] [])) _
            refine XS.aload X213.here hx rfl (Jvm.hb hby at_266) rfl rfl ?_
            refine XS.iload X213.here hx rfl (Jvm.hb hby at_268) rfl ?_
            refine XS.iconst X213.here hx rfl (Jvm.hb hby at_270) ?_
            refine XS.iadd X213.here hx rfl (Jvm.hb hby at_271) rfl ?_
            show Steps p.tables e below (T213.setTop (mkF m 272 #[.val (.int layout), .val (.int shape), .val (.long lc), .second, .val (.int (Int32.ofNat ms)), .val (.int (Int32.ofNat mp)), .val (.int q3), .val (.int (Int32.ofNat (ms + 1 + mp))), .val (.int q8), .val (.int q9), .val (.int q10), .val (.ref b15), .val (.ref b56), .val (.ref b56), .unset, .unset, .unset, .unset, .unset, .unset, .unset, .unset] [(.int ((Int32.ofNat ms) + (2 : Int32))), (.ref b56)])) _
            refine castTop (g' := (mkF m 272 #[.val (.int layout), .val (.int shape), .val (.long lc), .second, .val (.int (Int32.ofNat ms)), .val (.int (Int32.ofNat mp)), .val (.int q3), .val (.int (Int32.ofNat (ms + 1 + mp))), .val (.int q8), .val (.int q9), .val (.int q10), .val (.ref b15), .val (.ref b56), .val (.ref b56), .unset, .unset, .unset, .unset, .unset, .unset, .unset, .unset] [(.int (Int32.ofNat (ms + 2))), (.ref b56)])) (by rw [show Int32.ofNat (ms + 2) = (Int32.ofNat ms) + (2 : Int32) from Int32.ofNat_add ms 2]) ?_
            show Steps p.tables e below (T213.setTop (mkF m 272 #[.val (.int layout), .val (.int shape), .val (.long lc), .second, .val (.int (Int32.ofNat ms)), .val (.int (Int32.ofNat mp)), .val (.int q3), .val (.int (Int32.ofNat (ms + 1 + mp))), .val (.int q8), .val (.int q9), .val (.int q10), .val (.ref b15), .val (.ref b56), .val (.ref b56), .unset, .unset, .unset, .unset, .unset, .unset, .unset, .unset] [(.int (Int32.ofNat (ms + 2))), (.ref b56)])) _
            refine XS.iload X213.here hx rfl (Jvm.hb hby at_272) rfl ?_
            refine st243 _ ?_
            show Steps p.tables e below (T243.setTop (mkF m 275 #[.val (.int layout), .val (.int shape), .val (.long lc), .second, .val (.int (Int32.ofNat ms)), .val (.int (Int32.ofNat mp)), .val (.int q3), .val (.int (Int32.ofNat (ms + 1 + mp))), .val (.int q8), .val (.int q9), .val (.int q10), .val (.ref b15), .val (.ref b56), .val (.ref b56), .unset, .unset, .unset, .unset, .unset, .unset, .unset, .unset] [])) _
            refine XS.iload X243.here hx rfl (Jvm.hb hby at_275) rfl ?_
            refine XS.iconst X243.here hx rfl (Jvm.hb hby at_277) ?_
            show Steps p.tables e below (T243.setTop (mkF m 278 #[.val (.int layout), .val (.int shape), .val (.long lc), .second, .val (.int (Int32.ofNat ms)), .val (.int (Int32.ofNat mp)), .val (.int q3), .val (.int (Int32.ofNat (ms + 1 + mp))), .val (.int q8), .val (.int q9), .val (.int q10), .val (.ref b15), .val (.ref b56), .val (.ref b56), .unset, .unset, .unset, .unset, .unset, .unset, .unset, .unset] [(.int (3 : Int32)), (.int (Int32.ofNat mp))])) t_
            exact k_)
          by_cases h247 : (Int32.ofNat mp) < (3 : Int32)
          · have s248 : ∀ t_, Steps p.tables e below (T243.setTop (mkF m 294 #[.val (.int layout), .val (.int shape), .val (.long lc), .second, .val (.int (Int32.ofNat ms)), .val (.int (Int32.ofNat mp)), .val (.int q3), .val (.int (Int32.ofNat (ms + 1 + mp))), .val (.int q8), .val (.int q9), .val (.int q10), .val (.ref b15), .val (.ref b56), .val (.ref b56), .unset, .unset, .unset, .unset, .unset, .unset, .unset, .unset] [(.int (13 : Int32)), (.int (Int32.ofNat (ms + 1 + mp)))])) t_ → Steps p.tables e below (s₁.setTop (entryFrame m #[(.int layout), (.int shape), (.long lc)] maxLocals)) t_ := fun t_ k_ => s246 t_ (by
              show Steps p.tables e below (T243.setTop (mkF m 278 #[.val (.int layout), .val (.int shape), .val (.long lc), .second, .val (.int (Int32.ofNat ms)), .val (.int (Int32.ofNat mp)), .val (.int q3), .val (.int (Int32.ofNat (ms + 1 + mp))), .val (.int q8), .val (.int q9), .val (.int q10), .val (.ref b15), .val (.ref b56), .val (.ref b56), .unset, .unset, .unset, .unset, .unset, .unset, .unset, .unset] [(.int (3 : Int32)), (.int (Int32.ofNat mp))])) t_
              refine XS.icmpYes X243.here hx rfl (pc0 := 278) (pc' := 290) rfl (Jvm.hb hby at_278) rfl (tlt h247).1 (by decide) (by decide) ?_
              show Steps p.tables e below (T243.setTop (mkF m 290 #[.val (.int layout), .val (.int shape), .val (.long lc), .second, .val (.int (Int32.ofNat ms)), .val (.int (Int32.ofNat mp)), .val (.int q3), .val (.int (Int32.ofNat (ms + 1 + mp))), .val (.int q8), .val (.int q9), .val (.int q10), .val (.ref b15), .val (.ref b56), .val (.ref b56), .unset, .unset, .unset, .unset, .unset, .unset, .unset, .unset] [])) _
              refine XS.iload X243.here hx rfl (Jvm.hb hby at_290) rfl ?_
              refine XS.bipush X243.here hx rfl (Jvm.hb hby at_292) ?_
              show Steps p.tables e below (T243.setTop (mkF m 294 #[.val (.int layout), .val (.int shape), .val (.long lc), .second, .val (.int (Int32.ofNat ms)), .val (.int (Int32.ofNat mp)), .val (.int q3), .val (.int (Int32.ofNat (ms + 1 + mp))), .val (.int q8), .val (.int q9), .val (.int q10), .val (.ref b15), .val (.ref b56), .val (.ref b56), .unset, .unset, .unset, .unset, .unset, .unset, .unset, .unset] [(.int (13 : Int32)), (.int (Int32.ofNat (ms + 1 + mp)))])) t_
              exact k_)
            by_cases h249 : (Int32.ofNat (ms + 1 + mp)) < (13 : Int32)
            · have hj13 : ms + 1 + mp < 13 := own_lt13 (by omega) h249
              obtain ⟨cl250, Ar250, q250, S250, M250, H250, G250⟩ := id V243
              have hin250 : ¬ ((Int32.ofNat (ms + 1 + mp)) < 0 ∨ cl250.slots.size ≤ ((Int32.ofNat (ms + 1 + mp))).toNatClampNeg) := inb_of S250 (own_in (n := 13) hj13 (by decide))
              obtain ⟨T251, h251, X251, e251, W251, st251⟩ := stC X243 hx hZ e243 Ar250 (j := (Int32.ofNat (ms + 1 + mp))) hin250 (g := (mkF m 303 #[.val (.int layout), .val (.int shape), .val (.long lc), .second, .val (.int (Int32.ofNat ms)), .val (.int (Int32.ofNat mp)), .val (.int q3), .val (.int (Int32.ofNat (ms + 1 + mp))), .val (.int q8), .val (.int q9), .val (.int q10), .val (.ref b15), .val (.ref b56), .val (.ref b56), .unset, .unset, .unset, .unset, .unset, .unset, .unset, .unset] [(.int (35 : Int32)), (.int (Int32.ofNat (ms + 1 + mp))), (.ref b56)])) rfl rfl (Jvm.hb hby at_303)
              have z252 : h243.size ≤ h251.size := Nat.le_of_eq W251.size.symm
              have Cp252 : CHr Z ELs s.vm h243 s.vm h251 := CHr.wr W251 (Safe.arv hZ.alike V243 (by decide)) CR.1
              have hk := Nat.le_trans hk z252
              have CR := CR.trans Cp252
              obtain ⟨cs253, hcs253⟩ : ∃ z : List Int32, z = List.set cs245 ((ms + 1 + mp)) (35 : Int32) := ⟨_, rfl⟩
              have lat253 : own_lat cs253 := by rw [hcs253]; exact own_latset lat245 (by decide)
              have len253 : cs253.length = 13 := by rw [hcs253, List.length_set]; exact len245
              have V251 : Arv Z h251 b56 k56 .char (13 : Int32) (cs253.map Value.int) (.int (0 : Int32)) := by
                have q : Arv Z h251 b56 k56 .char (13 : Int32) (List.set (List.map Value.int cs245) ((ms + 1 + mp)) (.int (nar .char (35 : Int32)))) (.int (0 : Int32)) := Arv.set Ar250 q250 S250 M250 H250 G250 (fits_nar_char _) W251 ((ms + 1 + mp)) (own_tn (by omega)) (by first | (simp only [List.length_map]; omega) | (show _ < 13; omega))
                rw [show nar .char (35 : Int32) = (35 : Int32) from rfl] at q
                rw [hcs253, List.map_set]
                exact q
              have N251 := Fr.snoc X251 N243 (show n0 ≤ b56 by omega)
              have s254 : ∀ t_, Steps p.tables e below (T251.setTop (mkF m 304 #[.val (.int layout), .val (.int shape), .val (.long lc), .second, .val (.int (Int32.ofNat ms)), .val (.int (Int32.ofNat mp)), .val (.int q3), .val (.int (Int32.ofNat (ms + 1 + mp))), .val (.int q8), .val (.int q9), .val (.int q10), .val (.ref b15), .val (.ref b56), .val (.ref b56), .unset, .unset, .unset, .unset, .unset, .unset, .unset, .unset] [])) t_ → Steps p.tables e below (s₁.setTop (entryFrame m #[(.int layout), (.int shape), (.long lc)] maxLocals)) t_ := fun t_ k_ => s248 t_ (by
                show Steps p.tables e below (T243.setTop (mkF m 294 #[.val (.int layout), .val (.int shape), .val (.long lc), .second, .val (.int (Int32.ofNat ms)), .val (.int (Int32.ofNat mp)), .val (.int q3), .val (.int (Int32.ofNat (ms + 1 + mp))), .val (.int q8), .val (.int q9), .val (.int q10), .val (.ref b15), .val (.ref b56), .val (.ref b56), .unset, .unset, .unset, .unset, .unset, .unset, .unset, .unset] [(.int (13 : Int32)), (.int (Int32.ofNat (ms + 1 + mp)))])) t_
                refine XS.icmpNo X243.here hx rfl (Jvm.hb hby at_294) rfl (tlt h249).2.1 ?_
                show Steps p.tables e below (T243.setTop (mkF m 297 #[.val (.int layout), .val (.int shape), .val (.long lc), .second, .val (.int (Int32.ofNat ms)), .val (.int (Int32.ofNat mp)), .val (.int q3), .val (.int (Int32.ofNat (ms + 1 + mp))), .val (.int q8), .val (.int q9), .val (.int q10), .val (.ref b15), .val (.ref b56), .val (.ref b56), .unset, .unset, .unset, .unset, .unset, .unset, .unset, .unset] [])) _
                refine XS.aload X243.here hx rfl (Jvm.hb hby at_297) rfl rfl ?_
                refine XS.iload X243.here hx rfl (Jvm.hb hby at_299) rfl ?_
                refine XS.bipush X243.here hx rfl (Jvm.hb hby at_301) ?_
                refine st251 _ ?_
                show Steps p.tables e below (T251.setTop (mkF m 304 #[.val (.int layout), .val (.int shape), .val (.long lc), .second, .val (.int (Int32.ofNat ms)), .val (.int (Int32.ofNat mp)), .val (.int q3), .val (.int (Int32.ofNat (ms + 1 + mp))), .val (.int q8), .val (.int q9), .val (.int q10), .val (.ref b15), .val (.ref b56), .val (.ref b56), .unset, .unset, .unset, .unset, .unset, .unset, .unset, .unset] [])) _
                show Steps p.tables e below (T251.setTop (mkF m 304 #[.val (.int layout), .val (.int shape), .val (.long lc), .second, .val (.int (Int32.ofNat ms)), .val (.int (Int32.ofNat mp)), .val (.int q3), .val (.int (Int32.ofNat (ms + 1 + mp))), .val (.int q8), .val (.int q9), .val (.int q10), .val (.ref b15), .val (.ref b56), .val (.ref b56), .unset, .unset, .unset, .unset, .unset, .unset, .unset, .unset] [])) t_
                exact k_)
              exact ⟨T251, _, _, _, X251, e251, N251, ((((Keep.refl h95 [b15, b56]).wr W213 (Or.inl (by simp))).wr W243 (Or.inl (by simp))).wr W251 (Or.inl (by simp))), ⟨b56, k56, cs253, rfl, V251, len253, lat253, (by omega)⟩, s254⟩
            · have s255 : ∀ t_, Steps p.tables e below (T243.setTop (mkF m 304 #[.val (.int layout), .val (.int shape), .val (.long lc), .second, .val (.int (Int32.ofNat ms)), .val (.int (Int32.ofNat mp)), .val (.int q3), .val (.int (Int32.ofNat (ms + 1 + mp))), .val (.int q8), .val (.int q9), .val (.int q10), .val (.ref b15), .val (.ref b56), .val (.ref b56), .unset, .unset, .unset, .unset, .unset, .unset, .unset, .unset] [])) t_ → Steps p.tables e below (s₁.setTop (entryFrame m #[(.int layout), (.int shape), (.long lc)] maxLocals)) t_ := fun t_ k_ => s248 t_ (by
                show Steps p.tables e below (T243.setTop (mkF m 294 #[.val (.int layout), .val (.int shape), .val (.long lc), .second, .val (.int (Int32.ofNat ms)), .val (.int (Int32.ofNat mp)), .val (.int q3), .val (.int (Int32.ofNat (ms + 1 + mp))), .val (.int q8), .val (.int q9), .val (.int q10), .val (.ref b15), .val (.ref b56), .val (.ref b56), .unset, .unset, .unset, .unset, .unset, .unset, .unset, .unset] [(.int (13 : Int32)), (.int (Int32.ofNat (ms + 1 + mp)))])) t_
                refine XS.icmpYes X243.here hx rfl (pc0 := 294) (pc' := 304) rfl (Jvm.hb hby at_294) rfl (flt h249).2.1 (by decide) (by decide) ?_
                show Steps p.tables e below (T243.setTop (mkF m 304 #[.val (.int layout), .val (.int shape), .val (.long lc), .second, .val (.int (Int32.ofNat ms)), .val (.int (Int32.ofNat mp)), .val (.int q3), .val (.int (Int32.ofNat (ms + 1 + mp))), .val (.int q8), .val (.int q9), .val (.int q10), .val (.ref b15), .val (.ref b56), .val (.ref b56), .unset, .unset, .unset, .unset, .unset, .unset, .unset, .unset] [])) _
                show Steps p.tables e below (T243.setTop (mkF m 304 #[.val (.int layout), .val (.int shape), .val (.long lc), .second, .val (.int (Int32.ofNat ms)), .val (.int (Int32.ofNat mp)), .val (.int q3), .val (.int (Int32.ofNat (ms + 1 + mp))), .val (.int q8), .val (.int q9), .val (.int q10), .val (.ref b15), .val (.ref b56), .val (.ref b56), .unset, .unset, .unset, .unset, .unset, .unset, .unset, .unset] [])) t_
                exact k_)
              exact ⟨T243, _, _, _, X243, e243, N243, (((Keep.refl h95 [b15, b56]).wr W213 (Or.inl (by simp))).wr W243 (Or.inl (by simp))), ⟨b56, k56, cs245, rfl, V243, len245, lat245, (by omega)⟩, s255⟩
          · obtain ⟨cl256, Ar256, q256, S256, M256, H256, G256⟩ := id V243
            have hin256 : ¬ ((Int32.ofNat (ms + 3)) < 0 ∨ cl256.slots.size ≤ ((Int32.ofNat (ms + 3))).toNatClampNeg) := inb_of S256 (own_in (n := 13) (by omega) (by decide))
            obtain ⟨T257, h257, X257, e257, W257, st257⟩ := stC X243 hx hZ e243 Ar256 (j := (Int32.ofNat (ms + 3))) hin256 (g := (mkF m 289 #[.val (.int layout), .val (.int shape), .val (.long lc), .second, .val (.int (Int32.ofNat ms)), .val (.int (Int32.ofNat mp)), .val (.int q3), .val (.int (Int32.ofNat (ms + 1 + mp))), .val (.int q8), .val (.int q9), .val (.int q10), .val (.ref b15), .val (.ref b56), .val (.ref b56), .unset, .unset, .unset, .unset, .unset, .unset, .unset, .unset] [(.int q10), (.int (Int32.ofNat (ms + 3))), (.ref b56)])) rfl rfl (Jvm.hb hby at_289)
            have z258 : h243.size ≤ h257.size := Nat.le_of_eq W257.size.symm
            have Cp258 : CHr Z ELs s.vm h243 s.vm h257 := CHr.wr W257 (Safe.arv hZ.alike V243 (by decide)) CR.1
            have hk := Nat.le_trans hk z258
            have CR := CR.trans Cp258
            obtain ⟨cs259, hcs259⟩ : ∃ z : List Int32, z = List.set cs245 ((ms + 3)) q10 := ⟨_, rfl⟩
            have lat259 : own_lat cs259 := by rw [hcs259]; exact own_latset lat245 rg14.2
            have len259 : cs259.length = 13 := by rw [hcs259, List.length_set]; exact len245
            have V257 : Arv Z h257 b56 k56 .char (13 : Int32) (cs259.map Value.int) (.int (0 : Int32)) := by
              have q : Arv Z h257 b56 k56 .char (13 : Int32) (List.set (List.map Value.int cs245) ((ms + 3)) (.int (nar .char q10))) (.int (0 : Int32)) := Arv.set Ar256 q256 S256 M256 H256 G256 (fits_nar_char _) W257 ((ms + 3)) (own_tn (by omega)) (by first | (simp only [List.length_map]; omega) | (show _ < 13; omega))
              rw [show nar .char q10 = q10 from own_narc rg14.1 (own_le64k rg14.2)] at q
              rw [hcs259, List.map_set]
              exact q
            have N257 := Fr.snoc X257 N243 (show n0 ≤ b56 by omega)
            have s260 : ∀ t_, Steps p.tables e below (T257.setTop (mkF m 294 #[.val (.int layout), .val (.int shape), .val (.long lc), .second, .val (.int (Int32.ofNat ms)), .val (.int (Int32.ofNat mp)), .val (.int q3), .val (.int (Int32.ofNat (ms + 1 + mp))), .val (.int q8), .val (.int q9), .val (.int q10), .val (.ref b15), .val (.ref b56), .val (.ref b56), .unset, .unset, .unset, .unset, .unset, .unset, .unset, .unset] [(.int (13 : Int32)), (.int (Int32.ofNat (ms + 1 + mp)))])) t_ → Steps p.tables e below (s₁.setTop (entryFrame m #[(.int layout), (.int shape), (.long lc)] maxLocals)) t_ := fun t_ k_ => s246 t_ (by
              show Steps p.tables e below (T243.setTop (mkF m 278 #[.val (.int layout), .val (.int shape), .val (.long lc), .second, .val (.int (Int32.ofNat ms)), .val (.int (Int32.ofNat mp)), .val (.int q3), .val (.int (Int32.ofNat (ms + 1 + mp))), .val (.int q8), .val (.int q9), .val (.int q10), .val (.ref b15), .val (.ref b56), .val (.ref b56), .unset, .unset, .unset, .unset, .unset, .unset, .unset, .unset] [(.int (3 : Int32)), (.int (Int32.ofNat mp))])) t_
              refine XS.icmpNo X243.here hx rfl (Jvm.hb hby at_278) rfl (flt h247).1 ?_
              show Steps p.tables e below (T243.setTop (mkF m 281 #[.val (.int layout), .val (.int shape), .val (.long lc), .second, .val (.int (Int32.ofNat ms)), .val (.int (Int32.ofNat mp)), .val (.int q3), .val (.int (Int32.ofNat (ms + 1 + mp))), .val (.int q8), .val (.int q9), .val (.int q10), .val (.ref b15), .val (.ref b56), .val (.ref b56), .unset, .unset, .unset, .unset, .unset, .unset, .unset, .unset] [])) _
              refine XS.aload X243.here hx rfl (Jvm.hb hby at_281) rfl rfl ?_
              refine XS.iload X243.here hx rfl (Jvm.hb hby at_283) rfl ?_
              refine XS.iconst X243.here hx rfl (Jvm.hb hby at_285) ?_
              refine XS.iadd X243.here hx rfl (Jvm.hb hby at_286) rfl ?_
              show Steps p.tables e below (T243.setTop (mkF m 287 #[.val (.int layout), .val (.int shape), .val (.long lc), .second, .val (.int (Int32.ofNat ms)), .val (.int (Int32.ofNat mp)), .val (.int q3), .val (.int (Int32.ofNat (ms + 1 + mp))), .val (.int q8), .val (.int q9), .val (.int q10), .val (.ref b15), .val (.ref b56), .val (.ref b56), .unset, .unset, .unset, .unset, .unset, .unset, .unset, .unset] [(.int ((Int32.ofNat ms) + (3 : Int32))), (.ref b56)])) _
              refine castTop (g' := (mkF m 287 #[.val (.int layout), .val (.int shape), .val (.long lc), .second, .val (.int (Int32.ofNat ms)), .val (.int (Int32.ofNat mp)), .val (.int q3), .val (.int (Int32.ofNat (ms + 1 + mp))), .val (.int q8), .val (.int q9), .val (.int q10), .val (.ref b15), .val (.ref b56), .val (.ref b56), .unset, .unset, .unset, .unset, .unset, .unset, .unset, .unset] [(.int (Int32.ofNat (ms + 3))), (.ref b56)])) (by rw [show Int32.ofNat (ms + 3) = (Int32.ofNat ms) + (3 : Int32) from Int32.ofNat_add ms 3]) ?_
              show Steps p.tables e below (T243.setTop (mkF m 287 #[.val (.int layout), .val (.int shape), .val (.long lc), .second, .val (.int (Int32.ofNat ms)), .val (.int (Int32.ofNat mp)), .val (.int q3), .val (.int (Int32.ofNat (ms + 1 + mp))), .val (.int q8), .val (.int q9), .val (.int q10), .val (.ref b15), .val (.ref b56), .val (.ref b56), .unset, .unset, .unset, .unset, .unset, .unset, .unset, .unset] [(.int (Int32.ofNat (ms + 3))), (.ref b56)])) _
              refine XS.iload X243.here hx rfl (Jvm.hb hby at_287) rfl ?_
              refine st257 _ ?_
              show Steps p.tables e below (T257.setTop (mkF m 290 #[.val (.int layout), .val (.int shape), .val (.long lc), .second, .val (.int (Int32.ofNat ms)), .val (.int (Int32.ofNat mp)), .val (.int q3), .val (.int (Int32.ofNat (ms + 1 + mp))), .val (.int q8), .val (.int q9), .val (.int q10), .val (.ref b15), .val (.ref b56), .val (.ref b56), .unset, .unset, .unset, .unset, .unset, .unset, .unset, .unset] [])) _
              refine XS.iload X257.here hx rfl (Jvm.hb hby at_290) rfl ?_
              refine XS.bipush X257.here hx rfl (Jvm.hb hby at_292) ?_
              show Steps p.tables e below (T257.setTop (mkF m 294 #[.val (.int layout), .val (.int shape), .val (.long lc), .second, .val (.int (Int32.ofNat ms)), .val (.int (Int32.ofNat mp)), .val (.int q3), .val (.int (Int32.ofNat (ms + 1 + mp))), .val (.int q8), .val (.int q9), .val (.int q10), .val (.ref b15), .val (.ref b56), .val (.ref b56), .unset, .unset, .unset, .unset, .unset, .unset, .unset, .unset] [(.int (13 : Int32)), (.int (Int32.ofNat (ms + 1 + mp)))])) t_
              exact k_)
            by_cases h261 : (Int32.ofNat (ms + 1 + mp)) < (13 : Int32)
            · have hj13 : ms + 1 + mp < 13 := own_lt13 (by omega) h261
              obtain ⟨cl262, Ar262, q262, S262, M262, H262, G262⟩ := id V257
              have hin262 : ¬ ((Int32.ofNat (ms + 1 + mp)) < 0 ∨ cl262.slots.size ≤ ((Int32.ofNat (ms + 1 + mp))).toNatClampNeg) := inb_of S262 (own_in (n := 13) hj13 (by decide))
              obtain ⟨T263, h263, X263, e263, W263, st263⟩ := stC X257 hx hZ e257 Ar262 (j := (Int32.ofNat (ms + 1 + mp))) hin262 (g := (mkF m 303 #[.val (.int layout), .val (.int shape), .val (.long lc), .second, .val (.int (Int32.ofNat ms)), .val (.int (Int32.ofNat mp)), .val (.int q3), .val (.int (Int32.ofNat (ms + 1 + mp))), .val (.int q8), .val (.int q9), .val (.int q10), .val (.ref b15), .val (.ref b56), .val (.ref b56), .unset, .unset, .unset, .unset, .unset, .unset, .unset, .unset] [(.int (35 : Int32)), (.int (Int32.ofNat (ms + 1 + mp))), (.ref b56)])) rfl rfl (Jvm.hb hby at_303)
              have z264 : h257.size ≤ h263.size := Nat.le_of_eq W263.size.symm
              have Cp264 : CHr Z ELs s.vm h257 s.vm h263 := CHr.wr W263 (Safe.arv hZ.alike V257 (by decide)) CR.1
              have hk := Nat.le_trans hk z264
              have CR := CR.trans Cp264
              obtain ⟨cs265, hcs265⟩ : ∃ z : List Int32, z = List.set cs259 ((ms + 1 + mp)) (35 : Int32) := ⟨_, rfl⟩
              have lat265 : own_lat cs265 := by rw [hcs265]; exact own_latset lat259 (by decide)
              have len265 : cs265.length = 13 := by rw [hcs265, List.length_set]; exact len259
              have V263 : Arv Z h263 b56 k56 .char (13 : Int32) (cs265.map Value.int) (.int (0 : Int32)) := by
                have q : Arv Z h263 b56 k56 .char (13 : Int32) (List.set (List.map Value.int cs259) ((ms + 1 + mp)) (.int (nar .char (35 : Int32)))) (.int (0 : Int32)) := Arv.set Ar262 q262 S262 M262 H262 G262 (fits_nar_char _) W263 ((ms + 1 + mp)) (own_tn (by omega)) (by first | (simp only [List.length_map]; omega) | (show _ < 13; omega))
                rw [show nar .char (35 : Int32) = (35 : Int32) from rfl] at q
                rw [hcs265, List.map_set]
                exact q
              have N263 := Fr.snoc X263 N257 (show n0 ≤ b56 by omega)
              have s266 : ∀ t_, Steps p.tables e below (T263.setTop (mkF m 304 #[.val (.int layout), .val (.int shape), .val (.long lc), .second, .val (.int (Int32.ofNat ms)), .val (.int (Int32.ofNat mp)), .val (.int q3), .val (.int (Int32.ofNat (ms + 1 + mp))), .val (.int q8), .val (.int q9), .val (.int q10), .val (.ref b15), .val (.ref b56), .val (.ref b56), .unset, .unset, .unset, .unset, .unset, .unset, .unset, .unset] [])) t_ → Steps p.tables e below (s₁.setTop (entryFrame m #[(.int layout), (.int shape), (.long lc)] maxLocals)) t_ := fun t_ k_ => s260 t_ (by
                show Steps p.tables e below (T257.setTop (mkF m 294 #[.val (.int layout), .val (.int shape), .val (.long lc), .second, .val (.int (Int32.ofNat ms)), .val (.int (Int32.ofNat mp)), .val (.int q3), .val (.int (Int32.ofNat (ms + 1 + mp))), .val (.int q8), .val (.int q9), .val (.int q10), .val (.ref b15), .val (.ref b56), .val (.ref b56), .unset, .unset, .unset, .unset, .unset, .unset, .unset, .unset] [(.int (13 : Int32)), (.int (Int32.ofNat (ms + 1 + mp)))])) t_
                refine XS.icmpNo X257.here hx rfl (Jvm.hb hby at_294) rfl (tlt h261).2.1 ?_
                show Steps p.tables e below (T257.setTop (mkF m 297 #[.val (.int layout), .val (.int shape), .val (.long lc), .second, .val (.int (Int32.ofNat ms)), .val (.int (Int32.ofNat mp)), .val (.int q3), .val (.int (Int32.ofNat (ms + 1 + mp))), .val (.int q8), .val (.int q9), .val (.int q10), .val (.ref b15), .val (.ref b56), .val (.ref b56), .unset, .unset, .unset, .unset, .unset, .unset, .unset, .unset] [])) _
                refine XS.aload X257.here hx rfl (Jvm.hb hby at_297) rfl rfl ?_
                refine XS.iload X257.here hx rfl (Jvm.hb hby at_299) rfl ?_
                refine XS.bipush X257.here hx rfl (Jvm.hb hby at_301) ?_
                refine st263 _ ?_
                show Steps p.tables e below (T263.setTop (mkF m 304 #[.val (.int layout), .val (.int shape), .val (.long lc), .second, .val (.int (Int32.ofNat ms)), .val (.int (Int32.ofNat mp)), .val (.int q3), .val (.int (Int32.ofNat (ms + 1 + mp))), .val (.int q8), .val (.int q9), .val (.int q10), .val (.ref b15), .val (.ref b56), .val (.ref b56), .unset, .unset, .unset, .unset, .unset, .unset, .unset, .unset] [])) _
                show Steps p.tables e below (T263.setTop (mkF m 304 #[.val (.int layout), .val (.int shape), .val (.long lc), .second, .val (.int (Int32.ofNat ms)), .val (.int (Int32.ofNat mp)), .val (.int q3), .val (.int (Int32.ofNat (ms + 1 + mp))), .val (.int q8), .val (.int q9), .val (.int q10), .val (.ref b15), .val (.ref b56), .val (.ref b56), .unset, .unset, .unset, .unset, .unset, .unset, .unset, .unset] [])) t_
                exact k_)
              exact ⟨T263, _, _, _, X263, e263, N263, (((((Keep.refl h95 [b15, b56]).wr W213 (Or.inl (by simp))).wr W243 (Or.inl (by simp))).wr W257 (Or.inl (by simp))).wr W263 (Or.inl (by simp))), ⟨b56, k56, cs265, rfl, V263, len265, lat265, (by omega)⟩, s266⟩
            · have s267 : ∀ t_, Steps p.tables e below (T257.setTop (mkF m 304 #[.val (.int layout), .val (.int shape), .val (.long lc), .second, .val (.int (Int32.ofNat ms)), .val (.int (Int32.ofNat mp)), .val (.int q3), .val (.int (Int32.ofNat (ms + 1 + mp))), .val (.int q8), .val (.int q9), .val (.int q10), .val (.ref b15), .val (.ref b56), .val (.ref b56), .unset, .unset, .unset, .unset, .unset, .unset, .unset, .unset] [])) t_ → Steps p.tables e below (s₁.setTop (entryFrame m #[(.int layout), (.int shape), (.long lc)] maxLocals)) t_ := fun t_ k_ => s260 t_ (by
                show Steps p.tables e below (T257.setTop (mkF m 294 #[.val (.int layout), .val (.int shape), .val (.long lc), .second, .val (.int (Int32.ofNat ms)), .val (.int (Int32.ofNat mp)), .val (.int q3), .val (.int (Int32.ofNat (ms + 1 + mp))), .val (.int q8), .val (.int q9), .val (.int q10), .val (.ref b15), .val (.ref b56), .val (.ref b56), .unset, .unset, .unset, .unset, .unset, .unset, .unset, .unset] [(.int (13 : Int32)), (.int (Int32.ofNat (ms + 1 + mp)))])) t_
                refine XS.icmpYes X257.here hx rfl (pc0 := 294) (pc' := 304) rfl (Jvm.hb hby at_294) rfl (flt h261).2.1 (by decide) (by decide) ?_
                show Steps p.tables e below (T257.setTop (mkF m 304 #[.val (.int layout), .val (.int shape), .val (.long lc), .second, .val (.int (Int32.ofNat ms)), .val (.int (Int32.ofNat mp)), .val (.int q3), .val (.int (Int32.ofNat (ms + 1 + mp))), .val (.int q8), .val (.int q9), .val (.int q10), .val (.ref b15), .val (.ref b56), .val (.ref b56), .unset, .unset, .unset, .unset, .unset, .unset, .unset, .unset] [])) _
                show Steps p.tables e below (T257.setTop (mkF m 304 #[.val (.int layout), .val (.int shape), .val (.long lc), .second, .val (.int (Int32.ofNat ms)), .val (.int (Int32.ofNat mp)), .val (.int q3), .val (.int (Int32.ofNat (ms + 1 + mp))), .val (.int q8), .val (.int q9), .val (.int q10), .val (.ref b15), .val (.ref b56), .val (.ref b56), .unset, .unset, .unset, .unset, .unset, .unset, .unset, .unset] [])) t_
                exact k_)
              exact ⟨T257, _, _, _, X257, e257, N257, ((((Keep.refl h95 [b15, b56]).wr W213 (Or.inl (by simp))).wr W243 (Or.inl (by simp))).wr W257 (Or.inl (by simp))), ⟨b56, k56, cs259, rfl, V257, len259, lat259, (by omega)⟩, s267⟩
      · obtain ⟨cl268, Ar268, q268, S268, M268, H268, G268⟩ := id V213
        have hin268 : ¬ ((Int32.ofNat (ms + 1)) < 0 ∨ cl268.slots.size ≤ ((Int32.ofNat (ms + 1))).toNatClampNeg) := inb_of S268 (own_in (n := 13) (by omega) (by decide))
        obtain ⟨T269, h269, X269, e269, W269, st269⟩ := stC X213 hx hZ e213 Ar268 (j := (Int32.ofNat (ms + 1))) hin268 (g := (mkF m 259 #[.val (.int layout), .val (.int shape), .val (.long lc), .second, .val (.int (Int32.ofNat ms)), .val (.int (Int32.ofNat mp)), .val (.int q3), .val (.int (Int32.ofNat (ms + 1 + mp))), .val (.int q8), .val (.int q9), .val (.int q10), .val (.ref b15), .val (.ref b56), .val (.ref b56), .unset, .unset, .unset, .unset, .unset, .unset, .unset, .unset] [(.int q8), (.int (Int32.ofNat (ms + 1))), (.ref b56)])) rfl rfl (Jvm.hb hby at_259)
        have z270 : h213.size ≤ h269.size := Nat.le_of_eq W269.size.symm
        have Cp270 : CHr Z ELs s.vm h213 s.vm h269 := CHr.wr W269 (Safe.arv hZ.alike V213 (by decide)) CR.1
        have hk := Nat.le_trans hk z270
        have CR := CR.trans Cp270
        obtain ⟨cs271, hcs271⟩ : ∃ z : List Int32, z = List.set cs215 ((ms + 1)) q8 := ⟨_, rfl⟩
        have lat271 : own_lat cs271 := by rw [hcs271]; exact own_latset lat215 rg12.2
        have len271 : cs271.length = 13 := by rw [hcs271, List.length_set]; exact len215
        have V269 : Arv Z h269 b56 k56 .char (13 : Int32) (cs271.map Value.int) (.int (0 : Int32)) := by
          have q : Arv Z h269 b56 k56 .char (13 : Int32) (List.set (List.map Value.int cs215) ((ms + 1)) (.int (nar .char q8))) (.int (0 : Int32)) := Arv.set Ar268 q268 S268 M268 H268 G268 (fits_nar_char _) W269 ((ms + 1)) (own_tn (by omega)) (by first | (simp only [List.length_map]; omega) | (show _ < 13; omega))
          rw [show nar .char q8 = q8 from own_narc rg12.1 (own_le64k rg12.2)] at q
          rw [hcs271, List.map_set]
          exact q
        have N269 := Fr.snoc X269 N213 (show n0 ≤ b56 by omega)
        have s272 : ∀ t_, Steps p.tables e below (T269.setTop (mkF m 263 #[.val (.int layout), .val (.int shape), .val (.long lc), .second, .val (.int (Int32.ofNat ms)), .val (.int (Int32.ofNat mp)), .val (.int q3), .val (.int (Int32.ofNat (ms + 1 + mp))), .val (.int q8), .val (.int q9), .val (.int q10), .val (.ref b15), .val (.ref b56), .val (.ref b56), .unset, .unset, .unset, .unset, .unset, .unset, .unset, .unset] [(.int (2 : Int32)), (.int (Int32.ofNat mp))])) t_ → Steps p.tables e below (s₁.setTop (entryFrame m #[(.int layout), (.int shape), (.long lc)] maxLocals)) t_ := fun t_ k_ => s216 t_ (by
          show Steps p.tables e below (T213.setTop (mkF m 248 #[.val (.int layout), .val (.int shape), .val (.long lc), .second, .val (.int (Int32.ofNat ms)), .val (.int (Int32.ofNat mp)), .val (.int q3), .val (.int (Int32.ofNat (ms + 1 + mp))), .val (.int q8), .val (.int q9), .val (.int q10), .val (.ref b15), .val (.ref b56), .val (.ref b56), .unset, .unset, .unset, .unset, .unset, .unset, .unset, .unset] [(.int (1 : Int32)), (.int (Int32.ofNat mp))])) t_
          refine XS.icmpNo X213.here hx rfl (Jvm.hb hby at_248) rfl (flt h217).1 ?_
          show Steps p.tables e below (T213.setTop (mkF m 251 #[.val (.int layout), .val (.int shape), .val (.long lc), .second, .val (.int (Int32.ofNat ms)), .val (.int (Int32.ofNat mp)), .val (.int q3), .val (.int (Int32.ofNat (ms + 1 + mp))), .val (.int q8), .val (.int q9), .val (.int q10), .val (.ref b15), .val (.ref b56), .val (.ref b56), .unset, .unset, .unset, .unset, .unset, .unset, .unset, .unset] [])) _
          refine XS.aload X213.here hx rfl (Jvm.hb hby at_251) rfl rfl ?_
          refine XS.iload X213.here hx rfl (Jvm.hb hby at_253) rfl ?_
          refine XS.iconst X213.here hx rfl (Jvm.hb hby at_255) ?_
          refine XS.iadd X213.here hx rfl (Jvm.hb hby at_256) rfl ?_
          show Steps p.tables e below (T213.setTop (mkF m 257 #[.val (.int layout), .val (.int shape), .val (.long lc), .second, .val (.int (Int32.ofNat ms)), .val (.int (Int32.ofNat mp)), .val (.int q3), .val (.int (Int32.ofNat (ms + 1 + mp))), .val (.int q8), .val (.int q9), .val (.int q10), .val (.ref b15), .val (.ref b56), .val (.ref b56), .unset, .unset, .unset, .unset, .unset, .unset, .unset, .unset] [(.int ((Int32.ofNat ms) + (1 : Int32))), (.ref b56)])) _
          refine castTop (g' := (mkF m 257 #[.val (.int layout), .val (.int shape), .val (.long lc), .second, .val (.int (Int32.ofNat ms)), .val (.int (Int32.ofNat mp)), .val (.int q3), .val (.int (Int32.ofNat (ms + 1 + mp))), .val (.int q8), .val (.int q9), .val (.int q10), .val (.ref b15), .val (.ref b56), .val (.ref b56), .unset, .unset, .unset, .unset, .unset, .unset, .unset, .unset] [(.int (Int32.ofNat (ms + 1))), (.ref b56)])) (by rw [show Int32.ofNat (ms + 1) = (Int32.ofNat ms) + (1 : Int32) from Int32.ofNat_add ms 1]) ?_
          show Steps p.tables e below (T213.setTop (mkF m 257 #[.val (.int layout), .val (.int shape), .val (.long lc), .second, .val (.int (Int32.ofNat ms)), .val (.int (Int32.ofNat mp)), .val (.int q3), .val (.int (Int32.ofNat (ms + 1 + mp))), .val (.int q8), .val (.int q9), .val (.int q10), .val (.ref b15), .val (.ref b56), .val (.ref b56), .unset, .unset, .unset, .unset, .unset, .unset, .unset, .unset] [(.int (Int32.ofNat (ms + 1))), (.ref b56)])) _
          refine XS.iload X213.here hx rfl (Jvm.hb hby at_257) rfl ?_
          refine st269 _ ?_
          show Steps p.tables e below (T269.setTop (mkF m 260 #[.val (.int layout), .val (.int shape), .val (.long lc), .second, .val (.int (Int32.ofNat ms)), .val (.int (Int32.ofNat mp)), .val (.int q3), .val (.int (Int32.ofNat (ms + 1 + mp))), .val (.int q8), .val (.int q9), .val (.int q10), .val (.ref b15), .val (.ref b56), .val (.ref b56), .unset, .unset, .unset, .unset, .unset, .unset, .unset, .unset] [])) _
          refine XS.iload X269.here hx rfl (Jvm.hb hby at_260) rfl ?_
          refine XS.iconst X269.here hx rfl (Jvm.hb hby at_262) ?_
          show Steps p.tables e below (T269.setTop (mkF m 263 #[.val (.int layout), .val (.int shape), .val (.long lc), .second, .val (.int (Int32.ofNat ms)), .val (.int (Int32.ofNat mp)), .val (.int q3), .val (.int (Int32.ofNat (ms + 1 + mp))), .val (.int q8), .val (.int q9), .val (.int q10), .val (.ref b15), .val (.ref b56), .val (.ref b56), .unset, .unset, .unset, .unset, .unset, .unset, .unset, .unset] [(.int (2 : Int32)), (.int (Int32.ofNat mp))])) t_
          exact k_)
        by_cases h273 : (Int32.ofNat mp) < (2 : Int32)
        · have s274 : ∀ t_, Steps p.tables e below (T269.setTop (mkF m 278 #[.val (.int layout), .val (.int shape), .val (.long lc), .second, .val (.int (Int32.ofNat ms)), .val (.int (Int32.ofNat mp)), .val (.int q3), .val (.int (Int32.ofNat (ms + 1 + mp))), .val (.int q8), .val (.int q9), .val (.int q10), .val (.ref b15), .val (.ref b56), .val (.ref b56), .unset, .unset, .unset, .unset, .unset, .unset, .unset, .unset] [(.int (3 : Int32)), (.int (Int32.ofNat mp))])) t_ → Steps p.tables e below (s₁.setTop (entryFrame m #[(.int layout), (.int shape), (.long lc)] maxLocals)) t_ := fun t_ k_ => s272 t_ (by
            show Steps p.tables e below (T269.setTop (mkF m 263 #[.val (.int layout), .val (.int shape), .val (.long lc), .second, .val (.int (Int32.ofNat ms)), .val (.int (Int32.ofNat mp)), .val (.int q3), .val (.int (Int32.ofNat (ms + 1 + mp))), .val (.int q8), .val (.int q9), .val (.int q10), .val (.ref b15), .val (.ref b56), .val (.ref b56), .unset, .unset, .unset, .unset, .unset, .unset, .unset, .unset] [(.int (2 : Int32)), (.int (Int32.ofNat mp))])) t_
            refine XS.icmpYes X269.here hx rfl (pc0 := 263) (pc' := 275) rfl (Jvm.hb hby at_263) rfl (tlt h273).1 (by decide) (by decide) ?_
            show Steps p.tables e below (T269.setTop (mkF m 275 #[.val (.int layout), .val (.int shape), .val (.long lc), .second, .val (.int (Int32.ofNat ms)), .val (.int (Int32.ofNat mp)), .val (.int q3), .val (.int (Int32.ofNat (ms + 1 + mp))), .val (.int q8), .val (.int q9), .val (.int q10), .val (.ref b15), .val (.ref b56), .val (.ref b56), .unset, .unset, .unset, .unset, .unset, .unset, .unset, .unset] [])) _
            refine XS.iload X269.here hx rfl (Jvm.hb hby at_275) rfl ?_
            refine XS.iconst X269.here hx rfl (Jvm.hb hby at_277) ?_
            show Steps p.tables e below (T269.setTop (mkF m 278 #[.val (.int layout), .val (.int shape), .val (.long lc), .second, .val (.int (Int32.ofNat ms)), .val (.int (Int32.ofNat mp)), .val (.int q3), .val (.int (Int32.ofNat (ms + 1 + mp))), .val (.int q8), .val (.int q9), .val (.int q10), .val (.ref b15), .val (.ref b56), .val (.ref b56), .unset, .unset, .unset, .unset, .unset, .unset, .unset, .unset] [(.int (3 : Int32)), (.int (Int32.ofNat mp))])) t_
            exact k_)
          by_cases h275 : (Int32.ofNat mp) < (3 : Int32)
          · have s276 : ∀ t_, Steps p.tables e below (T269.setTop (mkF m 294 #[.val (.int layout), .val (.int shape), .val (.long lc), .second, .val (.int (Int32.ofNat ms)), .val (.int (Int32.ofNat mp)), .val (.int q3), .val (.int (Int32.ofNat (ms + 1 + mp))), .val (.int q8), .val (.int q9), .val (.int q10), .val (.ref b15), .val (.ref b56), .val (.ref b56), .unset, .unset, .unset, .unset, .unset, .unset, .unset, .unset] [(.int (13 : Int32)), (.int (Int32.ofNat (ms + 1 + mp)))])) t_ → Steps p.tables e below (s₁.setTop (entryFrame m #[(.int layout), (.int shape), (.long lc)] maxLocals)) t_ := fun t_ k_ => s274 t_ (by
              show Steps p.tables e below (T269.setTop (mkF m 278 #[.val (.int layout), .val (.int shape), .val (.long lc), .second, .val (.int (Int32.ofNat ms)), .val (.int (Int32.ofNat mp)), .val (.int q3), .val (.int (Int32.ofNat (ms + 1 + mp))), .val (.int q8), .val (.int q9), .val (.int q10), .val (.ref b15), .val (.ref b56), .val (.ref b56), .unset, .unset, .unset, .unset, .unset, .unset, .unset, .unset] [(.int (3 : Int32)), (.int (Int32.ofNat mp))])) t_
              refine XS.icmpYes X269.here hx rfl (pc0 := 278) (pc' := 290) rfl (Jvm.hb hby at_278) rfl (tlt h275).1 (by decide) (by decide) ?_
              show Steps p.tables e below (T269.setTop (mkF m 290 #[.val (.int layout), .val (.int shape), .val (.long lc), .second, .val (.int (Int32.ofNat ms)), .val (.int (Int32.ofNat mp)), .val (.int q3), .val (.int (Int32.ofNat (ms + 1 + mp))), .val (.int q8), .val (.int q9), .val (.int q10), .val (.ref b15), .val (.ref b56), .val (.ref b56), .unset, .unset, .unset, .unset, .unset, .unset, .unset, .unset] [])) _
              refine XS.iload X269.here hx rfl (Jvm.hb hby at_290) rfl ?_
              refine XS.bipush X269.here hx rfl (Jvm.hb hby at_292) ?_
              show Steps p.tables e below (T269.setTop (mkF m 294 #[.val (.int layout), .val (.int shape), .val (.long lc), .second, .val (.int (Int32.ofNat ms)), .val (.int (Int32.ofNat mp)), .val (.int q3), .val (.int (Int32.ofNat (ms + 1 + mp))), .val (.int q8), .val (.int q9), .val (.int q10), .val (.ref b15), .val (.ref b56), .val (.ref b56), .unset, .unset, .unset, .unset, .unset, .unset, .unset, .unset] [(.int (13 : Int32)), (.int (Int32.ofNat (ms + 1 + mp)))])) t_
              exact k_)
            by_cases h277 : (Int32.ofNat (ms + 1 + mp)) < (13 : Int32)
            · have hj13 : ms + 1 + mp < 13 := own_lt13 (by omega) h277
              obtain ⟨cl278, Ar278, q278, S278, M278, H278, G278⟩ := id V269
              have hin278 : ¬ ((Int32.ofNat (ms + 1 + mp)) < 0 ∨ cl278.slots.size ≤ ((Int32.ofNat (ms + 1 + mp))).toNatClampNeg) := inb_of S278 (own_in (n := 13) hj13 (by decide))
              obtain ⟨T279, h279, X279, e279, W279, st279⟩ := stC X269 hx hZ e269 Ar278 (j := (Int32.ofNat (ms + 1 + mp))) hin278 (g := (mkF m 303 #[.val (.int layout), .val (.int shape), .val (.long lc), .second, .val (.int (Int32.ofNat ms)), .val (.int (Int32.ofNat mp)), .val (.int q3), .val (.int (Int32.ofNat (ms + 1 + mp))), .val (.int q8), .val (.int q9), .val (.int q10), .val (.ref b15), .val (.ref b56), .val (.ref b56), .unset, .unset, .unset, .unset, .unset, .unset, .unset, .unset] [(.int (35 : Int32)), (.int (Int32.ofNat (ms + 1 + mp))), (.ref b56)])) rfl rfl (Jvm.hb hby at_303)
              have z280 : h269.size ≤ h279.size := Nat.le_of_eq W279.size.symm
              have Cp280 : CHr Z ELs s.vm h269 s.vm h279 := CHr.wr W279 (Safe.arv hZ.alike V269 (by decide)) CR.1
              have hk := Nat.le_trans hk z280
              have CR := CR.trans Cp280
              obtain ⟨cs281, hcs281⟩ : ∃ z : List Int32, z = List.set cs271 ((ms + 1 + mp)) (35 : Int32) := ⟨_, rfl⟩
              have lat281 : own_lat cs281 := by rw [hcs281]; exact own_latset lat271 (by decide)
              have len281 : cs281.length = 13 := by rw [hcs281, List.length_set]; exact len271
              have V279 : Arv Z h279 b56 k56 .char (13 : Int32) (cs281.map Value.int) (.int (0 : Int32)) := by
                have q : Arv Z h279 b56 k56 .char (13 : Int32) (List.set (List.map Value.int cs271) ((ms + 1 + mp)) (.int (nar .char (35 : Int32)))) (.int (0 : Int32)) := Arv.set Ar278 q278 S278 M278 H278 G278 (fits_nar_char _) W279 ((ms + 1 + mp)) (own_tn (by omega)) (by first | (simp only [List.length_map]; omega) | (show _ < 13; omega))
                rw [show nar .char (35 : Int32) = (35 : Int32) from rfl] at q
                rw [hcs281, List.map_set]
                exact q
              have N279 := Fr.snoc X279 N269 (show n0 ≤ b56 by omega)
              have s282 : ∀ t_, Steps p.tables e below (T279.setTop (mkF m 304 #[.val (.int layout), .val (.int shape), .val (.long lc), .second, .val (.int (Int32.ofNat ms)), .val (.int (Int32.ofNat mp)), .val (.int q3), .val (.int (Int32.ofNat (ms + 1 + mp))), .val (.int q8), .val (.int q9), .val (.int q10), .val (.ref b15), .val (.ref b56), .val (.ref b56), .unset, .unset, .unset, .unset, .unset, .unset, .unset, .unset] [])) t_ → Steps p.tables e below (s₁.setTop (entryFrame m #[(.int layout), (.int shape), (.long lc)] maxLocals)) t_ := fun t_ k_ => s276 t_ (by
                show Steps p.tables e below (T269.setTop (mkF m 294 #[.val (.int layout), .val (.int shape), .val (.long lc), .second, .val (.int (Int32.ofNat ms)), .val (.int (Int32.ofNat mp)), .val (.int q3), .val (.int (Int32.ofNat (ms + 1 + mp))), .val (.int q8), .val (.int q9), .val (.int q10), .val (.ref b15), .val (.ref b56), .val (.ref b56), .unset, .unset, .unset, .unset, .unset, .unset, .unset, .unset] [(.int (13 : Int32)), (.int (Int32.ofNat (ms + 1 + mp)))])) t_
                refine XS.icmpNo X269.here hx rfl (Jvm.hb hby at_294) rfl (tlt h277).2.1 ?_
                show Steps p.tables e below (T269.setTop (mkF m 297 #[.val (.int layout), .val (.int shape), .val (.long lc), .second, .val (.int (Int32.ofNat ms)), .val (.int (Int32.ofNat mp)), .val (.int q3), .val (.int (Int32.ofNat (ms + 1 + mp))), .val (.int q8), .val (.int q9), .val (.int q10), .val (.ref b15), .val (.ref b56), .val (.ref b56), .unset, .unset, .unset, .unset, .unset, .unset, .unset, .unset] [])) _
                refine XS.aload X269.here hx rfl (Jvm.hb hby at_297) rfl rfl ?_
                refine XS.iload X269.here hx rfl (Jvm.hb hby at_299) rfl ?_
                refine XS.bipush X269.here hx rfl (Jvm.hb hby at_301) ?_
                refine st279 _ ?_
                show Steps p.tables e below (T279.setTop (mkF m 304 #[.val (.int layout), .val (.int shape), .val (.long lc), .second, .val (.int (Int32.ofNat ms)), .val (.int (Int32.ofNat mp)), .val (.int q3), .val (.int (Int32.ofNat (ms + 1 + mp))), .val (.int q8), .val (.int q9), .val (.int q10), .val (.ref b15), .val (.ref b56), .val (.ref b56), .unset, .unset, .unset, .unset, .unset, .unset, .unset, .unset] [])) _
                show Steps p.tables e below (T279.setTop (mkF m 304 #[.val (.int layout), .val (.int shape), .val (.long lc), .second, .val (.int (Int32.ofNat ms)), .val (.int (Int32.ofNat mp)), .val (.int q3), .val (.int (Int32.ofNat (ms + 1 + mp))), .val (.int q8), .val (.int q9), .val (.int q10), .val (.ref b15), .val (.ref b56), .val (.ref b56), .unset, .unset, .unset, .unset, .unset, .unset, .unset, .unset] [])) t_
                exact k_)
              exact ⟨T279, _, _, _, X279, e279, N279, ((((Keep.refl h95 [b15, b56]).wr W213 (Or.inl (by simp))).wr W269 (Or.inl (by simp))).wr W279 (Or.inl (by simp))), ⟨b56, k56, cs281, rfl, V279, len281, lat281, (by omega)⟩, s282⟩
            · have s283 : ∀ t_, Steps p.tables e below (T269.setTop (mkF m 304 #[.val (.int layout), .val (.int shape), .val (.long lc), .second, .val (.int (Int32.ofNat ms)), .val (.int (Int32.ofNat mp)), .val (.int q3), .val (.int (Int32.ofNat (ms + 1 + mp))), .val (.int q8), .val (.int q9), .val (.int q10), .val (.ref b15), .val (.ref b56), .val (.ref b56), .unset, .unset, .unset, .unset, .unset, .unset, .unset, .unset] [])) t_ → Steps p.tables e below (s₁.setTop (entryFrame m #[(.int layout), (.int shape), (.long lc)] maxLocals)) t_ := fun t_ k_ => s276 t_ (by
                show Steps p.tables e below (T269.setTop (mkF m 294 #[.val (.int layout), .val (.int shape), .val (.long lc), .second, .val (.int (Int32.ofNat ms)), .val (.int (Int32.ofNat mp)), .val (.int q3), .val (.int (Int32.ofNat (ms + 1 + mp))), .val (.int q8), .val (.int q9), .val (.int q10), .val (.ref b15), .val (.ref b56), .val (.ref b56), .unset, .unset, .unset, .unset, .unset, .unset, .unset, .unset] [(.int (13 : Int32)), (.int (Int32.ofNat (ms + 1 + mp)))])) t_
                refine XS.icmpYes X269.here hx rfl (pc0 := 294) (pc' := 304) rfl (Jvm.hb hby at_294) rfl (flt h277).2.1 (by decide) (by decide) ?_
                show Steps p.tables e below (T269.setTop (mkF m 304 #[.val (.int layout), .val (.int shape), .val (.long lc), .second, .val (.int (Int32.ofNat ms)), .val (.int (Int32.ofNat mp)), .val (.int q3), .val (.int (Int32.ofNat (ms + 1 + mp))), .val (.int q8), .val (.int q9), .val (.int q10), .val (.ref b15), .val (.ref b56), .val (.ref b56), .unset, .unset, .unset, .unset, .unset, .unset, .unset, .unset] [])) _
                show Steps p.tables e below (T269.setTop (mkF m 304 #[.val (.int layout), .val (.int shape), .val (.long lc), .second, .val (.int (Int32.ofNat ms)), .val (.int (Int32.ofNat mp)), .val (.int q3), .val (.int (Int32.ofNat (ms + 1 + mp))), .val (.int q8), .val (.int q9), .val (.int q10), .val (.ref b15), .val (.ref b56), .val (.ref b56), .unset, .unset, .unset, .unset, .unset, .unset, .unset, .unset] [])) t_
                exact k_)
              exact ⟨T269, _, _, _, X269, e269, N269, (((Keep.refl h95 [b15, b56]).wr W213 (Or.inl (by simp))).wr W269 (Or.inl (by simp))), ⟨b56, k56, cs271, rfl, V269, len271, lat271, (by omega)⟩, s283⟩
          · obtain ⟨cl284, Ar284, q284, S284, M284, H284, G284⟩ := id V269
            have hin284 : ¬ ((Int32.ofNat (ms + 3)) < 0 ∨ cl284.slots.size ≤ ((Int32.ofNat (ms + 3))).toNatClampNeg) := inb_of S284 (own_in (n := 13) (by omega) (by decide))
            obtain ⟨T285, h285, X285, e285, W285, st285⟩ := stC X269 hx hZ e269 Ar284 (j := (Int32.ofNat (ms + 3))) hin284 (g := (mkF m 289 #[.val (.int layout), .val (.int shape), .val (.long lc), .second, .val (.int (Int32.ofNat ms)), .val (.int (Int32.ofNat mp)), .val (.int q3), .val (.int (Int32.ofNat (ms + 1 + mp))), .val (.int q8), .val (.int q9), .val (.int q10), .val (.ref b15), .val (.ref b56), .val (.ref b56), .unset, .unset, .unset, .unset, .unset, .unset, .unset, .unset] [(.int q10), (.int (Int32.ofNat (ms + 3))), (.ref b56)])) rfl rfl (Jvm.hb hby at_289)
            have z286 : h269.size ≤ h285.size := Nat.le_of_eq W285.size.symm
            have Cp286 : CHr Z ELs s.vm h269 s.vm h285 := CHr.wr W285 (Safe.arv hZ.alike V269 (by decide)) CR.1
            have hk := Nat.le_trans hk z286
            have CR := CR.trans Cp286
            obtain ⟨cs287, hcs287⟩ : ∃ z : List Int32, z = List.set cs271 ((ms + 3)) q10 := ⟨_, rfl⟩
            have lat287 : own_lat cs287 := by rw [hcs287]; exact own_latset lat271 rg14.2
            have len287 : cs287.length = 13 := by rw [hcs287, List.length_set]; exact len271
            have V285 : Arv Z h285 b56 k56 .char (13 : Int32) (cs287.map Value.int) (.int (0 : Int32)) := by
              have q : Arv Z h285 b56 k56 .char (13 : Int32) (List.set (List.map Value.int cs271) ((ms + 3)) (.int (nar .char q10))) (.int (0 : Int32)) := Arv.set Ar284 q284 S284 M284 H284 G284 (fits_nar_char _) W285 ((ms + 3)) (own_tn (by omega)) (by first | (simp only [List.length_map]; omega) | (show _ < 13; omega))
              rw [show nar .char q10 = q10 from own_narc rg14.1 (own_le64k rg14.2)] at q
              rw [hcs287, List.map_set]
              exact q
            have N285 := Fr.snoc X285 N269 (show n0 ≤ b56 by omega)
            have s288 : ∀ t_, Steps p.tables e below (T285.setTop (mkF m 294 #[.val (.int layout), .val (.int shape), .val (.long lc), .second, .val (.int (Int32.ofNat ms)), .val (.int (Int32.ofNat mp)), .val (.int q3), .val (.int (Int32.ofNat (ms + 1 + mp))), .val (.int q8), .val (.int q9), .val (.int q10), .val (.ref b15), .val (.ref b56), .val (.ref b56), .unset, .unset, .unset, .unset, .unset, .unset, .unset, .unset] [(.int (13 : Int32)), (.int (Int32.ofNat (ms + 1 + mp)))])) t_ → Steps p.tables e below (s₁.setTop (entryFrame m #[(.int layout), (.int shape), (.long lc)] maxLocals)) t_ := fun t_ k_ => s274 t_ (by
              show Steps p.tables e below (T269.setTop (mkF m 278 #[.val (.int layout), .val (.int shape), .val (.long lc), .second, .val (.int (Int32.ofNat ms)), .val (.int (Int32.ofNat mp)), .val (.int q3), .val (.int (Int32.ofNat (ms + 1 + mp))), .val (.int q8), .val (.int q9), .val (.int q10), .val (.ref b15), .val (.ref b56), .val (.ref b56), .unset, .unset, .unset, .unset, .unset, .unset, .unset, .unset] [(.int (3 : Int32)), (.int (Int32.ofNat mp))])) t_
              refine XS.icmpNo X269.here hx rfl (Jvm.hb hby at_278) rfl (flt h275).1 ?_
              show Steps p.tables e below (T269.setTop (mkF m 281 #[.val (.int layout), .val (.int shape), .val (.long lc), .second, .val (.int (Int32.ofNat ms)), .val (.int (Int32.ofNat mp)), .val (.int q3), .val (.int (Int32.ofNat (ms + 1 + mp))), .val (.int q8), .val (.int q9), .val (.int q10), .val (.ref b15), .val (.ref b56), .val (.ref b56), .unset, .unset, .unset, .unset, .unset, .unset, .unset, .unset] [])) _
              refine XS.aload X269.here hx rfl (Jvm.hb hby at_281) rfl rfl ?_
              refine XS.iload X269.here hx rfl (Jvm.hb hby at_283) rfl ?_
              refine XS.iconst X269.here hx rfl (Jvm.hb hby at_285) ?_
              refine XS.iadd X269.here hx rfl (Jvm.hb hby at_286) rfl ?_
              show Steps p.tables e below (T269.setTop (mkF m 287 #[.val (.int layout), .val (.int shape), .val (.long lc), .second, .val (.int (Int32.ofNat ms)), .val (.int (Int32.ofNat mp)), .val (.int q3), .val (.int (Int32.ofNat (ms + 1 + mp))), .val (.int q8), .val (.int q9), .val (.int q10), .val (.ref b15), .val (.ref b56), .val (.ref b56), .unset, .unset, .unset, .unset, .unset, .unset, .unset, .unset] [(.int ((Int32.ofNat ms) + (3 : Int32))), (.ref b56)])) _
              refine castTop (g' := (mkF m 287 #[.val (.int layout), .val (.int shape), .val (.long lc), .second, .val (.int (Int32.ofNat ms)), .val (.int (Int32.ofNat mp)), .val (.int q3), .val (.int (Int32.ofNat (ms + 1 + mp))), .val (.int q8), .val (.int q9), .val (.int q10), .val (.ref b15), .val (.ref b56), .val (.ref b56), .unset, .unset, .unset, .unset, .unset, .unset, .unset, .unset] [(.int (Int32.ofNat (ms + 3))), (.ref b56)])) (by rw [show Int32.ofNat (ms + 3) = (Int32.ofNat ms) + (3 : Int32) from Int32.ofNat_add ms 3]) ?_
              show Steps p.tables e below (T269.setTop (mkF m 287 #[.val (.int layout), .val (.int shape), .val (.long lc), .second, .val (.int (Int32.ofNat ms)), .val (.int (Int32.ofNat mp)), .val (.int q3), .val (.int (Int32.ofNat (ms + 1 + mp))), .val (.int q8), .val (.int q9), .val (.int q10), .val (.ref b15), .val (.ref b56), .val (.ref b56), .unset, .unset, .unset, .unset, .unset, .unset, .unset, .unset] [(.int (Int32.ofNat (ms + 3))), (.ref b56)])) _
              refine XS.iload X269.here hx rfl (Jvm.hb hby at_287) rfl ?_
              refine st285 _ ?_
              show Steps p.tables e below (T285.setTop (mkF m 290 #[.val (.int layout), .val (.int shape), .val (.long lc), .second, .val (.int (Int32.ofNat ms)), .val (.int (Int32.ofNat mp)), .val (.int q3), .val (.int (Int32.ofNat (ms + 1 + mp))), .val (.int q8), .val (.int q9), .val (.int q10), .val (.ref b15), .val (.ref b56), .val (.ref b56), .unset, .unset, .unset, .unset, .unset, .unset, .unset, .unset] [])) _
              refine XS.iload X285.here hx rfl (Jvm.hb hby at_290) rfl ?_
              refine XS.bipush X285.here hx rfl (Jvm.hb hby at_292) ?_
              show Steps p.tables e below (T285.setTop (mkF m 294 #[.val (.int layout), .val (.int shape), .val (.long lc), .second, .val (.int (Int32.ofNat ms)), .val (.int (Int32.ofNat mp)), .val (.int q3), .val (.int (Int32.ofNat (ms + 1 + mp))), .val (.int q8), .val (.int q9), .val (.int q10), .val (.ref b15), .val (.ref b56), .val (.ref b56), .unset, .unset, .unset, .unset, .unset, .unset, .unset, .unset] [(.int (13 : Int32)), (.int (Int32.ofNat (ms + 1 + mp)))])) t_
              exact k_)
            by_cases h289 : (Int32.ofNat (ms + 1 + mp)) < (13 : Int32)
            · have hj13 : ms + 1 + mp < 13 := own_lt13 (by omega) h289
              obtain ⟨cl290, Ar290, q290, S290, M290, H290, G290⟩ := id V285
              have hin290 : ¬ ((Int32.ofNat (ms + 1 + mp)) < 0 ∨ cl290.slots.size ≤ ((Int32.ofNat (ms + 1 + mp))).toNatClampNeg) := inb_of S290 (own_in (n := 13) hj13 (by decide))
              obtain ⟨T291, h291, X291, e291, W291, st291⟩ := stC X285 hx hZ e285 Ar290 (j := (Int32.ofNat (ms + 1 + mp))) hin290 (g := (mkF m 303 #[.val (.int layout), .val (.int shape), .val (.long lc), .second, .val (.int (Int32.ofNat ms)), .val (.int (Int32.ofNat mp)), .val (.int q3), .val (.int (Int32.ofNat (ms + 1 + mp))), .val (.int q8), .val (.int q9), .val (.int q10), .val (.ref b15), .val (.ref b56), .val (.ref b56), .unset, .unset, .unset, .unset, .unset, .unset, .unset, .unset] [(.int (35 : Int32)), (.int (Int32.ofNat (ms + 1 + mp))), (.ref b56)])) rfl rfl (Jvm.hb hby at_303)
              have z292 : h285.size ≤ h291.size := Nat.le_of_eq W291.size.symm
              have Cp292 : CHr Z ELs s.vm h285 s.vm h291 := CHr.wr W291 (Safe.arv hZ.alike V285 (by decide)) CR.1
              have hk := Nat.le_trans hk z292
              have CR := CR.trans Cp292
              obtain ⟨cs293, hcs293⟩ : ∃ z : List Int32, z = List.set cs287 ((ms + 1 + mp)) (35 : Int32) := ⟨_, rfl⟩
              have lat293 : own_lat cs293 := by rw [hcs293]; exact own_latset lat287 (by decide)
              have len293 : cs293.length = 13 := by rw [hcs293, List.length_set]; exact len287
              have V291 : Arv Z h291 b56 k56 .char (13 : Int32) (cs293.map Value.int) (.int (0 : Int32)) := by
                have q : Arv Z h291 b56 k56 .char (13 : Int32) (List.set (List.map Value.int cs287) ((ms + 1 + mp)) (.int (nar .char (35 : Int32)))) (.int (0 : Int32)) := Arv.set Ar290 q290 S290 M290 H290 G290 (fits_nar_char _) W291 ((ms + 1 + mp)) (own_tn (by omega)) (by first | (simp only [List.length_map]; omega) | (show _ < 13; omega))
                rw [show nar .char (35 : Int32) = (35 : Int32) from rfl] at q
                rw [hcs293, List.map_set]
                exact q
              have N291 := Fr.snoc X291 N285 (show n0 ≤ b56 by omega)
              have s294 : ∀ t_, Steps p.tables e below (T291.setTop (mkF m 304 #[.val (.int layout), .val (.int shape), .val (.long lc), .second, .val (.int (Int32.ofNat ms)), .val (.int (Int32.ofNat mp)), .val (.int q3), .val (.int (Int32.ofNat (ms + 1 + mp))), .val (.int q8), .val (.int q9), .val (.int q10), .val (.ref b15), .val (.ref b56), .val (.ref b56), .unset, .unset, .unset, .unset, .unset, .unset, .unset, .unset] [])) t_ → Steps p.tables e below (s₁.setTop (entryFrame m #[(.int layout), (.int shape), (.long lc)] maxLocals)) t_ := fun t_ k_ => s288 t_ (by
                show Steps p.tables e below (T285.setTop (mkF m 294 #[.val (.int layout), .val (.int shape), .val (.long lc), .second, .val (.int (Int32.ofNat ms)), .val (.int (Int32.ofNat mp)), .val (.int q3), .val (.int (Int32.ofNat (ms + 1 + mp))), .val (.int q8), .val (.int q9), .val (.int q10), .val (.ref b15), .val (.ref b56), .val (.ref b56), .unset, .unset, .unset, .unset, .unset, .unset, .unset, .unset] [(.int (13 : Int32)), (.int (Int32.ofNat (ms + 1 + mp)))])) t_
                refine XS.icmpNo X285.here hx rfl (Jvm.hb hby at_294) rfl (tlt h289).2.1 ?_
                show Steps p.tables e below (T285.setTop (mkF m 297 #[.val (.int layout), .val (.int shape), .val (.long lc), .second, .val (.int (Int32.ofNat ms)), .val (.int (Int32.ofNat mp)), .val (.int q3), .val (.int (Int32.ofNat (ms + 1 + mp))), .val (.int q8), .val (.int q9), .val (.int q10), .val (.ref b15), .val (.ref b56), .val (.ref b56), .unset, .unset, .unset, .unset, .unset, .unset, .unset, .unset] [])) _
                refine XS.aload X285.here hx rfl (Jvm.hb hby at_297) rfl rfl ?_
                refine XS.iload X285.here hx rfl (Jvm.hb hby at_299) rfl ?_
                refine XS.bipush X285.here hx rfl (Jvm.hb hby at_301) ?_
                refine st291 _ ?_
                show Steps p.tables e below (T291.setTop (mkF m 304 #[.val (.int layout), .val (.int shape), .val (.long lc), .second, .val (.int (Int32.ofNat ms)), .val (.int (Int32.ofNat mp)), .val (.int q3), .val (.int (Int32.ofNat (ms + 1 + mp))), .val (.int q8), .val (.int q9), .val (.int q10), .val (.ref b15), .val (.ref b56), .val (.ref b56), .unset, .unset, .unset, .unset, .unset, .unset, .unset, .unset] [])) _
                show Steps p.tables e below (T291.setTop (mkF m 304 #[.val (.int layout), .val (.int shape), .val (.long lc), .second, .val (.int (Int32.ofNat ms)), .val (.int (Int32.ofNat mp)), .val (.int q3), .val (.int (Int32.ofNat (ms + 1 + mp))), .val (.int q8), .val (.int q9), .val (.int q10), .val (.ref b15), .val (.ref b56), .val (.ref b56), .unset, .unset, .unset, .unset, .unset, .unset, .unset, .unset] [])) t_
                exact k_)
              exact ⟨T291, _, _, _, X291, e291, N291, (((((Keep.refl h95 [b15, b56]).wr W213 (Or.inl (by simp))).wr W269 (Or.inl (by simp))).wr W285 (Or.inl (by simp))).wr W291 (Or.inl (by simp))), ⟨b56, k56, cs293, rfl, V291, len293, lat293, (by omega)⟩, s294⟩
            · have s295 : ∀ t_, Steps p.tables e below (T285.setTop (mkF m 304 #[.val (.int layout), .val (.int shape), .val (.long lc), .second, .val (.int (Int32.ofNat ms)), .val (.int (Int32.ofNat mp)), .val (.int q3), .val (.int (Int32.ofNat (ms + 1 + mp))), .val (.int q8), .val (.int q9), .val (.int q10), .val (.ref b15), .val (.ref b56), .val (.ref b56), .unset, .unset, .unset, .unset, .unset, .unset, .unset, .unset] [])) t_ → Steps p.tables e below (s₁.setTop (entryFrame m #[(.int layout), (.int shape), (.long lc)] maxLocals)) t_ := fun t_ k_ => s288 t_ (by
                show Steps p.tables e below (T285.setTop (mkF m 294 #[.val (.int layout), .val (.int shape), .val (.long lc), .second, .val (.int (Int32.ofNat ms)), .val (.int (Int32.ofNat mp)), .val (.int q3), .val (.int (Int32.ofNat (ms + 1 + mp))), .val (.int q8), .val (.int q9), .val (.int q10), .val (.ref b15), .val (.ref b56), .val (.ref b56), .unset, .unset, .unset, .unset, .unset, .unset, .unset, .unset] [(.int (13 : Int32)), (.int (Int32.ofNat (ms + 1 + mp)))])) t_
                refine XS.icmpYes X285.here hx rfl (pc0 := 294) (pc' := 304) rfl (Jvm.hb hby at_294) rfl (flt h289).2.1 (by decide) (by decide) ?_
                show Steps p.tables e below (T285.setTop (mkF m 304 #[.val (.int layout), .val (.int shape), .val (.long lc), .second, .val (.int (Int32.ofNat ms)), .val (.int (Int32.ofNat mp)), .val (.int q3), .val (.int (Int32.ofNat (ms + 1 + mp))), .val (.int q8), .val (.int q9), .val (.int q10), .val (.ref b15), .val (.ref b56), .val (.ref b56), .unset, .unset, .unset, .unset, .unset, .unset, .unset, .unset] [])) _
                show Steps p.tables e below (T285.setTop (mkF m 304 #[.val (.int layout), .val (.int shape), .val (.long lc), .second, .val (.int (Int32.ofNat ms)), .val (.int (Int32.ofNat mp)), .val (.int q3), .val (.int (Int32.ofNat (ms + 1 + mp))), .val (.int q8), .val (.int q9), .val (.int q10), .val (.ref b15), .val (.ref b56), .val (.ref b56), .unset, .unset, .unset, .unset, .unset, .unset, .unset, .unset] [])) t_
                exact k_)
              exact ⟨T285, _, _, _, X285, e285, N285, ((((Keep.refl h95 [b15, b56]).wr W213 (Or.inl (by simp))).wr W269 (Or.inl (by simp))).wr W285 (Or.inl (by simp))), ⟨b56, k56, cs287, rfl, V285, len287, lat287, (by omega)⟩, s295⟩
        · obtain ⟨cl296, Ar296, q296, S296, M296, H296, G296⟩ := id V269
          have hin296 : ¬ ((Int32.ofNat (ms + 2)) < 0 ∨ cl296.slots.size ≤ ((Int32.ofNat (ms + 2))).toNatClampNeg) := inb_of S296 (own_in (n := 13) (by omega) (by decide))
          obtain ⟨T297, h297, X297, e297, W297, st297⟩ := stC X269 hx hZ e269 Ar296 (j := (Int32.ofNat (ms + 2))) hin296 (g := (mkF m 274 #[.val (.int layout), .val (.int shape), .val (.long lc), .second, .val (.int (Int32.ofNat ms)), .val (.int (Int32.ofNat mp)), .val (.int q3), .val (.int (Int32.ofNat (ms + 1 + mp))), .val (.int q8), .val (.int q9), .val (.int q10), .val (.ref b15), .val (.ref b56), .val (.ref b56), .unset, .unset, .unset, .unset, .unset, .unset, .unset, .unset] [(.int q9), (.int (Int32.ofNat (ms + 2))), (.ref b56)])) rfl rfl (Jvm.hb hby at_274)
          have z298 : h269.size ≤ h297.size := Nat.le_of_eq W297.size.symm
          have Cp298 : CHr Z ELs s.vm h269 s.vm h297 := CHr.wr W297 (Safe.arv hZ.alike V269 (by decide)) CR.1
          have hk := Nat.le_trans hk z298
          have CR := CR.trans Cp298
          obtain ⟨cs299, hcs299⟩ : ∃ z : List Int32, z = List.set cs271 ((ms + 2)) q9 := ⟨_, rfl⟩
          have lat299 : own_lat cs299 := by rw [hcs299]; exact own_latset lat271 rg13.2
          have len299 : cs299.length = 13 := by rw [hcs299, List.length_set]; exact len271
          have V297 : Arv Z h297 b56 k56 .char (13 : Int32) (cs299.map Value.int) (.int (0 : Int32)) := by
            have q : Arv Z h297 b56 k56 .char (13 : Int32) (List.set (List.map Value.int cs271) ((ms + 2)) (.int (nar .char q9))) (.int (0 : Int32)) := Arv.set Ar296 q296 S296 M296 H296 G296 (fits_nar_char _) W297 ((ms + 2)) (own_tn (by omega)) (by first | (simp only [List.length_map]; omega) | (show _ < 13; omega))
            rw [show nar .char q9 = q9 from own_narc rg13.1 (own_le64k rg13.2)] at q
            rw [hcs299, List.map_set]
            exact q
          have N297 := Fr.snoc X297 N269 (show n0 ≤ b56 by omega)
          have s300 : ∀ t_, Steps p.tables e below (T297.setTop (mkF m 278 #[.val (.int layout), .val (.int shape), .val (.long lc), .second, .val (.int (Int32.ofNat ms)), .val (.int (Int32.ofNat mp)), .val (.int q3), .val (.int (Int32.ofNat (ms + 1 + mp))), .val (.int q8), .val (.int q9), .val (.int q10), .val (.ref b15), .val (.ref b56), .val (.ref b56), .unset, .unset, .unset, .unset, .unset, .unset, .unset, .unset] [(.int (3 : Int32)), (.int (Int32.ofNat mp))])) t_ → Steps p.tables e below (s₁.setTop (entryFrame m #[(.int layout), (.int shape), (.long lc)] maxLocals)) t_ := fun t_ k_ => s272 t_ (by
            show Steps p.tables e below (T269.setTop (mkF m 263 #[.val (.int layout), .val (.int shape), .val (.long lc), .second, .val (.int (Int32.ofNat ms)), .val (.int (Int32.ofNat mp)), .val (.int q3), .val (.int (Int32.ofNat (ms + 1 + mp))), .val (.int q8), .val (.int q9), .val (.int q10), .val (.ref b15), .val (.ref b56), .val (.ref b56), .unset, .unset, .unset, .unset, .unset, .unset, .unset, .unset] [(.int (2 : Int32)), (.int (Int32.ofNat mp))])) t_
            refine XS.icmpNo X269.here hx rfl (Jvm.hb hby at_263) rfl (flt h273).1 ?_
            show Steps p.tables e below (T269.setTop (mkF m 266 #[.val (.int layout), .val (.int shape), .val (.long lc), .second, .val (.int (Int32.ofNat ms)), .val (.int (Int32.ofNat mp)), .val (.int q3), .val (.int (Int32.ofNat (ms + 1 + mp))), .val (.int q8), .val (.int q9), .val (.int q10), .val (.ref b15), .val (.ref b56), .val (.ref b56), .unset, .unset, .unset, .unset, .unset, .unset, .unset, .unset] [])) _
            refine XS.aload X269.here hx rfl (Jvm.hb hby at_266) rfl rfl ?_
            refine XS.iload X269.here hx rfl (Jvm.hb hby at_268) rfl ?_
            refine XS.iconst X269.here hx rfl (Jvm.hb hby at_270) ?_
            refine XS.iadd X269.here hx rfl (Jvm.hb hby at_271) rfl ?_
            show Steps p.tables e below (T269.setTop (mkF m 272 #[.val (.int layout), .val (.int shape), .val (.long lc), .second, .val (.int (Int32.ofNat ms)), .val (.int (Int32.ofNat mp)), .val (.int q3), .val (.int (Int32.ofNat (ms + 1 + mp))), .val (.int q8), .val (.int q9), .val (.int q10), .val (.ref b15), .val (.ref b56), .val (.ref b56), .unset, .unset, .unset, .unset, .unset, .unset, .unset, .unset] [(.int ((Int32.ofNat ms) + (2 : Int32))), (.ref b56)])) _
            refine castTop (g' := (mkF m 272 #[.val (.int layout), .val (.int shape), .val (.long lc), .second, .val (.int (Int32.ofNat ms)), .val (.int (Int32.ofNat mp)), .val (.int q3), .val (.int (Int32.ofNat (ms + 1 + mp))), .val (.int q8), .val (.int q9), .val (.int q10), .val (.ref b15), .val (.ref b56), .val (.ref b56), .unset, .unset, .unset, .unset, .unset, .unset, .unset, .unset] [(.int (Int32.ofNat (ms + 2))), (.ref b56)])) (by rw [show Int32.ofNat (ms + 2) = (Int32.ofNat ms) + (2 : Int32) from Int32.ofNat_add ms 2]) ?_
            show Steps p.tables e below (T269.setTop (mkF m 272 #[.val (.int layout), .val (.int shape), .val (.long lc), .second, .val (.int (Int32.ofNat ms)), .val (.int (Int32.ofNat mp)), .val (.int q3), .val (.int (Int32.ofNat (ms + 1 + mp))), .val (.int q8), .val (.int q9), .val (.int q10), .val (.ref b15), .val (.ref b56), .val (.ref b56), .unset, .unset, .unset, .unset, .unset, .unset, .unset, .unset] [(.int (Int32.ofNat (ms + 2))), (.ref b56)])) _
            refine XS.iload X269.here hx rfl (Jvm.hb hby at_272) rfl ?_
            refine st297 _ ?_
            show Steps p.tables e below (T297.setTop (mkF m 275 #[.val (.int layout), .val (.int shape), .val (.long lc), .second, .val (.int (Int32.ofNat ms)), .val (.int (Int32.ofNat mp)), .val (.int q3), .val (.int (Int32.ofNat (ms + 1 + mp))), .val (.int q8), .val (.int q9), .val (.int q10), .val (.ref b15), .val (.ref b56), .val (.ref b56), .unset, .unset, .unset, .unset, .unset, .unset, .unset, .unset] [])) _
            refine XS.iload X297.here hx rfl (Jvm.hb hby at_275) rfl ?_
            refine XS.iconst X297.here hx rfl (Jvm.hb hby at_277) ?_
            show Steps p.tables e below (T297.setTop (mkF m 278 #[.val (.int layout), .val (.int shape), .val (.long lc), .second, .val (.int (Int32.ofNat ms)), .val (.int (Int32.ofNat mp)), .val (.int q3), .val (.int (Int32.ofNat (ms + 1 + mp))), .val (.int q8), .val (.int q9), .val (.int q10), .val (.ref b15), .val (.ref b56), .val (.ref b56), .unset, .unset, .unset, .unset, .unset, .unset, .unset, .unset] [(.int (3 : Int32)), (.int (Int32.ofNat mp))])) t_
            exact k_)
          by_cases h301 : (Int32.ofNat mp) < (3 : Int32)
          · have s302 : ∀ t_, Steps p.tables e below (T297.setTop (mkF m 294 #[.val (.int layout), .val (.int shape), .val (.long lc), .second, .val (.int (Int32.ofNat ms)), .val (.int (Int32.ofNat mp)), .val (.int q3), .val (.int (Int32.ofNat (ms + 1 + mp))), .val (.int q8), .val (.int q9), .val (.int q10), .val (.ref b15), .val (.ref b56), .val (.ref b56), .unset, .unset, .unset, .unset, .unset, .unset, .unset, .unset] [(.int (13 : Int32)), (.int (Int32.ofNat (ms + 1 + mp)))])) t_ → Steps p.tables e below (s₁.setTop (entryFrame m #[(.int layout), (.int shape), (.long lc)] maxLocals)) t_ := fun t_ k_ => s300 t_ (by
              show Steps p.tables e below (T297.setTop (mkF m 278 #[.val (.int layout), .val (.int shape), .val (.long lc), .second, .val (.int (Int32.ofNat ms)), .val (.int (Int32.ofNat mp)), .val (.int q3), .val (.int (Int32.ofNat (ms + 1 + mp))), .val (.int q8), .val (.int q9), .val (.int q10), .val (.ref b15), .val (.ref b56), .val (.ref b56), .unset, .unset, .unset, .unset, .unset, .unset, .unset, .unset] [(.int (3 : Int32)), (.int (Int32.ofNat mp))])) t_
              refine XS.icmpYes X297.here hx rfl (pc0 := 278) (pc' := 290) rfl (Jvm.hb hby at_278) rfl (tlt h301).1 (by decide) (by decide) ?_
              show Steps p.tables e below (T297.setTop (mkF m 290 #[.val (.int layout), .val (.int shape), .val (.long lc), .second, .val (.int (Int32.ofNat ms)), .val (.int (Int32.ofNat mp)), .val (.int q3), .val (.int (Int32.ofNat (ms + 1 + mp))), .val (.int q8), .val (.int q9), .val (.int q10), .val (.ref b15), .val (.ref b56), .val (.ref b56), .unset, .unset, .unset, .unset, .unset, .unset, .unset, .unset] [])) _
              refine XS.iload X297.here hx rfl (Jvm.hb hby at_290) rfl ?_
              refine XS.bipush X297.here hx rfl (Jvm.hb hby at_292) ?_
              show Steps p.tables e below (T297.setTop (mkF m 294 #[.val (.int layout), .val (.int shape), .val (.long lc), .second, .val (.int (Int32.ofNat ms)), .val (.int (Int32.ofNat mp)), .val (.int q3), .val (.int (Int32.ofNat (ms + 1 + mp))), .val (.int q8), .val (.int q9), .val (.int q10), .val (.ref b15), .val (.ref b56), .val (.ref b56), .unset, .unset, .unset, .unset, .unset, .unset, .unset, .unset] [(.int (13 : Int32)), (.int (Int32.ofNat (ms + 1 + mp)))])) t_
              exact k_)
            by_cases h303 : (Int32.ofNat (ms + 1 + mp)) < (13 : Int32)
            · have hj13 : ms + 1 + mp < 13 := own_lt13 (by omega) h303
              obtain ⟨cl304, Ar304, q304, S304, M304, H304, G304⟩ := id V297
              have hin304 : ¬ ((Int32.ofNat (ms + 1 + mp)) < 0 ∨ cl304.slots.size ≤ ((Int32.ofNat (ms + 1 + mp))).toNatClampNeg) := inb_of S304 (own_in (n := 13) hj13 (by decide))
              obtain ⟨T305, h305, X305, e305, W305, st305⟩ := stC X297 hx hZ e297 Ar304 (j := (Int32.ofNat (ms + 1 + mp))) hin304 (g := (mkF m 303 #[.val (.int layout), .val (.int shape), .val (.long lc), .second, .val (.int (Int32.ofNat ms)), .val (.int (Int32.ofNat mp)), .val (.int q3), .val (.int (Int32.ofNat (ms + 1 + mp))), .val (.int q8), .val (.int q9), .val (.int q10), .val (.ref b15), .val (.ref b56), .val (.ref b56), .unset, .unset, .unset, .unset, .unset, .unset, .unset, .unset] [(.int (35 : Int32)), (.int (Int32.ofNat (ms + 1 + mp))), (.ref b56)])) rfl rfl (Jvm.hb hby at_303)
              have z306 : h297.size ≤ h305.size := Nat.le_of_eq W305.size.symm
              have Cp306 : CHr Z ELs s.vm h297 s.vm h305 := CHr.wr W305 (Safe.arv hZ.alike V297 (by decide)) CR.1
              have hk := Nat.le_trans hk z306
              have CR := CR.trans Cp306
              obtain ⟨cs307, hcs307⟩ : ∃ z : List Int32, z = List.set cs299 ((ms + 1 + mp)) (35 : Int32) := ⟨_, rfl⟩
              have lat307 : own_lat cs307 := by rw [hcs307]; exact own_latset lat299 (by decide)
              have len307 : cs307.length = 13 := by rw [hcs307, List.length_set]; exact len299
              have V305 : Arv Z h305 b56 k56 .char (13 : Int32) (cs307.map Value.int) (.int (0 : Int32)) := by
                have q : Arv Z h305 b56 k56 .char (13 : Int32) (List.set (List.map Value.int cs299) ((ms + 1 + mp)) (.int (nar .char (35 : Int32)))) (.int (0 : Int32)) := Arv.set Ar304 q304 S304 M304 H304 G304 (fits_nar_char _) W305 ((ms + 1 + mp)) (own_tn (by omega)) (by first | (simp only [List.length_map]; omega) | (show _ < 13; omega))
                rw [show nar .char (35 : Int32) = (35 : Int32) from rfl] at q
                rw [hcs307, List.map_set]
                exact q
              have N305 := Fr.snoc X305 N297 (show n0 ≤ b56 by omega)
              have s308 : ∀ t_, Steps p.tables e below (T305.setTop (mkF m 304 #[.val (.int layout), .val (.int shape), .val (.long lc), .second, .val (.int (Int32.ofNat ms)), .val (.int (Int32.ofNat mp)), .val (.int q3), .val (.int (Int32.ofNat (ms + 1 + mp))), .val (.int q8), .val (.int q9), .val (.int q10), .val (.ref b15), .val (.ref b56), .val (.ref b56), .unset, .unset, .unset, .unset, .unset, .unset, .unset, .unset] [])) t_ → Steps p.tables e below (s₁.setTop (entryFrame m #[(.int layout), (.int shape), (.long lc)] maxLocals)) t_ := fun t_ k_ => s302 t_ (by
                show Steps p.tables e below (T297.setTop (mkF m 294 #[.val (.int layout), .val (.int shape), .val (.long lc), .second, .val (.int (Int32.ofNat ms)), .val (.int (Int32.ofNat mp)), .val (.int q3), .val (.int (Int32.ofNat (ms + 1 + mp))), .val (.int q8), .val (.int q9), .val (.int q10), .val (.ref b15), .val (.ref b56), .val (.ref b56), .unset, .unset, .unset, .unset, .unset, .unset, .unset, .unset] [(.int (13 : Int32)), (.int (Int32.ofNat (ms + 1 + mp)))])) t_
                refine XS.icmpNo X297.here hx rfl (Jvm.hb hby at_294) rfl (tlt h303).2.1 ?_
                show Steps p.tables e below (T297.setTop (mkF m 297 #[.val (.int layout), .val (.int shape), .val (.long lc), .second, .val (.int (Int32.ofNat ms)), .val (.int (Int32.ofNat mp)), .val (.int q3), .val (.int (Int32.ofNat (ms + 1 + mp))), .val (.int q8), .val (.int q9), .val (.int q10), .val (.ref b15), .val (.ref b56), .val (.ref b56), .unset, .unset, .unset, .unset, .unset, .unset, .unset, .unset] [])) _
                refine XS.aload X297.here hx rfl (Jvm.hb hby at_297) rfl rfl ?_
                refine XS.iload X297.here hx rfl (Jvm.hb hby at_299) rfl ?_
                refine XS.bipush X297.here hx rfl (Jvm.hb hby at_301) ?_
                refine st305 _ ?_
                show Steps p.tables e below (T305.setTop (mkF m 304 #[.val (.int layout), .val (.int shape), .val (.long lc), .second, .val (.int (Int32.ofNat ms)), .val (.int (Int32.ofNat mp)), .val (.int q3), .val (.int (Int32.ofNat (ms + 1 + mp))), .val (.int q8), .val (.int q9), .val (.int q10), .val (.ref b15), .val (.ref b56), .val (.ref b56), .unset, .unset, .unset, .unset, .unset, .unset, .unset, .unset] [])) _
                show Steps p.tables e below (T305.setTop (mkF m 304 #[.val (.int layout), .val (.int shape), .val (.long lc), .second, .val (.int (Int32.ofNat ms)), .val (.int (Int32.ofNat mp)), .val (.int q3), .val (.int (Int32.ofNat (ms + 1 + mp))), .val (.int q8), .val (.int q9), .val (.int q10), .val (.ref b15), .val (.ref b56), .val (.ref b56), .unset, .unset, .unset, .unset, .unset, .unset, .unset, .unset] [])) t_
                exact k_)
              exact ⟨T305, _, _, _, X305, e305, N305, (((((Keep.refl h95 [b15, b56]).wr W213 (Or.inl (by simp))).wr W269 (Or.inl (by simp))).wr W297 (Or.inl (by simp))).wr W305 (Or.inl (by simp))), ⟨b56, k56, cs307, rfl, V305, len307, lat307, (by omega)⟩, s308⟩
            · have s309 : ∀ t_, Steps p.tables e below (T297.setTop (mkF m 304 #[.val (.int layout), .val (.int shape), .val (.long lc), .second, .val (.int (Int32.ofNat ms)), .val (.int (Int32.ofNat mp)), .val (.int q3), .val (.int (Int32.ofNat (ms + 1 + mp))), .val (.int q8), .val (.int q9), .val (.int q10), .val (.ref b15), .val (.ref b56), .val (.ref b56), .unset, .unset, .unset, .unset, .unset, .unset, .unset, .unset] [])) t_ → Steps p.tables e below (s₁.setTop (entryFrame m #[(.int layout), (.int shape), (.long lc)] maxLocals)) t_ := fun t_ k_ => s302 t_ (by
                show Steps p.tables e below (T297.setTop (mkF m 294 #[.val (.int layout), .val (.int shape), .val (.long lc), .second, .val (.int (Int32.ofNat ms)), .val (.int (Int32.ofNat mp)), .val (.int q3), .val (.int (Int32.ofNat (ms + 1 + mp))), .val (.int q8), .val (.int q9), .val (.int q10), .val (.ref b15), .val (.ref b56), .val (.ref b56), .unset, .unset, .unset, .unset, .unset, .unset, .unset, .unset] [(.int (13 : Int32)), (.int (Int32.ofNat (ms + 1 + mp)))])) t_
                refine XS.icmpYes X297.here hx rfl (pc0 := 294) (pc' := 304) rfl (Jvm.hb hby at_294) rfl (flt h303).2.1 (by decide) (by decide) ?_
                show Steps p.tables e below (T297.setTop (mkF m 304 #[.val (.int layout), .val (.int shape), .val (.long lc), .second, .val (.int (Int32.ofNat ms)), .val (.int (Int32.ofNat mp)), .val (.int q3), .val (.int (Int32.ofNat (ms + 1 + mp))), .val (.int q8), .val (.int q9), .val (.int q10), .val (.ref b15), .val (.ref b56), .val (.ref b56), .unset, .unset, .unset, .unset, .unset, .unset, .unset, .unset] [])) _
                show Steps p.tables e below (T297.setTop (mkF m 304 #[.val (.int layout), .val (.int shape), .val (.long lc), .second, .val (.int (Int32.ofNat ms)), .val (.int (Int32.ofNat mp)), .val (.int q3), .val (.int (Int32.ofNat (ms + 1 + mp))), .val (.int q8), .val (.int q9), .val (.int q10), .val (.ref b15), .val (.ref b56), .val (.ref b56), .unset, .unset, .unset, .unset, .unset, .unset, .unset, .unset] [])) t_
                exact k_)
              exact ⟨T297, _, _, _, X297, e297, N297, ((((Keep.refl h95 [b15, b56]).wr W213 (Or.inl (by simp))).wr W269 (Or.inl (by simp))).wr W297 (Or.inl (by simp))), ⟨b56, k56, cs299, rfl, V297, len299, lat299, (by omega)⟩, s309⟩
          · obtain ⟨cl310, Ar310, q310, S310, M310, H310, G310⟩ := id V297
            have hin310 : ¬ ((Int32.ofNat (ms + 3)) < 0 ∨ cl310.slots.size ≤ ((Int32.ofNat (ms + 3))).toNatClampNeg) := inb_of S310 (own_in (n := 13) (by omega) (by decide))
            obtain ⟨T311, h311, X311, e311, W311, st311⟩ := stC X297 hx hZ e297 Ar310 (j := (Int32.ofNat (ms + 3))) hin310 (g := (mkF m 289 #[.val (.int layout), .val (.int shape), .val (.long lc), .second, .val (.int (Int32.ofNat ms)), .val (.int (Int32.ofNat mp)), .val (.int q3), .val (.int (Int32.ofNat (ms + 1 + mp))), .val (.int q8), .val (.int q9), .val (.int q10), .val (.ref b15), .val (.ref b56), .val (.ref b56), .unset, .unset, .unset, .unset, .unset, .unset, .unset, .unset] [(.int q10), (.int (Int32.ofNat (ms + 3))), (.ref b56)])) rfl rfl (Jvm.hb hby at_289)
            have z312 : h297.size ≤ h311.size := Nat.le_of_eq W311.size.symm
            have Cp312 : CHr Z ELs s.vm h297 s.vm h311 := CHr.wr W311 (Safe.arv hZ.alike V297 (by decide)) CR.1
            have hk := Nat.le_trans hk z312
            have CR := CR.trans Cp312
            obtain ⟨cs313, hcs313⟩ : ∃ z : List Int32, z = List.set cs299 ((ms + 3)) q10 := ⟨_, rfl⟩
            have lat313 : own_lat cs313 := by rw [hcs313]; exact own_latset lat299 rg14.2
            have len313 : cs313.length = 13 := by rw [hcs313, List.length_set]; exact len299
            have V311 : Arv Z h311 b56 k56 .char (13 : Int32) (cs313.map Value.int) (.int (0 : Int32)) := by
              have q : Arv Z h311 b56 k56 .char (13 : Int32) (List.set (List.map Value.int cs299) ((ms + 3)) (.int (nar .char q10))) (.int (0 : Int32)) := Arv.set Ar310 q310 S310 M310 H310 G310 (fits_nar_char _) W311 ((ms + 3)) (own_tn (by omega)) (by first | (simp only [List.length_map]; omega) | (show _ < 13; omega))
              rw [show nar .char q10 = q10 from own_narc rg14.1 (own_le64k rg14.2)] at q
              rw [hcs313, List.map_set]
              exact q
            have N311 := Fr.snoc X311 N297 (show n0 ≤ b56 by omega)
            have s314 : ∀ t_, Steps p.tables e below (T311.setTop (mkF m 294 #[.val (.int layout), .val (.int shape), .val (.long lc), .second, .val (.int (Int32.ofNat ms)), .val (.int (Int32.ofNat mp)), .val (.int q3), .val (.int (Int32.ofNat (ms + 1 + mp))), .val (.int q8), .val (.int q9), .val (.int q10), .val (.ref b15), .val (.ref b56), .val (.ref b56), .unset, .unset, .unset, .unset, .unset, .unset, .unset, .unset] [(.int (13 : Int32)), (.int (Int32.ofNat (ms + 1 + mp)))])) t_ → Steps p.tables e below (s₁.setTop (entryFrame m #[(.int layout), (.int shape), (.long lc)] maxLocals)) t_ := fun t_ k_ => s300 t_ (by
              show Steps p.tables e below (T297.setTop (mkF m 278 #[.val (.int layout), .val (.int shape), .val (.long lc), .second, .val (.int (Int32.ofNat ms)), .val (.int (Int32.ofNat mp)), .val (.int q3), .val (.int (Int32.ofNat (ms + 1 + mp))), .val (.int q8), .val (.int q9), .val (.int q10), .val (.ref b15), .val (.ref b56), .val (.ref b56), .unset, .unset, .unset, .unset, .unset, .unset, .unset, .unset] [(.int (3 : Int32)), (.int (Int32.ofNat mp))])) t_
              refine XS.icmpNo X297.here hx rfl (Jvm.hb hby at_278) rfl (flt h301).1 ?_
              show Steps p.tables e below (T297.setTop (mkF m 281 #[.val (.int layout), .val (.int shape), .val (.long lc), .second, .val (.int (Int32.ofNat ms)), .val (.int (Int32.ofNat mp)), .val (.int q3), .val (.int (Int32.ofNat (ms + 1 + mp))), .val (.int q8), .val (.int q9), .val (.int q10), .val (.ref b15), .val (.ref b56), .val (.ref b56), .unset, .unset, .unset, .unset, .unset, .unset, .unset, .unset] [])) _
              refine XS.aload X297.here hx rfl (Jvm.hb hby at_281) rfl rfl ?_
              refine XS.iload X297.here hx rfl (Jvm.hb hby at_283) rfl ?_
              refine XS.iconst X297.here hx rfl (Jvm.hb hby at_285) ?_
              refine XS.iadd X297.here hx rfl (Jvm.hb hby at_286) rfl ?_
              show Steps p.tables e below (T297.setTop (mkF m 287 #[.val (.int layout), .val (.int shape), .val (.long lc), .second, .val (.int (Int32.ofNat ms)), .val (.int (Int32.ofNat mp)), .val (.int q3), .val (.int (Int32.ofNat (ms + 1 + mp))), .val (.int q8), .val (.int q9), .val (.int q10), .val (.ref b15), .val (.ref b56), .val (.ref b56), .unset, .unset, .unset, .unset, .unset, .unset, .unset, .unset] [(.int ((Int32.ofNat ms) + (3 : Int32))), (.ref b56)])) _
              refine castTop (g' := (mkF m 287 #[.val (.int layout), .val (.int shape), .val (.long lc), .second, .val (.int (Int32.ofNat ms)), .val (.int (Int32.ofNat mp)), .val (.int q3), .val (.int (Int32.ofNat (ms + 1 + mp))), .val (.int q8), .val (.int q9), .val (.int q10), .val (.ref b15), .val (.ref b56), .val (.ref b56), .unset, .unset, .unset, .unset, .unset, .unset, .unset, .unset] [(.int (Int32.ofNat (ms + 3))), (.ref b56)])) (by rw [show Int32.ofNat (ms + 3) = (Int32.ofNat ms) + (3 : Int32) from Int32.ofNat_add ms 3]) ?_
              show Steps p.tables e below (T297.setTop (mkF m 287 #[.val (.int layout), .val (.int shape), .val (.long lc), .second, .val (.int (Int32.ofNat ms)), .val (.int (Int32.ofNat mp)), .val (.int q3), .val (.int (Int32.ofNat (ms + 1 + mp))), .val (.int q8), .val (.int q9), .val (.int q10), .val (.ref b15), .val (.ref b56), .val (.ref b56), .unset, .unset, .unset, .unset, .unset, .unset, .unset, .unset] [(.int (Int32.ofNat (ms + 3))), (.ref b56)])) _
              refine XS.iload X297.here hx rfl (Jvm.hb hby at_287) rfl ?_
              refine st311 _ ?_
              show Steps p.tables e below (T311.setTop (mkF m 290 #[.val (.int layout), .val (.int shape), .val (.long lc), .second, .val (.int (Int32.ofNat ms)), .val (.int (Int32.ofNat mp)), .val (.int q3), .val (.int (Int32.ofNat (ms + 1 + mp))), .val (.int q8), .val (.int q9), .val (.int q10), .val (.ref b15), .val (.ref b56), .val (.ref b56), .unset, .unset, .unset, .unset, .unset, .unset, .unset, .unset] [])) _
              refine XS.iload X311.here hx rfl (Jvm.hb hby at_290) rfl ?_
              refine XS.bipush X311.here hx rfl (Jvm.hb hby at_292) ?_
              show Steps p.tables e below (T311.setTop (mkF m 294 #[.val (.int layout), .val (.int shape), .val (.long lc), .second, .val (.int (Int32.ofNat ms)), .val (.int (Int32.ofNat mp)), .val (.int q3), .val (.int (Int32.ofNat (ms + 1 + mp))), .val (.int q8), .val (.int q9), .val (.int q10), .val (.ref b15), .val (.ref b56), .val (.ref b56), .unset, .unset, .unset, .unset, .unset, .unset, .unset, .unset] [(.int (13 : Int32)), (.int (Int32.ofNat (ms + 1 + mp)))])) t_
              exact k_)
            by_cases h315 : (Int32.ofNat (ms + 1 + mp)) < (13 : Int32)
            · have hj13 : ms + 1 + mp < 13 := own_lt13 (by omega) h315
              obtain ⟨cl316, Ar316, q316, S316, M316, H316, G316⟩ := id V311
              have hin316 : ¬ ((Int32.ofNat (ms + 1 + mp)) < 0 ∨ cl316.slots.size ≤ ((Int32.ofNat (ms + 1 + mp))).toNatClampNeg) := inb_of S316 (own_in (n := 13) hj13 (by decide))
              obtain ⟨T317, h317, X317, e317, W317, st317⟩ := stC X311 hx hZ e311 Ar316 (j := (Int32.ofNat (ms + 1 + mp))) hin316 (g := (mkF m 303 #[.val (.int layout), .val (.int shape), .val (.long lc), .second, .val (.int (Int32.ofNat ms)), .val (.int (Int32.ofNat mp)), .val (.int q3), .val (.int (Int32.ofNat (ms + 1 + mp))), .val (.int q8), .val (.int q9), .val (.int q10), .val (.ref b15), .val (.ref b56), .val (.ref b56), .unset, .unset, .unset, .unset, .unset, .unset, .unset, .unset] [(.int (35 : Int32)), (.int (Int32.ofNat (ms + 1 + mp))), (.ref b56)])) rfl rfl (Jvm.hb hby at_303)
              have z318 : h311.size ≤ h317.size := Nat.le_of_eq W317.size.symm
              have Cp318 : CHr Z ELs s.vm h311 s.vm h317 := CHr.wr W317 (Safe.arv hZ.alike V311 (by decide)) CR.1
              have hk := Nat.le_trans hk z318
              have CR := CR.trans Cp318
              obtain ⟨cs319, hcs319⟩ : ∃ z : List Int32, z = List.set cs313 ((ms + 1 + mp)) (35 : Int32) := ⟨_, rfl⟩
              have lat319 : own_lat cs319 := by rw [hcs319]; exact own_latset lat313 (by decide)
              have len319 : cs319.length = 13 := by rw [hcs319, List.length_set]; exact len313
              have V317 : Arv Z h317 b56 k56 .char (13 : Int32) (cs319.map Value.int) (.int (0 : Int32)) := by
                have q : Arv Z h317 b56 k56 .char (13 : Int32) (List.set (List.map Value.int cs313) ((ms + 1 + mp)) (.int (nar .char (35 : Int32)))) (.int (0 : Int32)) := Arv.set Ar316 q316 S316 M316 H316 G316 (fits_nar_char _) W317 ((ms + 1 + mp)) (own_tn (by omega)) (by first | (simp only [List.length_map]; omega) | (show _ < 13; omega))
                rw [show nar .char (35 : Int32) = (35 : Int32) from rfl] at q
                rw [hcs319, List.map_set]
                exact q
              have N317 := Fr.snoc X317 N311 (show n0 ≤ b56 by omega)
              have s320 : ∀ t_, Steps p.tables e below (T317.setTop (mkF m 304 #[.val (.int layout), .val (.int shape), .val (.long lc), .second, .val (.int (Int32.ofNat ms)), .val (.int (Int32.ofNat mp)), .val (.int q3), .val (.int (Int32.ofNat (ms + 1 + mp))), .val (.int q8), .val (.int q9), .val (.int q10), .val (.ref b15), .val (.ref b56), .val (.ref b56), .unset, .unset, .unset, .unset, .unset, .unset, .unset, .unset] [])) t_ → Steps p.tables e below (s₁.setTop (entryFrame m #[(.int layout), (.int shape), (.long lc)] maxLocals)) t_ := fun t_ k_ => s314 t_ (by
                show Steps p.tables e below (T311.setTop (mkF m 294 #[.val (.int layout), .val (.int shape), .val (.long lc), .second, .val (.int (Int32.ofNat ms)), .val (.int (Int32.ofNat mp)), .val (.int q3), .val (.int (Int32.ofNat (ms + 1 + mp))), .val (.int q8), .val (.int q9), .val (.int q10), .val (.ref b15), .val (.ref b56), .val (.ref b56), .unset, .unset, .unset, .unset, .unset, .unset, .unset, .unset] [(.int (13 : Int32)), (.int (Int32.ofNat (ms + 1 + mp)))])) t_
                refine XS.icmpNo X311.here hx rfl (Jvm.hb hby at_294) rfl (tlt h315).2.1 ?_
                show Steps p.tables e below (T311.setTop (mkF m 297 #[.val (.int layout), .val (.int shape), .val (.long lc), .second, .val (.int (Int32.ofNat ms)), .val (.int (Int32.ofNat mp)), .val (.int q3), .val (.int (Int32.ofNat (ms + 1 + mp))), .val (.int q8), .val (.int q9), .val (.int q10), .val (.ref b15), .val (.ref b56), .val (.ref b56), .unset, .unset, .unset, .unset, .unset, .unset, .unset, .unset] [])) _
                refine XS.aload X311.here hx rfl (Jvm.hb hby at_297) rfl rfl ?_
                refine XS.iload X311.here hx rfl (Jvm.hb hby at_299) rfl ?_
                refine XS.bipush X311.here hx rfl (Jvm.hb hby at_301) ?_
                refine st317 _ ?_
                show Steps p.tables e below (T317.setTop (mkF m 304 #[.val (.int layout), .val (.int shape), .val (.long lc), .second, .val (.int (Int32.ofNat ms)), .val (.int (Int32.ofNat mp)), .val (.int q3), .val (.int (Int32.ofNat (ms + 1 + mp))), .val (.int q8), .val (.int q9), .val (.int q10), .val (.ref b15), .val (.ref b56), .val (.ref b56), .unset, .unset, .unset, .unset, .unset, .unset, .unset, .unset] [])) _
                show Steps p.tables e below (T317.setTop (mkF m 304 #[.val (.int layout), .val (.int shape), .val (.long lc), .second, .val (.int (Int32.ofNat ms)), .val (.int (Int32.ofNat mp)), .val (.int q3), .val (.int (Int32.ofNat (ms + 1 + mp))), .val (.int q8), .val (.int q9), .val (.int q10), .val (.ref b15), .val (.ref b56), .val (.ref b56), .unset, .unset, .unset, .unset, .unset, .unset, .unset, .unset] [])) t_
                exact k_)
              exact ⟨T317, _, _, _, X317, e317, N317, ((((((Keep.refl h95 [b15, b56]).wr W213 (Or.inl (by simp))).wr W269 (Or.inl (by simp))).wr W297 (Or.inl (by simp))).wr W311 (Or.inl (by simp))).wr W317 (Or.inl (by simp))), ⟨b56, k56, cs319, rfl, V317, len319, lat319, (by omega)⟩, s320⟩
            · have s321 : ∀ t_, Steps p.tables e below (T311.setTop (mkF m 304 #[.val (.int layout), .val (.int shape), .val (.long lc), .second, .val (.int (Int32.ofNat ms)), .val (.int (Int32.ofNat mp)), .val (.int q3), .val (.int (Int32.ofNat (ms + 1 + mp))), .val (.int q8), .val (.int q9), .val (.int q10), .val (.ref b15), .val (.ref b56), .val (.ref b56), .unset, .unset, .unset, .unset, .unset, .unset, .unset, .unset] [])) t_ → Steps p.tables e below (s₁.setTop (entryFrame m #[(.int layout), (.int shape), (.long lc)] maxLocals)) t_ := fun t_ k_ => s314 t_ (by
                show Steps p.tables e below (T311.setTop (mkF m 294 #[.val (.int layout), .val (.int shape), .val (.long lc), .second, .val (.int (Int32.ofNat ms)), .val (.int (Int32.ofNat mp)), .val (.int q3), .val (.int (Int32.ofNat (ms + 1 + mp))), .val (.int q8), .val (.int q9), .val (.int q10), .val (.ref b15), .val (.ref b56), .val (.ref b56), .unset, .unset, .unset, .unset, .unset, .unset, .unset, .unset] [(.int (13 : Int32)), (.int (Int32.ofNat (ms + 1 + mp)))])) t_
                refine XS.icmpYes X311.here hx rfl (pc0 := 294) (pc' := 304) rfl (Jvm.hb hby at_294) rfl (flt h315).2.1 (by decide) (by decide) ?_
                show Steps p.tables e below (T311.setTop (mkF m 304 #[.val (.int layout), .val (.int shape), .val (.long lc), .second, .val (.int (Int32.ofNat ms)), .val (.int (Int32.ofNat mp)), .val (.int q3), .val (.int (Int32.ofNat (ms + 1 + mp))), .val (.int q8), .val (.int q9), .val (.int q10), .val (.ref b15), .val (.ref b56), .val (.ref b56), .unset, .unset, .unset, .unset, .unset, .unset, .unset, .unset] [])) _
                show Steps p.tables e below (T311.setTop (mkF m 304 #[.val (.int layout), .val (.int shape), .val (.long lc), .second, .val (.int (Int32.ofNat ms)), .val (.int (Int32.ofNat mp)), .val (.int q3), .val (.int (Int32.ofNat (ms + 1 + mp))), .val (.int q8), .val (.int q9), .val (.int q10), .val (.ref b15), .val (.ref b56), .val (.ref b56), .unset, .unset, .unset, .unset, .unset, .unset, .unset, .unset] [])) t_
                exact k_)
              exact ⟨T311, _, _, _, X311, e311, N311, (((((Keep.refl h95 [b15, b56]).wr W213 (Or.inl (by simp))).wr W269 (Or.inl (by simp))).wr W297 (Or.inl (by simp))).wr W311 (Or.inl (by simp))), ⟨b56, k56, cs313, rfl, V311, len313, lat313, (by omega)⟩, s321⟩
  obtain ⟨T322, lo322, h322, fe322, X322, e322, N322, K322, A322, st322⟩ := bk98
  have f324 : Arv Z h95 b15 k15 .char (13 : Int32) [(.int (97 : Int32)), (.int (58 : Int32)), (.int (47 : Int32)), (.int (47 : Int32)), (.int (104 : Int32)), (.int (104 : Int32)), (.int (104 : Int32)), (.int (104 : Int32)), (.int (104 : Int32)), (.int (104 : Int32)), (.int (104 : Int32)), (.int (104 : Int32)), (.int (104 : Int32))] (.int (0 : Int32)) := ((((((((((((((V54.ext E56).other W59 (show @Ne Nat b15 b56 by omega)).other W62 (show @Ne Nat b15 b56 by omega)).other W65 (show @Ne Nat b15 b56 by omega)).other W68 (show @Ne Nat b15 b56 by omega)).other W71 (show @Ne Nat b15 b56 by omega)).other W74 (show @Ne Nat b15 b56 by omega)).other W77 (show @Ne Nat b15 b56 by omega)).other W80 (show @Ne Nat b15 b56 by omega)).other W83 (show @Ne Nat b15 b56 by omega)).other W86 (show @Ne Nat b15 b56 by omega)).other W89 (show @Ne Nat b15 b56 by omega)).other W92 (show @Ne Nat b15 b56 by omega)).other W95 (show @Ne Nat b15 b56 by omega))
  have z323 : h95.size ≤ h322.size := K322.1
  have Cp323 : CHr Z ELs s.vm h95 s.vm h322 := CHr.keep K322 (sfS (Safe.arv hZ.alike f324 (by decide)) (sfS (Safe.arv hZ.alike V95 (by decide)) sf0)) CR.1
  have hk := Nat.le_trans hk z323
  have CR := CR.trans Cp323
  obtain ⟨tE_322, kE_322, csE_322, rfl, G322_0, J322_0, J322_1, J322_2⟩ := A322
  have s325 : ∀ t_, Steps p.tables e below (T322.setTop (mkF m 304 #[.val (.int layout), .val (.int shape), .val (.long lc), .second, .val (.int (Int32.ofNat ms)), .val (.int (Int32.ofNat mp)), .val (.int q3), .val (.int (Int32.ofNat (ms + 1 + mp))), .val (.int q8), .val (.int q9), .val (.int q10), .val (.ref b15), .val (.ref b56), .val (.ref tE_322), .unset, .unset, .unset, .unset, .unset, .unset, .unset, .unset] [])) t_ → Steps p.tables e below (s₁.setTop (entryFrame m #[(.int layout), (.int shape), (.long lc)] maxLocals)) t_ := st322
  have lt322_0 : @LT.lt Nat _ tE_322 h322.size := G322_0.lt
  obtain ⟨T326, h326, k326, X326, e326, E326, A326, st326⟩ := newP X322 hx hZ (hw _ (List.mem_of_getElem? (i := 1) rfl)) e322 (g := (mkF m 305 #[.val (.int layout), .val (.int shape), .val (.long lc), .second, .val (.int (Int32.ofNat ms)), .val (.int (Int32.ofNat mp)), .val (.int q3), .val (.int (Int32.ofNat (ms + 1 + mp))), .val (.int q8), .val (.int q9), .val (.int q10), .val (.ref b15), .val (.ref b56), .val (.ref tE_322), .unset, .unset, .unset, .unset, .unset, .unset, .unset, .unset] [(.int (0 : Int32))])) rfl (Jvm.hb hby at_305) rfl (by decide) (cap := 0) (by decide) (by decide) (by decide) (by decide)
  obtain ⟨b326, g326⟩ : ∃ z, z = h322.size := ⟨_, rfl⟩
  rw [← g326] at A326 st326
  have z327 : h322.size ≤ h326.size := E326.1
  have Cp327 : CHr Z ELs s.vm h322 s.vm h326 := CHr.ext E326 CR.1
  have hk := Nat.le_trans hk z327
  have CR := CR.trans Cp327
  have l326 : b326 < h326.size := A326.lt
  have V326 : Arv Z h326 b326 k326 .char (0 : Int32) [] (.int (0 : Int32)) := (Arv.new A326 (by decide)).pad (pad_rep [] (.int (0 : Int32)) 0)
  obtain ⟨T328, h328, k328, X328, e328, E328, A328, st328⟩ := newP X326 hx hZ (hw _ (List.mem_of_getElem? (i := 1) rfl)) e326 (g := (mkF m 310 #[.val (.int layout), .val (.int shape), .val (.long lc), .second, .val (.int (Int32.ofNat ms)), .val (.int (Int32.ofNat mp)), .val (.int q3), .val (.int (Int32.ofNat (ms + 1 + mp))), .val (.int q8), .val (.int q9), .val (.int q10), .val (.ref b15), .val (.ref b56), .val (.ref tE_322), .val (.ref b326), .unset, .unset, .unset, .unset, .unset, .unset, .unset] [(.int (1 : Int32))])) rfl (Jvm.hb hby at_310) rfl (by decide) (cap := 1) (by decide) (by decide) (by decide) (by decide)
  obtain ⟨b328, g328⟩ : ∃ z, z = h326.size := ⟨_, rfl⟩
  rw [← g328] at A328 st328
  have z329 : h326.size ≤ h328.size := E328.1
  have Cp329 : CHr Z ELs s.vm h326 s.vm h328 := CHr.ext E328 CR.1
  have hk := Nat.le_trans hk z329
  have CR := CR.trans Cp329
  have l328 : b328 < h328.size := A328.lt
  have V328 : Arv Z h328 b328 k328 .char (1 : Int32) [(.int (0 : Int32))] (.int (0 : Int32)) := (Arv.new A328 (by decide)).pad (pad_rep [] (.int (0 : Int32)) 1)
  obtain ⟨cl330, Ar330, q330, S330, M330, H330, G330⟩ := id V328
  have hin330 : ¬ ((0 : Int32) < 0 ∨ cl330.slots.size ≤ ((0 : Int32)).toNatClampNeg) := inb_of S330 ⟨by decide, by decide⟩
  obtain ⟨T331, h331, X331, e331, W331, st331⟩ := stC X328 hx hZ e328 Ar330 (j := (0 : Int32)) hin330 (g := (mkF m 316 #[.val (.int layout), .val (.int shape), .val (.long lc), .second, .val (.int (Int32.ofNat ms)), .val (.int (Int32.ofNat mp)), .val (.int q3), .val (.int (Int32.ofNat (ms + 1 + mp))), .val (.int q8), .val (.int q9), .val (.int q10), .val (.ref b15), .val (.ref b56), .val (.ref tE_322), .val (.ref b326), .unset, .unset, .unset, .unset, .unset, .unset, .unset] [(.int q8), (.int (0 : Int32)), (.ref b328), (.ref b328)])) rfl rfl (Jvm.hb hby at_316)
  have z332 : h328.size ≤ h331.size := Nat.le_of_eq W331.size.symm
  have Cp332 : CHr Z ELs s.vm h328 s.vm h331 := CHr.wr W331 (Safe.arv hZ.alike V328 (by decide)) CR.1
  have hk := Nat.le_trans hk z332
  have CR := CR.trans Cp332
  have V331 : Arv Z h331 b328 k328 .char (1 : Int32) [(.int q8)] (.int (0 : Int32)) := by have q : Arv Z h331 b328 k328 .char (1 : Int32) [(.int (nar .char q8))] (.int (0 : Int32)) := Arv.set Ar330 q330 S330 M330 H330 G330 (fits_nar_char _) W331 0 rfl (Nat.le_of_ble_eq_true rfl); rw [show nar .char q8 = q8 from own_narc rh12.1 rh12.2] at q; exact q
  have N331 := Fr.snoc X331 N322 (show n0 ≤ b328 by omega)
  obtain ⟨T333, h333, k333, X333, e333, E333, A333, st333⟩ := newP X331 hx hZ (hw _ (List.mem_of_getElem? (i := 1) rfl)) e331 (g := (mkF m 320 #[.val (.int layout), .val (.int shape), .val (.long lc), .second, .val (.int (Int32.ofNat ms)), .val (.int (Int32.ofNat mp)), .val (.int q3), .val (.int (Int32.ofNat (ms + 1 + mp))), .val (.int q8), .val (.int q9), .val (.int q10), .val (.ref b15), .val (.ref b56), .val (.ref tE_322), .val (.ref b326), .val (.ref b328), .unset, .unset, .unset, .unset, .unset, .unset] [(.int (2 : Int32))])) rfl (Jvm.hb hby at_320) rfl (by decide) (cap := 2) (by decide) (by decide) (by decide) (by decide)
  obtain ⟨b333, g333⟩ : ∃ z, z = h331.size := ⟨_, rfl⟩
  rw [← g333] at A333 st333
  have z334 : h331.size ≤ h333.size := E333.1
  have Cp334 : CHr Z ELs s.vm h331 s.vm h333 := CHr.ext E333 CR.1
  have hk := Nat.le_trans hk z334
  have CR := CR.trans Cp334
  have l333 : b333 < h333.size := A333.lt
  have V333 : Arv Z h333 b333 k333 .char (2 : Int32) [(.int (0 : Int32)), (.int (0 : Int32))] (.int (0 : Int32)) := (Arv.new A333 (by decide)).pad (pad_rep [] (.int (0 : Int32)) 2)
  obtain ⟨cl335, Ar335, q335, S335, M335, H335, G335⟩ := id V333
  have hin335 : ¬ ((0 : Int32) < 0 ∨ cl335.slots.size ≤ ((0 : Int32)).toNatClampNeg) := inb_of S335 ⟨by decide, by decide⟩
  obtain ⟨T336, h336, X336, e336, W336, st336⟩ := stC X333 hx hZ e333 Ar335 (j := (0 : Int32)) hin335 (g := (mkF m 326 #[.val (.int layout), .val (.int shape), .val (.long lc), .second, .val (.int (Int32.ofNat ms)), .val (.int (Int32.ofNat mp)), .val (.int q3), .val (.int (Int32.ofNat (ms + 1 + mp))), .val (.int q8), .val (.int q9), .val (.int q10), .val (.ref b15), .val (.ref b56), .val (.ref tE_322), .val (.ref b326), .val (.ref b328), .unset, .unset, .unset, .unset, .unset, .unset] [(.int q8), (.int (0 : Int32)), (.ref b333), (.ref b333)])) rfl rfl (Jvm.hb hby at_326)
  have z337 : h333.size ≤ h336.size := Nat.le_of_eq W336.size.symm
  have Cp337 : CHr Z ELs s.vm h333 s.vm h336 := CHr.wr W336 (Safe.arv hZ.alike V333 (by decide)) CR.1
  have hk := Nat.le_trans hk z337
  have CR := CR.trans Cp337
  have V336 : Arv Z h336 b333 k333 .char (2 : Int32) [(.int q8), (.int (0 : Int32))] (.int (0 : Int32)) := by have q : Arv Z h336 b333 k333 .char (2 : Int32) [(.int (nar .char q8)), (.int (0 : Int32))] (.int (0 : Int32)) := Arv.set Ar335 q335 S335 M335 H335 G335 (fits_nar_char _) W336 0 rfl (Nat.le_of_ble_eq_true rfl); rw [show nar .char q8 = q8 from own_narc rh12.1 rh12.2] at q; exact q
  have N336 := Fr.snoc X336 N331 (show n0 ≤ b333 by omega)
  obtain ⟨cl338, Ar338, q338, S338, M338, H338, G338⟩ := id V336
  have hin338 : ¬ ((1 : Int32) < 0 ∨ cl338.slots.size ≤ ((1 : Int32)).toNatClampNeg) := inb_of S338 ⟨by decide, by decide⟩
  obtain ⟨T339, h339, X339, e339, W339, st339⟩ := stC X336 hx hZ e336 Ar338 (j := (1 : Int32)) hin338 (g := (mkF m 331 #[.val (.int layout), .val (.int shape), .val (.long lc), .second, .val (.int (Int32.ofNat ms)), .val (.int (Int32.ofNat mp)), .val (.int q3), .val (.int (Int32.ofNat (ms + 1 + mp))), .val (.int q8), .val (.int q9), .val (.int q10), .val (.ref b15), .val (.ref b56), .val (.ref tE_322), .val (.ref b326), .val (.ref b328), .unset, .unset, .unset, .unset, .unset, .unset] [(.int q9), (.int (1 : Int32)), (.ref b333), (.ref b333)])) rfl rfl (Jvm.hb hby at_331)
  have z340 : h336.size ≤ h339.size := Nat.le_of_eq W339.size.symm
  have Cp340 : CHr Z ELs s.vm h336 s.vm h339 := CHr.wr W339 (Safe.arv hZ.alike V336 (by decide)) CR.1
  have hk := Nat.le_trans hk z340
  have CR := CR.trans Cp340
  have V339 : Arv Z h339 b333 k333 .char (2 : Int32) [(.int q8), (.int q9)] (.int (0 : Int32)) := by have q : Arv Z h339 b333 k333 .char (2 : Int32) [(.int q8), (.int (nar .char q9))] (.int (0 : Int32)) := Arv.set Ar338 q338 S338 M338 H338 G338 (fits_nar_char _) W339 1 rfl (Nat.le_of_ble_eq_true rfl); rw [show nar .char q9 = q9 from own_narc rh13.1 rh13.2] at q; exact q
  have N339 := Fr.snoc X339 N336 (show n0 ≤ b333 by omega)
  obtain ⟨T341, h341, k341, X341, e341, E341, A341, st341⟩ := newP X339 hx hZ (hw _ (List.mem_of_getElem? (i := 1) rfl)) e339 (g := (mkF m 335 #[.val (.int layout), .val (.int shape), .val (.long lc), .second, .val (.int (Int32.ofNat ms)), .val (.int (Int32.ofNat mp)), .val (.int q3), .val (.int (Int32.ofNat (ms + 1 + mp))), .val (.int q8), .val (.int q9), .val (.int q10), .val (.ref b15), .val (.ref b56), .val (.ref tE_322), .val (.ref b326), .val (.ref b328), .val (.ref b333), .unset, .unset, .unset, .unset, .unset] [(.int (3 : Int32))])) rfl (Jvm.hb hby at_335) rfl (by decide) (cap := 3) (by decide) (by decide) (by decide) (by decide)
  obtain ⟨b341, g341⟩ : ∃ z, z = h339.size := ⟨_, rfl⟩
  rw [← g341] at A341 st341
  have z342 : h339.size ≤ h341.size := E341.1
  have Cp342 : CHr Z ELs s.vm h339 s.vm h341 := CHr.ext E341 CR.1
  have hk := Nat.le_trans hk z342
  have CR := CR.trans Cp342
  have l341 : b341 < h341.size := A341.lt
  have V341 : Arv Z h341 b341 k341 .char (3 : Int32) [(.int (0 : Int32)), (.int (0 : Int32)), (.int (0 : Int32))] (.int (0 : Int32)) := (Arv.new A341 (by decide)).pad (pad_rep [] (.int (0 : Int32)) 3)
  obtain ⟨cl343, Ar343, q343, S343, M343, H343, G343⟩ := id V341
  have hin343 : ¬ ((0 : Int32) < 0 ∨ cl343.slots.size ≤ ((0 : Int32)).toNatClampNeg) := inb_of S343 ⟨by decide, by decide⟩
  obtain ⟨T344, h344, X344, e344, W344, st344⟩ := stC X341 hx hZ e341 Ar343 (j := (0 : Int32)) hin343 (g := (mkF m 341 #[.val (.int layout), .val (.int shape), .val (.long lc), .second, .val (.int (Int32.ofNat ms)), .val (.int (Int32.ofNat mp)), .val (.int q3), .val (.int (Int32.ofNat (ms + 1 + mp))), .val (.int q8), .val (.int q9), .val (.int q10), .val (.ref b15), .val (.ref b56), .val (.ref tE_322), .val (.ref b326), .val (.ref b328), .val (.ref b333), .unset, .unset, .unset, .unset, .unset] [(.int q8), (.int (0 : Int32)), (.ref b341), (.ref b341)])) rfl rfl (Jvm.hb hby at_341)
  have z345 : h341.size ≤ h344.size := Nat.le_of_eq W344.size.symm
  have Cp345 : CHr Z ELs s.vm h341 s.vm h344 := CHr.wr W344 (Safe.arv hZ.alike V341 (by decide)) CR.1
  have hk := Nat.le_trans hk z345
  have CR := CR.trans Cp345
  have V344 : Arv Z h344 b341 k341 .char (3 : Int32) [(.int q8), (.int (0 : Int32)), (.int (0 : Int32))] (.int (0 : Int32)) := by have q : Arv Z h344 b341 k341 .char (3 : Int32) [(.int (nar .char q8)), (.int (0 : Int32)), (.int (0 : Int32))] (.int (0 : Int32)) := Arv.set Ar343 q343 S343 M343 H343 G343 (fits_nar_char _) W344 0 rfl (Nat.le_of_ble_eq_true rfl); rw [show nar .char q8 = q8 from own_narc rh12.1 rh12.2] at q; exact q
  have N344 := Fr.snoc X344 N339 (show n0 ≤ b341 by omega)
  obtain ⟨cl346, Ar346, q346, S346, M346, H346, G346⟩ := id V344
  have hin346 : ¬ ((1 : Int32) < 0 ∨ cl346.slots.size ≤ ((1 : Int32)).toNatClampNeg) := inb_of S346 ⟨by decide, by decide⟩
  obtain ⟨T347, h347, X347, e347, W347, st347⟩ := stC X344 hx hZ e344 Ar346 (j := (1 : Int32)) hin346 (g := (mkF m 346 #[.val (.int layout), .val (.int shape), .val (.long lc), .second, .val (.int (Int32.ofNat ms)), .val (.int (Int32.ofNat mp)), .val (.int q3), .val (.int (Int32.ofNat (ms + 1 + mp))), .val (.int q8), .val (.int q9), .val (.int q10), .val (.ref b15), .val (.ref b56), .val (.ref tE_322), .val (.ref b326), .val (.ref b328), .val (.ref b333), .unset, .unset, .unset, .unset, .unset] [(.int q9), (.int (1 : Int32)), (.ref b341), (.ref b341)])) rfl rfl (Jvm.hb hby at_346)
  have z348 : h344.size ≤ h347.size := Nat.le_of_eq W347.size.symm
  have Cp348 : CHr Z ELs s.vm h344 s.vm h347 := CHr.wr W347 (Safe.arv hZ.alike V344 (by decide)) CR.1
  have hk := Nat.le_trans hk z348
  have CR := CR.trans Cp348
  have V347 : Arv Z h347 b341 k341 .char (3 : Int32) [(.int q8), (.int q9), (.int (0 : Int32))] (.int (0 : Int32)) := by have q : Arv Z h347 b341 k341 .char (3 : Int32) [(.int q8), (.int (nar .char q9)), (.int (0 : Int32))] (.int (0 : Int32)) := Arv.set Ar346 q346 S346 M346 H346 G346 (fits_nar_char _) W347 1 rfl (Nat.le_of_ble_eq_true rfl); rw [show nar .char q9 = q9 from own_narc rh13.1 rh13.2] at q; exact q
  have N347 := Fr.snoc X347 N344 (show n0 ≤ b341 by omega)
  obtain ⟨cl349, Ar349, q349, S349, M349, H349, G349⟩ := id V347
  have hin349 : ¬ ((2 : Int32) < 0 ∨ cl349.slots.size ≤ ((2 : Int32)).toNatClampNeg) := inb_of S349 ⟨by decide, by decide⟩
  obtain ⟨T350, h350, X350, e350, W350, st350⟩ := stC X347 hx hZ e347 Ar349 (j := (2 : Int32)) hin349 (g := (mkF m 351 #[.val (.int layout), .val (.int shape), .val (.long lc), .second, .val (.int (Int32.ofNat ms)), .val (.int (Int32.ofNat mp)), .val (.int q3), .val (.int (Int32.ofNat (ms + 1 + mp))), .val (.int q8), .val (.int q9), .val (.int q10), .val (.ref b15), .val (.ref b56), .val (.ref tE_322), .val (.ref b326), .val (.ref b328), .val (.ref b333), .unset, .unset, .unset, .unset, .unset] [(.int q10), (.int (2 : Int32)), (.ref b341), (.ref b341)])) rfl rfl (Jvm.hb hby at_351)
  have z351 : h347.size ≤ h350.size := Nat.le_of_eq W350.size.symm
  have Cp351 : CHr Z ELs s.vm h347 s.vm h350 := CHr.wr W350 (Safe.arv hZ.alike V347 (by decide)) CR.1
  have hk := Nat.le_trans hk z351
  have CR := CR.trans Cp351
  have V350 : Arv Z h350 b341 k341 .char (3 : Int32) [(.int q8), (.int q9), (.int q10)] (.int (0 : Int32)) := by have q : Arv Z h350 b341 k341 .char (3 : Int32) [(.int q8), (.int q9), (.int (nar .char q10))] (.int (0 : Int32)) := Arv.set Ar349 q349 S349 M349 H349 G349 (fits_nar_char _) W350 2 rfl (Nat.le_of_ble_eq_true rfl); rw [show nar .char q10 = q10 from own_narc rh14.1 rh14.2] at q; exact q
  have N350 := Fr.snoc X350 N347 (show n0 ≤ b341 by omega)
  have s352 : ∀ t_, Steps p.tables e below (T350.setTop (mkF m 354 #[.val (.int layout), .val (.int shape), .val (.long lc), .second, .val (.int (Int32.ofNat ms)), .val (.int (Int32.ofNat mp)), .val (.int q3), .val (.int (Int32.ofNat (ms + 1 + mp))), .val (.int q8), .val (.int q9), .val (.int q10), .val (.ref b15), .val (.ref b56), .val (.ref tE_322), .val (.ref b326), .val (.ref b328), .val (.ref b333), .val (.ref b341), .unset, .unset, .unset, .unset] [])) t_ → Steps p.tables e below (s₁.setTop (entryFrame m #[(.int layout), (.int shape), (.long lc)] maxLocals)) t_ := fun t_ k_ => s325 t_ (by
    show Steps p.tables e below (T322.setTop (mkF m 304 #[.val (.int layout), .val (.int shape), .val (.long lc), .second, .val (.int (Int32.ofNat ms)), .val (.int (Int32.ofNat mp)), .val (.int q3), .val (.int (Int32.ofNat (ms + 1 + mp))), .val (.int q8), .val (.int q9), .val (.int q10), .val (.ref b15), .val (.ref b56), .val (.ref tE_322), .unset, .unset, .unset, .unset, .unset, .unset, .unset, .unset] [])) t_
    refine XS.iconst X322.here hx rfl (Jvm.hb hby at_304) ?_
    refine st326 _ ?_
    show Steps p.tables e below (T326.setTop (mkF m 307 #[.val (.int layout), .val (.int shape), .val (.long lc), .second, .val (.int (Int32.ofNat ms)), .val (.int (Int32.ofNat mp)), .val (.int q3), .val (.int (Int32.ofNat (ms + 1 + mp))), .val (.int q8), .val (.int q9), .val (.int q10), .val (.ref b15), .val (.ref b56), .val (.ref tE_322), .unset, .unset, .unset, .unset, .unset, .unset, .unset, .unset] [(.ref b326)])) _
    refine XS.astore X326.here hx rfl (Jvm.hb hby at_307) rfl rfl (l' := #[.val (.int layout), .val (.int shape), .val (.long lc), .second, .val (.int (Int32.ofNat ms)), .val (.int (Int32.ofNat mp)), .val (.int q3), .val (.int (Int32.ofNat (ms + 1 + mp))), .val (.int q8), .val (.int q9), .val (.int q10), .val (.ref b15), .val (.ref b56), .val (.ref tE_322), .val (.ref b326), .unset, .unset, .unset, .unset, .unset, .unset, .unset]) rfl ?_
    refine XS.iconst X326.here hx rfl (Jvm.hb hby at_309) ?_
    refine st328 _ ?_
    show Steps p.tables e below (T328.setTop (mkF m 312 #[.val (.int layout), .val (.int shape), .val (.long lc), .second, .val (.int (Int32.ofNat ms)), .val (.int (Int32.ofNat mp)), .val (.int q3), .val (.int (Int32.ofNat (ms + 1 + mp))), .val (.int q8), .val (.int q9), .val (.int q10), .val (.ref b15), .val (.ref b56), .val (.ref tE_322), .val (.ref b326), .unset, .unset, .unset, .unset, .unset, .unset, .unset] [(.ref b328)])) _
    refine XS.dup X328.here hx rfl (Jvm.hb hby at_312) rfl rfl ?_
    refine XS.iconst X328.here hx rfl (Jvm.hb hby at_313) ?_
    refine XS.iload X328.here hx rfl (Jvm.hb hby at_314) rfl ?_
    refine st331 _ ?_
    show Steps p.tables e below (T331.setTop (mkF m 317 #[.val (.int layout), .val (.int shape), .val (.long lc), .second, .val (.int (Int32.ofNat ms)), .val (.int (Int32.ofNat mp)), .val (.int q3), .val (.int (Int32.ofNat (ms + 1 + mp))), .val (.int q8), .val (.int q9), .val (.int q10), .val (.ref b15), .val (.ref b56), .val (.ref tE_322), .val (.ref b326), .unset, .unset, .unset, .unset, .unset, .unset, .unset] [(.ref b328)])) _
    refine XS.astore X331.here hx rfl (Jvm.hb hby at_317) rfl rfl (l' := #[.val (.int layout), .val (.int shape), .val (.long lc), .second, .val (.int (Int32.ofNat ms)), .val (.int (Int32.ofNat mp)), .val (.int q3), .val (.int (Int32.ofNat (ms + 1 + mp))), .val (.int q8), .val (.int q9), .val (.int q10), .val (.ref b15), .val (.ref b56), .val (.ref tE_322), .val (.ref b326), .val (.ref b328), .unset, .unset, .unset, .unset, .unset, .unset]) rfl ?_
    refine XS.iconst X331.here hx rfl (Jvm.hb hby at_319) ?_
    refine st333 _ ?_
    show Steps p.tables e below (T333.setTop (mkF m 322 #[.val (.int layout), .val (.int shape), .val (.long lc), .second, .val (.int (Int32.ofNat ms)), .val (.int (Int32.ofNat mp)), .val (.int q3), .val (.int (Int32.ofNat (ms + 1 + mp))), .val (.int q8), .val (.int q9), .val (.int q10), .val (.ref b15), .val (.ref b56), .val (.ref tE_322), .val (.ref b326), .val (.ref b328), .unset, .unset, .unset, .unset, .unset, .unset] [(.ref b333)])) _
    refine XS.dup X333.here hx rfl (Jvm.hb hby at_322) rfl rfl ?_
    refine XS.iconst X333.here hx rfl (Jvm.hb hby at_323) ?_
    refine XS.iload X333.here hx rfl (Jvm.hb hby at_324) rfl ?_
    refine st336 _ ?_
    show Steps p.tables e below (T336.setTop (mkF m 327 #[.val (.int layout), .val (.int shape), .val (.long lc), .second, .val (.int (Int32.ofNat ms)), .val (.int (Int32.ofNat mp)), .val (.int q3), .val (.int (Int32.ofNat (ms + 1 + mp))), .val (.int q8), .val (.int q9), .val (.int q10), .val (.ref b15), .val (.ref b56), .val (.ref tE_322), .val (.ref b326), .val (.ref b328), .unset, .unset, .unset, .unset, .unset, .unset] [(.ref b333)])) _
    refine XS.dup X336.here hx rfl (Jvm.hb hby at_327) rfl rfl ?_
    refine XS.iconst X336.here hx rfl (Jvm.hb hby at_328) ?_
    refine XS.iload X336.here hx rfl (Jvm.hb hby at_329) rfl ?_
    refine st339 _ ?_
    show Steps p.tables e below (T339.setTop (mkF m 332 #[.val (.int layout), .val (.int shape), .val (.long lc), .second, .val (.int (Int32.ofNat ms)), .val (.int (Int32.ofNat mp)), .val (.int q3), .val (.int (Int32.ofNat (ms + 1 + mp))), .val (.int q8), .val (.int q9), .val (.int q10), .val (.ref b15), .val (.ref b56), .val (.ref tE_322), .val (.ref b326), .val (.ref b328), .unset, .unset, .unset, .unset, .unset, .unset] [(.ref b333)])) _
    refine XS.astore X339.here hx rfl (Jvm.hb hby at_332) rfl rfl (l' := #[.val (.int layout), .val (.int shape), .val (.long lc), .second, .val (.int (Int32.ofNat ms)), .val (.int (Int32.ofNat mp)), .val (.int q3), .val (.int (Int32.ofNat (ms + 1 + mp))), .val (.int q8), .val (.int q9), .val (.int q10), .val (.ref b15), .val (.ref b56), .val (.ref tE_322), .val (.ref b326), .val (.ref b328), .val (.ref b333), .unset, .unset, .unset, .unset, .unset]) rfl ?_
    refine XS.iconst X339.here hx rfl (Jvm.hb hby at_334) ?_
    refine st341 _ ?_
    show Steps p.tables e below (T341.setTop (mkF m 337 #[.val (.int layout), .val (.int shape), .val (.long lc), .second, .val (.int (Int32.ofNat ms)), .val (.int (Int32.ofNat mp)), .val (.int q3), .val (.int (Int32.ofNat (ms + 1 + mp))), .val (.int q8), .val (.int q9), .val (.int q10), .val (.ref b15), .val (.ref b56), .val (.ref tE_322), .val (.ref b326), .val (.ref b328), .val (.ref b333), .unset, .unset, .unset, .unset, .unset] [(.ref b341)])) _
    refine XS.dup X341.here hx rfl (Jvm.hb hby at_337) rfl rfl ?_
    refine XS.iconst X341.here hx rfl (Jvm.hb hby at_338) ?_
    refine XS.iload X341.here hx rfl (Jvm.hb hby at_339) rfl ?_
    refine st344 _ ?_
    show Steps p.tables e below (T344.setTop (mkF m 342 #[.val (.int layout), .val (.int shape), .val (.long lc), .second, .val (.int (Int32.ofNat ms)), .val (.int (Int32.ofNat mp)), .val (.int q3), .val (.int (Int32.ofNat (ms + 1 + mp))), .val (.int q8), .val (.int q9), .val (.int q10), .val (.ref b15), .val (.ref b56), .val (.ref tE_322), .val (.ref b326), .val (.ref b328), .val (.ref b333), .unset, .unset, .unset, .unset, .unset] [(.ref b341)])) _
    refine XS.dup X344.here hx rfl (Jvm.hb hby at_342) rfl rfl ?_
    refine XS.iconst X344.here hx rfl (Jvm.hb hby at_343) ?_
    refine XS.iload X344.here hx rfl (Jvm.hb hby at_344) rfl ?_
    refine st347 _ ?_
    show Steps p.tables e below (T347.setTop (mkF m 347 #[.val (.int layout), .val (.int shape), .val (.long lc), .second, .val (.int (Int32.ofNat ms)), .val (.int (Int32.ofNat mp)), .val (.int q3), .val (.int (Int32.ofNat (ms + 1 + mp))), .val (.int q8), .val (.int q9), .val (.int q10), .val (.ref b15), .val (.ref b56), .val (.ref tE_322), .val (.ref b326), .val (.ref b328), .val (.ref b333), .unset, .unset, .unset, .unset, .unset] [(.ref b341)])) _
    refine XS.dup X347.here hx rfl (Jvm.hb hby at_347) rfl rfl ?_
    refine XS.iconst X347.here hx rfl (Jvm.hb hby at_348) ?_
    refine XS.iload X347.here hx rfl (Jvm.hb hby at_349) rfl ?_
    refine st350 _ ?_
    show Steps p.tables e below (T350.setTop (mkF m 352 #[.val (.int layout), .val (.int shape), .val (.long lc), .second, .val (.int (Int32.ofNat ms)), .val (.int (Int32.ofNat mp)), .val (.int q3), .val (.int (Int32.ofNat (ms + 1 + mp))), .val (.int q8), .val (.int q9), .val (.int q10), .val (.ref b15), .val (.ref b56), .val (.ref tE_322), .val (.ref b326), .val (.ref b328), .val (.ref b333), .unset, .unset, .unset, .unset, .unset] [(.ref b341)])) _
    refine XS.astore X350.here hx rfl (Jvm.hb hby at_352) rfl rfl (l' := #[.val (.int layout), .val (.int shape), .val (.long lc), .second, .val (.int (Int32.ofNat ms)), .val (.int (Int32.ofNat mp)), .val (.int q3), .val (.int (Int32.ofNat (ms + 1 + mp))), .val (.int q8), .val (.int q9), .val (.int q10), .val (.ref b15), .val (.ref b56), .val (.ref tE_322), .val (.ref b326), .val (.ref b328), .val (.ref b333), .val (.ref b341), .unset, .unset, .unset, .unset]) rfl ?_
    show Steps p.tables e below (T350.setTop (mkF m 354 #[.val (.int layout), .val (.int shape), .val (.long lc), .second, .val (.int (Int32.ofNat ms)), .val (.int (Int32.ofNat mp)), .val (.int q3), .val (.int (Int32.ofNat (ms + 1 + mp))), .val (.int q8), .val (.int q9), .val (.int q10), .val (.ref b15), .val (.ref b56), .val (.ref tE_322), .val (.ref b326), .val (.ref b328), .val (.ref b333), .val (.ref b341), .unset, .unset, .unset, .unset] [])) t_
    exact k_)
  have bk353 : ∃ (T' : State) (lo' : List Loc) (hx_ : Heap) (fe_ : JFrame), Stand p l e room_1 (s.setVm s.vm) m #[(.int layout), (.int shape), (.long lc)] below meth c T' lo' 6 32 ∧ T'.heap = hx_ ∧ Fr n0 lo' ∧ Keep h350 hx_ [] ∧ ((∃ (pE : Addr), ∃ (kP : ClassId), ∃ (csP : List Int32), fe_ = (mkF m 390 #[.val (.int layout), .val (.int shape), .val (.long lc), .second, .val (.int (Int32.ofNat ms)), .val (.int (Int32.ofNat mp)), .val (.int q3), .val (.int (Int32.ofNat (ms + 1 + mp))), .val (.int q8), .val (.int q9), .val (.int q10), .val (.ref b15), .val (.ref b56), .val (.ref tE_322), .val (.ref b326), .val (.ref b328), .val (.ref b333), .val (.ref b341), .val (.ref pE), .unset, .unset, .unset] []) ∧ Arv Z hx_ pE kP .char (Int32.ofNat csP.length) (csP.map Value.int) (.int (0 : Int32)) ∧ (mp = csP.length) ∧ (own_lat csP) ∧ (n0 ≤ pE))) ∧ ∀ t_, Steps p.tables e below (T'.setTop fe_) t_ → Steps p.tables e below (s₁.setTop (entryFrame m #[(.int layout), (.int shape), (.long lc)] maxLocals)) t_ := by
    have s354 : ∀ t_, Steps p.tables e below (T350.setTop (mkF m 356 #[.val (.int layout), .val (.int shape), .val (.long lc), .second, .val (.int (Int32.ofNat ms)), .val (.int (Int32.ofNat mp)), .val (.int q3), .val (.int (Int32.ofNat (ms + 1 + mp))), .val (.int q8), .val (.int q9), .val (.int q10), .val (.ref b15), .val (.ref b56), .val (.ref tE_322), .val (.ref b326), .val (.ref b328), .val (.ref b333), .val (.ref b341), .unset, .unset, .unset, .unset] [(.int (Int32.ofNat mp))])) t_ → Steps p.tables e below (s₁.setTop (entryFrame m #[(.int layout), (.int shape), (.long lc)] maxLocals)) t_ := fun t_ k_ => s352 t_ (by
      show Steps p.tables e below (T350.setTop (mkF m 354 #[.val (.int layout), .val (.int shape), .val (.long lc), .second, .val (.int (Int32.ofNat ms)), .val (.int (Int32.ofNat mp)), .val (.int q3), .val (.int (Int32.ofNat (ms + 1 + mp))), .val (.int q8), .val (.int q9), .val (.int q10), .val (.ref b15), .val (.ref b56), .val (.ref tE_322), .val (.ref b326), .val (.ref b328), .val (.ref b333), .val (.ref b341), .unset, .unset, .unset, .unset] [])) t_
      refine XS.iload X350.here hx rfl (Jvm.hb hby at_354) rfl ?_
      show Steps p.tables e below (T350.setTop (mkF m 356 #[.val (.int layout), .val (.int shape), .val (.long lc), .second, .val (.int (Int32.ofNat ms)), .val (.int (Int32.ofNat mp)), .val (.int q3), .val (.int (Int32.ofNat (ms + 1 + mp))), .val (.int q8), .val (.int q9), .val (.int q10), .val (.ref b15), .val (.ref b56), .val (.ref tE_322), .val (.ref b326), .val (.ref b328), .val (.ref b333), .val (.ref b341), .unset, .unset, .unset, .unset] [(.int (Int32.ofNat mp))])) t_
      exact k_)
    by_cases h355 : (Int32.ofNat mp) = (0 : Int32)
    · have s356 : ∀ t_, Steps p.tables e below (T350.setTop (mkF m 390 #[.val (.int layout), .val (.int shape), .val (.long lc), .second, .val (.int (Int32.ofNat ms)), .val (.int (Int32.ofNat mp)), .val (.int q3), .val (.int (Int32.ofNat (ms + 1 + mp))), .val (.int q8), .val (.int q9), .val (.int q10), .val (.ref b15), .val (.ref b56), .val (.ref tE_322), .val (.ref b326), .val (.ref b328), .val (.ref b333), .val (.ref b341), .val (.ref b326), .unset, .unset, .unset] [])) t_ → Steps p.tables e below (s₁.setTop (entryFrame m #[(.int layout), (.int shape), (.long lc)] maxLocals)) t_ := fun t_ k_ => s354 t_ (by
        show Steps p.tables e below (T350.setTop (mkF m 356 #[.val (.int layout), .val (.int shape), .val (.long lc), .second, .val (.int (Int32.ofNat ms)), .val (.int (Int32.ofNat mp)), .val (.int q3), .val (.int (Int32.ofNat (ms + 1 + mp))), .val (.int q8), .val (.int q9), .val (.int q10), .val (.ref b15), .val (.ref b56), .val (.ref tE_322), .val (.ref b326), .val (.ref b328), .val (.ref b333), .val (.ref b341), .unset, .unset, .unset, .unset] [(.int (Int32.ofNat mp))])) t_
        refine XS.ifNo X350.here hx rfl (Jvm.hb hby at_356) rfl ((if0 _ _).trans (teq h355).2) ?_
        show Steps p.tables e below (T350.setTop (mkF m 359 #[.val (.int layout), .val (.int shape), .val (.long lc), .second, .val (.int (Int32.ofNat ms)), .val (.int (Int32.ofNat mp)), .val (.int q3), .val (.int (Int32.ofNat (ms + 1 + mp))), .val (.int q8), .val (.int q9), .val (.int q10), .val (.ref b15), .val (.ref b56), .val (.ref tE_322), .val (.ref b326), .val (.ref b328), .val (.ref b333), .val (.ref b341), .unset, .unset, .unset, .unset] [])) _
        refine XS.aload X350.here hx rfl (Jvm.hb hby at_359) rfl rfl ?_
        refine XS.goto X350.here hx rfl (pc0 := 361) (pc' := 388) rfl (Jvm.hb hby at_361) (by decide) (by decide) ?_
        refine XS.astore X350.here hx rfl (Jvm.hb hby at_388) rfl rfl (l' := #[.val (.int layout), .val (.int shape), .val (.long lc), .second, .val (.int (Int32.ofNat ms)), .val (.int (Int32.ofNat mp)), .val (.int q3), .val (.int (Int32.ofNat (ms + 1 + mp))), .val (.int q8), .val (.int q9), .val (.int q10), .val (.ref b15), .val (.ref b56), .val (.ref tE_322), .val (.ref b326), .val (.ref b328), .val (.ref b333), .val (.ref b341), .val (.ref b326), .unset, .unset, .unset]) rfl ?_
        show Steps p.tables e below (T350.setTop (mkF m 390 #[.val (.int layout), .val (.int shape), .val (.long lc), .second, .val (.int (Int32.ofNat ms)), .val (.int (Int32.ofNat mp)), .val (.int q3), .val (.int (Int32.ofNat (ms + 1 + mp))), .val (.int q8), .val (.int q9), .val (.int q10), .val (.ref b15), .val (.ref b56), .val (.ref tE_322), .val (.ref b326), .val (.ref b328), .val (.ref b333), .val (.ref b341), .val (.ref b326), .unset, .unset, .unset] [])) t_
        exact k_)
      have f357 : Arv Z h350 b326 k326 .char (0 : Int32) [] (.int (0 : Int32)) := (((((((((V326.ext E328).other W331 (show @Ne Nat b326 b328 by omega)).ext E333).other W336 (show @Ne Nat b326 b333 by omega)).other W339 (show @Ne Nat b326 b333 by omega)).ext E341).other W344 (show @Ne Nat b326 b341 by omega)).other W347 (show @Ne Nat b326 b341 by omega)).other W350 (show @Ne Nat b326 b341 by omega))
      exact ⟨T350, _, _, _, X350, e350, N350, (Keep.refl h350 []), ⟨b326, k326, ([] : List Int32), rfl, f357, (own_inj (n := 0) (by omega) (by decide) h355), own_lat0, (by omega)⟩, s356⟩
    · have s358 : ∀ t_, Steps p.tables e below (T350.setTop (mkF m 367 #[.val (.int layout), .val (.int shape), .val (.long lc), .second, .val (.int (Int32.ofNat ms)), .val (.int (Int32.ofNat mp)), .val (.int q3), .val (.int (Int32.ofNat (ms + 1 + mp))), .val (.int q8), .val (.int q9), .val (.int q10), .val (.ref b15), .val (.ref b56), .val (.ref tE_322), .val (.ref b326), .val (.ref b328), .val (.ref b333), .val (.ref b341), .unset, .unset, .unset, .unset] [(.int (1 : Int32)), (.int (Int32.ofNat mp))])) t_ → Steps p.tables e below (s₁.setTop (entryFrame m #[(.int layout), (.int shape), (.long lc)] maxLocals)) t_ := fun t_ k_ => s354 t_ (by
        show Steps p.tables e below (T350.setTop (mkF m 356 #[.val (.int layout), .val (.int shape), .val (.long lc), .second, .val (.int (Int32.ofNat ms)), .val (.int (Int32.ofNat mp)), .val (.int q3), .val (.int (Int32.ofNat (ms + 1 + mp))), .val (.int q8), .val (.int q9), .val (.int q10), .val (.ref b15), .val (.ref b56), .val (.ref tE_322), .val (.ref b326), .val (.ref b328), .val (.ref b333), .val (.ref b341), .unset, .unset, .unset, .unset] [(.int (Int32.ofNat mp))])) t_
        refine XS.ifYes X350.here hx rfl (pc0 := 356) (pc' := 364) rfl (Jvm.hb hby at_356) rfl ((if0 _ _).trans (feq h355).2) (by decide) (by decide) ?_
        show Steps p.tables e below (T350.setTop (mkF m 364 #[.val (.int layout), .val (.int shape), .val (.long lc), .second, .val (.int (Int32.ofNat ms)), .val (.int (Int32.ofNat mp)), .val (.int q3), .val (.int (Int32.ofNat (ms + 1 + mp))), .val (.int q8), .val (.int q9), .val (.int q10), .val (.ref b15), .val (.ref b56), .val (.ref tE_322), .val (.ref b326), .val (.ref b328), .val (.ref b333), .val (.ref b341), .unset, .unset, .unset, .unset] [])) _
        refine XS.iload X350.here hx rfl (Jvm.hb hby at_364) rfl ?_
        refine XS.iconst X350.here hx rfl (Jvm.hb hby at_366) ?_
        show Steps p.tables e below (T350.setTop (mkF m 367 #[.val (.int layout), .val (.int shape), .val (.long lc), .second, .val (.int (Int32.ofNat ms)), .val (.int (Int32.ofNat mp)), .val (.int q3), .val (.int (Int32.ofNat (ms + 1 + mp))), .val (.int q8), .val (.int q9), .val (.int q10), .val (.ref b15), .val (.ref b56), .val (.ref tE_322), .val (.ref b326), .val (.ref b328), .val (.ref b333), .val (.ref b341), .unset, .unset, .unset, .unset] [(.int (1 : Int32)), (.int (Int32.ofNat mp))])) t_
        exact k_)
      by_cases h359 : (Int32.ofNat mp) = (1 : Int32)
      · have s360 : ∀ t_, Steps p.tables e below (T350.setTop (mkF m 390 #[.val (.int layout), .val (.int shape), .val (.long lc), .second, .val (.int (Int32.ofNat ms)), .val (.int (Int32.ofNat mp)), .val (.int q3), .val (.int (Int32.ofNat (ms + 1 + mp))), .val (.int q8), .val (.int q9), .val (.int q10), .val (.ref b15), .val (.ref b56), .val (.ref tE_322), .val (.ref b326), .val (.ref b328), .val (.ref b333), .val (.ref b341), .val (.ref b328), .unset, .unset, .unset] [])) t_ → Steps p.tables e below (s₁.setTop (entryFrame m #[(.int layout), (.int shape), (.long lc)] maxLocals)) t_ := fun t_ k_ => s358 t_ (by
          show Steps p.tables e below (T350.setTop (mkF m 367 #[.val (.int layout), .val (.int shape), .val (.long lc), .second, .val (.int (Int32.ofNat ms)), .val (.int (Int32.ofNat mp)), .val (.int q3), .val (.int (Int32.ofNat (ms + 1 + mp))), .val (.int q8), .val (.int q9), .val (.int q10), .val (.ref b15), .val (.ref b56), .val (.ref tE_322), .val (.ref b326), .val (.ref b328), .val (.ref b333), .val (.ref b341), .unset, .unset, .unset, .unset] [(.int (1 : Int32)), (.int (Int32.ofNat mp))])) t_
          refine XS.icmpNo X350.here hx rfl (Jvm.hb hby at_367) rfl (teq h359).2 ?_
          show Steps p.tables e below (T350.setTop (mkF m 370 #[.val (.int layout), .val (.int shape), .val (.long lc), .second, .val (.int (Int32.ofNat ms)), .val (.int (Int32.ofNat mp)), .val (.int q3), .val (.int (Int32.ofNat (ms + 1 + mp))), .val (.int q8), .val (.int q9), .val (.int q10), .val (.ref b15), .val (.ref b56), .val (.ref tE_322), .val (.ref b326), .val (.ref b328), .val (.ref b333), .val (.ref b341), .unset, .unset, .unset, .unset] [])) _
          refine XS.aload X350.here hx rfl (Jvm.hb hby at_370) rfl rfl ?_
          refine XS.goto X350.here hx rfl (pc0 := 372) (pc' := 388) rfl (Jvm.hb hby at_372) (by decide) (by decide) ?_
          refine XS.astore X350.here hx rfl (Jvm.hb hby at_388) rfl rfl (l' := #[.val (.int layout), .val (.int shape), .val (.long lc), .second, .val (.int (Int32.ofNat ms)), .val (.int (Int32.ofNat mp)), .val (.int q3), .val (.int (Int32.ofNat (ms + 1 + mp))), .val (.int q8), .val (.int q9), .val (.int q10), .val (.ref b15), .val (.ref b56), .val (.ref tE_322), .val (.ref b326), .val (.ref b328), .val (.ref b333), .val (.ref b341), .val (.ref b328), .unset, .unset, .unset]) rfl ?_
          show Steps p.tables e below (T350.setTop (mkF m 390 #[.val (.int layout), .val (.int shape), .val (.long lc), .second, .val (.int (Int32.ofNat ms)), .val (.int (Int32.ofNat mp)), .val (.int q3), .val (.int (Int32.ofNat (ms + 1 + mp))), .val (.int q8), .val (.int q9), .val (.int q10), .val (.ref b15), .val (.ref b56), .val (.ref tE_322), .val (.ref b326), .val (.ref b328), .val (.ref b333), .val (.ref b341), .val (.ref b328), .unset, .unset, .unset] [])) t_
          exact k_)
        have f361 : Arv Z h350 b328 k328 .char (1 : Int32) [(.int q8)] (.int (0 : Int32)) := (((((((V331.ext E333).other W336 (show @Ne Nat b328 b333 by omega)).other W339 (show @Ne Nat b328 b333 by omega)).ext E341).other W344 (show @Ne Nat b328 b341 by omega)).other W347 (show @Ne Nat b328 b341 by omega)).other W350 (show @Ne Nat b328 b341 by omega))
        exact ⟨T350, _, _, _, X350, e350, N350, (Keep.refl h350 []), ⟨b328, k328, [q8], rfl, f361, (own_inj (n := 1) (by omega) (by decide) h359), (own_latS rg12.2 own_lat0), (by omega)⟩, s360⟩
      · have s362 : ∀ t_, Steps p.tables e below (T350.setTop (mkF m 378 #[.val (.int layout), .val (.int shape), .val (.long lc), .second, .val (.int (Int32.ofNat ms)), .val (.int (Int32.ofNat mp)), .val (.int q3), .val (.int (Int32.ofNat (ms + 1 + mp))), .val (.int q8), .val (.int q9), .val (.int q10), .val (.ref b15), .val (.ref b56), .val (.ref tE_322), .val (.ref b326), .val (.ref b328), .val (.ref b333), .val (.ref b341), .unset, .unset, .unset, .unset] [(.int (2 : Int32)), (.int (Int32.ofNat mp))])) t_ → Steps p.tables e below (s₁.setTop (entryFrame m #[(.int layout), (.int shape), (.long lc)] maxLocals)) t_ := fun t_ k_ => s358 t_ (by
          show Steps p.tables e below (T350.setTop (mkF m 367 #[.val (.int layout), .val (.int shape), .val (.long lc), .second, .val (.int (Int32.ofNat ms)), .val (.int (Int32.ofNat mp)), .val (.int q3), .val (.int (Int32.ofNat (ms + 1 + mp))), .val (.int q8), .val (.int q9), .val (.int q10), .val (.ref b15), .val (.ref b56), .val (.ref tE_322), .val (.ref b326), .val (.ref b328), .val (.ref b333), .val (.ref b341), .unset, .unset, .unset, .unset] [(.int (1 : Int32)), (.int (Int32.ofNat mp))])) t_
          refine XS.icmpYes X350.here hx rfl (pc0 := 367) (pc' := 375) rfl (Jvm.hb hby at_367) rfl (feq h359).2 (by decide) (by decide) ?_
          show Steps p.tables e below (T350.setTop (mkF m 375 #[.val (.int layout), .val (.int shape), .val (.long lc), .second, .val (.int (Int32.ofNat ms)), .val (.int (Int32.ofNat mp)), .val (.int q3), .val (.int (Int32.ofNat (ms + 1 + mp))), .val (.int q8), .val (.int q9), .val (.int q10), .val (.ref b15), .val (.ref b56), .val (.ref tE_322), .val (.ref b326), .val (.ref b328), .val (.ref b333), .val (.ref b341), .unset, .unset, .unset, .unset] [])) _
          refine XS.iload X350.here hx rfl (Jvm.hb hby at_375) rfl ?_
          refine XS.iconst X350.here hx rfl (Jvm.hb hby at_377) ?_
          show Steps p.tables e below (T350.setTop (mkF m 378 #[.val (.int layout), .val (.int shape), .val (.long lc), .second, .val (.int (Int32.ofNat ms)), .val (.int (Int32.ofNat mp)), .val (.int q3), .val (.int (Int32.ofNat (ms + 1 + mp))), .val (.int q8), .val (.int q9), .val (.int q10), .val (.ref b15), .val (.ref b56), .val (.ref tE_322), .val (.ref b326), .val (.ref b328), .val (.ref b333), .val (.ref b341), .unset, .unset, .unset, .unset] [(.int (2 : Int32)), (.int (Int32.ofNat mp))])) t_
          exact k_)
        by_cases h363 : (Int32.ofNat mp) = (2 : Int32)
        · have s364 : ∀ t_, Steps p.tables e below (T350.setTop (mkF m 390 #[.val (.int layout), .val (.int shape), .val (.long lc), .second, .val (.int (Int32.ofNat ms)), .val (.int (Int32.ofNat mp)), .val (.int q3), .val (.int (Int32.ofNat (ms + 1 + mp))), .val (.int q8), .val (.int q9), .val (.int q10), .val (.ref b15), .val (.ref b56), .val (.ref tE_322), .val (.ref b326), .val (.ref b328), .val (.ref b333), .val (.ref b341), .val (.ref b333), .unset, .unset, .unset] [])) t_ → Steps p.tables e below (s₁.setTop (entryFrame m #[(.int layout), (.int shape), (.long lc)] maxLocals)) t_ := fun t_ k_ => s362 t_ (by
            show Steps p.tables e below (T350.setTop (mkF m 378 #[.val (.int layout), .val (.int shape), .val (.long lc), .second, .val (.int (Int32.ofNat ms)), .val (.int (Int32.ofNat mp)), .val (.int q3), .val (.int (Int32.ofNat (ms + 1 + mp))), .val (.int q8), .val (.int q9), .val (.int q10), .val (.ref b15), .val (.ref b56), .val (.ref tE_322), .val (.ref b326), .val (.ref b328), .val (.ref b333), .val (.ref b341), .unset, .unset, .unset, .unset] [(.int (2 : Int32)), (.int (Int32.ofNat mp))])) t_
            refine XS.icmpNo X350.here hx rfl (Jvm.hb hby at_378) rfl (teq h363).2 ?_
            show Steps p.tables e below (T350.setTop (mkF m 381 #[.val (.int layout), .val (.int shape), .val (.long lc), .second, .val (.int (Int32.ofNat ms)), .val (.int (Int32.ofNat mp)), .val (.int q3), .val (.int (Int32.ofNat (ms + 1 + mp))), .val (.int q8), .val (.int q9), .val (.int q10), .val (.ref b15), .val (.ref b56), .val (.ref tE_322), .val (.ref b326), .val (.ref b328), .val (.ref b333), .val (.ref b341), .unset, .unset, .unset, .unset] [])) _
            refine XS.aload X350.here hx rfl (Jvm.hb hby at_381) rfl rfl ?_
            refine XS.goto X350.here hx rfl (pc0 := 383) (pc' := 388) rfl (Jvm.hb hby at_383) (by decide) (by decide) ?_
            refine XS.astore X350.here hx rfl (Jvm.hb hby at_388) rfl rfl (l' := #[.val (.int layout), .val (.int shape), .val (.long lc), .second, .val (.int (Int32.ofNat ms)), .val (.int (Int32.ofNat mp)), .val (.int q3), .val (.int (Int32.ofNat (ms + 1 + mp))), .val (.int q8), .val (.int q9), .val (.int q10), .val (.ref b15), .val (.ref b56), .val (.ref tE_322), .val (.ref b326), .val (.ref b328), .val (.ref b333), .val (.ref b341), .val (.ref b333), .unset, .unset, .unset]) rfl ?_
            show Steps p.tables e below (T350.setTop (mkF m 390 #[.val (.int layout), .val (.int shape), .val (.long lc), .second, .val (.int (Int32.ofNat ms)), .val (.int (Int32.ofNat mp)), .val (.int q3), .val (.int (Int32.ofNat (ms + 1 + mp))), .val (.int q8), .val (.int q9), .val (.int q10), .val (.ref b15), .val (.ref b56), .val (.ref tE_322), .val (.ref b326), .val (.ref b328), .val (.ref b333), .val (.ref b341), .val (.ref b333), .unset, .unset, .unset] [])) t_
            exact k_)
          have f365 : Arv Z h350 b333 k333 .char (2 : Int32) [(.int q8), (.int q9)] (.int (0 : Int32)) := ((((V339.ext E341).other W344 (show @Ne Nat b333 b341 by omega)).other W347 (show @Ne Nat b333 b341 by omega)).other W350 (show @Ne Nat b333 b341 by omega))
          exact ⟨T350, _, _, _, X350, e350, N350, (Keep.refl h350 []), ⟨b333, k333, [q8, q9], rfl, f365, (own_inj (n := 2) (by omega) (by decide) h363), (own_latS rg12.2 (own_latS rg13.2 own_lat0)), (by omega)⟩, s364⟩
        · have s366 : ∀ t_, Steps p.tables e below (T350.setTop (mkF m 390 #[.val (.int layout), .val (.int shape), .val (.long lc), .second, .val (.int (Int32.ofNat ms)), .val (.int (Int32.ofNat mp)), .val (.int q3), .val (.int (Int32.ofNat (ms + 1 + mp))), .val (.int q8), .val (.int q9), .val (.int q10), .val (.ref b15), .val (.ref b56), .val (.ref tE_322), .val (.ref b326), .val (.ref b328), .val (.ref b333), .val (.ref b341), .val (.ref b341), .unset, .unset, .unset] [])) t_ → Steps p.tables e below (s₁.setTop (entryFrame m #[(.int layout), (.int shape), (.long lc)] maxLocals)) t_ := fun t_ k_ => s362 t_ (by
            show Steps p.tables e below (T350.setTop (mkF m 378 #[.val (.int layout), .val (.int shape), .val (.long lc), .second, .val (.int (Int32.ofNat ms)), .val (.int (Int32.ofNat mp)), .val (.int q3), .val (.int (Int32.ofNat (ms + 1 + mp))), .val (.int q8), .val (.int q9), .val (.int q10), .val (.ref b15), .val (.ref b56), .val (.ref tE_322), .val (.ref b326), .val (.ref b328), .val (.ref b333), .val (.ref b341), .unset, .unset, .unset, .unset] [(.int (2 : Int32)), (.int (Int32.ofNat mp))])) t_
            refine XS.icmpYes X350.here hx rfl (pc0 := 378) (pc' := 386) rfl (Jvm.hb hby at_378) rfl (feq h363).2 (by decide) (by decide) ?_
            show Steps p.tables e below (T350.setTop (mkF m 386 #[.val (.int layout), .val (.int shape), .val (.long lc), .second, .val (.int (Int32.ofNat ms)), .val (.int (Int32.ofNat mp)), .val (.int q3), .val (.int (Int32.ofNat (ms + 1 + mp))), .val (.int q8), .val (.int q9), .val (.int q10), .val (.ref b15), .val (.ref b56), .val (.ref tE_322), .val (.ref b326), .val (.ref b328), .val (.ref b333), .val (.ref b341), .unset, .unset, .unset, .unset] [])) _
            refine XS.aload X350.here hx rfl (Jvm.hb hby at_386) rfl rfl ?_
            refine XS.astore X350.here hx rfl (Jvm.hb hby at_388) rfl rfl (l' := #[.val (.int layout), .val (.int shape), .val (.long lc), .second, .val (.int (Int32.ofNat ms)), .val (.int (Int32.ofNat mp)), .val (.int q3), .val (.int (Int32.ofNat (ms + 1 + mp))), .val (.int q8), .val (.int q9), .val (.int q10), .val (.ref b15), .val (.ref b56), .val (.ref tE_322), .val (.ref b326), .val (.ref b328), .val (.ref b333), .val (.ref b341), .val (.ref b341), .unset, .unset, .unset]) rfl ?_
            show Steps p.tables e below (T350.setTop (mkF m 390 #[.val (.int layout), .val (.int shape), .val (.long lc), .second, .val (.int (Int32.ofNat ms)), .val (.int (Int32.ofNat mp)), .val (.int q3), .val (.int (Int32.ofNat (ms + 1 + mp))), .val (.int q8), .val (.int q9), .val (.int q10), .val (.ref b15), .val (.ref b56), .val (.ref tE_322), .val (.ref b326), .val (.ref b328), .val (.ref b333), .val (.ref b341), .val (.ref b341), .unset, .unset, .unset] [])) t_
            exact k_)
          exact ⟨T350, _, _, _, X350, e350, N350, (Keep.refl h350 []), ⟨b341, k341, [q8, q9, q10], rfl, V350, (own_is3 hmpl h355 h359 h363), (own_latS rg12.2 (own_latS rg13.2 (own_latS rg14.2 own_lat0))), (by omega)⟩, s366⟩
  obtain ⟨T367, lo367, h367, fe367, X367, e367, N367, K367, A367, st367⟩ := bk353
  have z368 : h350.size ≤ h367.size := K367.1
  have Cp368 : CHr Z ELs s.vm h350 s.vm h367 := CHr.keep K367 sf0 CR.1
  have hk := Nat.le_trans hk z368
  have CR := CR.trans Cp368
  obtain ⟨pE_367, kP_367, csP_367, rfl, G367_0, J367_0, J367_1, J367_2⟩ := A367
  have s369 : ∀ t_, Steps p.tables e below (T367.setTop (mkF m 390 #[.val (.int layout), .val (.int shape), .val (.long lc), .second, .val (.int (Int32.ofNat ms)), .val (.int (Int32.ofNat mp)), .val (.int q3), .val (.int (Int32.ofNat (ms + 1 + mp))), .val (.int q8), .val (.int q9), .val (.int q10), .val (.ref b15), .val (.ref b56), .val (.ref tE_322), .val (.ref b326), .val (.ref b328), .val (.ref b333), .val (.ref b341), .val (.ref pE_367), .unset, .unset, .unset] [])) t_ → Steps p.tables e below (s₁.setTop (entryFrame m #[(.int layout), (.int shape), (.long lc)] maxLocals)) t_ := st367
  have lt367_0 : @LT.lt Nat _ pE_367 h367.size := G367_0.lt
  obtain ⟨T370, h370, X370, e370, E370, A370, D370, -, st370⟩ := newO X367 hx hZ hown (hw _ (List.mem_of_getElem? (i := 2) rfl)) (hw _ (List.mem_of_getElem? (i := 3) rfl)) (hw _ (List.mem_of_getElem? (i := 4) rfl)) e367 (g := (mkF m 390 #[.val (.int layout), .val (.int shape), .val (.long lc), .second, .val (.int (Int32.ofNat ms)), .val (.int (Int32.ofNat mp)), .val (.int q3), .val (.int (Int32.ofNat (ms + 1 + mp))), .val (.int q8), .val (.int q9), .val (.int q10), .val (.ref b15), .val (.ref b56), .val (.ref tE_322), .val (.ref b326), .val (.ref b328), .val (.ref b333), .val (.ref b341), .val (.ref pE_367), .unset, .unset, .unset] [])) rfl (Jvm.hb hby at_390) (by decide) (by decide)
  obtain ⟨b370, g370⟩ : ∃ z, z = h367.size := ⟨_, rfl⟩
  rw [← g370] at A370 D370 st370
  have z371 : h367.size ≤ h370.size := E370.1
  have Sf372 : Safe Z ELs s.vm h370 b370 := Safe.ext E370 CR.1 (Safe.new (by omega))
  have Cp371 : CHr Z ELs s.vm h367 s.vm h370 := CHr.ext E370 CR.1
  have hk := Nat.le_trans hk z371
  have CR := CR.trans Cp371
  have l370 : b370 < h370.size := A370.lt
  have F373 : Fld Z h370 b370 "java/lang/String" "coder" "B" (.int (0 : Int32)) := D370 (Or.inr (hw _ (List.mem_of_getElem? (i := 28) rfl))) (ty := .byte) (by decide)
  have F374 : Fld Z h370 b370 "java/lang/String" "value" "[B" .null := D370 (Or.inr (hw _ (List.mem_of_getElem? (i := 30) rfl))) (ty := (.array .byte)) (by decide)
  have s375 : ∀ t_, Steps p.tables e below (T370.setTop (mkF m 396 #[.val (.int layout), .val (.int shape), .val (.long lc), .second, .val (.int (Int32.ofNat ms)), .val (.int (Int32.ofNat mp)), .val (.int q3), .val (.int (Int32.ofNat (ms + 1 + mp))), .val (.int q8), .val (.int q9), .val (.int q10), .val (.ref b15), .val (.ref b56), .val (.ref tE_322), .val (.ref b326), .val (.ref b328), .val (.ref b333), .val (.ref b341), .val (.ref pE_367), .unset, .unset, .unset] [(.ref tE_322), (.ref b370), (.ref b370)])) t_ → Steps p.tables e below (s₁.setTop (entryFrame m #[(.int layout), (.int shape), (.long lc)] maxLocals)) t_ := fun t_ k_ => s369 t_ (by
    show Steps p.tables e below (T367.setTop (mkF m 390 #[.val (.int layout), .val (.int shape), .val (.long lc), .second, .val (.int (Int32.ofNat ms)), .val (.int (Int32.ofNat mp)), .val (.int q3), .val (.int (Int32.ofNat (ms + 1 + mp))), .val (.int q8), .val (.int q9), .val (.int q10), .val (.ref b15), .val (.ref b56), .val (.ref tE_322), .val (.ref b326), .val (.ref b328), .val (.ref b333), .val (.ref b341), .val (.ref pE_367), .unset, .unset, .unset] [])) t_
    refine st370 _ ?_
    show Steps p.tables e below (T370.setTop (mkF m 393 #[.val (.int layout), .val (.int shape), .val (.long lc), .second, .val (.int (Int32.ofNat ms)), .val (.int (Int32.ofNat mp)), .val (.int q3), .val (.int (Int32.ofNat (ms + 1 + mp))), .val (.int q8), .val (.int q9), .val (.int q10), .val (.ref b15), .val (.ref b56), .val (.ref tE_322), .val (.ref b326), .val (.ref b328), .val (.ref b333), .val (.ref b341), .val (.ref pE_367), .unset, .unset, .unset] [(.ref b370)])) _
    refine XS.dup X370.here hx rfl (Jvm.hb hby at_393) rfl rfl ?_
    refine XS.aload X370.here hx rfl (Jvm.hb hby at_394) rfl rfl ?_
    show Steps p.tables e below (T370.setTop (mkF m 396 #[.val (.int layout), .val (.int shape), .val (.long lc), .second, .val (.int (Int32.ofNat ms)), .val (.int (Int32.ofNat mp)), .val (.int q3), .val (.int (Int32.ofNat (ms + 1 + mp))), .val (.int q8), .val (.int q9), .val (.int q10), .val (.ref b15), .val (.ref b56), .val (.ref tE_322), .val (.ref b326), .val (.ref b328), .val (.ref b333), .val (.ref b341), .val (.ref pE_367), .unset, .unset, .unset] [(.ref tE_322), (.ref b370), (.ref b370)])) t_
    exact k_)
  have O376 : Old Z n0 h370 := (((((((((((((((((((((((((((((((((((((((((OX.ext E15).wr W18 (show n0 ≤ b15 by omega)).wr W21 (show n0 ≤ b15 by omega)).wr W24 (show n0 ≤ b15 by omega)).wr W27 (show n0 ≤ b15 by omega)).wr W30 (show n0 ≤ b15 by omega)).wr W33 (show n0 ≤ b15 by omega)).wr W36 (show n0 ≤ b15 by omega)).wr W39 (show n0 ≤ b15 by omega)).wr W42 (show n0 ≤ b15 by omega)).wr W45 (show n0 ≤ b15 by omega)).wr W48 (show n0 ≤ b15 by omega)).wr W51 (show n0 ≤ b15 by omega)).wr W54 (show n0 ≤ b15 by omega)).ext E56).wr W59 (show n0 ≤ b56 by omega)).wr W62 (show n0 ≤ b56 by omega)).wr W65 (show n0 ≤ b56 by omega)).wr W68 (show n0 ≤ b56 by omega)).wr W71 (show n0 ≤ b56 by omega)).wr W74 (show n0 ≤ b56 by omega)).wr W77 (show n0 ≤ b56 by omega)).wr W80 (show n0 ≤ b56 by omega)).wr W83 (show n0 ≤ b56 by omega)).wr W86 (show n0 ≤ b56 by omega)).wr W89 (show n0 ≤ b56 by omega)).wr W92 (show n0 ≤ b56 by omega)).wr W95 (show n0 ≤ b56 by omega)).keep K322 (allS (show n0 ≤ b15 by omega) (allS (show n0 ≤ b56 by omega) all0))).ext E326).ext E328).wr W331 (show n0 ≤ b328 by omega)).ext E333).wr W336 (show n0 ≤ b333 by omega)).wr W339 (show n0 ≤ b333 by omega)).ext E341).wr W344 (show n0 ≤ b341 by omega)).wr W347 (show n0 ≤ b341 by omega)).wr W350 (show n0 ≤ b341 by omega)).keep K367 all0).ext E370)
  have f377 : Arv Z h370 tE_322 kE_322 .char (13 : Int32) (csE_322.map Value.int) (.int (0 : Int32)) := ((((((((((((G322_0.ext E326).ext E328).other W331 (show @Ne Nat tE_322 b328 by omega)).ext E333).other W336 (show @Ne Nat tE_322 b333 by omega)).other W339 (show @Ne Nat tE_322 b333 by omega)).ext E341).other W344 (show @Ne Nat tE_322 b341 by omega)).other W347 (show @Ne Nat tE_322 b341 by omega)).other W350 (show @Ne Nat tE_322 b341 by omega)).keep K367 nin0).ext E370)
  have Zc378 : n0 ≤ h370.size := by omega
  obtain ⟨_, _, ⟨T379, L379, k379, n379⟩, -, Xr379, hSr379, hg379, ⟨Lc379, hQ379, l379, y379, z379, Cp379⟩, st379⟩ := X370.specialBackS hx (y := (⟨"java/lang/String", "<init>", "([C)V"⟩ : MethodName)) rfl hown (mvT hZ (hw _ (List.mem_of_getElem? (i := 5) rfl))) (mvT hZ (hw _ (List.mem_of_getElem? (i := 6) rfl))) (mvT hZ (hw _ (List.mem_of_getElem? (i := 7) rfl))) (by decide) (backOfSH (s := s) (vm0 := s.vm) (W := 1) (rmIni1 l Z a0 hw [] b370 tE_322 cst csE_322 kE_322 13 h370 n0 Zc378 I1 O376 (hcst : ¬ (cst = (0 : Int32))) A370 F374 F373 f377 J322_0 (by decide) J322_1 (by first | assumption | omega | rfl | decide : n0 ≤ b370) (by first | assumption | omega | rfl | decide : @Ne Nat b370 tE_322)) hZ (hw _ (List.mem_of_getElem? (i := 7) rfl)) (hw _ (List.mem_of_getElem? (i := 4) rfl)) (by decide) (by decide) hEL CR.1) (g := (mkF m 396 #[.val (.int layout), .val (.int shape), .val (.long lc), .second, .val (.int (Int32.ofNat ms)), .val (.int (Int32.ofNat mp)), .val (.int q3), .val (.int (Int32.ofNat (ms + 1 + mp))), .val (.int q8), .val (.int q9), .val (.int q10), .val (.ref b15), .val (.ref b56), .val (.ref tE_322), .val (.ref b326), .val (.ref b328), .val (.ref b333), .val (.ref b341), .val (.ref pE_367), .unset, .unset, .unset] [(.ref tE_322), (.ref b370), (.ref b370)])) rfl (by rw [hml]; rfl) (Steps.refl _) (a := b370) (argsL := [(.ref tE_322)]) (rest := [(.ref b370)]) (lenOf pd___C_V rfl) rfl (by show 2 * 0 + _ ≤ _; exact Nat.le_of_eq rfl) (Jvm.hb hby at_396) (fun _ _ => ⟨rfl, e370, (by decide : 7 + 4 ≤ _), (by decide : 36 + 13 ≤ _)⟩)
  dsimp only [Pt.U, Pt.locs, Pt.cells, Pt.slots] at Xr379 hSr379 hg379 l379 y379 z379 st379 hQ379 Cp379
  subst l379 y379 z379
  obtain ⟨X379, hS, hZ, hown⟩ := rebS (own := "com/example/odysseus/odysseus/UrlUrlPathIndexPinLaw") hS (by first | exact Nat.le_refl _ | (rw [e370]; exact hk)) Xr379 hSr379 hg379 hZ hown
  obtain ⟨b_379, kb_379, rfl, N379q, K379, Fq379_0, Fq379_1, Fq379_2, Fq379_3⟩ := hQ379
  have N379 := Fr.app N367 N379q
  obtain ⟨h379, e379⟩ : ∃ z, T379.heap = z := ⟨_, rfl⟩
  rw [e379] at K379 Fq379_0 Fq379_1 Fq379_2 Fq379_3 Cp379
  have hk : T379.heap.size ≤ h379.size := Nat.le_of_eq (congrArg Array.size e379)
  have z380 : h370.size ≤ h379.size := K379.1
  have CR := CR.trans Cp379
  have lt379_0 : @LT.lt Nat _ b370 h379.size := Fq379_0.lt
  have lt379_3 : @LT.lt Nat _ b_379 h379.size := Fq379_3.lt
  have s381 : ∀ t_, Steps p.tables e below (T379.setTop (mkF m 403 #[.val (.int layout), .val (.int shape), .val (.long lc), .second, .val (.int (Int32.ofNat ms)), .val (.int (Int32.ofNat mp)), .val (.int q3), .val (.int (Int32.ofNat (ms + 1 + mp))), .val (.int q8), .val (.int q9), .val (.int q10), .val (.ref b15), .val (.ref b56), .val (.ref tE_322), .val (.ref b326), .val (.ref b328), .val (.ref b333), .val (.ref b341), .val (.ref pE_367), .val (.ref b370), .unset, .unset] [(.int q3)])) t_ → Steps p.tables e below (s₁.setTop (entryFrame m #[(.int layout), (.int shape), (.long lc)] maxLocals)) t_ := fun t_ k_ => s375 t_ (by
    show Steps p.tables e below (T370.setTop (mkF m 396 #[.val (.int layout), .val (.int shape), .val (.long lc), .second, .val (.int (Int32.ofNat ms)), .val (.int (Int32.ofNat mp)), .val (.int q3), .val (.int (Int32.ofNat (ms + 1 + mp))), .val (.int q8), .val (.int q9), .val (.int q10), .val (.ref b15), .val (.ref b56), .val (.ref tE_322), .val (.ref b326), .val (.ref b328), .val (.ref b333), .val (.ref b341), .val (.ref pE_367), .unset, .unset, .unset] [(.ref tE_322), (.ref b370), (.ref b370)])) t_
    refine st379.trans ?_
    show Steps p.tables e below (T379.setTop (mkF m 399 #[.val (.int layout), .val (.int shape), .val (.long lc), .second, .val (.int (Int32.ofNat ms)), .val (.int (Int32.ofNat mp)), .val (.int q3), .val (.int (Int32.ofNat (ms + 1 + mp))), .val (.int q8), .val (.int q9), .val (.int q10), .val (.ref b15), .val (.ref b56), .val (.ref tE_322), .val (.ref b326), .val (.ref b328), .val (.ref b333), .val (.ref b341), .val (.ref pE_367), .unset, .unset, .unset] [(.ref b370)])) _
    refine XS.astore X379.here hx rfl (Jvm.hb hby at_399) rfl rfl (l' := #[.val (.int layout), .val (.int shape), .val (.long lc), .second, .val (.int (Int32.ofNat ms)), .val (.int (Int32.ofNat mp)), .val (.int q3), .val (.int (Int32.ofNat (ms + 1 + mp))), .val (.int q8), .val (.int q9), .val (.int q10), .val (.ref b15), .val (.ref b56), .val (.ref tE_322), .val (.ref b326), .val (.ref b328), .val (.ref b333), .val (.ref b341), .val (.ref pE_367), .val (.ref b370), .unset, .unset]) rfl ?_
    refine XS.iload X379.here hx rfl (Jvm.hb hby at_401) rfl ?_
    show Steps p.tables e below (T379.setTop (mkF m 403 #[.val (.int layout), .val (.int shape), .val (.long lc), .second, .val (.int (Int32.ofNat ms)), .val (.int (Int32.ofNat mp)), .val (.int q3), .val (.int (Int32.ofNat (ms + 1 + mp))), .val (.int q8), .val (.int q9), .val (.int q10), .val (.ref b15), .val (.ref b56), .val (.ref tE_322), .val (.ref b326), .val (.ref b328), .val (.ref b333), .val (.ref b341), .val (.ref pE_367), .val (.ref b370), .unset, .unset] [(.int q3)])) t_
    exact k_)
  by_cases h382 : q3 = (0 : Int32)
  · have s384 : ∀ t_, Steps p.tables e below (T379.setTop (mkF m 411 #[.val (.int layout), .val (.int shape), .val (.long lc), .second, .val (.int (Int32.ofNat ms)), .val (.int (Int32.ofNat mp)), .val (.int q3), .val (.int (Int32.ofNat (ms + 1 + mp))), .val (.int q8), .val (.int q9), .val (.int q10), .val (.ref b15), .val (.ref b56), .val (.ref tE_322), .val (.ref b326), .val (.ref b328), .val (.ref b333), .val (.ref b341), .val (.ref pE_367), .val (.ref b370), .unset, .unset] [])) t_ → Steps p.tables e below (s₁.setTop (entryFrame m #[(.int layout), (.int shape), (.long lc)] maxLocals)) t_ := fun t_ k_ => s381 t_ (by
      show Steps p.tables e below (T379.setTop (mkF m 403 #[.val (.int layout), .val (.int shape), .val (.long lc), .second, .val (.int (Int32.ofNat ms)), .val (.int (Int32.ofNat mp)), .val (.int q3), .val (.int (Int32.ofNat (ms + 1 + mp))), .val (.int q8), .val (.int q9), .val (.int q10), .val (.ref b15), .val (.ref b56), .val (.ref tE_322), .val (.ref b326), .val (.ref b328), .val (.ref b333), .val (.ref b341), .val (.ref pE_367), .val (.ref b370), .unset, .unset] [(.int q3)])) t_
      refine XS.ifYes X379.here hx rfl (pc0 := 403) (pc' := 411) rfl (Jvm.hb hby at_403) rfl ((if0 _ _).trans (teq h382).1) (by decide) (by decide) ?_
      show Steps p.tables e below (T379.setTop (mkF m 411 #[.val (.int layout), .val (.int shape), .val (.long lc), .second, .val (.int (Int32.ofNat ms)), .val (.int (Int32.ofNat mp)), .val (.int q3), .val (.int (Int32.ofNat (ms + 1 + mp))), .val (.int q8), .val (.int q9), .val (.int q10), .val (.ref b15), .val (.ref b56), .val (.ref tE_322), .val (.ref b326), .val (.ref b328), .val (.ref b333), .val (.ref b341), .val (.ref pE_367), .val (.ref b370), .unset, .unset] [])) _
      show Steps p.tables e below (T379.setTop (mkF m 411 #[.val (.int layout), .val (.int shape), .val (.long lc), .second, .val (.int (Int32.ofNat ms)), .val (.int (Int32.ofNat mp)), .val (.int q3), .val (.int (Int32.ofNat (ms + 1 + mp))), .val (.int q8), .val (.int q9), .val (.int q10), .val (.ref b15), .val (.ref b56), .val (.ref tE_322), .val (.ref b326), .val (.ref b328), .val (.ref b333), .val (.ref b341), .val (.ref pE_367), .val (.ref b370), .unset, .unset] [])) t_
      exact k_)
    obtain ⟨a383, T383, h383, k383, b383, kk383, X383, e383, E383, hS, hk, hZ, hown, Ex383, Fc383, Fv383, Av383, la383, lb383, Cp383, Li383, Sa383, st383⟩ := ldcCH X379 hx hZ hown (hw _ (List.mem_of_getElem? (i := 31) rfl)) wS e379 hS hk hEL (List.mem_of_getElem? (i := 1) rfl) CR.1 (vs := [(.int (97 : Int32))]) (z := (1 : Int32)) ⟨by decide, by decide⟩ (by decide) rfl (g := (mkF m 411 #[.val (.int layout), .val (.int shape), .val (.long lc), .second, .val (.int (Int32.ofNat ms)), .val (.int (Int32.ofNat mp)), .val (.int q3), .val (.int (Int32.ofNat (ms + 1 + mp))), .val (.int q8), .val (.int q9), .val (.int q10), .val (.ref b15), .val (.ref b56), .val (.ref tE_322), .val (.ref b326), .val (.ref b328), .val (.ref b333), .val (.ref b341), .val (.ref pE_367), .val (.ref b370), .unset, .unset] [])) rfl (Jvm.hb hby at_411) (n := 4) (by decide) (by decide) (by decide) (by decide)
    have z385 : h379.size ≤ h383.size := E383.1
    have CR := CR.trans Cp383
    have la383 : @LT.lt Nat _ a383 h383.size := la383
    have lb383 : @LT.lt Nat _ b383 h383.size := lb383
    obtain ⟨T386, h386, X386, e386, E386, A386, D386, -, st386⟩ := newO X383 hx hZ hown (hw _ (List.mem_of_getElem? (i := 34) rfl)) (hw _ (List.mem_of_getElem? (i := 35) rfl)) (hw _ (List.mem_of_getElem? (i := 36) rfl)) e383 (g := (mkF m 415 #[.val (.int layout), .val (.int shape), .val (.long lc), .second, .val (.int (Int32.ofNat ms)), .val (.int (Int32.ofNat mp)), .val (.int q3), .val (.int (Int32.ofNat (ms + 1 + mp))), .val (.int q8), .val (.int q9), .val (.int q10), .val (.ref b15), .val (.ref b56), .val (.ref tE_322), .val (.ref b326), .val (.ref b328), .val (.ref b333), .val (.ref b341), .val (.ref pE_367), .val (.ref b370), .val (.ref a383), .unset] [])) rfl (Jvm.hb hby at_415) (by decide) (by decide)
    obtain ⟨b386, g386⟩ : ∃ z, z = h383.size := ⟨_, rfl⟩
    rw [← g386] at A386 D386 st386
    have z387 : h383.size ≤ h386.size := E386.1
    have Cp387 : CHr Z ELs T383.vm h383 T383.vm h386 := CHr.ext E386 CR.1
    have hk := Nat.le_trans hk z387
    have CR := CR.trans Cp387
    have l386 : b386 < h386.size := A386.lt
    have F388 : Fld Z h386 b386 "com/example/odysseus/odysseus/Url" "text" "Ljava/lang/String;" .null := D386 (Or.inr (hw _ (List.mem_of_getElem? (i := 42) rfl))) (ty := (.object "java/lang/String")) (by decide)
    have F389 : Fld Z h386 b386 "com/example/odysseus/odysseus/Url" "scheme" "Ljava/lang/String;" .null := D386 (Or.inr (hw _ (List.mem_of_getElem? (i := 44) rfl))) (ty := (.object "java/lang/String")) (by decide)
    have F390 : Fld Z h386 b386 "com/example/odysseus/odysseus/Url" "schemeSpecificEnd" "I" (.int (0 : Int32)) := D386 (Or.inr (hw _ (List.mem_of_getElem? (i := 46) rfl))) (ty := .int) (by decide)
    have F391 : Fld Z h386 b386 "com/example/odysseus/odysseus/Url" "user" "Ljava/lang/String;" .null := D386 (Or.inr (hw _ (List.mem_of_getElem? (i := 48) rfl))) (ty := (.object "java/lang/String")) (by decide)
    have F392 : Fld Z h386 b386 "com/example/odysseus/odysseus/Url" "password" "Ljava/lang/String;" .null := D386 (Or.inr (hw _ (List.mem_of_getElem? (i := 50) rfl))) (ty := (.object "java/lang/String")) (by decide)
    have F393 : Fld Z h386 b386 "com/example/odysseus/odysseus/Url" "host" "Ljava/lang/String;" .null := D386 (Or.inr (hw _ (List.mem_of_getElem? (i := 52) rfl))) (ty := (.object "java/lang/String")) (by decide)
    have F394 : Fld Z h386 b386 "com/example/odysseus/odysseus/Url" "port" "I" (.int (0 : Int32)) := D386 (Or.inr (hw _ (List.mem_of_getElem? (i := 54) rfl))) (ty := .int) (by decide)
    have F395 : Fld Z h386 b386 "com/example/odysseus/odysseus/Url" "urlPath" "Ljava/lang/String;" .null := D386 (Or.inr (hw _ (List.mem_of_getElem? (i := 56) rfl))) (ty := (.object "java/lang/String")) (by decide)
    obtain ⟨T396, h396, X396, e396, E396, A396, D396, -, st396⟩ := newO X386 hx hZ hown (hw _ (List.mem_of_getElem? (i := 2) rfl)) (hw _ (List.mem_of_getElem? (i := 3) rfl)) (hw _ (List.mem_of_getElem? (i := 4) rfl)) e386 (g := (mkF m 429 #[.val (.int layout), .val (.int shape), .val (.long lc), .second, .val (.int (Int32.ofNat ms)), .val (.int (Int32.ofNat mp)), .val (.int q3), .val (.int (Int32.ofNat (ms + 1 + mp))), .val (.int q8), .val (.int q9), .val (.int q10), .val (.ref b15), .val (.ref b56), .val (.ref tE_322), .val (.ref b326), .val (.ref b328), .val (.ref b333), .val (.ref b341), .val (.ref pE_367), .val (.ref b370), .val (.ref a383), .unset] [(.int (-1 : Int32)), .null, .null, .null, (.int (Int32.ofNat (ms + 1 + mp))), (.ref a383), (.ref b370), (.ref b386), (.ref b386)])) rfl (Jvm.hb hby at_429) (by decide) (by decide)
    obtain ⟨b396, g396⟩ : ∃ z, z = h386.size := ⟨_, rfl⟩
    rw [← g396] at A396 D396 st396
    have z397 : h386.size ≤ h396.size := E396.1
    have Sf398 : Safe Z ELs T383.vm h396 b396 := Safe.ext E396 CR.1 (Safe.new (by omega))
    have Cp397 : CHr Z ELs T383.vm h386 T383.vm h396 := CHr.ext E396 CR.1
    have hk := Nat.le_trans hk z397
    have CR := CR.trans Cp397
    have l396 : b396 < h396.size := A396.lt
    have F399 : Fld Z h396 b396 "java/lang/String" "coder" "B" (.int (0 : Int32)) := D396 (Or.inr (hw _ (List.mem_of_getElem? (i := 28) rfl))) (ty := .byte) (by decide)
    have F400 : Fld Z h396 b396 "java/lang/String" "value" "[B" .null := D396 (Or.inr (hw _ (List.mem_of_getElem? (i := 30) rfl))) (ty := (.array .byte)) (by decide)
    have s401 : ∀ t_, Steps p.tables e below (T396.setTop (mkF m 435 #[.val (.int layout), .val (.int shape), .val (.long lc), .second, .val (.int (Int32.ofNat ms)), .val (.int (Int32.ofNat mp)), .val (.int q3), .val (.int (Int32.ofNat (ms + 1 + mp))), .val (.int q8), .val (.int q9), .val (.int q10), .val (.ref b15), .val (.ref b56), .val (.ref tE_322), .val (.ref b326), .val (.ref b328), .val (.ref b333), .val (.ref b341), .val (.ref pE_367), .val (.ref b370), .val (.ref a383), .unset] [(.ref pE_367), (.ref b396), (.ref b396), (.int (-1 : Int32)), .null, .null, .null, (.int (Int32.ofNat (ms + 1 + mp))), (.ref a383), (.ref b370), (.ref b386), (.ref b386)])) t_ → Steps p.tables e below (s₁.setTop (entryFrame m #[(.int layout), (.int shape), (.long lc)] maxLocals)) t_ := fun t_ k_ => s384 t_ (by
      show Steps p.tables e below (T379.setTop (mkF m 411 #[.val (.int layout), .val (.int shape), .val (.long lc), .second, .val (.int (Int32.ofNat ms)), .val (.int (Int32.ofNat mp)), .val (.int q3), .val (.int (Int32.ofNat (ms + 1 + mp))), .val (.int q8), .val (.int q9), .val (.int q10), .val (.ref b15), .val (.ref b56), .val (.ref tE_322), .val (.ref b326), .val (.ref b328), .val (.ref b333), .val (.ref b341), .val (.ref pE_367), .val (.ref b370), .unset, .unset] [])) t_
      refine st383 _ ?_
      show Steps p.tables e below (T383.setTop (mkF m 413 #[.val (.int layout), .val (.int shape), .val (.long lc), .second, .val (.int (Int32.ofNat ms)), .val (.int (Int32.ofNat mp)), .val (.int q3), .val (.int (Int32.ofNat (ms + 1 + mp))), .val (.int q8), .val (.int q9), .val (.int q10), .val (.ref b15), .val (.ref b56), .val (.ref tE_322), .val (.ref b326), .val (.ref b328), .val (.ref b333), .val (.ref b341), .val (.ref pE_367), .val (.ref b370), .unset, .unset] [(.ref a383)])) _
      refine XS.astore X383.here hx rfl (Jvm.hb hby at_413) rfl rfl (l' := #[.val (.int layout), .val (.int shape), .val (.long lc), .second, .val (.int (Int32.ofNat ms)), .val (.int (Int32.ofNat mp)), .val (.int q3), .val (.int (Int32.ofNat (ms + 1 + mp))), .val (.int q8), .val (.int q9), .val (.int q10), .val (.ref b15), .val (.ref b56), .val (.ref tE_322), .val (.ref b326), .val (.ref b328), .val (.ref b333), .val (.ref b341), .val (.ref pE_367), .val (.ref b370), .val (.ref a383), .unset]) rfl ?_
      refine st386 _ ?_
      show Steps p.tables e below (T386.setTop (mkF m 418 #[.val (.int layout), .val (.int shape), .val (.long lc), .second, .val (.int (Int32.ofNat ms)), .val (.int (Int32.ofNat mp)), .val (.int q3), .val (.int (Int32.ofNat (ms + 1 + mp))), .val (.int q8), .val (.int q9), .val (.int q10), .val (.ref b15), .val (.ref b56), .val (.ref tE_322), .val (.ref b326), .val (.ref b328), .val (.ref b333), .val (.ref b341), .val (.ref pE_367), .val (.ref b370), .val (.ref a383), .unset] [(.ref b386)])) _
      refine XS.dup X386.here hx rfl (Jvm.hb hby at_418) rfl rfl ?_
      refine XS.aload X386.here hx rfl (Jvm.hb hby at_419) rfl rfl ?_
      refine XS.aload X386.here hx rfl (Jvm.hb hby at_421) rfl rfl ?_
      refine XS.iload X386.here hx rfl (Jvm.hb hby at_423) rfl ?_
      refine XS.aconstNull X386.here hx rfl (Jvm.hb hby at_425) ?_
      refine XS.aconstNull X386.here hx rfl (Jvm.hb hby at_426) ?_
      show Steps p.tables e below (T386.setTop (mkF m 427 #[.val (.int layout), .val (.int shape), .val (.long lc), .second, .val (.int (Int32.ofNat ms)), .val (.int (Int32.ofNat mp)), .val (.int q3), .val (.int (Int32.ofNat (ms + 1 + mp))), .val (.int q8), .val (.int q9), .val (.int q10), .val (.ref b15), .val (.ref b56), .val (.ref tE_322), .val (.ref b326), .val (.ref b328), .val (.ref b333), .val (.ref b341), .val (.ref pE_367), .val (.ref b370), .val (.ref a383), .unset] [.null, .null, (.int (Int32.ofNat (ms + 1 + mp))), (.ref a383), (.ref b370), (.ref b386), (.ref b386)])) _
      refine XS.aconstNull X386.here hx rfl (Jvm.hb hby at_427) ?_
      refine XS.iconst X386.here hx rfl (Jvm.hb hby at_428) ?_
      refine st396 _ ?_
      show Steps p.tables e below (T396.setTop (mkF m 432 #[.val (.int layout), .val (.int shape), .val (.long lc), .second, .val (.int (Int32.ofNat ms)), .val (.int (Int32.ofNat mp)), .val (.int q3), .val (.int (Int32.ofNat (ms + 1 + mp))), .val (.int q8), .val (.int q9), .val (.int q10), .val (.ref b15), .val (.ref b56), .val (.ref tE_322), .val (.ref b326), .val (.ref b328), .val (.ref b333), .val (.ref b341), .val (.ref pE_367), .val (.ref b370), .val (.ref a383), .unset] [(.ref b396), (.int (-1 : Int32)), .null, .null, .null, (.int (Int32.ofNat (ms + 1 + mp))), (.ref a383), (.ref b370), (.ref b386), (.ref b386)])) _
      refine XS.dup X396.here hx rfl (Jvm.hb hby at_432) rfl rfl ?_
      refine XS.aload X396.here hx rfl (Jvm.hb hby at_433) rfl rfl ?_
      show Steps p.tables e below (T396.setTop (mkF m 435 #[.val (.int layout), .val (.int shape), .val (.long lc), .second, .val (.int (Int32.ofNat ms)), .val (.int (Int32.ofNat mp)), .val (.int q3), .val (.int (Int32.ofNat (ms + 1 + mp))), .val (.int q8), .val (.int q9), .val (.int q10), .val (.ref b15), .val (.ref b56), .val (.ref tE_322), .val (.ref b326), .val (.ref b328), .val (.ref b333), .val (.ref b341), .val (.ref pE_367), .val (.ref b370), .val (.ref a383), .unset] [(.ref pE_367), (.ref b396), (.ref b396), (.int (-1 : Int32)), .null, .null, .null, (.int (Int32.ofNat (ms + 1 + mp))), (.ref a383), (.ref b370), (.ref b386), (.ref b386)])) t_
      exact k_)
    have O402 : Old Z n0 h396 := ((((O376.keep K379 (allS (show n0 ≤ b370 by omega) all0)).ext E383).ext E386).ext E396)
    have f403 : Arv Z h396 pE_367 kP_367 .char (Int32.ofNat csP_367.length) (csP_367.map Value.int) (.int (0 : Int32)) := (((((G367_0.ext E370).keep K379 (ninS (show @Ne Nat pE_367 b370 by omega) nin0)).ext E383).ext E386).ext E396)
    have Zc404 : n0 ≤ h396.size := by omega
    obtain ⟨_, _, ⟨T405, L405, k405, n405⟩, -, Xr405, hSr405, hg405, ⟨Lc405, hQ405, l405, y405, z405, Cp405⟩, st405⟩ := X396.specialBackS hx (y := (⟨"java/lang/String", "<init>", "([C)V"⟩ : MethodName)) rfl hown (mvT hZ (hw _ (List.mem_of_getElem? (i := 5) rfl))) (mvT hZ (hw _ (List.mem_of_getElem? (i := 6) rfl))) (mvT hZ (hw _ (List.mem_of_getElem? (i := 7) rfl))) (by decide) (backOfSH (s := s) (vm0 := T383.vm) (W := 10) (rmIni1 l Z a0 hw [] b396 pE_367 cst csP_367 kP_367 csP_367.length h396 n0 Zc404 I1 O402 (hcst : ¬ (cst = (0 : Int32))) A396 F400 F399 f403 rfl (by omega) J367_1 (by first | assumption | omega | rfl | decide : n0 ≤ b396) (by first | assumption | omega | rfl | decide : @Ne Nat b396 pE_367)) hZ (hw _ (List.mem_of_getElem? (i := 7) rfl)) (hw _ (List.mem_of_getElem? (i := 4) rfl)) (by decide) (by decide) hEL CR.1) (g := (mkF m 435 #[.val (.int layout), .val (.int shape), .val (.long lc), .second, .val (.int (Int32.ofNat ms)), .val (.int (Int32.ofNat mp)), .val (.int q3), .val (.int (Int32.ofNat (ms + 1 + mp))), .val (.int q8), .val (.int q9), .val (.int q10), .val (.ref b15), .val (.ref b56), .val (.ref tE_322), .val (.ref b326), .val (.ref b328), .val (.ref b333), .val (.ref b341), .val (.ref pE_367), .val (.ref b370), .val (.ref a383), .unset] [(.ref pE_367), (.ref b396), (.ref b396), (.int (-1 : Int32)), .null, .null, .null, (.int (Int32.ofNat (ms + 1 + mp))), (.ref a383), (.ref b370), (.ref b386), (.ref b386)])) rfl (by rw [hml]; rfl) (Steps.refl _) (a := b396) (argsL := [(.ref pE_367)]) (rest := [(.ref b396), (.int (-1 : Int32)), .null, .null, .null, (.int (Int32.ofNat (ms + 1 + mp))), (.ref a383), (.ref b370), (.ref b386), (.ref b386)]) (lenOf pd___C_V rfl) rfl (by show 2 * 0 + _ ≤ _; exact Nat.le_of_eq rfl) (Jvm.hb hby at_435) (fun _ _ => ⟨rfl, e396, (by decide : 15 + 4 ≤ _), (by decide : 69 + 13 ≤ _)⟩)
    dsimp only [Pt.U, Pt.locs, Pt.cells, Pt.slots] at Xr405 hSr405 hg405 l405 y405 z405 st405 hQ405 Cp405
    subst l405 y405 z405
    obtain ⟨X405, hS, hZ, hown⟩ := rebS (own := "com/example/odysseus/odysseus/UrlUrlPathIndexPinLaw") hS (by first | exact Nat.le_refl _ | (rw [e396]; exact hk)) Xr405 hSr405 hg405 hZ hown
    obtain ⟨b_405, kb_405, rfl, N405q, K405, Fq405_0, Fq405_1, Fq405_2, Fq405_3⟩ := hQ405
    have N405 := Fr.app N379 N405q
    obtain ⟨h405, e405⟩ : ∃ z, T405.heap = z := ⟨_, rfl⟩
    rw [e405] at K405 Fq405_0 Fq405_1 Fq405_2 Fq405_3 Cp405
    have hk : T405.heap.size ≤ h405.size := Nat.le_of_eq (congrArg Array.size e405)
    have z406 : h396.size ≤ h405.size := K405.1
    have CR := CR.trans Cp405
    have lt405_0 : @LT.lt Nat _ b396 h405.size := Fq405_0.lt
    have lt405_3 : @LT.lt Nat _ b_405 h405.size := Fq405_3.lt
    have s407 : ∀ t_, Steps p.tables e below (T405.setTop (mkF m 438 #[.val (.int layout), .val (.int shape), .val (.long lc), .second, .val (.int (Int32.ofNat ms)), .val (.int (Int32.ofNat mp)), .val (.int q3), .val (.int (Int32.ofNat (ms + 1 + mp))), .val (.int q8), .val (.int q9), .val (.int q10), .val (.ref b15), .val (.ref b56), .val (.ref tE_322), .val (.ref b326), .val (.ref b328), .val (.ref b333), .val (.ref b341), .val (.ref pE_367), .val (.ref b370), .val (.ref a383), .unset] [(.ref b396), (.int (-1 : Int32)), .null, .null, .null, (.int (Int32.ofNat (ms + 1 + mp))), (.ref a383), (.ref b370), (.ref b386), (.ref b386)])) t_ → Steps p.tables e below (s₁.setTop (entryFrame m #[(.int layout), (.int shape), (.long lc)] maxLocals)) t_ := fun t_ k_ => s401 t_ (by
      show Steps p.tables e below (T396.setTop (mkF m 435 #[.val (.int layout), .val (.int shape), .val (.long lc), .second, .val (.int (Int32.ofNat ms)), .val (.int (Int32.ofNat mp)), .val (.int q3), .val (.int (Int32.ofNat (ms + 1 + mp))), .val (.int q8), .val (.int q9), .val (.int q10), .val (.ref b15), .val (.ref b56), .val (.ref tE_322), .val (.ref b326), .val (.ref b328), .val (.ref b333), .val (.ref b341), .val (.ref pE_367), .val (.ref b370), .val (.ref a383), .unset] [(.ref pE_367), (.ref b396), (.ref b396), (.int (-1 : Int32)), .null, .null, .null, (.int (Int32.ofNat (ms + 1 + mp))), (.ref a383), (.ref b370), (.ref b386), (.ref b386)])) t_
      refine st405.trans ?_
      show Steps p.tables e below (T405.setTop (mkF m 438 #[.val (.int layout), .val (.int shape), .val (.long lc), .second, .val (.int (Int32.ofNat ms)), .val (.int (Int32.ofNat mp)), .val (.int q3), .val (.int (Int32.ofNat (ms + 1 + mp))), .val (.int q8), .val (.int q9), .val (.int q10), .val (.ref b15), .val (.ref b56), .val (.ref tE_322), .val (.ref b326), .val (.ref b328), .val (.ref b333), .val (.ref b341), .val (.ref pE_367), .val (.ref b370), .val (.ref a383), .unset] [(.ref b396), (.int (-1 : Int32)), .null, .null, .null, (.int (Int32.ofNat (ms + 1 + mp))), (.ref a383), (.ref b370), (.ref b386), (.ref b386)])) _
      show Steps p.tables e below (T405.setTop (mkF m 438 #[.val (.int layout), .val (.int shape), .val (.long lc), .second, .val (.int (Int32.ofNat ms)), .val (.int (Int32.ofNat mp)), .val (.int q3), .val (.int (Int32.ofNat (ms + 1 + mp))), .val (.int q8), .val (.int q9), .val (.int q10), .val (.ref b15), .val (.ref b56), .val (.ref tE_322), .val (.ref b326), .val (.ref b328), .val (.ref b333), .val (.ref b341), .val (.ref pE_367), .val (.ref b370), .val (.ref a383), .unset] [(.ref b396), (.int (-1 : Int32)), .null, .null, .null, (.int (Int32.ofNat (ms + 1 + mp))), (.ref a383), (.ref b370), (.ref b386), (.ref b386)])) t_
      exact k_)
    have f408 : Exa Z h405 b386 "com/example/odysseus/odysseus/Url" := ((A386.ext E396).keep K405)
    have f409 : Fld Z h405 b386 "com/example/odysseus/odysseus/Url" "text" "Ljava/lang/String;" .null := ((F388.ext E396).keep K405 (ninS (show @Ne Nat b386 b396 by omega) nin0))
    have f410 : Fld Z h405 b386 "com/example/odysseus/odysseus/Url" "scheme" "Ljava/lang/String;" .null := ((F389.ext E396).keep K405 (ninS (show @Ne Nat b386 b396 by omega) nin0))
    have f411 : Fld Z h405 b386 "com/example/odysseus/odysseus/Url" "schemeSpecificEnd" "I" (.int (0 : Int32)) := ((F390.ext E396).keep K405 (ninS (show @Ne Nat b386 b396 by omega) nin0))
    have f412 : Fld Z h405 b386 "com/example/odysseus/odysseus/Url" "user" "Ljava/lang/String;" .null := ((F391.ext E396).keep K405 (ninS (show @Ne Nat b386 b396 by omega) nin0))
    have f413 : Fld Z h405 b386 "com/example/odysseus/odysseus/Url" "password" "Ljava/lang/String;" .null := ((F392.ext E396).keep K405 (ninS (show @Ne Nat b386 b396 by omega) nin0))
    have f414 : Fld Z h405 b386 "com/example/odysseus/odysseus/Url" "host" "Ljava/lang/String;" .null := ((F393.ext E396).keep K405 (ninS (show @Ne Nat b386 b396 by omega) nin0))
    have f415 : Fld Z h405 b386 "com/example/odysseus/odysseus/Url" "port" "I" (.int (0 : Int32)) := ((F394.ext E396).keep K405 (ninS (show @Ne Nat b386 b396 by omega) nin0))
    have f416 : Fld Z h405 b386 "com/example/odysseus/odysseus/Url" "urlPath" "Ljava/lang/String;" .null := ((F395.ext E396).keep K405 (ninS (show @Ne Nat b386 b396 by omega) nin0))
    have Zc417 : n0 ≤ h405.size := by omega
    obtain ⟨_, _, ⟨T418, L418, k418, n418⟩, -, X418, ⟨Lc418, hQ418, l418, y418, z418⟩, st418⟩ := X405.specialBack hx (y := (⟨"com/example/odysseus/odysseus/Url", "<init>", "(Ljava/lang/String;Ljava/lang/String;ILjava/lang/String;Ljava/lang/String;Ljava/lang/String;ILjava/lang/String;)V"⟩ : MethodName)) rfl hown (mvT hZ (hw _ (List.mem_of_getElem? (i := 37) rfl))) (mvT hZ (hw _ (List.mem_of_getElem? (i := 38) rfl))) (mvT hZ (hw _ (List.mem_of_getElem? (i := 39) rfl))) (by decide) (backOf (W := 1) (rmUi l Z a0 hw [] b386 b370 a383 (Int32.ofNat (ms + 1 + mp)) (-1 : Int32) b396 h405 n0 Zc417 f408 f409 f410 f411 f412 f413 f414 f415 f416 (by first | assumption | omega | rfl | decide : n0 ≤ b386)) hZ (hw _ (List.mem_of_getElem? (i := 39) rfl)) (hw _ (List.mem_of_getElem? (i := 36) rfl)) (by decide) (by decide)) (g := (mkF m 438 #[.val (.int layout), .val (.int shape), .val (.long lc), .second, .val (.int (Int32.ofNat ms)), .val (.int (Int32.ofNat mp)), .val (.int q3), .val (.int (Int32.ofNat (ms + 1 + mp))), .val (.int q8), .val (.int q9), .val (.int q10), .val (.ref b15), .val (.ref b56), .val (.ref tE_322), .val (.ref b326), .val (.ref b328), .val (.ref b333), .val (.ref b341), .val (.ref pE_367), .val (.ref b370), .val (.ref a383), .unset] [(.ref b396), (.int (-1 : Int32)), .null, .null, .null, (.int (Int32.ofNat (ms + 1 + mp))), (.ref a383), (.ref b370), (.ref b386), (.ref b386)])) rfl (by rw [hml]; rfl) (Steps.refl _) (a := b386) (argsL := [(.ref b370), (.ref a383), (.int (Int32.ofNat (ms + 1 + mp))), .null, .null, .null, (.int (-1 : Int32)), (.ref b396)]) (rest := [(.ref b386)]) (lenOf pd__Ljava_lang_String_Ljava_lang_String_ILjava_lang_String_Ljava_lang_String_Ljava_lang_String_ILjava_lang_String__V rfl) rfl (by show 2 * 0 + _ ≤ _; exact Nat.le_of_eq rfl) (Jvm.hb hby at_438) (fun _ _ => ⟨rfl, e405, (by decide : 19 + 0 ≤ _), (by decide : 82 + 0 ≤ _)⟩)
    dsimp only [Pt.U, Pt.locs, Pt.cells, Pt.slots] at X418 l418 y418 z418 st418 hQ418
    subst l418 y418 z418
    obtain ⟨rfl, N418q, K418, Fq418_0, Fq418_1, Fq418_2⟩ := hQ418
    have N418 := Fr.app N405 N418q
    obtain ⟨h418, e418⟩ : ∃ z, T418.heap = z := ⟨_, rfl⟩
    rw [e418] at K418 Fq418_0 Fq418_1 Fq418_2
    have z419 : h405.size ≤ h418.size := K418.1
    have Cp419 : CHr Z ELs T405.vm h405 T405.vm h418 := CHr.keep K418 (sfS (Safe.exa hZ.alike f408 (by decide) (by decide)) sf0) CR.1
    have hk := Nat.le_trans hk z419
    have CR := CR.trans Cp419
    have lt418_0 : @LT.lt Nat _ b386 h418.size := Fq418_0.lt
    have s420 : ∀ t_, Steps p.tables e below (T418.setTop (mkF m 445 #[.val (.int layout), .val (.int shape), .val (.long lc), .second, .val (.int (Int32.ofNat ms)), .val (.int (Int32.ofNat mp)), .val (.int q3), .val (.int (Int32.ofNat (ms + 1 + mp))), .val (.int q8), .val (.int q9), .val (.int q10), .val (.ref b15), .val (.ref b56), .val (.ref tE_322), .val (.ref b326), .val (.ref b328), .val (.ref b333), .val (.ref b341), .val (.ref pE_367), .val (.ref b370), .val (.ref a383), .val (.ref b386)] [(.ref b386)])) t_ → Steps p.tables e below (s₁.setTop (entryFrame m #[(.int layout), (.int shape), (.long lc)] maxLocals)) t_ := fun t_ k_ => s407 t_ (by
      show Steps p.tables e below (T405.setTop (mkF m 438 #[.val (.int layout), .val (.int shape), .val (.long lc), .second, .val (.int (Int32.ofNat ms)), .val (.int (Int32.ofNat mp)), .val (.int q3), .val (.int (Int32.ofNat (ms + 1 + mp))), .val (.int q8), .val (.int q9), .val (.int q10), .val (.ref b15), .val (.ref b56), .val (.ref tE_322), .val (.ref b326), .val (.ref b328), .val (.ref b333), .val (.ref b341), .val (.ref pE_367), .val (.ref b370), .val (.ref a383), .unset] [(.ref b396), (.int (-1 : Int32)), .null, .null, .null, (.int (Int32.ofNat (ms + 1 + mp))), (.ref a383), (.ref b370), (.ref b386), (.ref b386)])) t_
      refine st418.trans ?_
      show Steps p.tables e below (T418.setTop (mkF m 441 #[.val (.int layout), .val (.int shape), .val (.long lc), .second, .val (.int (Int32.ofNat ms)), .val (.int (Int32.ofNat mp)), .val (.int q3), .val (.int (Int32.ofNat (ms + 1 + mp))), .val (.int q8), .val (.int q9), .val (.int q10), .val (.ref b15), .val (.ref b56), .val (.ref tE_322), .val (.ref b326), .val (.ref b328), .val (.ref b333), .val (.ref b341), .val (.ref pE_367), .val (.ref b370), .val (.ref a383), .unset] [(.ref b386)])) _
      refine XS.astore X418.here hx rfl (Jvm.hb hby at_441) rfl rfl (l' := #[.val (.int layout), .val (.int shape), .val (.long lc), .second, .val (.int (Int32.ofNat ms)), .val (.int (Int32.ofNat mp)), .val (.int q3), .val (.int (Int32.ofNat (ms + 1 + mp))), .val (.int q8), .val (.int q9), .val (.int q10), .val (.ref b15), .val (.ref b56), .val (.ref tE_322), .val (.ref b326), .val (.ref b328), .val (.ref b333), .val (.ref b341), .val (.ref pE_367), .val (.ref b370), .val (.ref a383), .val (.ref b386)]) rfl ?_
      refine XS.aload X418.here hx rfl (Jvm.hb hby at_443) rfl rfl ?_
      show Steps p.tables e below (T418.setTop (mkF m 445 #[.val (.int layout), .val (.int shape), .val (.long lc), .second, .val (.int (Int32.ofNat ms)), .val (.int (Int32.ofNat mp)), .val (.int q3), .val (.int (Int32.ofNat (ms + 1 + mp))), .val (.int q8), .val (.int q9), .val (.int q10), .val (.ref b15), .val (.ref b56), .val (.ref tE_322), .val (.ref b326), .val (.ref b328), .val (.ref b333), .val (.ref b341), .val (.ref pE_367), .val (.ref b370), .val (.ref a383), .val (.ref b386)] [(.ref b386)])) t_
      exact k_)
    have O421 : Old Z n0 h418 := ((O402.keep K405 (allS (show n0 ≤ b396 by omega) all0)).keep K418 (allS (show n0 ≤ b386 by omega) all0))
    have f422 : Exa Z h418 b396 "java/lang/String" := (Fq405_0.keep K418)
    have f423 : Fld Z h418 b396 "java/lang/String" "value" "[B" (.ref b_405) := (Fq405_1.keep K418 (ninS (show @Ne Nat b396 b386 by omega) nin0))
    have f424 : Fld Z h418 b396 "java/lang/String" "coder" "B" (.int (own_cod csP_367)) := (Fq405_2.keep K418 (ninS (show @Ne Nat b396 b386 by omega) nin0))
    have f425 : Arv Z h418 b_405 kb_405 .byte (Int32.ofNat (own_enl csP_367)) (own_enc csP_367) (.int (0 : Int32)) := (Fq405_3.keep K418 (ninS (Ne.symm (Exa.neArv f408 Fq405_3 (hw _ (List.mem_of_getElem? (i := 35) rfl)))) nin0))
    have Zc426 : n0 ≤ h418.size := by omega
    obtain ⟨cq427, kq427, q427a, q427b, q427c⟩ := isOf hZ e418 Fq418_0
    obtain ⟨_, _, ⟨T427, L427, k427, n427⟩, -, X427, ⟨Lc427, hQ427, l427, y427, z427⟩, st427⟩ := X418.virtualBack hx (y := (⟨"com/example/odysseus/odysseus/Url", "urlPathIndex", "()I"⟩ : MethodName)) (z := (⟨"com/example/odysseus/odysseus/Url", "urlPathIndex", "()I"⟩ : MethodName)) hown (mvT hZ (hw _ (List.mem_of_getElem? (i := 57) rfl))) (mvT hZ (hw _ (List.mem_of_getElem? (i := 58) rfl))) (notFace_of_selects (args := #[]) (mvT hZ (hw _ (List.mem_of_getElem? (i := 60) rfl)))) (mvT hZ (hw _ (List.mem_of_getElem? (i := 60) rfl))) (mvT hZ (hw _ (List.mem_of_getElem? (i := 59) rfl))) (by decide) (backOf (W := 0) (rmPix l Z a0 hw [] b386 (Int32.ofNat (ms + 1 + mp)) b396 cst b_405 kb_405 csP_367 h418 n0 Zc426 I1 O421 (hcst : ¬ (cst = (0 : Int32))) Fq418_0 Fq418_1 Fq418_2 f422 f423 f424 f425 (by first | assumption | omega | rfl | decide : csP_367.length ≤ 13)) hZ (hw _ (List.mem_of_getElem? (i := 61) rfl)) (hw _ (List.mem_of_getElem? (i := 36) rfl)) (by decide) (by decide)) q427a q427c (g := (mkF m 445 #[.val (.int layout), .val (.int shape), .val (.long lc), .second, .val (.int (Int32.ofNat ms)), .val (.int (Int32.ofNat mp)), .val (.int q3), .val (.int (Int32.ofNat (ms + 1 + mp))), .val (.int q8), .val (.int q9), .val (.int q10), .val (.ref b15), .val (.ref b56), .val (.ref tE_322), .val (.ref b326), .val (.ref b328), .val (.ref b333), .val (.ref b341), .val (.ref pE_367), .val (.ref b370), .val (.ref a383), .val (.ref b386)] [(.ref b386)])) rfl (by rw [hml]; rfl) (Steps.refl _) (argsL := []) (rest := []) (lenOf pd___I rfl) rfl (by show 2 * 0 + _ ≤ _; exact Nat.le_of_eq rfl) (Jvm.hb hby at_445) (fun _ _ => ⟨rfl, e418, (by decide : 19 + 0 ≤ _), (by decide : 82 + 0 ≤ _)⟩)
    dsimp only [Pt.U, Pt.locs, Pt.cells, Pt.slots] at X427 l427 y427 z427 st427 hQ427
    subst l427 y427 z427
    obtain ⟨rfl, N427q, e427⟩ := hQ427
    have N427 := Fr.app N418 N427q
    obtain ⟨q428, hq428⟩ : ∃ z : Int32, z = ((Int32.ofNat (ms + 1 + mp)) - (Int32.ofNat csP_367.length)) := ⟨_, rfl⟩
    rw [← hq428] at st427
    have hon : q428 = ((Int32.ofNat ms) + (1 : Int32)) := by rw [hq428]; exact own_pix ms mp csP_367.length J367_0
    have s429 : ∀ t_, Steps p.tables e below (T427.setTop (mkF m 460 #[.val (.int layout), .val (.int shape), .val (.long lc), .second, .val (.int (Int32.ofNat ms)), .val (.int (Int32.ofNat mp)), .val (.int q3), .val (.int (Int32.ofNat (ms + 1 + mp))), .val (.int q8), .val (.int q9), .val (.int q10), .val (.ref b15), .val (.ref b56), .val (.ref tE_322), .val (.ref b326), .val (.ref b328), .val (.ref b333), .val (.ref b341), .val (.ref pE_367), .val (.ref b370), .val (.ref a383), .val (.ref b386)] [(.int (1 : Int32))])) t_ → Steps p.tables e below (s₁.setTop (entryFrame m #[(.int layout), (.int shape), (.long lc)] maxLocals)) t_ := fun t_ k_ => s420 t_ (by
      show Steps p.tables e below (T418.setTop (mkF m 445 #[.val (.int layout), .val (.int shape), .val (.long lc), .second, .val (.int (Int32.ofNat ms)), .val (.int (Int32.ofNat mp)), .val (.int q3), .val (.int (Int32.ofNat (ms + 1 + mp))), .val (.int q8), .val (.int q9), .val (.int q10), .val (.ref b15), .val (.ref b56), .val (.ref tE_322), .val (.ref b326), .val (.ref b328), .val (.ref b333), .val (.ref b341), .val (.ref pE_367), .val (.ref b370), .val (.ref a383), .val (.ref b386)] [(.ref b386)])) t_
      refine st427.trans ?_
      show Steps p.tables e below (T427.setTop (mkF m 448 #[.val (.int layout), .val (.int shape), .val (.long lc), .second, .val (.int (Int32.ofNat ms)), .val (.int (Int32.ofNat mp)), .val (.int q3), .val (.int (Int32.ofNat (ms + 1 + mp))), .val (.int q8), .val (.int q9), .val (.int q10), .val (.ref b15), .val (.ref b56), .val (.ref tE_322), .val (.ref b326), .val (.ref b328), .val (.ref b333), .val (.ref b341), .val (.ref pE_367), .val (.ref b370), .val (.ref a383), .val (.ref b386)] [(.int q428)])) _
      refine XS.iload X427.here hx rfl (Jvm.hb hby at_448) rfl ?_
      refine XS.iconst X427.here hx rfl (Jvm.hb hby at_450) ?_
      refine XS.iadd X427.here hx rfl (Jvm.hb hby at_451) rfl ?_
      refine XS.icmpNo X427.here hx rfl (Jvm.hb hby at_452) rfl (teq hon).2 ?_
      show Steps p.tables e below (T427.setTop (mkF m 455 #[.val (.int layout), .val (.int shape), .val (.long lc), .second, .val (.int (Int32.ofNat ms)), .val (.int (Int32.ofNat mp)), .val (.int q3), .val (.int (Int32.ofNat (ms + 1 + mp))), .val (.int q8), .val (.int q9), .val (.int q10), .val (.ref b15), .val (.ref b56), .val (.ref tE_322), .val (.ref b326), .val (.ref b328), .val (.ref b333), .val (.ref b341), .val (.ref pE_367), .val (.ref b370), .val (.ref a383), .val (.ref b386)] [])) _
      refine XS.iconst X427.here hx rfl (Jvm.hb hby at_455) ?_
      refine XS.goto X427.here hx rfl (pc0 := 456) (pc' := 460) rfl (Jvm.hb hby at_456) (by decide) (by decide) ?_
      show Steps p.tables e below (T427.setTop (mkF m 460 #[.val (.int layout), .val (.int shape), .val (.long lc), .second, .val (.int (Int32.ofNat ms)), .val (.int (Int32.ofNat mp)), .val (.int q3), .val (.int (Int32.ofNat (ms + 1 + mp))), .val (.int q8), .val (.int q9), .val (.int q10), .val (.ref b15), .val (.ref b56), .val (.ref tE_322), .val (.ref b326), .val (.ref b328), .val (.ref b333), .val (.ref b341), .val (.ref pE_367), .val (.ref b370), .val (.ref a383), .val (.ref b386)] [(.int (1 : Int32))])) t_
      exact k_)
    obtain ⟨fs, hr, hrun, hended, hREW⟩ := X427.leaveW hS (by first | exact Nat.le_refl _ | (rw [e427]; exact hk)) (v := some (.int (1 : Int32))) (fun h => by rw [Bd.returns] at h; cases h)
    refine ⟨_, _, s429 _ ?_, hrun, hended, _, _, rfl, ?_, (by show CHr Z ELs s.vm s.heap T427.vm T427.heap; rw [hh, e427]; exact CR.trans (CHv.at X427 hZ hEL CR.1)), hREW.1, hREW.2.1, hREW.2.2.1, hREW.2.2.2.mono (by decide) (by decide)⟩
    · show Steps p.tables e below (T427.setTop (mkF m 460 #[.val (.int layout), .val (.int shape), .val (.long lc), .second, .val (.int (Int32.ofNat ms)), .val (.int (Int32.ofNat mp)), .val (.int q3), .val (.int (Int32.ofNat (ms + 1 + mp))), .val (.int q8), .val (.int q9), .val (.int q10), .val (.ref b15), .val (.ref b56), .val (.ref tE_322), .val (.ref b326), .val (.ref b328), .val (.ref b333), .val (.ref b341), .val (.ref pE_367), .val (.ref b370), .val (.ref a383), .val (.ref b386)] [(.int (1 : Int32))])) _
      exact retN X427 hx (t := .boolean) Bd.returns (by simp) (Jvm.hb hby at_460) hr
    · show Q_rmLaw Z _ _ _ _ h0 n0 _ T427.heap _
      rw [e427]
      exact ⟨rfl, N427⟩
  · have s431 : ∀ t_, Steps p.tables e below (T379.setTop (mkF m 406 #[.val (.int layout), .val (.int shape), .val (.long lc), .second, .val (.int (Int32.ofNat ms)), .val (.int (Int32.ofNat mp)), .val (.int q3), .val (.int (Int32.ofNat (ms + 1 + mp))), .val (.int q8), .val (.int q9), .val (.int q10), .val (.ref b15), .val (.ref b56), .val (.ref tE_322), .val (.ref b326), .val (.ref b328), .val (.ref b333), .val (.ref b341), .val (.ref pE_367), .val (.ref b370), .unset, .unset] [])) t_ → Steps p.tables e below (s₁.setTop (entryFrame m #[(.int layout), (.int shape), (.long lc)] maxLocals)) t_ := fun t_ k_ => s381 t_ (by
      show Steps p.tables e below (T379.setTop (mkF m 403 #[.val (.int layout), .val (.int shape), .val (.long lc), .second, .val (.int (Int32.ofNat ms)), .val (.int (Int32.ofNat mp)), .val (.int q3), .val (.int (Int32.ofNat (ms + 1 + mp))), .val (.int q8), .val (.int q9), .val (.int q10), .val (.ref b15), .val (.ref b56), .val (.ref tE_322), .val (.ref b326), .val (.ref b328), .val (.ref b333), .val (.ref b341), .val (.ref pE_367), .val (.ref b370), .unset, .unset] [(.int q3)])) t_
      refine XS.ifNo X379.here hx rfl (Jvm.hb hby at_403) rfl ((if0 _ _).trans (feq h382).1) ?_
      show Steps p.tables e below (T379.setTop (mkF m 406 #[.val (.int layout), .val (.int shape), .val (.long lc), .second, .val (.int (Int32.ofNat ms)), .val (.int (Int32.ofNat mp)), .val (.int q3), .val (.int (Int32.ofNat (ms + 1 + mp))), .val (.int q8), .val (.int q9), .val (.int q10), .val (.ref b15), .val (.ref b56), .val (.ref tE_322), .val (.ref b326), .val (.ref b328), .val (.ref b333), .val (.ref b341), .val (.ref pE_367), .val (.ref b370), .unset, .unset] [])) _
      show Steps p.tables e below (T379.setTop (mkF m 406 #[.val (.int layout), .val (.int shape), .val (.long lc), .second, .val (.int (Int32.ofNat ms)), .val (.int (Int32.ofNat mp)), .val (.int q3), .val (.int (Int32.ofNat (ms + 1 + mp))), .val (.int q8), .val (.int q9), .val (.int q10), .val (.ref b15), .val (.ref b56), .val (.ref tE_322), .val (.ref b326), .val (.ref b328), .val (.ref b333), .val (.ref b341), .val (.ref pE_367), .val (.ref b370), .unset, .unset] [])) t_
      exact k_)
    obtain ⟨a430, T430, h430, k430, b430, kk430, X430, e430, E430, hS, hk, hZ, hown, Ex430, Fc430, Fv430, Av430, la430, lb430, Cp430, Li430, Sa430, st430⟩ := ldcCH X379 hx hZ hown (hw _ (List.mem_of_getElem? (i := 72) rfl)) wS e379 hS hk hEL (List.mem_of_getElem? (i := 0) rfl) CR.1 (vs := [(.int (97 : Int32)), (.int (98 : Int32))]) (z := (2 : Int32)) ⟨by decide, by decide⟩ (by decide) rfl (g := (mkF m 406 #[.val (.int layout), .val (.int shape), .val (.long lc), .second, .val (.int (Int32.ofNat ms)), .val (.int (Int32.ofNat mp)), .val (.int q3), .val (.int (Int32.ofNat (ms + 1 + mp))), .val (.int q8), .val (.int q9), .val (.int q10), .val (.ref b15), .val (.ref b56), .val (.ref tE_322), .val (.ref b326), .val (.ref b328), .val (.ref b333), .val (.ref b341), .val (.ref pE_367), .val (.ref b370), .unset, .unset] [])) rfl (Jvm.hb hby at_406) (n := 8) (by decide) (by decide) (by decide) (by decide)
    have z432 : h379.size ≤ h430.size := E430.1
    have CR := CR.trans Cp430
    have la430 : @LT.lt Nat _ a430 h430.size := la430
    have lb430 : @LT.lt Nat _ b430 h430.size := lb430
    obtain ⟨T433, h433, X433, e433, E433, A433, D433, -, st433⟩ := newO X430 hx hZ hown (hw _ (List.mem_of_getElem? (i := 34) rfl)) (hw _ (List.mem_of_getElem? (i := 35) rfl)) (hw _ (List.mem_of_getElem? (i := 36) rfl)) e430 (g := (mkF m 415 #[.val (.int layout), .val (.int shape), .val (.long lc), .second, .val (.int (Int32.ofNat ms)), .val (.int (Int32.ofNat mp)), .val (.int q3), .val (.int (Int32.ofNat (ms + 1 + mp))), .val (.int q8), .val (.int q9), .val (.int q10), .val (.ref b15), .val (.ref b56), .val (.ref tE_322), .val (.ref b326), .val (.ref b328), .val (.ref b333), .val (.ref b341), .val (.ref pE_367), .val (.ref b370), .val (.ref a430), .unset] [])) rfl (Jvm.hb hby at_415) (by decide) (by decide)
    obtain ⟨b433, g433⟩ : ∃ z, z = h430.size := ⟨_, rfl⟩
    rw [← g433] at A433 D433 st433
    have z434 : h430.size ≤ h433.size := E433.1
    have Cp434 : CHr Z ELs T430.vm h430 T430.vm h433 := CHr.ext E433 CR.1
    have hk := Nat.le_trans hk z434
    have CR := CR.trans Cp434
    have l433 : b433 < h433.size := A433.lt
    have F435 : Fld Z h433 b433 "com/example/odysseus/odysseus/Url" "text" "Ljava/lang/String;" .null := D433 (Or.inr (hw _ (List.mem_of_getElem? (i := 42) rfl))) (ty := (.object "java/lang/String")) (by decide)
    have F436 : Fld Z h433 b433 "com/example/odysseus/odysseus/Url" "scheme" "Ljava/lang/String;" .null := D433 (Or.inr (hw _ (List.mem_of_getElem? (i := 44) rfl))) (ty := (.object "java/lang/String")) (by decide)
    have F437 : Fld Z h433 b433 "com/example/odysseus/odysseus/Url" "schemeSpecificEnd" "I" (.int (0 : Int32)) := D433 (Or.inr (hw _ (List.mem_of_getElem? (i := 46) rfl))) (ty := .int) (by decide)
    have F438 : Fld Z h433 b433 "com/example/odysseus/odysseus/Url" "user" "Ljava/lang/String;" .null := D433 (Or.inr (hw _ (List.mem_of_getElem? (i := 48) rfl))) (ty := (.object "java/lang/String")) (by decide)
    have F439 : Fld Z h433 b433 "com/example/odysseus/odysseus/Url" "password" "Ljava/lang/String;" .null := D433 (Or.inr (hw _ (List.mem_of_getElem? (i := 50) rfl))) (ty := (.object "java/lang/String")) (by decide)
    have F440 : Fld Z h433 b433 "com/example/odysseus/odysseus/Url" "host" "Ljava/lang/String;" .null := D433 (Or.inr (hw _ (List.mem_of_getElem? (i := 52) rfl))) (ty := (.object "java/lang/String")) (by decide)
    have F441 : Fld Z h433 b433 "com/example/odysseus/odysseus/Url" "port" "I" (.int (0 : Int32)) := D433 (Or.inr (hw _ (List.mem_of_getElem? (i := 54) rfl))) (ty := .int) (by decide)
    have F442 : Fld Z h433 b433 "com/example/odysseus/odysseus/Url" "urlPath" "Ljava/lang/String;" .null := D433 (Or.inr (hw _ (List.mem_of_getElem? (i := 56) rfl))) (ty := (.object "java/lang/String")) (by decide)
    obtain ⟨T443, h443, X443, e443, E443, A443, D443, -, st443⟩ := newO X433 hx hZ hown (hw _ (List.mem_of_getElem? (i := 2) rfl)) (hw _ (List.mem_of_getElem? (i := 3) rfl)) (hw _ (List.mem_of_getElem? (i := 4) rfl)) e433 (g := (mkF m 429 #[.val (.int layout), .val (.int shape), .val (.long lc), .second, .val (.int (Int32.ofNat ms)), .val (.int (Int32.ofNat mp)), .val (.int q3), .val (.int (Int32.ofNat (ms + 1 + mp))), .val (.int q8), .val (.int q9), .val (.int q10), .val (.ref b15), .val (.ref b56), .val (.ref tE_322), .val (.ref b326), .val (.ref b328), .val (.ref b333), .val (.ref b341), .val (.ref pE_367), .val (.ref b370), .val (.ref a430), .unset] [(.int (-1 : Int32)), .null, .null, .null, (.int (Int32.ofNat (ms + 1 + mp))), (.ref a430), (.ref b370), (.ref b433), (.ref b433)])) rfl (Jvm.hb hby at_429) (by decide) (by decide)
    obtain ⟨b443, g443⟩ : ∃ z, z = h433.size := ⟨_, rfl⟩
    rw [← g443] at A443 D443 st443
    have z444 : h433.size ≤ h443.size := E443.1
    have Sf445 : Safe Z ELs T430.vm h443 b443 := Safe.ext E443 CR.1 (Safe.new (by omega))
    have Cp444 : CHr Z ELs T430.vm h433 T430.vm h443 := CHr.ext E443 CR.1
    have hk := Nat.le_trans hk z444
    have CR := CR.trans Cp444
    have l443 : b443 < h443.size := A443.lt
    have F446 : Fld Z h443 b443 "java/lang/String" "coder" "B" (.int (0 : Int32)) := D443 (Or.inr (hw _ (List.mem_of_getElem? (i := 28) rfl))) (ty := .byte) (by decide)
    have F447 : Fld Z h443 b443 "java/lang/String" "value" "[B" .null := D443 (Or.inr (hw _ (List.mem_of_getElem? (i := 30) rfl))) (ty := (.array .byte)) (by decide)
    have s448 : ∀ t_, Steps p.tables e below (T443.setTop (mkF m 435 #[.val (.int layout), .val (.int shape), .val (.long lc), .second, .val (.int (Int32.ofNat ms)), .val (.int (Int32.ofNat mp)), .val (.int q3), .val (.int (Int32.ofNat (ms + 1 + mp))), .val (.int q8), .val (.int q9), .val (.int q10), .val (.ref b15), .val (.ref b56), .val (.ref tE_322), .val (.ref b326), .val (.ref b328), .val (.ref b333), .val (.ref b341), .val (.ref pE_367), .val (.ref b370), .val (.ref a430), .unset] [(.ref pE_367), (.ref b443), (.ref b443), (.int (-1 : Int32)), .null, .null, .null, (.int (Int32.ofNat (ms + 1 + mp))), (.ref a430), (.ref b370), (.ref b433), (.ref b433)])) t_ → Steps p.tables e below (s₁.setTop (entryFrame m #[(.int layout), (.int shape), (.long lc)] maxLocals)) t_ := fun t_ k_ => s431 t_ (by
      show Steps p.tables e below (T379.setTop (mkF m 406 #[.val (.int layout), .val (.int shape), .val (.long lc), .second, .val (.int (Int32.ofNat ms)), .val (.int (Int32.ofNat mp)), .val (.int q3), .val (.int (Int32.ofNat (ms + 1 + mp))), .val (.int q8), .val (.int q9), .val (.int q10), .val (.ref b15), .val (.ref b56), .val (.ref tE_322), .val (.ref b326), .val (.ref b328), .val (.ref b333), .val (.ref b341), .val (.ref pE_367), .val (.ref b370), .unset, .unset] [])) t_
      refine st430 _ ?_
      show Steps p.tables e below (T430.setTop (mkF m 408 #[.val (.int layout), .val (.int shape), .val (.long lc), .second, .val (.int (Int32.ofNat ms)), .val (.int (Int32.ofNat mp)), .val (.int q3), .val (.int (Int32.ofNat (ms + 1 + mp))), .val (.int q8), .val (.int q9), .val (.int q10), .val (.ref b15), .val (.ref b56), .val (.ref tE_322), .val (.ref b326), .val (.ref b328), .val (.ref b333), .val (.ref b341), .val (.ref pE_367), .val (.ref b370), .unset, .unset] [(.ref a430)])) _
      refine XS.goto X430.here hx rfl (pc0 := 408) (pc' := 413) rfl (Jvm.hb hby at_408) (by decide) (by decide) ?_
      refine XS.astore X430.here hx rfl (Jvm.hb hby at_413) rfl rfl (l' := #[.val (.int layout), .val (.int shape), .val (.long lc), .second, .val (.int (Int32.ofNat ms)), .val (.int (Int32.ofNat mp)), .val (.int q3), .val (.int (Int32.ofNat (ms + 1 + mp))), .val (.int q8), .val (.int q9), .val (.int q10), .val (.ref b15), .val (.ref b56), .val (.ref tE_322), .val (.ref b326), .val (.ref b328), .val (.ref b333), .val (.ref b341), .val (.ref pE_367), .val (.ref b370), .val (.ref a430), .unset]) rfl ?_
      refine st433 _ ?_
      show Steps p.tables e below (T433.setTop (mkF m 418 #[.val (.int layout), .val (.int shape), .val (.long lc), .second, .val (.int (Int32.ofNat ms)), .val (.int (Int32.ofNat mp)), .val (.int q3), .val (.int (Int32.ofNat (ms + 1 + mp))), .val (.int q8), .val (.int q9), .val (.int q10), .val (.ref b15), .val (.ref b56), .val (.ref tE_322), .val (.ref b326), .val (.ref b328), .val (.ref b333), .val (.ref b341), .val (.ref pE_367), .val (.ref b370), .val (.ref a430), .unset] [(.ref b433)])) _
      refine XS.dup X433.here hx rfl (Jvm.hb hby at_418) rfl rfl ?_
      refine XS.aload X433.here hx rfl (Jvm.hb hby at_419) rfl rfl ?_
      refine XS.aload X433.here hx rfl (Jvm.hb hby at_421) rfl rfl ?_
      refine XS.iload X433.here hx rfl (Jvm.hb hby at_423) rfl ?_
      refine XS.aconstNull X433.here hx rfl (Jvm.hb hby at_425) ?_
      refine XS.aconstNull X433.here hx rfl (Jvm.hb hby at_426) ?_
      show Steps p.tables e below (T433.setTop (mkF m 427 #[.val (.int layout), .val (.int shape), .val (.long lc), .second, .val (.int (Int32.ofNat ms)), .val (.int (Int32.ofNat mp)), .val (.int q3), .val (.int (Int32.ofNat (ms + 1 + mp))), .val (.int q8), .val (.int q9), .val (.int q10), .val (.ref b15), .val (.ref b56), .val (.ref tE_322), .val (.ref b326), .val (.ref b328), .val (.ref b333), .val (.ref b341), .val (.ref pE_367), .val (.ref b370), .val (.ref a430), .unset] [.null, .null, (.int (Int32.ofNat (ms + 1 + mp))), (.ref a430), (.ref b370), (.ref b433), (.ref b433)])) _
      refine XS.aconstNull X433.here hx rfl (Jvm.hb hby at_427) ?_
      refine XS.iconst X433.here hx rfl (Jvm.hb hby at_428) ?_
      refine st443 _ ?_
      show Steps p.tables e below (T443.setTop (mkF m 432 #[.val (.int layout), .val (.int shape), .val (.long lc), .second, .val (.int (Int32.ofNat ms)), .val (.int (Int32.ofNat mp)), .val (.int q3), .val (.int (Int32.ofNat (ms + 1 + mp))), .val (.int q8), .val (.int q9), .val (.int q10), .val (.ref b15), .val (.ref b56), .val (.ref tE_322), .val (.ref b326), .val (.ref b328), .val (.ref b333), .val (.ref b341), .val (.ref pE_367), .val (.ref b370), .val (.ref a430), .unset] [(.ref b443), (.int (-1 : Int32)), .null, .null, .null, (.int (Int32.ofNat (ms + 1 + mp))), (.ref a430), (.ref b370), (.ref b433), (.ref b433)])) _
      refine XS.dup X443.here hx rfl (Jvm.hb hby at_432) rfl rfl ?_
      refine XS.aload X443.here hx rfl (Jvm.hb hby at_433) rfl rfl ?_
      show Steps p.tables e below (T443.setTop (mkF m 435 #[.val (.int layout), .val (.int shape), .val (.long lc), .second, .val (.int (Int32.ofNat ms)), .val (.int (Int32.ofNat mp)), .val (.int q3), .val (.int (Int32.ofNat (ms + 1 + mp))), .val (.int q8), .val (.int q9), .val (.int q10), .val (.ref b15), .val (.ref b56), .val (.ref tE_322), .val (.ref b326), .val (.ref b328), .val (.ref b333), .val (.ref b341), .val (.ref pE_367), .val (.ref b370), .val (.ref a430), .unset] [(.ref pE_367), (.ref b443), (.ref b443), (.int (-1 : Int32)), .null, .null, .null, (.int (Int32.ofNat (ms + 1 + mp))), (.ref a430), (.ref b370), (.ref b433), (.ref b433)])) t_
      exact k_)
    have O449 : Old Z n0 h443 := ((((O376.keep K379 (allS (show n0 ≤ b370 by omega) all0)).ext E430).ext E433).ext E443)
    have f450 : Arv Z h443 pE_367 kP_367 .char (Int32.ofNat csP_367.length) (csP_367.map Value.int) (.int (0 : Int32)) := (((((G367_0.ext E370).keep K379 (ninS (show @Ne Nat pE_367 b370 by omega) nin0)).ext E430).ext E433).ext E443)
    have Zc451 : n0 ≤ h443.size := by omega
    obtain ⟨_, _, ⟨T452, L452, k452, n452⟩, -, Xr452, hSr452, hg452, ⟨Lc452, hQ452, l452, y452, z452, Cp452⟩, st452⟩ := X443.specialBackS hx (y := (⟨"java/lang/String", "<init>", "([C)V"⟩ : MethodName)) rfl hown (mvT hZ (hw _ (List.mem_of_getElem? (i := 5) rfl))) (mvT hZ (hw _ (List.mem_of_getElem? (i := 6) rfl))) (mvT hZ (hw _ (List.mem_of_getElem? (i := 7) rfl))) (by decide) (backOfSH (s := s) (vm0 := T430.vm) (W := 10) (rmIni1 l Z a0 hw [] b443 pE_367 cst csP_367 kP_367 csP_367.length h443 n0 Zc451 I1 O449 (hcst : ¬ (cst = (0 : Int32))) A443 F447 F446 f450 rfl (by omega) J367_1 (by first | assumption | omega | rfl | decide : n0 ≤ b443) (by first | assumption | omega | rfl | decide : @Ne Nat b443 pE_367)) hZ (hw _ (List.mem_of_getElem? (i := 7) rfl)) (hw _ (List.mem_of_getElem? (i := 4) rfl)) (by decide) (by decide) hEL CR.1) (g := (mkF m 435 #[.val (.int layout), .val (.int shape), .val (.long lc), .second, .val (.int (Int32.ofNat ms)), .val (.int (Int32.ofNat mp)), .val (.int q3), .val (.int (Int32.ofNat (ms + 1 + mp))), .val (.int q8), .val (.int q9), .val (.int q10), .val (.ref b15), .val (.ref b56), .val (.ref tE_322), .val (.ref b326), .val (.ref b328), .val (.ref b333), .val (.ref b341), .val (.ref pE_367), .val (.ref b370), .val (.ref a430), .unset] [(.ref pE_367), (.ref b443), (.ref b443), (.int (-1 : Int32)), .null, .null, .null, (.int (Int32.ofNat (ms + 1 + mp))), (.ref a430), (.ref b370), (.ref b433), (.ref b433)])) rfl (by rw [hml]; rfl) (Steps.refl _) (a := b443) (argsL := [(.ref pE_367)]) (rest := [(.ref b443), (.int (-1 : Int32)), .null, .null, .null, (.int (Int32.ofNat (ms + 1 + mp))), (.ref a430), (.ref b370), (.ref b433), (.ref b433)]) (lenOf pd___C_V rfl) rfl (by show 2 * 0 + _ ≤ _; exact Nat.le_of_eq rfl) (Jvm.hb hby at_435) (fun _ _ => ⟨rfl, e443, (by decide : 15 + 4 ≤ _), (by decide : 73 + 13 ≤ _)⟩)
    dsimp only [Pt.U, Pt.locs, Pt.cells, Pt.slots] at Xr452 hSr452 hg452 l452 y452 z452 st452 hQ452 Cp452
    subst l452 y452 z452
    obtain ⟨X452, hS, hZ, hown⟩ := rebS (own := "com/example/odysseus/odysseus/UrlUrlPathIndexPinLaw") hS (by first | exact Nat.le_refl _ | (rw [e443]; exact hk)) Xr452 hSr452 hg452 hZ hown
    obtain ⟨b_452, kb_452, rfl, N452q, K452, Fq452_0, Fq452_1, Fq452_2, Fq452_3⟩ := hQ452
    have N452 := Fr.app N379 N452q
    obtain ⟨h452, e452⟩ : ∃ z, T452.heap = z := ⟨_, rfl⟩
    rw [e452] at K452 Fq452_0 Fq452_1 Fq452_2 Fq452_3 Cp452
    have hk : T452.heap.size ≤ h452.size := Nat.le_of_eq (congrArg Array.size e452)
    have z453 : h443.size ≤ h452.size := K452.1
    have CR := CR.trans Cp452
    have lt452_0 : @LT.lt Nat _ b443 h452.size := Fq452_0.lt
    have lt452_3 : @LT.lt Nat _ b_452 h452.size := Fq452_3.lt
    have s454 : ∀ t_, Steps p.tables e below (T452.setTop (mkF m 438 #[.val (.int layout), .val (.int shape), .val (.long lc), .second, .val (.int (Int32.ofNat ms)), .val (.int (Int32.ofNat mp)), .val (.int q3), .val (.int (Int32.ofNat (ms + 1 + mp))), .val (.int q8), .val (.int q9), .val (.int q10), .val (.ref b15), .val (.ref b56), .val (.ref tE_322), .val (.ref b326), .val (.ref b328), .val (.ref b333), .val (.ref b341), .val (.ref pE_367), .val (.ref b370), .val (.ref a430), .unset] [(.ref b443), (.int (-1 : Int32)), .null, .null, .null, (.int (Int32.ofNat (ms + 1 + mp))), (.ref a430), (.ref b370), (.ref b433), (.ref b433)])) t_ → Steps p.tables e below (s₁.setTop (entryFrame m #[(.int layout), (.int shape), (.long lc)] maxLocals)) t_ := fun t_ k_ => s448 t_ (by
      show Steps p.tables e below (T443.setTop (mkF m 435 #[.val (.int layout), .val (.int shape), .val (.long lc), .second, .val (.int (Int32.ofNat ms)), .val (.int (Int32.ofNat mp)), .val (.int q3), .val (.int (Int32.ofNat (ms + 1 + mp))), .val (.int q8), .val (.int q9), .val (.int q10), .val (.ref b15), .val (.ref b56), .val (.ref tE_322), .val (.ref b326), .val (.ref b328), .val (.ref b333), .val (.ref b341), .val (.ref pE_367), .val (.ref b370), .val (.ref a430), .unset] [(.ref pE_367), (.ref b443), (.ref b443), (.int (-1 : Int32)), .null, .null, .null, (.int (Int32.ofNat (ms + 1 + mp))), (.ref a430), (.ref b370), (.ref b433), (.ref b433)])) t_
      refine st452.trans ?_
      show Steps p.tables e below (T452.setTop (mkF m 438 #[.val (.int layout), .val (.int shape), .val (.long lc), .second, .val (.int (Int32.ofNat ms)), .val (.int (Int32.ofNat mp)), .val (.int q3), .val (.int (Int32.ofNat (ms + 1 + mp))), .val (.int q8), .val (.int q9), .val (.int q10), .val (.ref b15), .val (.ref b56), .val (.ref tE_322), .val (.ref b326), .val (.ref b328), .val (.ref b333), .val (.ref b341), .val (.ref pE_367), .val (.ref b370), .val (.ref a430), .unset] [(.ref b443), (.int (-1 : Int32)), .null, .null, .null, (.int (Int32.ofNat (ms + 1 + mp))), (.ref a430), (.ref b370), (.ref b433), (.ref b433)])) _
      show Steps p.tables e below (T452.setTop (mkF m 438 #[.val (.int layout), .val (.int shape), .val (.long lc), .second, .val (.int (Int32.ofNat ms)), .val (.int (Int32.ofNat mp)), .val (.int q3), .val (.int (Int32.ofNat (ms + 1 + mp))), .val (.int q8), .val (.int q9), .val (.int q10), .val (.ref b15), .val (.ref b56), .val (.ref tE_322), .val (.ref b326), .val (.ref b328), .val (.ref b333), .val (.ref b341), .val (.ref pE_367), .val (.ref b370), .val (.ref a430), .unset] [(.ref b443), (.int (-1 : Int32)), .null, .null, .null, (.int (Int32.ofNat (ms + 1 + mp))), (.ref a430), (.ref b370), (.ref b433), (.ref b433)])) t_
      exact k_)
    have f455 : Exa Z h452 b433 "com/example/odysseus/odysseus/Url" := ((A433.ext E443).keep K452)
    have f456 : Fld Z h452 b433 "com/example/odysseus/odysseus/Url" "text" "Ljava/lang/String;" .null := ((F435.ext E443).keep K452 (ninS (show @Ne Nat b433 b443 by omega) nin0))
    have f457 : Fld Z h452 b433 "com/example/odysseus/odysseus/Url" "scheme" "Ljava/lang/String;" .null := ((F436.ext E443).keep K452 (ninS (show @Ne Nat b433 b443 by omega) nin0))
    have f458 : Fld Z h452 b433 "com/example/odysseus/odysseus/Url" "schemeSpecificEnd" "I" (.int (0 : Int32)) := ((F437.ext E443).keep K452 (ninS (show @Ne Nat b433 b443 by omega) nin0))
    have f459 : Fld Z h452 b433 "com/example/odysseus/odysseus/Url" "user" "Ljava/lang/String;" .null := ((F438.ext E443).keep K452 (ninS (show @Ne Nat b433 b443 by omega) nin0))
    have f460 : Fld Z h452 b433 "com/example/odysseus/odysseus/Url" "password" "Ljava/lang/String;" .null := ((F439.ext E443).keep K452 (ninS (show @Ne Nat b433 b443 by omega) nin0))
    have f461 : Fld Z h452 b433 "com/example/odysseus/odysseus/Url" "host" "Ljava/lang/String;" .null := ((F440.ext E443).keep K452 (ninS (show @Ne Nat b433 b443 by omega) nin0))
    have f462 : Fld Z h452 b433 "com/example/odysseus/odysseus/Url" "port" "I" (.int (0 : Int32)) := ((F441.ext E443).keep K452 (ninS (show @Ne Nat b433 b443 by omega) nin0))
    have f463 : Fld Z h452 b433 "com/example/odysseus/odysseus/Url" "urlPath" "Ljava/lang/String;" .null := ((F442.ext E443).keep K452 (ninS (show @Ne Nat b433 b443 by omega) nin0))
    have Zc464 : n0 ≤ h452.size := by omega
    obtain ⟨_, _, ⟨T465, L465, k465, n465⟩, -, X465, ⟨Lc465, hQ465, l465, y465, z465⟩, st465⟩ := X452.specialBack hx (y := (⟨"com/example/odysseus/odysseus/Url", "<init>", "(Ljava/lang/String;Ljava/lang/String;ILjava/lang/String;Ljava/lang/String;Ljava/lang/String;ILjava/lang/String;)V"⟩ : MethodName)) rfl hown (mvT hZ (hw _ (List.mem_of_getElem? (i := 37) rfl))) (mvT hZ (hw _ (List.mem_of_getElem? (i := 38) rfl))) (mvT hZ (hw _ (List.mem_of_getElem? (i := 39) rfl))) (by decide) (backOf (W := 1) (rmUi l Z a0 hw [] b433 b370 a430 (Int32.ofNat (ms + 1 + mp)) (-1 : Int32) b443 h452 n0 Zc464 f455 f456 f457 f458 f459 f460 f461 f462 f463 (by first | assumption | omega | rfl | decide : n0 ≤ b433)) hZ (hw _ (List.mem_of_getElem? (i := 39) rfl)) (hw _ (List.mem_of_getElem? (i := 36) rfl)) (by decide) (by decide)) (g := (mkF m 438 #[.val (.int layout), .val (.int shape), .val (.long lc), .second, .val (.int (Int32.ofNat ms)), .val (.int (Int32.ofNat mp)), .val (.int q3), .val (.int (Int32.ofNat (ms + 1 + mp))), .val (.int q8), .val (.int q9), .val (.int q10), .val (.ref b15), .val (.ref b56), .val (.ref tE_322), .val (.ref b326), .val (.ref b328), .val (.ref b333), .val (.ref b341), .val (.ref pE_367), .val (.ref b370), .val (.ref a430), .unset] [(.ref b443), (.int (-1 : Int32)), .null, .null, .null, (.int (Int32.ofNat (ms + 1 + mp))), (.ref a430), (.ref b370), (.ref b433), (.ref b433)])) rfl (by rw [hml]; rfl) (Steps.refl _) (a := b433) (argsL := [(.ref b370), (.ref a430), (.int (Int32.ofNat (ms + 1 + mp))), .null, .null, .null, (.int (-1 : Int32)), (.ref b443)]) (rest := [(.ref b433)]) (lenOf pd__Ljava_lang_String_Ljava_lang_String_ILjava_lang_String_Ljava_lang_String_Ljava_lang_String_ILjava_lang_String__V rfl) rfl (by show 2 * 0 + _ ≤ _; exact Nat.le_of_eq rfl) (Jvm.hb hby at_438) (fun _ _ => ⟨rfl, e452, (by decide : 19 + 0 ≤ _), (by decide : 86 + 0 ≤ _)⟩)
    dsimp only [Pt.U, Pt.locs, Pt.cells, Pt.slots] at X465 l465 y465 z465 st465 hQ465
    subst l465 y465 z465
    obtain ⟨rfl, N465q, K465, Fq465_0, Fq465_1, Fq465_2⟩ := hQ465
    have N465 := Fr.app N452 N465q
    obtain ⟨h465, e465⟩ : ∃ z, T465.heap = z := ⟨_, rfl⟩
    rw [e465] at K465 Fq465_0 Fq465_1 Fq465_2
    have z466 : h452.size ≤ h465.size := K465.1
    have Cp466 : CHr Z ELs T452.vm h452 T452.vm h465 := CHr.keep K465 (sfS (Safe.exa hZ.alike f455 (by decide) (by decide)) sf0) CR.1
    have hk := Nat.le_trans hk z466
    have CR := CR.trans Cp466
    have lt465_0 : @LT.lt Nat _ b433 h465.size := Fq465_0.lt
    have s467 : ∀ t_, Steps p.tables e below (T465.setTop (mkF m 445 #[.val (.int layout), .val (.int shape), .val (.long lc), .second, .val (.int (Int32.ofNat ms)), .val (.int (Int32.ofNat mp)), .val (.int q3), .val (.int (Int32.ofNat (ms + 1 + mp))), .val (.int q8), .val (.int q9), .val (.int q10), .val (.ref b15), .val (.ref b56), .val (.ref tE_322), .val (.ref b326), .val (.ref b328), .val (.ref b333), .val (.ref b341), .val (.ref pE_367), .val (.ref b370), .val (.ref a430), .val (.ref b433)] [(.ref b433)])) t_ → Steps p.tables e below (s₁.setTop (entryFrame m #[(.int layout), (.int shape), (.long lc)] maxLocals)) t_ := fun t_ k_ => s454 t_ (by
      show Steps p.tables e below (T452.setTop (mkF m 438 #[.val (.int layout), .val (.int shape), .val (.long lc), .second, .val (.int (Int32.ofNat ms)), .val (.int (Int32.ofNat mp)), .val (.int q3), .val (.int (Int32.ofNat (ms + 1 + mp))), .val (.int q8), .val (.int q9), .val (.int q10), .val (.ref b15), .val (.ref b56), .val (.ref tE_322), .val (.ref b326), .val (.ref b328), .val (.ref b333), .val (.ref b341), .val (.ref pE_367), .val (.ref b370), .val (.ref a430), .unset] [(.ref b443), (.int (-1 : Int32)), .null, .null, .null, (.int (Int32.ofNat (ms + 1 + mp))), (.ref a430), (.ref b370), (.ref b433), (.ref b433)])) t_
      refine st465.trans ?_
      show Steps p.tables e below (T465.setTop (mkF m 441 #[.val (.int layout), .val (.int shape), .val (.long lc), .second, .val (.int (Int32.ofNat ms)), .val (.int (Int32.ofNat mp)), .val (.int q3), .val (.int (Int32.ofNat (ms + 1 + mp))), .val (.int q8), .val (.int q9), .val (.int q10), .val (.ref b15), .val (.ref b56), .val (.ref tE_322), .val (.ref b326), .val (.ref b328), .val (.ref b333), .val (.ref b341), .val (.ref pE_367), .val (.ref b370), .val (.ref a430), .unset] [(.ref b433)])) _
      refine XS.astore X465.here hx rfl (Jvm.hb hby at_441) rfl rfl (l' := #[.val (.int layout), .val (.int shape), .val (.long lc), .second, .val (.int (Int32.ofNat ms)), .val (.int (Int32.ofNat mp)), .val (.int q3), .val (.int (Int32.ofNat (ms + 1 + mp))), .val (.int q8), .val (.int q9), .val (.int q10), .val (.ref b15), .val (.ref b56), .val (.ref tE_322), .val (.ref b326), .val (.ref b328), .val (.ref b333), .val (.ref b341), .val (.ref pE_367), .val (.ref b370), .val (.ref a430), .val (.ref b433)]) rfl ?_
      refine XS.aload X465.here hx rfl (Jvm.hb hby at_443) rfl rfl ?_
      show Steps p.tables e below (T465.setTop (mkF m 445 #[.val (.int layout), .val (.int shape), .val (.long lc), .second, .val (.int (Int32.ofNat ms)), .val (.int (Int32.ofNat mp)), .val (.int q3), .val (.int (Int32.ofNat (ms + 1 + mp))), .val (.int q8), .val (.int q9), .val (.int q10), .val (.ref b15), .val (.ref b56), .val (.ref tE_322), .val (.ref b326), .val (.ref b328), .val (.ref b333), .val (.ref b341), .val (.ref pE_367), .val (.ref b370), .val (.ref a430), .val (.ref b433)] [(.ref b433)])) t_
      exact k_)
    have O468 : Old Z n0 h465 := ((O449.keep K452 (allS (show n0 ≤ b443 by omega) all0)).keep K465 (allS (show n0 ≤ b433 by omega) all0))
    have f469 : Exa Z h465 b443 "java/lang/String" := (Fq452_0.keep K465)
    have f470 : Fld Z h465 b443 "java/lang/String" "value" "[B" (.ref b_452) := (Fq452_1.keep K465 (ninS (show @Ne Nat b443 b433 by omega) nin0))
    have f471 : Fld Z h465 b443 "java/lang/String" "coder" "B" (.int (own_cod csP_367)) := (Fq452_2.keep K465 (ninS (show @Ne Nat b443 b433 by omega) nin0))
    have f472 : Arv Z h465 b_452 kb_452 .byte (Int32.ofNat (own_enl csP_367)) (own_enc csP_367) (.int (0 : Int32)) := (Fq452_3.keep K465 (ninS (Ne.symm (Exa.neArv f455 Fq452_3 (hw _ (List.mem_of_getElem? (i := 35) rfl)))) nin0))
    have Zc473 : n0 ≤ h465.size := by omega
    obtain ⟨cq474, kq474, q474a, q474b, q474c⟩ := isOf hZ e465 Fq465_0
    obtain ⟨_, _, ⟨T474, L474, k474, n474⟩, -, X474, ⟨Lc474, hQ474, l474, y474, z474⟩, st474⟩ := X465.virtualBack hx (y := (⟨"com/example/odysseus/odysseus/Url", "urlPathIndex", "()I"⟩ : MethodName)) (z := (⟨"com/example/odysseus/odysseus/Url", "urlPathIndex", "()I"⟩ : MethodName)) hown (mvT hZ (hw _ (List.mem_of_getElem? (i := 57) rfl))) (mvT hZ (hw _ (List.mem_of_getElem? (i := 58) rfl))) (notFace_of_selects (args := #[]) (mvT hZ (hw _ (List.mem_of_getElem? (i := 60) rfl)))) (mvT hZ (hw _ (List.mem_of_getElem? (i := 60) rfl))) (mvT hZ (hw _ (List.mem_of_getElem? (i := 59) rfl))) (by decide) (backOf (W := 0) (rmPix l Z a0 hw [] b433 (Int32.ofNat (ms + 1 + mp)) b443 cst b_452 kb_452 csP_367 h465 n0 Zc473 I1 O468 (hcst : ¬ (cst = (0 : Int32))) Fq465_0 Fq465_1 Fq465_2 f469 f470 f471 f472 (by first | assumption | omega | rfl | decide : csP_367.length ≤ 13)) hZ (hw _ (List.mem_of_getElem? (i := 61) rfl)) (hw _ (List.mem_of_getElem? (i := 36) rfl)) (by decide) (by decide)) q474a q474c (g := (mkF m 445 #[.val (.int layout), .val (.int shape), .val (.long lc), .second, .val (.int (Int32.ofNat ms)), .val (.int (Int32.ofNat mp)), .val (.int q3), .val (.int (Int32.ofNat (ms + 1 + mp))), .val (.int q8), .val (.int q9), .val (.int q10), .val (.ref b15), .val (.ref b56), .val (.ref tE_322), .val (.ref b326), .val (.ref b328), .val (.ref b333), .val (.ref b341), .val (.ref pE_367), .val (.ref b370), .val (.ref a430), .val (.ref b433)] [(.ref b433)])) rfl (by rw [hml]; rfl) (Steps.refl _) (argsL := []) (rest := []) (lenOf pd___I rfl) rfl (by show 2 * 0 + _ ≤ _; exact Nat.le_of_eq rfl) (Jvm.hb hby at_445) (fun _ _ => ⟨rfl, e465, (by decide : 19 + 0 ≤ _), (by decide : 86 + 0 ≤ _)⟩)
    dsimp only [Pt.U, Pt.locs, Pt.cells, Pt.slots] at X474 l474 y474 z474 st474 hQ474
    subst l474 y474 z474
    obtain ⟨rfl, N474q, e474⟩ := hQ474
    have N474 := Fr.app N465 N474q
    obtain ⟨q475, hq475⟩ : ∃ z : Int32, z = ((Int32.ofNat (ms + 1 + mp)) - (Int32.ofNat csP_367.length)) := ⟨_, rfl⟩
    rw [← hq475] at st474
    have hon : q475 = ((Int32.ofNat ms) + (1 : Int32)) := by rw [hq475]; exact own_pix ms mp csP_367.length J367_0
    have s476 : ∀ t_, Steps p.tables e below (T474.setTop (mkF m 460 #[.val (.int layout), .val (.int shape), .val (.long lc), .second, .val (.int (Int32.ofNat ms)), .val (.int (Int32.ofNat mp)), .val (.int q3), .val (.int (Int32.ofNat (ms + 1 + mp))), .val (.int q8), .val (.int q9), .val (.int q10), .val (.ref b15), .val (.ref b56), .val (.ref tE_322), .val (.ref b326), .val (.ref b328), .val (.ref b333), .val (.ref b341), .val (.ref pE_367), .val (.ref b370), .val (.ref a430), .val (.ref b433)] [(.int (1 : Int32))])) t_ → Steps p.tables e below (s₁.setTop (entryFrame m #[(.int layout), (.int shape), (.long lc)] maxLocals)) t_ := fun t_ k_ => s467 t_ (by
      show Steps p.tables e below (T465.setTop (mkF m 445 #[.val (.int layout), .val (.int shape), .val (.long lc), .second, .val (.int (Int32.ofNat ms)), .val (.int (Int32.ofNat mp)), .val (.int q3), .val (.int (Int32.ofNat (ms + 1 + mp))), .val (.int q8), .val (.int q9), .val (.int q10), .val (.ref b15), .val (.ref b56), .val (.ref tE_322), .val (.ref b326), .val (.ref b328), .val (.ref b333), .val (.ref b341), .val (.ref pE_367), .val (.ref b370), .val (.ref a430), .val (.ref b433)] [(.ref b433)])) t_
      refine st474.trans ?_
      show Steps p.tables e below (T474.setTop (mkF m 448 #[.val (.int layout), .val (.int shape), .val (.long lc), .second, .val (.int (Int32.ofNat ms)), .val (.int (Int32.ofNat mp)), .val (.int q3), .val (.int (Int32.ofNat (ms + 1 + mp))), .val (.int q8), .val (.int q9), .val (.int q10), .val (.ref b15), .val (.ref b56), .val (.ref tE_322), .val (.ref b326), .val (.ref b328), .val (.ref b333), .val (.ref b341), .val (.ref pE_367), .val (.ref b370), .val (.ref a430), .val (.ref b433)] [(.int q475)])) _
      refine XS.iload X474.here hx rfl (Jvm.hb hby at_448) rfl ?_
      refine XS.iconst X474.here hx rfl (Jvm.hb hby at_450) ?_
      refine XS.iadd X474.here hx rfl (Jvm.hb hby at_451) rfl ?_
      refine XS.icmpNo X474.here hx rfl (Jvm.hb hby at_452) rfl (teq hon).2 ?_
      show Steps p.tables e below (T474.setTop (mkF m 455 #[.val (.int layout), .val (.int shape), .val (.long lc), .second, .val (.int (Int32.ofNat ms)), .val (.int (Int32.ofNat mp)), .val (.int q3), .val (.int (Int32.ofNat (ms + 1 + mp))), .val (.int q8), .val (.int q9), .val (.int q10), .val (.ref b15), .val (.ref b56), .val (.ref tE_322), .val (.ref b326), .val (.ref b328), .val (.ref b333), .val (.ref b341), .val (.ref pE_367), .val (.ref b370), .val (.ref a430), .val (.ref b433)] [])) _
      refine XS.iconst X474.here hx rfl (Jvm.hb hby at_455) ?_
      refine XS.goto X474.here hx rfl (pc0 := 456) (pc' := 460) rfl (Jvm.hb hby at_456) (by decide) (by decide) ?_
      show Steps p.tables e below (T474.setTop (mkF m 460 #[.val (.int layout), .val (.int shape), .val (.long lc), .second, .val (.int (Int32.ofNat ms)), .val (.int (Int32.ofNat mp)), .val (.int q3), .val (.int (Int32.ofNat (ms + 1 + mp))), .val (.int q8), .val (.int q9), .val (.int q10), .val (.ref b15), .val (.ref b56), .val (.ref tE_322), .val (.ref b326), .val (.ref b328), .val (.ref b333), .val (.ref b341), .val (.ref pE_367), .val (.ref b370), .val (.ref a430), .val (.ref b433)] [(.int (1 : Int32))])) t_
      exact k_)
    obtain ⟨fs, hr, hrun, hended, hREW⟩ := X474.leaveW hS (by first | exact Nat.le_refl _ | (rw [e474]; exact hk)) (v := some (.int (1 : Int32))) (fun h => by rw [Bd.returns] at h; cases h)
    refine ⟨_, _, s476 _ ?_, hrun, hended, _, _, rfl, ?_, (by show CHr Z ELs s.vm s.heap T474.vm T474.heap; rw [hh, e474]; exact CR.trans (CHv.at X474 hZ hEL CR.1)), hREW.1, hREW.2.1, hREW.2.2.1, hREW.2.2.2.mono (by decide) (by decide)⟩
    · show Steps p.tables e below (T474.setTop (mkF m 460 #[.val (.int layout), .val (.int shape), .val (.long lc), .second, .val (.int (Int32.ofNat ms)), .val (.int (Int32.ofNat mp)), .val (.int q3), .val (.int (Int32.ofNat (ms + 1 + mp))), .val (.int q8), .val (.int q9), .val (.int q10), .val (.ref b15), .val (.ref b56), .val (.ref tE_322), .val (.ref b326), .val (.ref b328), .val (.ref b333), .val (.ref b341), .val (.ref pE_367), .val (.ref b370), .val (.ref a430), .val (.ref b433)] [(.int (1 : Int32))])) _
      exact retN X474 hx (t := .boolean) Bd.returns (by simp) (Jvm.hb hby at_460) hr
    · show Q_rmLaw Z _ _ _ _ h0 n0 _ T474.heap _
      rw [e474]
      exact ⟨rfl, N474⟩
set_option maxRecDepth 65536 in
set_option maxHeartbeats 40000000 in
theorem comes_1 {Post : Tables → Env → Array Value → State → Outcome → State → Prop} (hpost : ∀ tb e args s v u, (limb_1_1.after args s (.returned v) u = true ∧ limb_1_2.after args s (.returned v) u = true ∧ True) → ReturnedEndW s (.returned v) u (Jvm.fieldLocs frame_1_writes args s ++ Jvm.arrayLocs frame_1_arrays args s ++ Jvm.staticLocs frame_1_statics s) 40 3328 → Post tb e args s (.returned v) u) :
    ArmFor flags0 classFile x code maxLocals ret World_1 tables_1 room_1 Calls_1 rest_1 Pre_1 Post := by
  intro l hfl _ _ p e ha hc hk s m args below hf hA hF happ hP
  obtain ⟨hcalls, hrest, hpre⟩ := hP
  obtain ⟨-, -, -, hnamed, -, -, -, hat⟩ := (Spec.applies_iff hf).mp happ
  obtain ⟨hg, hn⟩ := and_e (Cond.before_iff.mp (show (Jvm.Cond.and given_1 narrow_1).before args s = true from hpre))
  obtain ⟨ga, gr⟩ := and_e hg
  obtain ⟨g0, gr0⟩ := and_e gr
  obtain ⟨g1, gr1⟩ := and_e gr0
  obtain ⟨w0, w1, w2, rfl⟩ : ∃ w0 w1 w2 : Value, args = #[w0, w1, w2] := by
    have hs : args.size = 3 := by simpa [Cond.value, given_1] using ga
    obtain ⟨L⟩ := args
    match L, hs with
    | [w0, w1, w2], _ => exact ⟨w0, w1, w2, rfl⟩
  have hw := fun d (hd : d ∈ tables_1) => atoms_spec (ws := Jvm.Cond.code x code maxLocals ret :: tables_1) hat d (List.mem_cons_of_mem _ hd)
  have hfit : Fit s := fun {y c} hc i hi => by
    obtain ⟨ha, rfl⟩ := Array.getElem?_eq_some_iff.mp hc
    have q := List.all_eq_true.mp ((Array.all_eq_true_iff_forall_mem.mp hF) _ (Array.getElem_mem ha)) i (List.mem_range.mpr hi)
    simpa [Array.getElem?_eq_getElem hi] using q
  obtain ⟨hsets, hown0⟩ := atoms_of _ (rest_1_c_eq ▸ (show rest_1_c.before _ s = true from hrest))
  have hr0 := Cond.before_iff.mp hown0
  obtain ⟨i0, ei0⟩ := is_v g0
  obtain rfl : w0 = (.int i0) := Option.some.inj ei0
  obtain ⟨i1, ei1⟩ := is_v g1
  obtain rfl : w1 = (.int i1) := Option.some.inj ei1
  obtain ⟨i2, ei2⟩ := isL_v gr1
  obtain rfl : w2 = (.long i2) := Option.some.inj ei2
  obtain ⟨cst, ecs⟩ := is_v (Cond.before_iff.mp (hsets _ (List.mem_of_getElem? (i := 1) rfl)))
  have hcw := (hsets _ (List.mem_of_getElem? (i := 2) rfl))
  have hcst : ¬ (cst = (0 : Int32)) := fun q => by
    have h1 := not_v (Cond.before_iff.mp hcw)
    rw [Cond.eq_ints ecs (Term.int_eval 0)] at h1
    simp [q] at h1
  have hCH : CHv s ELs s.vm s.heap := CHv.start (own_EW hw) (fun p hp => hcalls.1 p hp) (show Jvm.Lit.compactW.before _ s = true from hcw) (hw _ (List.mem_of_getElem? (i := 20) rfl)) (hw _ (List.mem_of_getElem? (i := 3) rfl))
  obtain ⟨n, o, h1, h2, h3, _, L, rfl, ⟨rfl, N⟩, -, hq⟩ := rmLaw l s _ hw tables_1 i0 i1 i2 cst  s.heap s.heap.size (Nat.le_refl _) (Sta.start ecs (Or.inl (hsets _ (List.mem_of_getElem? (i := 0) rfl)))) (Old.start s) hcst  p e ha hc hk s m _ below hf ((Spec.applies_iff_loose hf).mp happ).1 ⟨rfl, State.Warmed39.refl s, rfl, hCH⟩ trivial
  refine ⟨n, _, h1, h2, h3, hpost _ _ _ _ _ _ ⟨Cond.after_iff.mpr rfl, Cond.after_iff.mpr (eq_i res_at (Term.int_eval (1)) rfl), trivial⟩ ⟨hq.1, hq.2.1, hq.2.2.1, (hq.2.2.2.sift fun y hy => Or.inr (N y hy)).mono (by decide) (by decide)⟩⟩
theorem main_1_1 : Claimed_1_1 := comes_1 fun _ _ _ _ _ _ h hF => ⟨h.1, hF⟩
theorem main_1_2 : Claimed_1_2 := comes_1 fun _ _ _ _ _ _ h hF => ⟨h.2.1, hF⟩
end Jvm.Pilot.@@N@@
namespace Jvm.Pilot.@@N@@
open Jvm Jvm.ClassFile Sem Op Lib Jvm.Free Jvm.Stand Jvm.Pilot.@@N@@.Jvm.D
/-! MADE BY PROGRAM (witnessworld.py) out of the Statement's table words and the real class files: 20 classes; the members and pool entries that the words name. The judged class is class 1, her method 1. -/
namespace start1
open Jvm.ClassFile
def u (s : String) : CpInfo := .utf8 (stringToUtf16 s)
/-- a pool by its gaps: so many unusable entries, then the entry; so many at the end -/
def gap : Nat → List CpInfo → List CpInfo
  | 0, r => r
  | n + 1, r => .unusable :: gap n r
def poolList (es : List (Nat × CpInfo)) (last : Nat) : List CpInfo := es.foldr (fun e r => gap e.1 (e.2 :: r)) (gap last [])
def pool (es : List (Nat × CpInfo)) (last : Nat) : Array CpInfo := ⟨poolList es last⟩
def fileOf (pool : Array CpInfo) (this : Nat) (attrs : Array Attribute := #[]) (ms : Array MethodInfo := #[]) (fl : Nat := 33) (sup : Nat := 0) (ifs : Array Nat := #[]) (fds : Array FieldInfo := #[]) : ClassFile where
  minorVersion := 0
  majorVersion := 65
  constantPool := pool
  accessFlags := fl
  thisClass := this
  superClass := sup
  interfaces := ifs
  fields := fds
  methods := ms
  attributes := attrs
def plain (name : String) (sup : Option ClassId) : Class where
  name := name
  kind := .ordinary
  loader := none
  accessFlags := 33
  super := sup
  interfaces := #[]
  cf := none
  fields := #[]
  methods := #[]
  instanceTypes := #[]
  staticTypes := #[]
  resolved := #[]
  callSites := []
  init := .initialized
  statics := none
  mirror := none

def pool0 : Array CpInfo := pool [(5, u "<init>"), (0, u "()V"), (1, .class_ 10), (1, u "java/lang/Object")] 113

def k0c0 : Code := { maxStack := 0, maxLocals := 1, code := object_method_1_code, exceptionTable := #[], attributes := #[] }
def k0m0 : Method := { name := "<init>", desc := "()V", sig := { parameters := [], returnType := none }, accessFlags := 1, code := some k0c0 }
/-- java/lang/Object -/
def k0 : Class := { plain "java/lang/Object" none with
  accessFlags := 33
  interfaces := #[]
  cf := some (fileOf pool0 8 #[] #[{ accessFlags := 1, nameIndex := 5, descriptorIndex := 6, attributes := #[] }] 33 0 #[] #[])
  fields := #[]
  methods := #[k0m0]
  instanceTypes := #[]
  staticTypes := #[]
  resolved := Array.replicate 124 none
  statics := none }

def pool1 : Array CpInfo := pool [(2, .class_ 4), (1, u "java/lang/Object"), (0, u "<init>"), (0, u "()V"), (0, .long 255), (1, .class_ 10), (0, u "java/lang/String"), (0, .methodref 9 12), (0, .nameAndType 5 13), (0, u "([C)V"), (0, .string 15), (0, u "ab"), (0, .string 17), (0, u "a"), (0, .class_ 19), (0, u "com/example/odysseus/odysseus/Url"), (0, .methodref 18 21), (0, .nameAndType 5 22), (0, u "(Ljava/lang/String;Ljava/lang/String;ILjava/lang/String;Ljava/lang/String;Ljava/lang/String;ILjava/lang/String;)V"), (0, .methodref 18 24), (0, .nameAndType 25 26), (0, u "urlPathIndex"), (0, u "()I"), (0, .class_ 28), (0, u "com/example/odysseus/odysseus/UrlUrlPathIndexPinLaw"), (2, u "law"), (0, u "(IIJ)Z")] 5

def k1m0 : Method := { name := "<init>", desc := "()V", sig := { parameters := [], returnType := none }, accessFlags := 1, code := none }
def k1c1 : Code := { maxStack := 12, maxLocals := 22, code := code, exceptionTable := #[], attributes := #[] }
def k1m1 : Method := { name := "law", desc := "(IIJ)Z", sig := { parameters := [.int, .int, .long], returnType := some .boolean }, accessFlags := 9, code := some k1c1 }
/-- com/example/odysseus/odysseus/UrlUrlPathIndexPinLaw -/
def k1 : Class := { plain "com/example/odysseus/odysseus/UrlUrlPathIndexPinLaw" (some 0) with
  accessFlags := 49
  interfaces := #[]
  cf := some (fileOf pool1 27 #[] #[{ accessFlags := 1, nameIndex := 5, descriptorIndex := 6, attributes := #[] }, { accessFlags := 9, nameIndex := 31, descriptorIndex := 32, attributes := #[] }] 49 2 #[] #[])
  fields := #[]
  methods := #[k1m0, k1m1]
  instanceTypes := #[]
  staticTypes := #[]
  resolved := Array.replicate 38 none
  statics := none }

def pool2 : Array CpInfo := pool [(1, .class_ 2), (0, u "java/io/Serializable"), (0, .class_ 4), (0, u "java/lang/Object")] 2

/-- java/io/Serializable -/
def k2 : Class := { plain "java/io/Serializable" (some 0) with
  accessFlags := 1537
  interfaces := #[]
  cf := some (fileOf pool2 1 #[] #[] 1537 3 #[] #[])
  fields := #[]
  methods := #[]
  instanceTypes := #[]
  staticTypes := #[]
  resolved := Array.replicate 7 none
  statics := none }

def pool3 : Array CpInfo := pool [(1, .class_ 2), (0, u "java/lang/Comparable"), (0, .class_ 4), (0, u "java/lang/Object")] 7

/-- java/lang/Comparable -/
def k3 : Class := { plain "java/lang/Comparable" (some 0) with
  accessFlags := 1537
  interfaces := #[]
  cf := some (fileOf pool3 1 #[] #[] 1537 3 #[] #[])
  fields := #[]
  methods := #[]
  instanceTypes := #[]
  staticTypes := #[]
  resolved := Array.replicate 12 none
  statics := none }

def pool4 : Array CpInfo := pool [(2, .class_ 4), (1, u "java/lang/CharSequence"), (42, .class_ 48), (0, u "java/lang/CharSequence$1CodePointIterator"), (10, .class_ 60), (0, u "java/lang/CharSequence$1CharIterator"), (5, .class_ 67), (0, u "java/lang/Object")] 63

/-- java/lang/CharSequence -/
def k4 : Class := { plain "java/lang/CharSequence" (some 0) with
  accessFlags := 1537
  interfaces := #[]
  cf := some (fileOf pool4 2 #[.nestMembers #[47, 59]] #[] 1537 66 #[] #[])
  fields := #[]
  methods := #[]
  instanceTypes := #[]
  staticTypes := #[]
  resolved := Array.replicate 131 none
  statics := none }

def pool5 : Array CpInfo := pool [(1, .class_ 2), (0, u "java/lang/constant/Constable"), (0, .class_ 4), (0, u "java/lang/Object")] 6

/-- java/lang/constant/Constable -/
def k5 : Class := { plain "java/lang/constant/Constable" (some 0) with
  accessFlags := 1537
  interfaces := #[]
  cf := some (fileOf pool5 1 #[] #[] 1537 3 #[] #[])
  fields := #[]
  methods := #[]
  instanceTypes := #[]
  staticTypes := #[]
  resolved := Array.replicate 11 none
  statics := none }

def pool6 : Array CpInfo := pool [(1, .class_ 2), (0, u "java/lang/constant/ConstantDesc"), (0, .class_ 4), (0, u "java/lang/Object")] 32

/-- java/lang/constant/ConstantDesc -/
def k6 : Class := { plain "java/lang/constant/ConstantDesc" (some 0) with
  accessFlags := 1537
  interfaces := #[]
  cf := some (fileOf pool6 1 #[] #[] 1537 3 #[] #[])
  fields := #[]
  methods := #[]
  instanceTypes := #[]
  staticTypes := #[]
  resolved := Array.replicate 37 none
  statics := none }

def pool7 : Array CpInfo := pool [(1, .methodref 2 3), (0, .class_ 4), (0, .nameAndType 5 6), (0, u "java/lang/Object"), (0, u "<init>"), (0, u "()V"), (0, .string 8), (0, u ""), (0, .fieldref 10 11), (0, .class_ 12), (0, .nameAndType 13 14), (0, u "java/lang/String"), (0, u "value"), (0, u "[B"), (0, .fieldref 10 16), (0, .nameAndType 17 18), (0, u "coder"), (0, u "B"), (2, u "hash"), (0, u "I"), (2, u "hashIsZero"), (0, u "Z"), (0, .methodref 10 28), (0, .nameAndType 5 29), (0, u "([CIILjava/lang/Void;)V"), (8, .fieldref 10 39), (0, .nameAndType 40 26), (0, u "COMPACT_STRINGS"), (1, .class_ 44), (1, u "java/lang/StringUTF16"), (0, u "compress"), (1, .methodref 42 48), (0, .nameAndType 49 50), (0, u "coderFromArrayLen"), (0, u "([BI)B"), (126, .methodref 42 178), (0, .nameAndType 45 179), (0, u "([CII)[B"), (154, u "()I"), (0, .methodref 10 336), (0, .nameAndType 17 337), (0, u "()B"), (169, u "length"), (67, .class_ 576), (0, u "java/lang/CharSequence"), (22, u "CASE_INSENSITIVE_ORDER"), (0, u "Ljava/util/Comparator;"), (409, u "([C)V"), (90, u "serialPersistentFields"), (0, u "[Ljava/io/ObjectStreamField;"), (0, .class_ 1104), (0, u "java/lang/String$CaseInsensitiveComparator"), (1, .class_ 1107), (0, u "java/io/Serializable"), (0, .class_ 1109), (0, u "java/lang/Comparable"), (0, .class_ 1111), (0, u "java/lang/constant/Constable"), (0, .class_ 1113), (0, u "java/lang/constant/ConstantDesc"), (2, u "serialVersionUID"), (0, u "J"), (3, u "REPL"), (0, u "C"), (2, u "LATIN1"), (1, u "UTF16")] 323

def k7m0 : Method := { name := "<init>", desc := "()V", sig := { parameters := [], returnType := none }, accessFlags := 1, code := none }
def k7c1 : Code := { maxStack := 5, maxLocals := 2, code := jdk_42_method_3_code, exceptionTable := #[], attributes := #[] }
def k7m1 : Method := { name := "<init>", desc := "([C)V", sig := { parameters := [(.array .char)], returnType := none }, accessFlags := 1, code := some k7c1 }
def k7c2 : Code := { maxStack := 2, maxLocals := 1, code := jdk_42_method_54_code, exceptionTable := #[], attributes := #[] }
def k7m2 : Method := { name := "length", desc := "()I", sig := { parameters := [], returnType := some .int }, accessFlags := 1, code := some k7c2 }
def k7c3 : Code := { maxStack := 4, maxLocals := 6, code := jdk_42_method_149_code, exceptionTable := #[], attributes := #[] }
def k7m3 : Method := { name := "<init>", desc := "([CIILjava/lang/Void;)V", sig := { parameters := [(.array .char), .int, .int, (.object "java/lang/Void")], returnType := none }, accessFlags := 2, code := some k7c3 }
def k7c4 : Code := { maxStack := 1, maxLocals := 1, code := jdk_42_method_152_code, exceptionTable := #[], attributes := #[] }
def k7m4 : Method := { name := "coder", desc := "()B", sig := { parameters := [], returnType := some .byte }, accessFlags := 0, code := some k7c4 }
/-- java/lang/String -/
def k7 : Class := { plain "java/lang/String" (some 0) with
  accessFlags := 49
  interfaces := #[2, 3, 4, 5, 6]
  cf := some (fileOf pool7 10 #[.nestMembers #[1103]] #[{ accessFlags := 1, nameIndex := 5, descriptorIndex := 6, attributes := #[] }, { accessFlags := 1, nameIndex := 5, descriptorIndex := 1010, attributes := #[] }, { accessFlags := 1, nameIndex := 507, descriptorIndex := 334, attributes := #[] }, { accessFlags := 2, nameIndex := 5, descriptorIndex := 29, attributes := #[] }, { accessFlags := 0, nameIndex := 17, descriptorIndex := 337, attributes := #[] }] 49 2 #[1106, 1108, 575, 1110, 1112] #[{ accessFlags := 18, nameIndex := 13, descriptorIndex := 14, attributes := #[] }, { accessFlags := 18, nameIndex := 17, descriptorIndex := 18, attributes := #[] }, { accessFlags := 2, nameIndex := 21, descriptorIndex := 22, attributes := #[] }, { accessFlags := 2, nameIndex := 25, descriptorIndex := 26, attributes := #[] }, { accessFlags := 26, nameIndex := 1116, descriptorIndex := 1117, attributes := #[] }, { accessFlags := 24, nameIndex := 40, descriptorIndex := 26, attributes := #[] }, { accessFlags := 26, nameIndex := 1101, descriptorIndex := 1102, attributes := #[] }, { accessFlags := 26, nameIndex := 1121, descriptorIndex := 1122, attributes := #[] }, { accessFlags := 25, nameIndex := 599, descriptorIndex := 600, attributes := #[] }, { accessFlags := 24, nameIndex := 1125, descriptorIndex := 18, attributes := #[] }, { accessFlags := 24, nameIndex := 1127, descriptorIndex := 18, attributes := #[] }])
  fields := #[{ name := "value", type := (.array .byte), accessFlags := 18, slot := 0, constantValue := 0 }, { name := "coder", type := .byte, accessFlags := 18, slot := 1, constantValue := 0 }, { name := "hash", type := .int, accessFlags := 2, slot := 2, constantValue := 0 }, { name := "hashIsZero", type := .boolean, accessFlags := 2, slot := 3, constantValue := 0 }, { name := "serialVersionUID", type := .long, accessFlags := 26, slot := 0, constantValue := 0 }, { name := "COMPACT_STRINGS", type := .boolean, accessFlags := 24, slot := 1, constantValue := 0 }, { name := "serialPersistentFields", type := (.array (.object "java/io/ObjectStreamField")), accessFlags := 26, slot := 2, constantValue := 0 }, { name := "REPL", type := .char, accessFlags := 26, slot := 3, constantValue := 0 }, { name := "CASE_INSENSITIVE_ORDER", type := (.object "java/util/Comparator"), accessFlags := 25, slot := 4, constantValue := 0 }, { name := "LATIN1", type := .byte, accessFlags := 24, slot := 5, constantValue := 0 }, { name := "UTF16", type := .byte, accessFlags := 24, slot := 6, constantValue := 0 }]
  methods := #[k7m0, k7m1, k7m2, k7m3, k7m4]
  instanceTypes := #[(.array .byte), .byte, .int, .boolean]
  staticTypes := #[.long, .boolean, (.array (.object "java/io/ObjectStreamField")), .char, (.object "java/util/Comparator"), .byte, .byte]
  resolved := Array.replicate 1451 none
  statics := some 0 }

def pool8 : Array CpInfo := pool [(6, .class_ 8), (1, u "java/lang/Object"), (0, u "<init>"), (0, u "()V"), (1, .class_ 14), (1, u "java/lang/StringUTF16"), (31, u "$assertionsDisabled"), (0, u "Z"), (13, u "HI_BYTE_SHIFT"), (0, u "I"), (2, u "LO_BYTE_SHIFT"), (49, .methodref 12 116), (0, .nameAndType 117 118), (0, u "compress"), (0, u "([CI[BII)I"), (3, u "([CII)[B"), (138, u "coderFromArrayLen"), (0, u "([BI)B"), (106, .class_ 371), (1, u "java/lang/StringUTF16$LinesSpliterator"), (58, u "MAX_LENGTH"), (196, .class_ 628), (0, u "java/lang/StringUTF16$CodePointsSpliterator"), (0, .class_ 630), (0, u "java/lang/StringUTF16$CharsSpliterator")] 4

def k8m0 : Method := { name := "<init>", desc := "()V", sig := { parameters := [], returnType := none }, accessFlags := 0, code := none }
def k8c1 : Code := { maxStack := 2, maxLocals := 2, code := jdk_52_method_15_code, exceptionTable := #[], attributes := #[] }
def k8m1 : Method := { name := "coderFromArrayLen", desc := "([BI)B", sig := { parameters := [(.array .byte), .int], returnType := some .byte }, accessFlags := 8, code := some k8c1 }
def k8c2 : Code := { maxStack := 5, maxLocals := 6, code := jdk_52_method_16_code, exceptionTable := #[], attributes := #[] }
def k8m2 : Method := { name := "compress", desc := "([CII)[B", sig := { parameters := [(.array .char), .int, .int], returnType := some (.array .byte) }, accessFlags := 9, code := some k8c2 }
def k8c3 : Code := { maxStack := 3, maxLocals := 7, code := jdk_52_method_21_code, exceptionTable := #[], attributes := #[] }
def k8m3 : Method := { name := "compress", desc := "([CI[BII)I", sig := { parameters := [(.array .char), .int, (.array .byte), .int, .int], returnType := some .int }, accessFlags := 9, code := some k8c3 }
/-- java/lang/StringUTF16 -/
def k8 : Class := { plain "java/lang/StringUTF16" (some 0) with
  accessFlags := 48
  interfaces := #[]
  cf := some (fileOf pool8 12 #[.nestMembers #[627, 629, 369]] #[{ accessFlags := 0, nameIndex := 9, descriptorIndex := 10, attributes := #[] }, { accessFlags := 8, nameIndex := 261, descriptorIndex := 262, attributes := #[] }, { accessFlags := 9, nameIndex := 117, descriptorIndex := 122, attributes := #[] }, { accessFlags := 9, nameIndex := 117, descriptorIndex := 118, attributes := #[] }] 48 6 #[] #[{ accessFlags := 26, nameIndex := 61, descriptorIndex := 62, attributes := #[] }, { accessFlags := 26, nameIndex := 65, descriptorIndex := 62, attributes := #[] }, { accessFlags := 24, nameIndex := 430, descriptorIndex := 62, attributes := #[] }, { accessFlags := 4120, nameIndex := 46, descriptorIndex := 47, attributes := #[] }])
  fields := #[{ name := "HI_BYTE_SHIFT", type := .int, accessFlags := 26, slot := 0, constantValue := 0 }, { name := "LO_BYTE_SHIFT", type := .int, accessFlags := 26, slot := 1, constantValue := 0 }, { name := "MAX_LENGTH", type := .int, accessFlags := 24, slot := 2, constantValue := 0 }, { name := "$assertionsDisabled", type := .boolean, accessFlags := 4120, slot := 3, constantValue := 0 }]
  methods := #[k8m0, k8m1, k8m2, k8m3]
  instanceTypes := #[]
  staticTypes := #[.int, .int, .int, .boolean]
  resolved := Array.replicate 635 none
  statics := none }

def pool9 : Array CpInfo := pool [(2, .class_ 4), (1, u "com/example/odysseus/odysseus/Url"), (0, u "<init>"), (0, u "(Ljava/lang/String;Ljava/lang/String;ILjava/lang/String;Ljava/lang/String;Ljava/lang/String;ILjava/lang/String;)V"), (0, .methodref 8 9), (0, .class_ 10), (0, .nameAndType 5 11), (0, u "java/lang/Object"), (0, u "()V"), (0, .fieldref 2 13), (0, .nameAndType 14 15), (0, u "text"), (0, u "Ljava/lang/String;"), (0, .fieldref 2 17), (0, .nameAndType 18 15), (0, u "scheme"), (0, .fieldref 2 20), (0, .nameAndType 21 22), (0, u "schemeSpecificEnd"), (0, u "I"), (0, .fieldref 2 24), (0, .nameAndType 25 15), (0, u "user"), (0, .fieldref 2 27), (0, .nameAndType 28 15), (0, u "password"), (0, .fieldref 2 30), (0, .nameAndType 31 15), (0, u "host"), (0, .fieldref 2 33), (0, .nameAndType 34 22), (0, u "port"), (0, .fieldref 2 36), (0, .nameAndType 37 15), (0, u "urlPath"), (21, .class_ 61), (1, u "java/lang/String"), (11, .methodref 59 74), (0, .nameAndType 75 76), (0, u "length"), (0, u "()I"), (68, u "urlPathIndex")] 37

def k9c0 : Code := { maxStack := 2, maxLocals := 9, code := prog_10_method_2_code, exceptionTable := #[], attributes := #[] }
def k9m0 : Method := { name := "<init>", desc := "(Ljava/lang/String;Ljava/lang/String;ILjava/lang/String;Ljava/lang/String;Ljava/lang/String;ILjava/lang/String;)V", sig := { parameters := [(.object "java/lang/String"), (.object "java/lang/String"), .int, (.object "java/lang/String"), (.object "java/lang/String"), (.object "java/lang/String"), .int, (.object "java/lang/String")], returnType := none }, accessFlags := 0, code := some k9c0 }
def k9c1 : Code := { maxStack := 2, maxLocals := 1, code := prog_10_method_17_code, exceptionTable := #[], attributes := #[] }
def k9m1 : Method := { name := "urlPathIndex", desc := "()I", sig := { parameters := [], returnType := some .int }, accessFlags := 0, code := some k9c1 }
/-- com/example/odysseus/odysseus/Url -/
def k9 : Class := { plain "com/example/odysseus/odysseus/Url" (some 0) with
  accessFlags := 49
  interfaces := #[]
  cf := some (fileOf pool9 2 #[] #[{ accessFlags := 0, nameIndex := 5, descriptorIndex := 6, attributes := #[] }, { accessFlags := 0, nameIndex := 145, descriptorIndex := 76, attributes := #[] }] 49 8 #[] #[{ accessFlags := 18, nameIndex := 14, descriptorIndex := 15, attributes := #[] }, { accessFlags := 18, nameIndex := 18, descriptorIndex := 15, attributes := #[] }, { accessFlags := 18, nameIndex := 21, descriptorIndex := 22, attributes := #[] }, { accessFlags := 18, nameIndex := 25, descriptorIndex := 15, attributes := #[] }, { accessFlags := 18, nameIndex := 28, descriptorIndex := 15, attributes := #[] }, { accessFlags := 18, nameIndex := 31, descriptorIndex := 15, attributes := #[] }, { accessFlags := 18, nameIndex := 34, descriptorIndex := 22, attributes := #[] }, { accessFlags := 18, nameIndex := 37, descriptorIndex := 15, attributes := #[] }])
  fields := #[{ name := "text", type := (.object "java/lang/String"), accessFlags := 18, slot := 0, constantValue := 0 }, { name := "scheme", type := (.object "java/lang/String"), accessFlags := 18, slot := 1, constantValue := 0 }, { name := "schemeSpecificEnd", type := .int, accessFlags := 18, slot := 2, constantValue := 0 }, { name := "user", type := (.object "java/lang/String"), accessFlags := 18, slot := 3, constantValue := 0 }, { name := "password", type := (.object "java/lang/String"), accessFlags := 18, slot := 4, constantValue := 0 }, { name := "host", type := (.object "java/lang/String"), accessFlags := 18, slot := 5, constantValue := 0 }, { name := "port", type := .int, accessFlags := 18, slot := 6, constantValue := 0 }, { name := "urlPath", type := (.object "java/lang/String"), accessFlags := 18, slot := 7, constantValue := 0 }]
  methods := #[k9m0, k9m1]
  instanceTypes := #[(.object "java/lang/String"), (.object "java/lang/String"), .int, (.object "java/lang/String"), (.object "java/lang/String"), (.object "java/lang/String"), .int, (.object "java/lang/String")]
  staticTypes := #[]
  resolved := Array.replicate 183 none
  statics := none }

def pool10 : Array CpInfo := pool [(4, .class_ 6), (1, u "java/lang/Object"), (0, u "<init>"), (0, u "()V"), (5, .class_ 16), (1, u "java/lang/StringLatin1"), (104, u "$assertionsDisabled"), (0, u "Z"), (98, .class_ 223), (1, u "java/lang/StringLatin1$LinesSpliterator"), (166, .class_ 391), (0, u "java/lang/StringLatin1$CharsSpliterator")] 3

def k10m0 : Method := { name := "<init>", desc := "()V", sig := { parameters := [], returnType := none }, accessFlags := 0, code := none }
/-- java/lang/StringLatin1 -/
def k10 : Class := { plain "java/lang/StringLatin1" (some 0) with
  accessFlags := 48
  interfaces := #[]
  cf := some (fileOf pool10 14 #[.nestMembers #[390, 221]] #[{ accessFlags := 0, nameIndex := 7, descriptorIndex := 8, attributes := #[] }] 48 4 #[] #[{ accessFlags := 4120, nameIndex := 121, descriptorIndex := 122, attributes := #[] }])
  fields := #[{ name := "$assertionsDisabled", type := .boolean, accessFlags := 4120, slot := 0, constantValue := 0 }]
  methods := #[k10m0]
  instanceTypes := #[]
  staticTypes := #[.boolean]
  resolved := Array.replicate 395 none
  statics := none }

def pool11 : Array CpInfo := pool [(2, .class_ 4), (1, u "java/lang/Object"), (0, u "<init>"), (0, u "()V"), (17, .class_ 26), (1, u "jdk/internal/util/Preconditions"), (28, .class_ 56), (0, u "jdk/internal/util/Preconditions$4"), (57, .class_ 115), (0, u "jdk/internal/util/Preconditions$1"), (7, u "SIOOBE_FORMATTER"), (0, u "Ljava/util/function/BiFunction;"), (0, .class_ 126), (0, u "jdk/internal/util/Preconditions$2"), (3, u "AIOOBE_FORMATTER"), (0, .class_ 132), (0, u "jdk/internal/util/Preconditions$3"), (3, u "IOOBE_FORMATTER")] 57

def k11m0 : Method := { name := "<init>", desc := "()V", sig := { parameters := [], returnType := none }, accessFlags := 1, code := none }
/-- jdk/internal/util/Preconditions -/
def k11 : Class := { plain "jdk/internal/util/Preconditions" (some 0) with
  accessFlags := 33
  interfaces := #[]
  cf := some (fileOf pool11 24 #[.nestMembers #[55, 131, 125, 114]] #[{ accessFlags := 1, nameIndex := 5, descriptorIndex := 6, attributes := #[] }] 33 2 #[] #[{ accessFlags := 25, nameIndex := 123, descriptorIndex := 124, attributes := #[] }, { accessFlags := 25, nameIndex := 130, descriptorIndex := 124, attributes := #[] }, { accessFlags := 25, nameIndex := 136, descriptorIndex := 124, attributes := #[] }])
  fields := #[{ name := "SIOOBE_FORMATTER", type := (.object "java/util/function/BiFunction"), accessFlags := 25, slot := 0, constantValue := 0 }, { name := "AIOOBE_FORMATTER", type := (.object "java/util/function/BiFunction"), accessFlags := 25, slot := 1, constantValue := 0 }, { name := "IOOBE_FORMATTER", type := (.object "java/util/function/BiFunction"), accessFlags := 25, slot := 2, constantValue := 0 }]
  methods := #[k11m0]
  instanceTypes := #[]
  staticTypes := #[(.object "java/util/function/BiFunction"), (.object "java/util/function/BiFunction"), (.object "java/util/function/BiFunction")]
  resolved := Array.replicate 194 none
  statics := some 1 }

def pool12 : Array CpInfo := pool [(9, u "<init>"), (6, .class_ 18), (1, u "java/lang/Object"), (0, u "()V"), (1, .class_ 23), (1, u "jdk/internal/util/ArraysSupport"), (0, u "LOG2_ARRAY_LONG_INDEX_SCALE"), (0, u "I"), (2, u "U"), (0, u "Ljdk/internal/misc/Unsafe;"), (8, u "BIG_ENDIAN"), (0, u "Z"), (8, u "LOG2_BYTE_BIT_SIZE"), (4, u "LOG2_ARRAY_INT_INDEX_SCALE"), (54, u "JLA"), (0, u "Ljdk/internal/access/JavaLangAccess;"), (11, u "LOG2_ARRAY_BOOLEAN_INDEX_SCALE"), (9, u "LOG2_ARRAY_BYTE_INDEX_SCALE"), (5, u "LOG2_ARRAY_CHAR_INDEX_SCALE"), (5, u "LOG2_ARRAY_SHORT_INDEX_SCALE"), (18, u "LOG2_ARRAY_FLOAT_INDEX_SCALE"), (24, u "LOG2_ARRAY_DOUBLE_INDEX_SCALE"), (89, u "T_BOOLEAN"), (2, u "T_CHAR"), (1, u "T_FLOAT"), (1, u "T_DOUBLE"), (1, u "T_BYTE"), (1, u "T_SHORT"), (1, u "T_INT"), (1, u "T_LONG"), (1, u "SOFT_MAX_ARRAY_LENGTH")] 83

def k12m0 : Method := { name := "<init>", desc := "()V", sig := { parameters := [], returnType := none }, accessFlags := 2, code := none }
/-- jdk/internal/util/ArraysSupport -/
def k12 : Class := { plain "jdk/internal/util/ArraysSupport" (some 0) with
  accessFlags := 33
  interfaces := #[]
  cf := some (fileOf pool12 21 #[] #[{ accessFlags := 2, nameIndex := 9, descriptorIndex := 19, attributes := #[] }] 33 16 #[] #[{ accessFlags := 24, nameIndex := 28, descriptorIndex := 29, attributes := #[] }, { accessFlags := 26, nameIndex := 38, descriptorIndex := 39, attributes := #[] }, { accessFlags := 25, nameIndex := 121, descriptorIndex := 25, attributes := #[] }, { accessFlags := 25, nameIndex := 131, descriptorIndex := 25, attributes := #[] }, { accessFlags := 25, nameIndex := 137, descriptorIndex := 25, attributes := #[] }, { accessFlags := 25, nameIndex := 143, descriptorIndex := 25, attributes := #[] }, { accessFlags := 25, nameIndex := 53, descriptorIndex := 25, attributes := #[] }, { accessFlags := 25, nameIndex := 24, descriptorIndex := 25, attributes := #[] }, { accessFlags := 25, nameIndex := 162, descriptorIndex := 25, attributes := #[] }, { accessFlags := 25, nameIndex := 187, descriptorIndex := 25, attributes := #[] }, { accessFlags := 26, nameIndex := 48, descriptorIndex := 25, attributes := #[] }, { accessFlags := 25, nameIndex := 277, descriptorIndex := 25, attributes := #[] }, { accessFlags := 25, nameIndex := 280, descriptorIndex := 25, attributes := #[] }, { accessFlags := 25, nameIndex := 282, descriptorIndex := 25, attributes := #[] }, { accessFlags := 25, nameIndex := 284, descriptorIndex := 25, attributes := #[] }, { accessFlags := 25, nameIndex := 286, descriptorIndex := 25, attributes := #[] }, { accessFlags := 25, nameIndex := 288, descriptorIndex := 25, attributes := #[] }, { accessFlags := 25, nameIndex := 290, descriptorIndex := 25, attributes := #[] }, { accessFlags := 25, nameIndex := 292, descriptorIndex := 25, attributes := #[] }, { accessFlags := 26, nameIndex := 108, descriptorIndex := 109, attributes := #[] }, { accessFlags := 25, nameIndex := 294, descriptorIndex := 25, attributes := #[] }])
  fields := #[{ name := "U", type := (.object "jdk/internal/misc/Unsafe"), accessFlags := 24, slot := 0, constantValue := 0 }, { name := "BIG_ENDIAN", type := .boolean, accessFlags := 26, slot := 1, constantValue := 0 }, { name := "LOG2_ARRAY_BOOLEAN_INDEX_SCALE", type := .int, accessFlags := 25, slot := 2, constantValue := 0 }, { name := "LOG2_ARRAY_BYTE_INDEX_SCALE", type := .int, accessFlags := 25, slot := 3, constantValue := 0 }, { name := "LOG2_ARRAY_CHAR_INDEX_SCALE", type := .int, accessFlags := 25, slot := 4, constantValue := 0 }, { name := "LOG2_ARRAY_SHORT_INDEX_SCALE", type := .int, accessFlags := 25, slot := 5, constantValue := 0 }, { name := "LOG2_ARRAY_INT_INDEX_SCALE", type := .int, accessFlags := 25, slot := 6, constantValue := 0 }, { name := "LOG2_ARRAY_LONG_INDEX_SCALE", type := .int, accessFlags := 25, slot := 7, constantValue := 0 }, { name := "LOG2_ARRAY_FLOAT_INDEX_SCALE", type := .int, accessFlags := 25, slot := 8, constantValue := 0 }, { name := "LOG2_ARRAY_DOUBLE_INDEX_SCALE", type := .int, accessFlags := 25, slot := 9, constantValue := 0 }, { name := "LOG2_BYTE_BIT_SIZE", type := .int, accessFlags := 26, slot := 10, constantValue := 0 }, { name := "T_BOOLEAN", type := .int, accessFlags := 25, slot := 11, constantValue := 0 }, { name := "T_CHAR", type := .int, accessFlags := 25, slot := 12, constantValue := 0 }, { name := "T_FLOAT", type := .int, accessFlags := 25, slot := 13, constantValue := 0 }, { name := "T_DOUBLE", type := .int, accessFlags := 25, slot := 14, constantValue := 0 }, { name := "T_BYTE", type := .int, accessFlags := 25, slot := 15, constantValue := 0 }, { name := "T_SHORT", type := .int, accessFlags := 25, slot := 16, constantValue := 0 }, { name := "T_INT", type := .int, accessFlags := 25, slot := 17, constantValue := 0 }, { name := "T_LONG", type := .int, accessFlags := 25, slot := 18, constantValue := 0 }, { name := "JLA", type := (.object "jdk/internal/access/JavaLangAccess"), accessFlags := 26, slot := 19, constantValue := 0 }, { name := "SOFT_MAX_ARRAY_LENGTH", type := .int, accessFlags := 25, slot := 20, constantValue := 0 }]
  methods := #[k12m0]
  instanceTypes := #[]
  staticTypes := #[(.object "jdk/internal/misc/Unsafe"), .boolean, .int, .int, .int, .int, .int, .int, .int, .int, .int, .int, .int, .int, .int, .int, .int, .int, .int, (.object "jdk/internal/access/JavaLangAccess"), .int]
  resolved := Array.replicate 378 none
  statics := none }

def pool13 : Array CpInfo := pool [(1, u "java/lang/Cloneable"), (0, .class_ 1), (0, u "java/lang/Object"), (0, .class_ 3)] 3

/-- java/lang/Cloneable -/
def k13 : Class := { plain "java/lang/Cloneable" (some 0) with
  accessFlags := 1537
  interfaces := #[]
  cf := some (fileOf pool13 2 #[] #[] 1537 4 #[] #[])
  fields := #[]
  methods := #[]
  instanceTypes := #[]
  staticTypes := #[]
  resolved := Array.replicate 8 none
  statics := none }

/-- the primitive byte -/
def k14 : Class := { plain "byte" none with kind := .primitive 'B', accessFlags := 0x411 }
/-- [B -/
def k15 : Class := { plain "[B" (some 0) with kind := .array 14 .byte, interfaces := #[13, 2], accessFlags := 1041 }

/-- the primitive char -/
def k16 : Class := { plain "char" none with kind := .primitive 'C', accessFlags := 0x411 }
/-- [C -/
def k17 : Class := { plain "[C" (some 0) with kind := .array 16 .char, interfaces := #[13, 2], accessFlags := 1041 }

/-- the primitive int -/
def k18 : Class := { plain "int" none with kind := .primitive 'I', accessFlags := 0x411 }
/-- [I -/
def k19 : Class := { plain "[I" (some 0) with kind := .array 18 .int, interfaces := #[13, 2], accessFlags := 1041 }

def heap : Heap := #[{ cls := 7, slots := #[.long 0, .int 1, .null, .int 0, .null, .int 0, .int 0], vm := .statics 7 },
  { cls := 11, slots := #[.null, .null, .null], vm := .statics 11 }]
def classes : Array Class := #[k0, k1, k2, k3, k4, k5, k6, k7, k8, k9, k10, k11, k12, k13, k14, k15, k16, k17, k18, k19]
def interned : List (Array UInt16 × Addr) := []
def slotsUsed : Nat := 10
def theMethod : MethodId := ⟨1, 1⟩
def args0 : Array Value := #[.int 5, .int 5, .long 5]
def aboutOver (below : List Frame) : State where
  vm := { classes := classes, interned := interned.toArray }
  heap := heap
  slotsUsed := slotsUsed
  threads := #[{ frames := .invoking theMethod args0 :: below }]
def below0 : List Frame := [.native { method := ⟨0, 0⟩, args := #[] }]
def about1 : State := aboutOver below0
def p0 : Program := .bare "" "" ""
def e0 : Env := launch0.env 0 0 0
theorem w_frames : about1.frames = Frame.invoking theMethod args0 :: below0 := rfl
set_option maxRecDepth 65536 in
theorem w_args : argsFit about1.vm theMethod args0 = true := by decide +kernel
set_option maxRecDepth 65536 in
theorem w_heap : heapFits about1 = true := by decide +kernel
set_option maxRecDepth 65536 in
theorem w_runnable : about1.curStatus? = some .runnable := by decide +kernel
set_option maxRecDepth 65536 in
theorem w_alone : about1.alone = true := by decide +kernel
set_option maxRecDepth 65536 in
theorem w_named : about1.methodNamed? x = some theMethod := by decide +kernel
set_option maxRecDepth 65536 in
theorem w_hears : about1.hears theMethod below0 = true := by decide +kernel
set_option maxRecDepth 65536 in
theorem w_ripe : about1.ripe theMethod args0 below0 = true := by decide +kernel
theorem w_running : about1.status = .running := rfl
set_option maxRecDepth 65536 in
theorem w_room : about1.hasRoom e0.platform room_1 = true :=
  launch0.hasRoom_least _ room_1 (by decide +kernel) (by decide +kernel) (by decide +kernel) (by decide +kernel) (by decide +kernel) (by decide +kernel)
theorem allAtoms_all (ts : List Jvm.Cond) (a : Array Jvm.Value) (st : Jvm.State) : (allAtoms ts).before a st = ts.all (fun c => c.before a st) := by
  induction ts with
  | nil => rfl
  | cons c t ih =>
    show (Jvm.Cond.and c (allAtoms t)).before a st = _
    rw [Jvm.Cond.before_and, ih, List.all_cons]
def words1 : List Jvm.Cond := Jvm.Cond.code x code maxLocals ret :: tables_1
/-- a 'code' word, met by the world's own term for the bytes: nothing is compared byte by byte -/
theorem code_word {y : MethodName} {bytes : ByteArray} {mx : Nat} {rt : Option FieldType} {a : Array Value} {s : State} {m : MethodId} {meth : Method} {c : Code} (h1 : s.methodNamed? y = some m) (h2 : s.vm.method? m = some meth) (h3 : meth.code = some c) (h4 : c.code = bytes)
    (h5 : (c.maxLocals == mx && c.exceptionTable.isEmpty && decide (c.maxStack ≤ mostOperands) && decide (meth.sig.returnType = rt) && !meth.locks && decide (parseMethodDescriptor y.desc = some meth.sig)) = true) : (Jvm.Cond.code y bytes mx rt).before a s = true := by
  simp only [Bool.and_eq_true, beq_iff_eq, Bool.not_eq_true', decide_eq_true_eq] at h5
  obtain ⟨⟨⟨⟨⟨g1, g2⟩, g3⟩, g4⟩, g5⟩, g6⟩ := h5
  simp [Cond.before, Cond.holds, Cond.value, h1, h2, h3, h4, g1, g2, g3, g4, g5, g6]
def isCode : Jvm.Cond → Bool
  | .code _ _ _ _ => true
  | _ => false
theorem all_split {L : List Jvm.Cond} {P : Jvm.Cond → Bool} (h1 : L.all (fun c => isCode c || P c) = true) (h2 : ∀ c ∈ L.filter isCode, P c = true) : L.all P = true := by
  refine List.all_eq_true.mpr fun c hc => ?_
  have h := List.all_eq_true.mp h1 c hc
  rcases Bool.eq_false_or_eq_true (isCode c) with hi | hi
  · exact h2 c (List.mem_filter.mpr ⟨hc, hi⟩)
  · simpa [hi] using h
set_option maxRecDepth 65536 in
theorem w_c0 : (Jvm.Cond.code x code maxLocals ret).before args0 about1 = true := code_word (m := ⟨1, 1⟩) (meth := k1m1) (c := k1c1) (by decide +kernel) rfl rfl rfl (by decide +kernel)
set_option maxRecDepth 65536 in
theorem w_c1 : (Jvm.Cond.code ({ cls := "java/lang/String", name := "<init>", desc := "([C)V" } : Jvm.MethodName) jdk_42_method_3_code (2 : Nat) (Option.none : Option Jvm.ClassFile.FieldType)).before args0 about1 = true := code_word (m := ⟨7, 1⟩) (meth := k7m1) (c := k7c1) (by decide +kernel) rfl rfl rfl (by decide +kernel)
set_option maxRecDepth 65536 in
theorem w_c2 : (Jvm.Cond.code ({ cls := "java/lang/String", name := "<init>", desc := "([CIILjava/lang/Void;)V" } : Jvm.MethodName) jdk_42_method_149_code (6 : Nat) (Option.none : Option Jvm.ClassFile.FieldType)).before args0 about1 = true := code_word (m := ⟨7, 3⟩) (meth := k7m3) (c := k7c3) (by decide +kernel) rfl rfl rfl (by decide +kernel)
set_option maxRecDepth 65536 in
theorem w_c3 : (Jvm.Cond.code ({ cls := "java/lang/Object", name := "<init>", desc := "()V" } : Jvm.MethodName) object_method_1_code (1 : Nat) (Option.none : Option Jvm.ClassFile.FieldType)).before args0 about1 = true := code_word (m := ⟨0, 0⟩) (meth := k0m0) (c := k0c0) (by decide +kernel) rfl rfl rfl (by decide +kernel)
set_option maxRecDepth 65536 in
theorem w_c4 : (Jvm.Cond.code ({ cls := "java/lang/StringUTF16", name := "compress", desc := "([CII)[B" } : Jvm.MethodName) jdk_52_method_16_code (6 : Nat) (Option.some (Jvm.ClassFile.FieldType.array Jvm.ClassFile.FieldType.byte))).before args0 about1 = true := code_word (m := ⟨8, 2⟩) (meth := k8m2) (c := k8c2) (by decide +kernel) rfl rfl rfl (by decide +kernel)
set_option maxRecDepth 65536 in
theorem w_c5 : (Jvm.Cond.code ({ cls := "java/lang/StringUTF16", name := "compress", desc := "([CI[BII)I" } : Jvm.MethodName) jdk_52_method_21_code (7 : Nat) (Option.some Jvm.ClassFile.FieldType.int)).before args0 about1 = true := code_word (m := ⟨8, 3⟩) (meth := k8m3) (c := k8c3) (by decide +kernel) rfl rfl rfl (by decide +kernel)
set_option maxRecDepth 65536 in
theorem w_c6 : (Jvm.Cond.code ({ cls := "java/lang/StringUTF16", name := "coderFromArrayLen", desc := "([BI)B" } : Jvm.MethodName) jdk_52_method_15_code (2 : Nat) (Option.some Jvm.ClassFile.FieldType.byte)).before args0 about1 = true := code_word (m := ⟨8, 1⟩) (meth := k8m1) (c := k8c1) (by decide +kernel) rfl rfl rfl (by decide +kernel)
set_option maxRecDepth 65536 in
theorem w_c7 : (Jvm.Cond.code ({ cls := "com/example/odysseus/odysseus/Url", name := "<init>", desc := "(Ljava/lang/String;Ljava/lang/String;ILjava/lang/String;Ljava/lang/String;Ljava/lang/String;ILjava/lang/String;)V" } : Jvm.MethodName) prog_10_method_2_code (9 : Nat) (Option.none : Option Jvm.ClassFile.FieldType)).before args0 about1 = true := code_word (m := ⟨9, 0⟩) (meth := k9m0) (c := k9c0) (by decide +kernel) rfl rfl rfl (by decide +kernel)
set_option maxRecDepth 65536 in
theorem w_c8 : (Jvm.Cond.code ({ cls := "com/example/odysseus/odysseus/Url", name := "urlPathIndex", desc := "()I" } : Jvm.MethodName) prog_10_method_17_code (1 : Nat) (Option.some Jvm.ClassFile.FieldType.int)).before args0 about1 = true := code_word (m := ⟨9, 1⟩) (meth := k9m1) (c := k9c1) (by decide +kernel) rfl rfl rfl (by decide +kernel)
set_option maxRecDepth 65536 in
theorem w_c9 : (Jvm.Cond.code ({ cls := "java/lang/String", name := "length", desc := "()I" } : Jvm.MethodName) jdk_42_method_54_code (1 : Nat) (Option.some Jvm.ClassFile.FieldType.int)).before args0 about1 = true := code_word (m := ⟨7, 2⟩) (meth := k7m2) (c := k7c2) (by decide +kernel) rfl rfl rfl (by decide +kernel)
set_option maxRecDepth 65536 in
theorem w_c10 : (Jvm.Cond.code ({ cls := "java/lang/String", name := "coder", desc := "()B" } : Jvm.MethodName) jdk_42_method_152_code (1 : Nat) (Option.some Jvm.ClassFile.FieldType.byte)).before args0 about1 = true := code_word (m := ⟨7, 4⟩) (meth := k7m4) (c := k7c4) (by decide +kernel) rfl rfl rfl (by decide +kernel)
def codes1 : List Jvm.Cond := [Jvm.Cond.code x code maxLocals ret, Jvm.Cond.code ({ cls := "java/lang/String", name := "<init>", desc := "([C)V" } : Jvm.MethodName) jdk_42_method_3_code (2 : Nat) (Option.none : Option Jvm.ClassFile.FieldType), Jvm.Cond.code ({ cls := "java/lang/String", name := "<init>", desc := "([CIILjava/lang/Void;)V" } : Jvm.MethodName) jdk_42_method_149_code (6 : Nat) (Option.none : Option Jvm.ClassFile.FieldType), Jvm.Cond.code ({ cls := "java/lang/Object", name := "<init>", desc := "()V" } : Jvm.MethodName) object_method_1_code (1 : Nat) (Option.none : Option Jvm.ClassFile.FieldType), Jvm.Cond.code ({ cls := "java/lang/StringUTF16", name := "compress", desc := "([CII)[B" } : Jvm.MethodName) jdk_52_method_16_code (6 : Nat) (Option.some (Jvm.ClassFile.FieldType.array Jvm.ClassFile.FieldType.byte)), Jvm.Cond.code ({ cls := "java/lang/StringUTF16", name := "compress", desc := "([CI[BII)I" } : Jvm.MethodName) jdk_52_method_21_code (7 : Nat) (Option.some Jvm.ClassFile.FieldType.int), Jvm.Cond.code ({ cls := "java/lang/StringUTF16", name := "coderFromArrayLen", desc := "([BI)B" } : Jvm.MethodName) jdk_52_method_15_code (2 : Nat) (Option.some Jvm.ClassFile.FieldType.byte), Jvm.Cond.code ({ cls := "com/example/odysseus/odysseus/Url", name := "<init>", desc := "(Ljava/lang/String;Ljava/lang/String;ILjava/lang/String;Ljava/lang/String;Ljava/lang/String;ILjava/lang/String;)V" } : Jvm.MethodName) prog_10_method_2_code (9 : Nat) (Option.none : Option Jvm.ClassFile.FieldType), Jvm.Cond.code ({ cls := "com/example/odysseus/odysseus/Url", name := "urlPathIndex", desc := "()I" } : Jvm.MethodName) prog_10_method_17_code (1 : Nat) (Option.some Jvm.ClassFile.FieldType.int), Jvm.Cond.code ({ cls := "java/lang/String", name := "length", desc := "()I" } : Jvm.MethodName) jdk_42_method_54_code (1 : Nat) (Option.some Jvm.ClassFile.FieldType.int), Jvm.Cond.code ({ cls := "java/lang/String", name := "coder", desc := "()B" } : Jvm.MethodName) jdk_42_method_152_code (1 : Nat) (Option.some Jvm.ClassFile.FieldType.byte)]
set_option maxRecDepth 65536 in
theorem codes_eq : words1.filter isCode = codes1 := rfl
theorem w_codes : ∀ c ∈ words1.filter isCode, c.before args0 about1 = true := by
  rw [codes_eq]
  intro c hc
  simp only [codes1, List.mem_cons, List.not_mem_nil, or_false] at hc
  rcases hc with rfl | rfl | rfl | rfl | rfl | rfl | rfl | rfl | rfl | rfl | rfl
  · exact w_c0
  · exact w_c1
  · exact w_c2
  · exact w_c3
  · exact w_c4
  · exact w_c5
  · exact w_c6
  · exact w_c7
  · exact w_c8
  · exact w_c9
  · exact w_c10
set_option maxRecDepth 65536 in
theorem w_t1 : (words1.take 24).all (fun c => isCode c || c.before args0 about1) = true := by decide +kernel
set_option maxRecDepth 65536 in
theorem w_t2 : ((words1.drop 24).take 24).all (fun c => isCode c || c.before args0 about1) = true := by decide +kernel
set_option maxRecDepth 65536 in
theorem w_t3 : (((words1.drop 24).drop 24).take 24).all (fun c => isCode c || c.before args0 about1) = true := by decide +kernel
set_option maxRecDepth 65536 in
theorem w_t4 : (((words1.drop 24).drop 24).drop 24).all (fun c => isCode c || c.before args0 about1) = true := by decide +kernel
theorem w_tables : (allAtoms (Jvm.Cond.code x code maxLocals ret :: tables_1)).before args0 about1 = true := by
  rw [allAtoms_all]
  show words1.all (fun c => c.before args0 about1) = true
  refine all_split ?_ w_codes
  rw [← List.take_append_drop 24 words1, List.all_append, w_t1, ← List.take_append_drop 24 (words1.drop 24), List.all_append, w_t2, ← List.take_append_drop 24 ((words1.drop 24).drop 24), List.all_append, w_t3, w_t4]
  rfl
set_option maxRecDepth 65536 in
theorem w_rest : rest_1_c.before args0 about1 = true := by decide +kernel
set_option maxRecDepth 65536 in
theorem w_case : (Jvm.Cond.and given_1 narrow_1).before args0 about1 = true := by decide +kernel
set_option maxRecDepth 65536 in
theorem w_consts : constsHeld consts_1 about1 := Jvm.Lit.constsHeldB_iff.mp (by decide +kernel)
theorem w_applies : (headSpec (Jvm.Cond.code x code maxLocals ret :: tables_1) room_1).applies x e0.platform about1 = true :=
  (Spec.applies_iff w_frames).mpr ⟨w_running, w_runnable, w_alone, w_named, w_hears, w_ripe, w_room, w_tables⟩
theorem atStart : AtStart classFile x code maxLocals ret World_1 tables_1 room_1 Calls_1 rest_1 Pre_1 launch0 p0 e0 about1 theMethod args0 below0 :=
  ⟨lists_1, trivial, launch0.admits_env _ _ _, launch0.least_env, fairChoices_fair.cas, fairChoices_fair.clock, w_frames, w_args, w_heap, w_applies, ⟨w_consts, trivial⟩, w_rest, w_case⟩
end start1
theorem witness_1 : WitnessClaimed_1 := ⟨start1.p0, start1.e0, start1.about1, start1.theMethod, start1.args0, start1.below0, start1.atStart⟩
end Jvm.Pilot.@@N@@
