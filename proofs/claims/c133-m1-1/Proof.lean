import JvmDerived
import JvmDerived.Pilot.@@N@@Statement
import JvmDerived.Pilot.@@N@@Code
set_option linter.unusedVariables false
set_option linter.unusedSimpArgs false
namespace Jvm.RoadKit
open Sem ClassFile Op Lib Jvm.Stand Jvm.Free Jvm.LawKit
section New
variable {p : Program} {l : Launch} {e : Env} {R : Room} {s : State} {m : MethodId} {args : Array Value} {below : List Frame} {meth : Method} {c : Code} {T : State} {locs : List Loc} {cells slots : Nat}
theorem retI (X : Stand p l e R s m args below meth c T locs cells slots) (hx : p.tables.exec = Jvm.exec) {pc : Nat} {Ls : Array Slot} {z : Int32} {rest : List Value} (hret : meth.sig.returnType = some .int) (hd : decode c.code pc = .ok (.ireturn, 1)) {fs : List Frame}
    (hl : ∀ (f : JFrame) (acts : List Action), f.method = m → f.locked = none → f.entered = [] → (doReturn e (T.setTop f) acts (some (.int z))).1 = T.setFrames fs) : Steps p.tables e below (T.setTop (mkF m pc Ls (.int z :: rest))) (T.setFrames fs) := by
  have hm' : T.vm.method? m = some meth := X.method'
  have hn : narrow .int (.int z) = .int z := rfl
  show Steps p.tables e below (T.setTop { method := m, pc := pc, locals := Ls, stack := _ :: rest, locked := none }) _
  jvm_step X.here [X.here.top, hx, hd, hm', hret, hn]
  first | (intro acts; rw [hl _ acts rfl rfl rfl]) | rw [hl _ _ rfl rfl rfl]
  exact Steps.refl _
theorem seg (X : Stand p l e R s m args below meth c T locs cells slots) (P : State → Prop) (h : ∃ T', Stand p l e R s m args below meth c T' locs cells slots ∧ P T') : ∃ T', Stand p l e R s m args below meth c T' locs cells slots ∧ P T' := h
/-- int to char -/
def i2c (x : Int32) : Int32 := x.toUInt32.toUInt16.toUInt32.toInt32
/-- int to byte -/
def own_lo (x : Int32) : Int32 := x.toInt8.toInt32
/-- the unsigned shift of an int -/
def ushr (x y : Int32) : Int32 := (x.toUInt32 >>> (y &&& 31).toUInt32).toInt32
/-- the unsigned shift of a long -/
def ushrJ (x : Int64) (y : Int32) : Int64 := (x.toUInt64 >>> (y &&& 0x3f).toInt64.toUInt64).toInt64
end New
end Jvm.RoadKit
namespace Jvm.Pilot.@@N@@
open Jvm Jvm.ClassFile Sem Op Lib Jvm.Free Jvm.Stand Jvm.LawKit Jvm.RoadKit Bundle Jvm.Pilot.@@N@@.Jvm.D
theorem own_neN {a b : Addr} (h : @Ne Nat a b) : ¬ (a = b) := h
theorem own_narb {q : Prop} [Decidable q] : nar .boolean (if q then (1 : Int32) else (0 : Int32)) = (if q then (1 : Int32) else (0 : Int32)) := by split <;> rfl
theorem own_declares {Z : State} {a0 : Array Value} {y : MethodName} {bytes : ByteArray} {mx : Nat} {r : Option FieldType} (w1 : (Jvm.Cond.instanceMethod y).before a0 Z = true) (w2 : (Jvm.Cond.code y bytes mx r).before a0 Z = true) : (Jvm.Cond.declares y).before a0 Z = true := by
  obtain ⟨mk, meth, h1, h2, h3, -⟩ := Cond.instanceMethod_spec w1
  obtain ⟨meth', c, q1, -, -, -, -, -, -, q2⟩ := Cond.code_spec h1 w2
  cases h2.symm.trans q1
  simp [Cond.before, Cond.holds, Cond.value, h1, h2, h3, q2]
/-- the class of a method that an object selects is no interface -/
theorem own_nf {Z : State} {a0 : Array Value} {y z : MethodName} {C : String} (hz : z.cls = y.cls) (w : (Jvm.Cond.selects C z z).before a0 Z = true) : ∀ r, Z.methodNamed? y = some r → ∃ k, Z.vm.classes[r.cls]? = some k ∧ k.isInterface = false := fun r hr => by
  obtain ⟨c, r2, m2, -, -, q3, -, kP, hkP, hkPi⟩ := Cond.selects_spec w
  have h1 := findClass_of_methodNamed q3
  have h2 := findClass_of_methodNamed hr
  rw [hz, h2] at h1
  rw [Option.some.inj h1]
  exact ⟨kP, hkP, hkPi⟩
/-- a method that its class declares itself is the one that the look-up finds -/
theorem own_same {Z : State} {a0 : Array Value} {y : MethodName} (w1 : (Jvm.Cond.instanceMethod y).before a0 Z = true) (w2 : ∀ r, Z.methodNamed? y = some r → ∃ k, Z.vm.classes[r.cls]? = some k ∧ k.isInterface = false) (hy : y.cls ≠ "java/lang/invoke/MethodHandle" ∧ y.cls ≠ "java/lang/invoke/VarHandle") : (Jvm.Cond.sameMethod y.cls y.cls y.name y.desc).before a0 Z = true := by
  obtain ⟨mk, meth, h1, -⟩ := Cond.instanceMethod_spec w1
  have hc := findClass_of_methodNamed h1
  obtain ⟨k, hk, hi⟩ := w2 mk h1
  have hf := State.methodFound?_of_named h1 hy
  have hk' : Z.vm.classes[mk.cls]? = some k := hk
  simp [Cond.before, Cond.holds, Cond.value, hc, hf, h1, hk', hi]
theorem own_ti {n : Nat} (h : n ≤ 8000) : (Int32.ofNat n).toInt = n := Int32.toInt_ofNat_of_lt (by omega)
theorem own_tn {n : Nat} (h : n ≤ 8000) : (Int32.ofNat n).toNatClampNeg = n := by
  rw [Int32.toNatClampNeg, own_ti h]; omega
theorem own_lt {i n : Nat} (h : i < n) (hn : n ≤ 8000) : (Int32.ofNat i) < (Int32.ofNat n) := by
  rw [Int32.lt_iff_toInt_lt, own_ti (by omega), own_ti hn]; omega
theorem own_nlt {i n : Nat} (h : n ≤ i) (hn : i ≤ 8000) : ¬ ((Int32.ofNat i) < (Int32.ofNat n)) := by
  rw [Int32.lt_iff_toInt_lt, own_ti hn, own_ti (by omega : n ≤ 8000)]; omega
theorem own_nn {n : Nat} (h : n ≤ 8000) : ¬ ((Int32.ofNat n) < (0 : Int32)) := by
  rw [Int32.lt_iff_toInt_lt, own_ti h]
  show ¬ ((n : Int) < 0)
  omega
theorem own_inj {i n : Nat} (h : i ≤ 8000) (hn : n ≤ 8000) (e : Int32.ofNat i = Int32.ofNat n) : i = n := by
  have := congrArg Int32.toInt e
  rw [own_ti h, own_ti hn] at this; omega
theorem own_up (k : Nat) : Int32.ofNat (k + 1) = Int32.ofNat k + (1 : Int32) := Int32.ofNat_add k 1
theorem own_in {i n : Nat} (h : i < n) (hn : n ≤ 8000) : ¬ (Int32.ofNat i) < 0 ∧ (Int32.ofNat i) < (Int32.ofNat n) := ⟨own_nn (by omega), own_lt h hn⟩
theorem own_eqI {z w : Int32} (h : z.toInt = w.toInt) : z = w := Int32.toInt_inj.mp h
theorem own_shl1 {n : Nat} (h : n ≤ 4000) : (Int32.ofNat n) <<< ((1 : Int32) &&& 31) = Int32.ofNat (2 * n) := by
  apply own_eqI
  have h1 := c_ishl (Int32.ofNat n) 1 1 (by decide)
  rw [own_ti (by omega)] at h1
  rw [own_ti (by omega : 2 * n ≤ 8000)]
  have := rng32 ((Int32.ofNat n) <<< ((1 : Int32) &&& 31))
  omega
theorem own_shr1 {n : Nat} (h : n ≤ 4000) : (Int32.ofNat (2 * n)) >>> ((1 : Int32) &&& 31) = Int32.ofNat n := by
  apply own_eqI
  rw [c_ishr (Int32.ofNat (2 * n)) 1 1 (by decide), own_ti (by omega : 2 * n ≤ 8000), own_ti (by omega)]
  omega
theorem own_shr0 (z : Int32) : z >>> ((0 : Int32) &&& 31) = z := by
  apply own_eqI
  rw [c_ishr z 0 0 (by decide)]; simp
def own_mix {α : Type} (ys vs : List α) (j : Nat) : List α := ys.take j ++ vs.drop j
theorem own_mix0 {α : Type} (ys vs : List α) : own_mix ys vs 0 = vs := by simp [own_mix]
theorem own_mixn {α : Type} (ys vs : List α) (n : Nat) (h : ys.length = n) (h2 : vs.length = n) : own_mix ys vs n = ys := by
  simp [own_mix, ← h, ← h2]
  omega
theorem own_mixl {α : Type} (ys vs : List α) (j : Nat) (h : ys.length = vs.length) : (own_mix ys vs j).length = vs.length := by simp [own_mix]; omega
theorem own_mixs {α : Type} (ys vs : List α) (d : α) (j : Nat) (h : ys.length = vs.length) (hj : j < vs.length) : (own_mix ys vs j).set j (ys.getD j d) = own_mix ys vs (j + 1) := by
  have hj' : j < ys.length := by omega
  apply List.ext_getElem?
  intro i
  simp only [own_mix, List.getElem?_set, List.length_append, List.length_take, List.length_drop, List.getElem?_append, List.getElem?_take, List.getElem?_drop, List.getD_eq_getElem?_getD, List.getElem?_eq_getElem hj', Option.getD_some]
  by_cases h1 : j = i
  · subst h1
    rw [if_pos rfl, if_pos (by omega), if_pos (by omega), if_pos (by omega), List.getElem?_eq_getElem hj']
  · rw [if_neg h1]
    by_cases h2 : i < j
    · rw [if_pos (by omega), if_pos (by omega), if_pos (by omega), if_pos (by omega)]
    · rw [if_neg (by omega), if_neg (by omega)]
      congr 1
      omega
/-- every char lies below 256 -/
abbrev own_lat (cs : List Int32) : Prop := ∀ c ∈ cs, ¬ ((255 : Int32) < c)
/-- every one is a char -/
abbrev own_chs (cs : List Int32) : Prop := ∀ c ∈ cs, ¬ (c < (0 : Int32)) ∧ ¬ ((65535 : Int32) < c)
def own_low (cs : List Int32) : List Value := cs.map fun c => .int (own_lo c)
def own_wide : List Int32 → List Value
  | [] => []
  | c :: r => .int (own_lo (c >>> ((0 : Int32) &&& 31))) :: .int (own_lo (c >>> ((8 : Int32) &&& 31))) :: own_wide r
def own_cod (cs : List Int32) : Int32 := if own_lat cs then 0 else 1
def own_enc (cs : List Int32) : List Value := if own_lat cs then own_low cs else own_wide cs
def own_enl (cs : List Int32) : Nat := if own_lat cs then cs.length else 2 * cs.length
theorem own_lowl (cs : List Int32) : (own_low cs).length = cs.length := by simp [own_low]
theorem own_widel : ∀ cs : List Int32, (own_wide cs).length = 2 * cs.length
  | [] => rfl
  | c :: r => by simp only [own_wide, List.length_cons, own_widel r]; omega
theorem own_getc (cs : List Int32) (j : Nat) (d : Value) (hj : j < cs.length) (hb : cs.length ≤ 8000) : (cs.map Value.int).getD (Int32.ofNat j).toNatClampNeg d = .int (cs.getD j 0) := by
  rw [own_tn (by omega)]
  simp [List.getD_eq_getElem?_getD, List.getElem?_map, List.getElem?_eq_getElem hj]
theorem own_getl (cs : List Int32) (j : Nat) (d : Value) (hj : j < cs.length) (hb : cs.length ≤ 8000) : (own_low cs).getD (Int32.ofNat j).toNatClampNeg d = .int (own_lo (cs.getD j 0)) := by
  rw [own_tn (by omega)]
  simp [own_low, List.getD_eq_getElem?_getD, List.getElem?_map, List.getElem?_eq_getElem hj]
theorem own_mem (cs : List Int32) (j : Nat) (hj : j < cs.length) : cs.getD j 0 ∈ cs := by
  simp [List.getD_eq_getElem?_getD, List.getElem?_eq_getElem hj]
theorem own_lolo (c : Int32) : nar .byte (own_lo c) = own_lo c := by
  show (own_lo c).toInt8.toInt32 = own_lo c
  simp [own_lo]
theorem own_mixc (cs : List Int32) (vs : List Value) (j : Nat) (h : cs.length = vs.length) (hj : j < vs.length) : (own_mix (own_low cs) vs j).set j (.int (nar .byte (own_lo (cs.getD j 0)))) = own_mix (own_low cs) vs (j + 1) := by
  have e : Value.int (own_lo (cs.getD j 0)) = (own_low cs).getD j (.int 0) := by
    simp [own_low, List.getD_eq_getElem?_getD, List.getElem?_map, List.getElem?_eq_getElem (by omega : j < cs.length)]
  rw [own_lolo, e]
  exact own_mixs _ _ _ _ (by rw [own_lowl]; exact h) hj
theorem own_wide0 (d : Value) : ∀ (cs : List Int32) (j : Nat), j < cs.length → (own_wide cs).getD (2 * j) d = .int (own_lo ((cs.getD j 0) >>> ((0 : Int32) &&& 31)))
  | [], _, h => nomatch h
  | c :: r, 0, _ => rfl
  | c :: r, j + 1, h => by
    have := own_wide0 d r j (by simpa using h)
    show (own_wide (c :: r)).getD (2 * j + 2) d = _
    simpa [own_wide] using this
theorem own_wide1 (d : Value) : ∀ (cs : List Int32) (j : Nat), j < cs.length → (own_wide cs).getD (2 * j + 1) d = .int (own_lo ((cs.getD j 0) >>> ((8 : Int32) &&& 31)))
  | [], _, h => nomatch h
  | c :: r, 0, _ => rfl
  | c :: r, j + 1, h => by
    have := own_wide1 d r j (by simpa using h)
    show (own_wide (c :: r)).getD (2 * j + 1 + 2) d = _
    simpa [own_wide] using this
theorem own_mixw (cs : List Int32) (vs : List Value) (j : Nat) (h : 2 * cs.length = vs.length) (hj : j < cs.length) :
    ((own_mix (own_wide cs) vs (2 * j)).set (2 * j) (.int (own_lo ((cs.getD j 0) >>> ((0 : Int32) &&& 31))))).set (2 * j + 1) (.int (own_lo ((cs.getD j 0) >>> ((8 : Int32) &&& 31)))) = own_mix (own_wide cs) vs (2 * (j + 1)) := by
  have hl : (own_wide cs).length = vs.length := by rw [own_widel]; exact h
  rw [← own_wide0 (.int 0) cs j hj, own_mixs _ _ _ _ hl (by omega), ← own_wide1 (.int 0) cs j hj, own_mixs _ _ _ _ hl (by omega)]
  rfl
/-- two bytes make the char again -/
theorem own_pair {c : Int32} (h0 : ¬ (c < (0 : Int32))) (h1 : ¬ ((65535 : Int32) < c)) :
    i2c (((own_lo (c >>> ((0 : Int32) &&& 31)) &&& (255 : Int32)) <<< ((0 : Int32) &&& 31)) ||| ((own_lo (c >>> ((8 : Int32) &&& 31)) &&& (255 : Int32)) <<< ((8 : Int32) &&& 31))) = c := by
  have b0 : 0 ≤ c.toInt ∧ c.toInt ≤ 65535 := by
    rw [Int32.lt_iff_toInt_lt] at h0 h1
    have : (0 : Int32).toInt = 0 := rfl
    have : (65535 : Int32).toInt = 65535 := rfl
    omega
  rw [own_shr0]
  have e8 : (c >>> ((8 : Int32) &&& 31)).toInt = c.toInt / 256 := c_ishr c 8 8 (by decide)
  have a1 := c_i2b c
  have a2 := c_i2b (c >>> ((8 : Int32) &&& 31))
  have m1 : (own_lo c &&& (255 : Int32)).toInt = (own_lo c).toInt % 256 := c_mask (own_lo c) 255 8 (by decide) (by decide)
  have m2 : (own_lo (c >>> ((8 : Int32) &&& 31)) &&& (255 : Int32)).toInt = (own_lo (c >>> ((8 : Int32) &&& 31))).toInt % 256 := c_mask (own_lo (c >>> ((8 : Int32) &&& 31))) 255 8 (by decide) (by decide)
  change ((own_lo c).toInt - c.toInt) % 256 = 0 ∧ _ at a1
  change ((own_lo (c >>> ((8 : Int32) &&& 31))).toInt - (c >>> ((8 : Int32) &&& 31)).toInt) % 256 = 0 ∧ _ at a2
  generalize own_lo c = u at *
  generalize own_lo (c >>> ((8 : Int32) &&& 31)) = w at *
  have s1 : ((u &&& (255 : Int32)) <<< ((0 : Int32) &&& 31)) = (u &&& (255 : Int32)) := by
    apply own_eqI
    have := c_ishl (u &&& (255 : Int32)) 0 0 (by decide)
    have := rng32 ((u &&& (255 : Int32)) <<< ((0 : Int32) &&& 31))
    omega
  have s2 := c_ishl (w &&& (255 : Int32)) 8 8 (by decide)
  have r2 := rng32 ((w &&& (255 : Int32)) <<< ((8 : Int32) &&& 31))
  rw [s1]
  generalize (w &&& (255 : Int32)) <<< ((8 : Int32) &&& 31) = y at *
  generalize u &&& (255 : Int32) = z at *
  have o := c_or' z y 8 (by decide) 256 rfl (by omega) (by omega) (by omega)
  have i := c_i2c (z ||| y)
  have r3 := rng32 (z ||| y)
  apply own_eqI
  show ((z ||| y).toUInt32.toUInt16.toUInt32.toInt32).toInt = _
  omega
theorem own_lo_inj {c d : Int32} (h0 : ¬ (c < (0 : Int32))) (h1 : ¬ ((255 : Int32) < c)) (g0 : ¬ (d < (0 : Int32))) (g1 : ¬ ((255 : Int32) < d)) (e : own_lo c = own_lo d) : c = d := by
  apply own_eqI
  have a1 := c_i2b c
  have a2 := c_i2b d
  have e' : c.toInt8.toInt32.toInt = d.toInt8.toInt32.toInt := congrArg Int32.toInt e
  rw [Int32.lt_iff_toInt_lt] at h0 h1 g0 g1
  have : (0 : Int32).toInt = 0 := rfl
  have : (255 : Int32).toInt = 255 := rfl
  omega
theorem own_ltbig {n : Nat} (h : n ≤ 8000) : (Int32.ofNat n) < (1073741823 : Int32) := by
  rw [Int32.lt_iff_toInt_lt, own_ti h]
  show (n : Int) < 1073741823
  omega
theorem own_narc {c : Int32} (h0 : ¬ (c < (0 : Int32))) (h1 : ¬ ((65535 : Int32) < c)) : nar .char c = c := by
  apply own_eqI
  have i := c_i2c c
  show (c.toUInt32.toUInt16.toUInt32.toInt32).toInt = _
  rw [Int32.lt_iff_toInt_lt] at h0 h1
  have : (0 : Int32).toInt = 0 := rfl
  have : (65535 : Int32).toInt = 65535 := rfl
  omega
theorem own_first {cs : List Int32} (h : ¬ own_lat cs) : ∃ i, i < cs.length ∧ (255 : Int32) < (cs.getD i 0) ∧ ∀ j, j < i → ¬ ((255 : Int32) < cs.getD j 0) := by
  induction cs with
  | nil => exact absurd (fun c hc => nomatch hc) h
  | cons c r ih =>
    by_cases hc : (255 : Int32) < c
    · exact ⟨0, by simp, hc, fun j hj => absurd hj (Nat.not_lt_zero j)⟩
    · have : ¬ own_lat r := fun hr => h fun d hd => by
        rcases List.mem_cons.mp hd with rfl | hd
        · exact hc
        · exact hr d hd
      obtain ⟨i, h1, h2, h3⟩ := ih this
      refine ⟨i + 1, by simpa using h1, by simpa using h2, fun j hj => ?_⟩
      cases j with
      | zero => simpa using hc
      | succ j => simpa using h3 j (by omega)
theorem own_fixL {Z : State} {hh : Heap} {b : Addr} {kb : ClassId} {cs : List Int32} {n : Nat} {vs : List Value} {d : Value} (h : own_lat cs) (F : Arv Z hh b kb .byte (Int32.ofNat n) (own_mix (own_low cs) vs n) d) (hn : cs.length = n) (hv : vs.length = n) : Arv Z hh b kb .byte (Int32.ofNat (own_enl cs)) (own_enc cs) d := by
  rw [own_mixn _ _ n (by rw [own_lowl]; exact hn) hv] at F
  rw [own_enl, own_enc, if_pos h, if_pos h, hn]; exact F
theorem own_fixW {Z : State} {hh : Heap} {b : Addr} {kb : ClassId} {cs : List Int32} {n : Nat} {d : Value} (h : ¬ own_lat cs) (F : Arv Z hh b kb .byte (Int32.ofNat (2 * n)) (own_wide cs) d) (hn : cs.length = n) : Arv Z hh b kb .byte (Int32.ofNat (own_enl cs)) (own_enc cs) d := by
  rw [own_enl, own_enc, if_neg h, if_neg h, hn]; exact F
theorem own_ne0 {n : Nat} (h : 0 < n) (hb : n ≤ 8000) : ¬ ((Int32.ofNat n) = (0 : Int32)) := fun e => by
  have := own_inj (n := 0) hb (by omega) e
  omega
theorem own_codl {cs : List Int32} {n : Nat} (hn : cs.length = n) (hp : 0 < n) (hb : n ≤ 4000) : nar .byte (own_lo (ushr ((Int32.ofNat n) - (Int32.ofNat (own_enl cs))) (31 : Int32))) = own_cod cs := by
  rw [own_lolo, own_enl, own_cod]
  by_cases h : own_lat cs
  · rw [if_pos h, if_pos h, hn, Int32.sub_self]; rfl
  · rw [if_neg h, if_neg h, hn]
    have e : ushr ((Int32.ofNat n) - (Int32.ofNat (2 * n))) (31 : Int32) = 1 := by
      apply own_eqI
      have a := c_isub (Int32.ofNat n) (Int32.ofNat (2 * n))
      rw [own_ti (by omega), own_ti (by omega : 2 * n ≤ 8000)] at a
      have r := rng32 ((Int32.ofNat n) - (Int32.ofNat (2 * n)))
      have s := c_iushr ((Int32.ofNat n) - (Int32.ofNat (2 * n))) 31 31 (by decide) (by decide)
      show (((Int32.ofNat n) - (Int32.ofNat (2 * n))).toUInt32 >>> ((31 : Int32) &&& 31).toUInt32).toInt32.toInt = 1
      rw [s]
      omega
    rw [e]; rfl
theorem own_c01 (cs : List Int32) : own_cod cs = 0 ∨ own_cod cs = 1 := by
  unfold own_cod; split
  · exact Or.inl rfl
  · exact Or.inr rfl
theorem own_cnar (cs : List Int32) : narrow .byte (.int (own_cod cs)) = .int (own_cod cs) := by rcases own_c01 cs with h | h <;> rw [h] <;> rfl
theorem own_cnarb (cs : List Int32) : nar .byte (own_cod cs) = own_cod cs := by rcases own_c01 cs with h | h <;> rw [h] <;> rfl
theorem own_cfit (cs : List Int32) : fits .byte (.int (own_cod cs)) = true := by rcases own_c01 cs with h | h <;> rw [h] <;> rfl
theorem own_lenq (cs : List Int32) (hb : cs.length ≤ 4000) : (Int32.ofNat (own_enl cs)) >>> ((own_cod cs) &&& 31) = Int32.ofNat cs.length := by
  rw [own_enl, own_cod]
  by_cases h : own_lat cs
  · rw [if_pos h, if_pos h]; exact own_shr0 _
  · rw [if_neg h, if_neg h]; exact own_shr1 hb
/-- one more than the place of the first ch among k chars from j on; 0: none -/
def own_ix (cs : List Int32) (ch : Int32) : Nat → Nat → Nat
  | _, 0 => 0
  | j, k + 1 => if cs.getD j 0 = ch then j + 1 else own_ix cs ch (j + 1) k
theorem own_ixle (cs : List Int32) (ch : Int32) : ∀ (k j : Nat), own_ix cs ch j k ≤ j + k
  | 0, j => by simp [own_ix]
  | k + 1, j => by
    unfold own_ix; split
    · omega
    · have := own_ixle cs ch k (j + 1); omega
theorem own_ix0 (cs : List Int32) (ch : Int32) (h : ∀ c ∈ cs, c ≠ ch) : ∀ (k j : Nat), j + k ≤ cs.length → own_ix cs ch j k = 0
  | 0, j, _ => rfl
  | k + 1, j, hj => by
    unfold own_ix
    rw [if_neg (h _ (own_mem cs j (by omega)))]
    exact own_ix0 cs ch h k (j + 1) (by omega)
theorem own_minT {i j : Nat} (hi : i ≤ 8000) (hj : j ≤ 8000) (h : ¬ ((Int32.ofNat j) < (Int32.ofNat i))) : Int32.ofNat i = Int32.ofNat (min i j) := by
  by_cases q : i ≤ j
  · rw [Nat.min_eq_left q]
  · exact absurd (own_lt (by omega) hi) h
theorem own_minF {i j : Nat} (hi : i ≤ 8000) (hj : j ≤ 8000) (h : (Int32.ofNat j) < (Int32.ofNat i)) : Int32.ofNat j = Int32.ofNat (min i j) := by
  by_cases q : i ≤ j
  · exact absurd h (own_nlt q hj)
  · rw [Nat.min_eq_right (by omega)]
theorem own_maxT {i j : Nat} (hi : i ≤ 8000) (hj : j ≤ 8000) (h : (Int32.ofNat i) < (Int32.ofNat j)) : Int32.ofNat j = Int32.ofNat (max i j) := by
  by_cases q : j ≤ i
  · exact absurd h (own_nlt q hi)
  · rw [Nat.max_eq_right (by omega)]
theorem own_maxF {i j : Nat} (hi : i ≤ 8000) (hj : j ≤ 8000) (h : ¬ ((Int32.ofNat i) < (Int32.ofNat j))) : Int32.ofNat i = Int32.ofNat (max i j) := by
  by_cases q : j ≤ i
  · rw [Nat.max_eq_left q]
  · exact absurd (own_lt (by omega) hj) h
theorem own_found (j : Nat) : Int32.ofNat j = Int32.ofNat (j + 1) - (1 : Int32) := by rw [own_up, Int32.add_sub_cancel]
theorem own_geth (cs : List Int32) (j : Nat) (d : Value) (hl : own_lat cs) (hj : j < cs.length) (hb : cs.length ≤ 8000) : (own_enc cs).getD (Int32.ofNat j).toNatClampNeg d = .int (own_lo (cs.getD j 0)) := by
  rw [own_enc, if_pos hl]; exact own_getl cs j d hj hb
theorem own_nari2c (z : Int32) : nar .char (i2c z) = i2c z := by
  have i := c_i2c z
  have k := c_i2c (z.toUInt32.toUInt16.toUInt32.toInt32)
  apply own_eqI
  show (z.toUInt32.toUInt16.toUInt32.toInt32).toUInt32.toUInt16.toUInt32.toInt32.toInt = z.toUInt32.toUInt16.toUInt32.toInt32.toInt
  omega
theorem own_rng {q z : Int32} (h : q = i2c z) : ¬ (q < (0 : Int32)) ∧ ¬ ((65535 : Int32) < q) := by
  have i := c_i2c z
  have e : q.toInt = z.toUInt32.toUInt16.toUInt32.toInt32.toInt := congrArg Int32.toInt h
  rw [Int32.lt_iff_toInt_lt, Int32.lt_iff_toInt_lt]
  have : (0 : Int32).toInt = 0 := rfl
  have : (65535 : Int32).toInt = 65535 := rfl
  omega
theorem own_chs0 : own_chs [] := fun _ h => nomatch h
theorem own_chsS {c : Int32} {r : List Int32} (h : ¬ (c < (0 : Int32)) ∧ ¬ ((65535 : Int32) < c)) (g : own_chs r) : own_chs (c :: r) := fun d hd => by
  rcases List.mem_cons.mp hd with rfl | hd
  · exact h
  · exact g d hd
theorem own_lat0 : own_lat [] := fun _ h => nomatch h
theorem own_latS {c : Int32} {r : List Int32} (h : ¬ ((255 : Int32) < c)) (g : own_lat r) : own_lat (c :: r) := fun d hd => by
  rcases List.mem_cons.mp hd with rfl | hd
  · exact h
  · exact g d hd
theorem own_int (z : Int32) (n : Nat) (h : z.toInt = n) : z = Int32.ofNat n := by
  apply Int32.toInt_inj.mp
  rw [h]
  have := z.toInt_lt
  have := z.le_toInt
  rw [Int32.toInt_ofNat_of_lt]
  omega
theorem own_and3 (z : Int32) : ∃ n : Nat, (z &&& (3 : Int32)) = Int32.ofNat n ∧ n < 4 := by
  have h := c_mask z 3 2 (by decide) (by decide)
  refine ⟨(z.toInt % 4).toNat, own_int _ _ ?_, by omega⟩
  rw [h]; omega
theorem own_modn (z : Int32) (d : Int32) (k : Nat) (hd : d.toInt = k) (hk : 0 < k) (hk2 : k ≤ 100) : ∃ n : Nat, ((z &&& (2147483647 : Int32)) % d) = Int32.ofNat n ∧ n < k := by
  have h := c_mask z 2147483647 31 (by decide) (by decide)
  have h2 := (c_irem (z &&& (2147483647 : Int32)) d k hd).1 (by rw [h]; omega)
  have h3 : 0 ≤ (z &&& (2147483647 : Int32)).toInt := by rw [h]; omega
  have h4 := Int.emod_nonneg (z &&& (2147483647 : Int32)).toInt (show (k : Int) ≠ 0 by omega)
  have h5 := Int.emod_lt_of_pos (z &&& (2147483647 : Int32)).toInt (show (0 : Int) < k by omega)
  refine ⟨((z &&& (2147483647 : Int32)).toInt % k).toNat, own_int _ _ ?_, by omega⟩
  rw [h2]; omega
theorem own_lt16 {c : Int32} (h : ¬ ((65535 : Int32) < c)) : c < (65536 : Int32) := by
  rw [Int32.lt_iff_toInt_lt] at *
  have : (65535 : Int32).toInt = 65535 := rfl
  have : (65536 : Int32).toInt = 65536 := rfl
  omega
theorem own_sub0 {i n : Nat} (h : ¬ ((Int32.ofNat i) < (Int32.ofNat n))) (hn : n ≤ 8000) : n - i = 0 := by
  by_cases q : i < n
  · exact absurd (own_lt q hn) h
  · omega
theorem own_cod0 {cs : List Int32} (h : own_lat cs) : own_cod cs = (0 : Int32) := if_pos h
theorem own_cod1 {cs : List Int32} (h : ¬ own_lat cs) : ¬ (own_cod cs = (0 : Int32)) := by rw [own_cod, if_neg h]; decide
/-- a String's bytes as ints -/
def own_wb : List Int32 → List Int32
  | [] => []
  | c :: r => own_lo (c >>> ((0 : Int32) &&& 31)) :: own_lo (c >>> ((8 : Int32) &&& 31)) :: own_wb r
def own_eb (cs : List Int32) : List Int32 := if own_lat cs then cs.map own_lo else own_wb cs
theorem own_wideb : ∀ cs : List Int32, own_wide cs = (own_wb cs).map Value.int
  | [] => rfl
  | c :: r => by simp only [own_wide, own_wb, List.map_cons, own_wideb r]
theorem own_encb (cs : List Int32) : own_enc cs = (own_eb cs).map Value.int := by
  rw [own_enc, own_eb]; split
  · simp [own_low]
  · exact own_wideb cs
theorem own_wbl : ∀ cs : List Int32, (own_wb cs).length = 2 * cs.length
  | [] => rfl
  | c :: r => by simp only [own_wb, List.length_cons, own_wbl r]; omega
theorem own_ebl (cs : List Int32) : (own_eb cs).length = own_enl cs := by
  rw [own_eb, own_enl]; split
  · simp
  · exact own_wbl cs
theorem own_mapinj : ∀ (cs ds : List Int32), own_chs cs → own_chs ds → own_lat cs → own_lat ds → cs.map own_lo = ds.map own_lo → cs = ds
  | [], [], _, _, _, _, _ => rfl
  | [], _ :: _, _, _, _, _, h => nomatch h
  | _ :: _, [], _, _, _, _, h => nomatch h
  | c :: r, d :: q, hc, hd, lc, ld, h => by
    simp only [List.map_cons, List.cons.injEq] at h
    have e : c = d := own_lo_inj (hc c (by simp)).1 (lc c (by simp)) (hd d (by simp)).1 (ld d (by simp)) h.1
    rw [e, own_mapinj r q (fun x hx => hc x (by simp [hx])) (fun x hx => hd x (by simp [hx])) (fun x hx => lc x (by simp [hx])) (fun x hx => ld x (by simp [hx])) h.2]
theorem own_wbinj : ∀ (cs ds : List Int32), own_chs cs → own_chs ds → own_wb cs = own_wb ds → cs = ds
  | [], [], _, _, _ => rfl
  | [], _ :: _, _, _, h => nomatch h
  | _ :: _, [], _, _, h => nomatch h
  | c :: r, d :: q, hc, hd, h => by
    simp only [own_wb, List.cons.injEq] at h
    have e : c = d := by
      rw [← own_pair (hc c (by simp)).1 (hc c (by simp)).2, ← own_pair (hd d (by simp)).1 (hd d (by simp)).2, h.1, h.2.1]
    rw [e, own_wbinj r q (fun x hx => hc x (by simp [hx])) (fun x hx => hd x (by simp [hx])) h.2.2]
theorem own_encinj {cs ds : List Int32} (hc : own_chs cs) (hd : own_chs ds) (h : own_cod cs = own_cod ds) (e : own_eb cs = own_eb ds) : cs = ds := by
  by_cases l1 : own_lat cs <;> by_cases l2 : own_lat ds
  · rw [own_eb, own_eb, if_pos l1, if_pos l2] at e; exact own_mapinj _ _ hc hd l1 l2 e
  · rw [own_cod, own_cod, if_pos l1, if_neg l2] at h; exact absurd h (by decide)
  · rw [own_cod, own_cod, if_neg l1, if_pos l2] at h; exact absurd h (by decide)
  · rw [own_eb, own_eb, if_neg l1, if_neg l2] at e; exact own_wbinj _ _ hc hd e
theorem own_ext {xs ys : List Int32} (hl : xs.length = ys.length) (h : ∀ i, i < xs.length → xs.getD i 0 = ys.getD i 0) : xs = ys := by
  apply List.ext_getElem hl
  intro i h1 h2
  have := h i h1
  simpa [List.getD_eq_getElem?_getD, List.getElem?_eq_getElem h1, List.getElem?_eq_getElem h2] using this
theorem own_enll (cs : List Int32) : own_enl cs ≤ 2 * cs.length := by rw [own_enl]; split <;> omega
def own_mk : Nat → Int32 → Int32 → Int32 → List Int32
  | 0, _, _, _ => []
  | 1, x, _, _ => [x]
  | 2, x, y, _ => [x, y]
  | _ + 3, x, y, z => [x, y, z]
theorem own_mkl (n : Nat) (x y z : Int32) : (own_mk n x y z).length ≤ 3 := by
  unfold own_mk; split <;> simp
theorem own_mkchs {n : Nat} {x y z : Int32} (h : n < 4) (hx : ¬ (x < (0 : Int32)) ∧ ¬ ((65535 : Int32) < x)) (hy : ¬ (y < (0 : Int32)) ∧ ¬ ((65535 : Int32) < y)) (hz : ¬ (z < (0 : Int32)) ∧ ¬ ((65535 : Int32) < z)) : own_chs (own_mk n x y z) := by
  unfold own_mk; split
  · exact own_chs0
  · exact own_chsS hx own_chs0
  · exact own_chsS hx (own_chsS hy own_chs0)
  · exact own_chsS hx (own_chsS hy (own_chsS hz own_chs0))
theorem own_le64k {c : Int32} (h : ¬ ((255 : Int32) < c)) : ¬ ((65535 : Int32) < c) := by
  rw [Int32.lt_iff_toInt_lt] at *
  have : (65535 : Int32).toInt = 65535 := rfl
  have : (255 : Int32).toInt = 255 := rfl
  omega
theorem own_small {z : Int32} (h : 0 ≤ z.toInt ∧ z.toInt ≤ 255) : ¬ (i2c z < (0 : Int32)) ∧ ¬ ((255 : Int32) < i2c z) := by
  have i := c_i2c z
  rw [Int32.lt_iff_toInt_lt, Int32.lt_iff_toInt_lt]
  have : (0 : Int32).toInt = 0 := rfl
  have : (255 : Int32).toInt = 255 := rfl
  show ¬ ((z.toUInt32.toUInt16.toUInt32.toInt32).toInt < (0 : Int32).toInt) ∧ ¬ ((255 : Int32).toInt < (z.toUInt32.toUInt16.toUInt32.toInt32).toInt)
  omega
theorem own_m255 (z : Int32) : 0 ≤ (z &&& (255 : Int32)).toInt ∧ (z &&& (255 : Int32)).toInt ≤ 255 := by
  have := c_mask z 255 8 (by decide) (by decide)
  omega
theorem own_b255 (z : Int32) : ¬ (i2c (z &&& (255 : Int32)) < (0 : Int32)) ∧ ¬ ((255 : Int32) < i2c (z &&& (255 : Int32))) := own_small (own_m255 z)
theorem own_k255 (z : Int32) : ¬ ((z &&& (255 : Int32)) < (0 : Int32)) ∧ ¬ ((255 : Int32) < (z &&& (255 : Int32))) := by
  have := own_m255 z
  rw [Int32.lt_iff_toInt_lt, Int32.lt_iff_toInt_lt]
  have : (0 : Int32).toInt = 0 := rfl
  have : (255 : Int32).toInt = 255 := rfl
  omega
theorem own_xb (z w : Int32) (h : 0 ≤ z.toInt ∧ z.toInt ≤ 255) (g : 0 ≤ w.toInt ∧ w.toInt ≤ 255) : 0 ≤ (z ^^^ w).toInt ∧ (z ^^^ w).toInt ≤ 255 := by
  have t (v : Int32) (h : 0 ≤ v.toInt ∧ v.toInt ≤ 255) : v.toBitVec.toNat < 256 := by
    have := v.toBitVec.isLt
    have e : v.toInt = v.toBitVec.toInt := rfl
    rw [BitVec.toInt_eq_toNat_cond] at e
    split at e <;> omega
  have h1 := t z h
  have h2 := t w g
  have h3 : (z ^^^ w).toBitVec.toNat < 256 := by
    rw [Int32.toBitVec_xor, BitVec.toNat_xor]
    exact Nat.xor_lt_two_pow (n := 8) h1 h2
  have e : (z ^^^ w).toInt = (z ^^^ w).toBitVec.toInt := rfl
  rw [BitVec.toInt_eq_toNat_cond] at e
  split at e <;> omega
theorem own_x255 {z w : Int32} (h : ¬ (z < (0 : Int32)) ∧ ¬ ((255 : Int32) < z)) (g : ¬ (w < (0 : Int32)) ∧ ¬ ((255 : Int32) < w)) : ¬ (i2c (z ^^^ w) < (0 : Int32)) ∧ ¬ ((255 : Int32) < i2c (z ^^^ w)) := by
  rw [Int32.lt_iff_toInt_lt, Int32.lt_iff_toInt_lt] at h g
  have : (0 : Int32).toInt = 0 := rfl
  have : (255 : Int32).toInt = 255 := rfl
  exact own_small (own_xb z w (by omega) (by omega))
theorem own_chr {c : Int32} (h0 : ¬ (c < (0 : Int32))) (h1 : ¬ ((255 : Int32) < c)) : nar .char (i2c (own_lo c &&& (255 : Int32))) = c := by
  rw [own_nari2c]
  apply own_eqI
  have a := c_i2b c
  have m := c_mask (own_lo c) 255 8 (by decide) (by decide)
  change ((own_lo c).toInt - c.toInt) % 256 = 0 ∧ _ at a
  have i := c_i2c (own_lo c &&& (255 : Int32))
  show ((own_lo c &&& (255 : Int32)).toUInt32.toUInt16.toUInt32.toInt32).toInt = c.toInt
  rw [Int32.lt_iff_toInt_lt] at h0 h1
  have : (0 : Int32).toInt = 0 := rfl
  have : (255 : Int32).toInt = 255 := rfl
  omega
theorem own_enl0 {cs : List Int32} (hb : cs.length ≤ 4000) : (Int32.ofNat (own_enl cs)) = (0 : Int32) ↔ cs = [] := by
  constructor
  · intro e
    have h : own_enl cs = 0 := own_inj (n := 0) (by have := own_enll cs; omega) (by decide) e
    have : cs.length = 0 := by rw [own_enl] at h; split at h <;> omega
    exact List.eq_nil_of_length_eq_zero this
  · rintro rfl; rw [own_enl, if_pos own_lat0]; rfl
/-- an ASCII digit -/
abbrev own_dig (c : Int32) : Prop := ¬ (c < (48 : Int32)) ∧ ¬ ((57 : Int32) < c)
def own_only (cs : List Int32) : Int32 := if cs = [] then 0 else if ∀ c ∈ cs, own_dig c then 1 else 0
theorem own_only0 : own_only [] = (0 : Int32) := rfl
theorem own_onlyT {cs : List Int32} (h : ¬ (cs = [])) (g : ∀ c ∈ cs, own_dig c) : own_only cs = (1 : Int32) := by rw [own_only, if_neg h, if_pos g]
theorem own_onlyF {cs : List Int32} {c : Int32} (h : c ∈ cs) (g : ¬ own_dig c) : own_only cs = (0 : Int32) := by
  rw [own_only]; split
  · rfl
  · rw [if_neg (fun q => g (q c h))]
theorem own_all0 : ∀ c ∈ ([] : List Int32), own_dig c := fun _ h => nomatch h
theorem own_allS {c : Int32} {r : List Int32} (h : own_dig c) (g : ∀ d ∈ r, own_dig d) : ∀ d ∈ c :: r, own_dig d := fun d hd => by
  rcases List.mem_cons.mp hd with rfl | hd
  · exact h
  · exact g d hd
theorem own_allx {cs : List Int32} (h : ∀ i, i < cs.length → own_dig (cs.getD i 0)) : ∀ c ∈ cs, own_dig c := fun c hc => by
  obtain ⟨i, hi, rfl⟩ := List.getElem_of_mem hc
  have := h i hi
  rwa [List.getD_eq_getElem?_getD, List.getElem?_eq_getElem hi, Option.getD_some] at this
abbrev ELs : List (String × Nat) := consts_1
theorem own_EW {Z : State} {a0 : Array Value} (hw : ∀ d ∈ tables_1, d.before a0 Z = true) : EW Z a0 ELs := (EW.cons (hw _ (List.mem_of_getElem? (i := 44) rfl)) (by decide) (EW.cons (hw _ (List.mem_of_getElem? (i := 95) rfl)) (by decide) (EW.cons (hw _ (List.mem_of_getElem? (i := 118) rfl)) (by decide) EW.nil)))
theorem own_wS {Z : State} {a0 : Array Value} (hw : ∀ d ∈ tables_1, d.before a0 Z = true) : ∀ a ∈ Bundle.stringAtoms, a.before a0 Z = true := by
  intro a ha
  simp only [Bundle.stringAtoms, List.mem_cons, List.not_mem_nil, or_false] at ha
  rcases ha with rfl | rfl | rfl | rfl | rfl | rfl | rfl
  · exact (hw _ (List.mem_of_getElem? (i := 12) rfl))
  · exact (hw _ (List.mem_of_getElem? (i := 11) rfl))
  · exact (hw _ (List.mem_of_getElem? (i := 29) rfl))
  · exact (hw _ (List.mem_of_getElem? (i := 39) rfl))
  · exact (hw _ (List.mem_of_getElem? (i := 37) rfl))
  · exact (hw _ (List.mem_of_getElem? (i := 45) rfl))
  · exact (hw _ (List.mem_of_getElem? (i := 46) rfl))
theorem own_NSroot {Z : State} {a0 : Array Value} {O K : String} {n : Nat} (w : (Jvm.Cond.noSuperclass O).before a0 Z = true) (wk : (Jvm.Cond.instantiable K n).before a0 Z = true) (hn : O ≠ K) : NS Z O K := by
  obtain ⟨c, k, h1, h2, h3, -, -⟩ := Cond.noSuperclass_spec w
  obtain ⟨t, kt, g1, -⟩ := Cond.instantiable_spec wk
  have ne := ids_ne h1 g1 hn
  refine ⟨c, t, h1, g1, fun fuel => ?_⟩
  cases fuel with
  | zero => rfl
  | succ f => simp [Vm.isSubclassAux, ne, h2, h3]
theorem own_NSno {Z : State} {a0 : Array Value} {C S K : String} {m : Nat} (w : (Jvm.Cond.superclass C S).before a0 Z = true) (wk : (Jvm.Cond.instantiable K m).before a0 Z = true) (n : NS Z C K) (hn : C ≠ K) : ∃ c t, Z.vm.findClass C = some c ∧ Z.vm.findClass K = some t ∧ Z.vm.assignable c t = false := by
  obtain ⟨c, t, h0, g0, n3⟩ := n
  obtain ⟨p, k, kp, h1, h2, h3, h4, h5, -, h7⟩ := Cond.superclass_spec h0 w
  obtain ⟨t', k', q1, q2, q3, q4, -⟩ := Cond.instantiable_spec wk
  cases g0.symm.trans q1
  have q5 : k'.isInterface = false := (Bool.or_eq_false_iff.mp q4).1
  have ne := ids_ne h0 g0 hn
  refine ⟨c, t, h0, g0, ?_⟩
  show Z.vm.assignableAux (255 + 1) c t = false
  simp [Vm.assignableAux, ne, h2, q2, h5, q3, q5, Vm.isSubclass, n3]
/-- a String whose value is still null is no constant's -/
theorem own_safeN {Z : State} {EL : List (String × Nat)} {vm : Vm} {h : Heap} {a : Addr} (hal : Z.vm.Alike vm) (E : Exa Z h a "java/lang/String") (F : Fld Z h a "java/lang/String" "value" "[B" .null) : Safe Z EL vm h a := fun B => by
  obtain ⟨p, -, u, a', -, q, -, S, rfl | rfl⟩ := B
  · obtain ⟨cS, ⟨⟨s1, -, -, ⟨c1, k1, i1, f1, -⟩, -, -, -, v1, -⟩, -⟩, -⟩ := S
    obtain ⟨cell, cf, k', i', f, e1, e2, -, -, -, -, e7⟩ := F
    cases (show h[q.sa]? = some q.sC from s1).symm.trans e1
    obtain ⟨k3, e3, -⟩ := State.fieldFound?_setVm (s := Z) hal e2
    have e4 := (show (Wst Z vm h).fieldFound? _ _ _ = _ from e3).symm.trans f1
    simp only [Option.some.injEq, Prod.mk.injEq] at e4
    rw [← e4.2.2.2, e7] at v1
    cases v1
  · obtain ⟨cell, k, e1, e2, e3, -, -⟩ := E
    cases (show h[q.sd]? = some q.SA from S.hd).symm.trans e1
    obtain ⟨cS, -, -, f, -⟩ := S
    have f' : vm.findClass "[B" = some q.SA.cls := f
    rw [hal.findClass] at f'
    obtain ⟨k1, q1, q2⟩ := Vm.findClass_spec f'
    obtain ⟨k2, q3, q4⟩ := Vm.findClass_spec e2
    cases q1.symm.trans q3
    exact absurd (q2.symm.trans q4) (by decide)
theorem own_fix0 {Z : State} {hh : Heap} {b : Addr} {kb : ClassId} {cs : List Int32} {d : Value} (h : cs = []) (F : Arv Z hh b kb .byte (0 : Int32) [] d) : Arv Z hh b kb .byte (Int32.ofNat (own_enl cs)) (own_enc cs) d := by
  subst h
  rw [own_enl, own_enc, if_pos own_lat0, if_pos own_lat0]; exact F
theorem own_pos {n : Nat} (h : ¬ ((Int32.ofNat n) = (0 : Int32))) : 0 < n := by
  cases n with
  | zero => exact absurd rfl h
  | succ n => omega
def own_digit_of (z : Int32) : Int32 := i2c ((48 : Int32) + ((z &&& (15 : Int32)) % (10 : Int32)))
theorem own_dgi (z : Int32) : 48 ≤ (own_digit_of z).toInt ∧ (own_digit_of z).toInt ≤ 57 := by
  have h := c_mask z 15 4 (by decide) (by decide)
  have h2 := (c_irem (z &&& (15 : Int32)) 10 10 (by decide)).1 (by rw [h]; omega)
  have h3 := c_iadd 48 ((z &&& (15 : Int32)) % (10 : Int32))
  have h4 := rng32 ((48 : Int32) + ((z &&& (15 : Int32)) % (10 : Int32)))
  have h5 := c_i2c ((48 : Int32) + ((z &&& (15 : Int32)) % (10 : Int32)))
  have h6 : (48 : Int32).toInt = 48 := rfl
  show 48 ≤ (((48 : Int32) + ((z &&& (15 : Int32)) % (10 : Int32))).toUInt32.toUInt16.toUInt32.toInt32).toInt ∧ (((48 : Int32) + ((z &&& (15 : Int32)) % (10 : Int32))).toUInt32.toUInt16.toUInt32.toInt32).toInt ≤ 57
  omega
theorem own_dgd (z : Int32) : own_dig (own_digit_of z) := by
  have h := own_dgi z
  have a : (48 : Int32).toInt = 48 := rfl
  have b : (57 : Int32).toInt = 57 := rfl
  constructor
  · rw [Int32.lt_iff_toInt_lt]; omega
  · rw [Int32.lt_iff_toInt_lt]; omega
theorem own_dgr (z : Int32) : ¬ (own_digit_of z < (0 : Int32)) ∧ ¬ ((255 : Int32) < own_digit_of z) := by
  have h := own_dgi z
  have a : (0 : Int32).toInt = 0 := rfl
  have b : (255 : Int32).toInt = 255 := rfl
  constructor
  · rw [Int32.lt_iff_toInt_lt]; omega
  · rw [Int32.lt_iff_toInt_lt]; omega
theorem own_len3 (z : Int32) : ∃ n : Nat, (((z &&& (3 : Int32)) % (3 : Int32)) + (1 : Int32)) = Int32.ofNat n ∧ n < 4 ∧ 1 ≤ n := by
  have h := c_mask z 3 2 (by decide) (by decide)
  have h2 := (c_irem (z &&& (3 : Int32)) 3 3 (by decide)).1 (by rw [h]; omega)
  refine ⟨((z &&& (3 : Int32)).toInt % 3).toNat + 1, ?_, by omega, by omega⟩
  rw [own_up, own_int ((z &&& (3 : Int32)) % (3 : Int32)) ((z &&& (3 : Int32)).toInt % 3).toNat (by rw [h2]; omega)]
theorem own_mklat {n : Nat} {x y z : Int32} (h : n < 4) (hx : ¬ ((255 : Int32) < x)) (hy : ¬ ((255 : Int32) < y)) (hz : ¬ ((255 : Int32) < z)) : own_lat (own_mk n x y z) := by
  unfold own_mk; split
  · exact own_lat0
  · exact own_latS hx own_lat0
  · exact own_latS hx (own_latS hy own_lat0)
  · exact own_latS hx (own_latS hy (own_latS hz own_lat0))
theorem own_mkonly {n : Nat} {x y z : Int32} (h : n < 4) (h1 : 1 ≤ n) (hx : own_dig x) (hy : own_dig y) (hz : own_dig z) : own_only (own_mk n x y z) = (1 : Int32) := by
  rcases (by omega : n = 1 ∨ n = 2 ∨ n = 3) with rfl | rfl | rfl
  · exact own_onlyT (cs := [x]) (by simp) (own_allS hx own_all0)
  · exact own_onlyT (cs := [x, y]) (by simp) (own_allS hx (own_allS hy own_all0))
  · exact own_onlyT (cs := [x, y, z]) (by simp) (own_allS hx (own_allS hy (own_allS hz own_all0)))
theorem own_streq (n k : Nat) (ix iy iz jx jy jz : Int32) (hn : n < 4) (hm : k < 4) : (if (Int32.ofNat n) = (Int32.ofNat k) then (if (Int32.ofNat n) < (1 : Int32) then (if (Int32.ofNat n) < (2 : Int32) then (if (Int32.ofNat n) < (3 : Int32) then (1 : Int32) else (if iz = jz then (1 : Int32) else (0 : Int32))) else (if iy = jy then (if (Int32.ofNat n) < (3 : Int32) then (1 : Int32) else (if iz = jz then (1 : Int32) else (0 : Int32))) else (0 : Int32))) else (if ix = jx then (if (Int32.ofNat n) < (2 : Int32) then (if (Int32.ofNat n) < (3 : Int32) then (1 : Int32) else (if iz = jz then (1 : Int32) else (0 : Int32))) else (if iy = jy then (if (Int32.ofNat n) < (3 : Int32) then (1 : Int32) else (if iz = jz then (1 : Int32) else (0 : Int32))) else (0 : Int32))) else (0 : Int32))) else (0 : Int32)) = (if (own_mk n ix iy iz) = (own_mk k jx jy jz) then (1 : Int32) else (0 : Int32)) := by
  by_cases hx : ix = jx <;> by_cases hy : iy = jy <;> by_cases hz : iz = jz <;>
  rcases (by omega : n = 0 ∨ n = 1 ∨ n = 2 ∨ n = 3) with rfl | rfl | rfl | rfl <;> rcases (by omega : k = 0 ∨ k = 1 ∨ k = 2 ∨ k = 3) with rfl | rfl | rfl | rfl <;>
  simp +decide [own_mk, hx, hy, hz]
theorem pn_java_lang_StringUTF16 : plainName "java/lang/StringUTF16" = true := by first | (simp [plainName, overriddenIn]; done) | decide +kernel
theorem d_jdk_52_method_21_0 : decode jdk_52_method_21_code 0 = .ok (.iconst 0, 1) := by decide +kernel
theorem d_jdk_52_method_21_1 : decode jdk_52_method_21_code 1 = .ok (.istore 5, 2) := by decide +kernel
theorem d_jdk_52_method_21_3 : decode jdk_52_method_21_code 3 = .ok (.iload 5, 2) := by decide +kernel
theorem d_jdk_52_method_21_5 : decode jdk_52_method_21_code 5 = .ok (.iload 4, 2) := by decide +kernel
theorem d_jdk_52_method_21_7 : decode jdk_52_method_21_code 7 = .ok (.if_icmp .ge 37, 3) := by decide +kernel
theorem d_jdk_52_method_21_10 : decode jdk_52_method_21_code 10 = .ok (.aload_n 0, 1) := by decide +kernel
theorem d_jdk_52_method_21_11 : decode jdk_52_method_21_code 11 = .ok (.iload_n 1, 1) := by decide +kernel
theorem d_jdk_52_method_21_12 : decode jdk_52_method_21_code 12 = .ok (.caload, 1) := by decide +kernel
theorem os_rmCmpL_13 {z0 : Value} {z1 : Value} {z2 : Value} {z3 : Value} {z4 : Value} {z5 : Value} {s6 : Slot} {v : Int32} (h : One s6) : storeLocals #[.val z0, .val z1, .val z2, .val z3, .val z4, .val z5, s6] 6 (.int v) = some #[.val z0, .val z1, .val z2, .val z3, .val z4, .val z5, .val (.int v)] := by
  rcases h with rfl | ⟨w, rfl, hw⟩
  · rfl
  · cases w <;> first | rfl | (simp [Value.category] at hw)
theorem d_jdk_52_method_21_13 : decode jdk_52_method_21_code 13 = .ok (.istore 6, 2) := by decide +kernel
theorem d_jdk_52_method_21_15 : decode jdk_52_method_21_code 15 = .ok (.iload 6, 2) := by decide +kernel
theorem d_jdk_52_method_21_17 : decode jdk_52_method_21_code 17 = .ok (.sipush 255, 3) := by decide +kernel
theorem d_jdk_52_method_21_20 : decode jdk_52_method_21_code 20 = .ok (.if_icmp .le 6, 3) := by decide +kernel
theorem d_jdk_52_method_21_26 : decode jdk_52_method_21_code 26 = .ok (.aload_n 2, 1) := by decide +kernel
theorem d_jdk_52_method_21_27 : decode jdk_52_method_21_code 27 = .ok (.iload_n 3, 1) := by decide +kernel
theorem d_jdk_52_method_21_28 : decode jdk_52_method_21_code 28 = .ok (.iload 6, 2) := by decide +kernel
theorem d_jdk_52_method_21_30 : decode jdk_52_method_21_code 30 = .ok (.i2b, 1) := by decide +kernel
theorem d_jdk_52_method_21_31 : decode jdk_52_method_21_code 31 = .ok (.bastore, 1) := by decide +kernel
theorem d_jdk_52_method_21_32 : decode jdk_52_method_21_code 32 = .ok (.iinc 1 1, 3) := by decide +kernel
theorem d_jdk_52_method_21_35 : decode jdk_52_method_21_code 35 = .ok (.iinc 3 1, 3) := by decide +kernel
theorem d_jdk_52_method_21_38 : decode jdk_52_method_21_code 38 = .ok (.iinc 5 1, 3) := by decide +kernel
theorem d_jdk_52_method_21_41 : decode jdk_52_method_21_code 41 = .ok (.goto (-38), 3) := by decide +kernel
theorem d_jdk_52_method_21_44 : decode jdk_52_method_21_code 44 = .ok (.iload 4, 2) := by decide +kernel
theorem d_jdk_52_method_21_46 : decode jdk_52_method_21_code 46 = .ok (.ireturn, 1) := by decide +kernel
theorem ef_rmCmpL (m : MethodId) (x0 : Addr) (x1 : Int32) (x2 : Addr) (x3 : Int32) (x4 : Int32) : entryFrame m #[(.ref x0), (.int x1), (.ref x2), (.int x3), (.int x4)] 7 = mkF m 0 #[.val (.ref x0), .val (.int x1), .val (.ref x2), .val (.int x3), .val (.int x4), .unset, .unset] [] := by first | (simp [entryFrame, mkF, argsToLocals, Value.category]; done) | rfl
def Q_rmCmpL (Z : State) (ca : Addr) (ba : Addr) (cs : List Int32) (kc : ClassId) (n : Nat) (kb : ClassId) (vs : List Value) (h0 : Heap) (n0 : Nat) (v : Option Value) (h : Heap) (L : List Loc) : Prop := (v = some (.int (Int32.ofNat n))) ∧ (Fr n0 L) ∧ (Keep h0 h [ba]) ∧ (Arv Z h ba kb .byte (Int32.ofNat n) (own_mix (own_low cs) vs n) (.int (0 : Int32)))
set_option maxRecDepth 65536 in
set_option maxHeartbeats 40000000 in
theorem rmCmpL (l : Launch) (Z : State) (a0 : Array Value) (hw : ∀ d ∈ tables_1, d.before a0 Z = true) (ws : List Jvm.Cond) (ca : Addr) (ba : Addr) (cs : List Int32) (kc : ClassId) (n : Nat) (kb : ClassId) (vs : List Value) (h0 : Heap) (n0 : Nat) (Z0 : n0 ≤ h0.size) (I1 : Arv Z h0 ca kc .char (Int32.ofNat n) (cs.map Value.int) (.int (0 : Int32))) (I2 : Arv Z h0 ba kb .byte (Int32.ofNat n) vs (.int (0 : Int32))) (hn : cs.length = n) (hb : n ≤ 3) (hvs : vs.length = n) (gb : n0 ≤ ba) (hne : @Ne Nat ca ba) (hlat : own_lat cs) :
    MetFree l (⟨"java/lang/StringUTF16", "compress", "([CI[BII)I"⟩ : MethodName) (head1 (Jvm.Cond.code (⟨"java/lang/StringUTF16", "compress", "([CI[BII)I"⟩ : MethodName) jdk_52_method_21_code 7 (some .int) :: ws) ({ frames := 0, cells := 0, slots := 0, locals := 0 } : Room)) (fun ar_ U => ar_ = #[(.ref ca), (.int (0 : Int32)), (.ref ba), (.int (0 : Int32)), (.int (Int32.ofNat n))] ∧ Z.Warmed39 U.vm ∧ U.heap = h0) (fun _ _ _ _ _ => True) (fun _ U o U' => ∃ v L, o = .returned v ∧ Q_rmCmpL Z ca ba cs kc n kb vs h0 n0 v U'.heap L ∧ FrameEnd U o U' L ({ frames := 0, cells := 0, slots := 0, locals := 0 } : Room).cells ({ frames := 0, cells := 0, slots := 0, locals := 0 } : Room).slots) := by
  refine MetFree.of_bodySF (plainFor_of_name pn_java_lang_StringUTF16) hisR ?_
  intro p e s m args below meth c s₁ Bd hml0 hP hK
  obtain ⟨rfl, hZ, hh⟩ := hP
  have hx := Bd.exec
  have hby := Bd.bytes
  have hml : c.maxLocals = 7 := hml0
  have hown : s.vm.findClass "java/lang/StringUTF16" = some m.cls := findClass_of_methodNamed Bd.named
  have hnm := (name_of_methodNamed Bd.named Bd.method).1
  have X0 : Stand p l e ({ frames := 0, cells := 0, slots := 0, locals := 0 } : Room) s m #[(.ref ca), (.int (0 : Int32)), (.ref ba), (.int (0 : Int32)), (.int (Int32.ofNat n))] below meth c s₁ [] 0 0 := Stand.of_body Bd
  have e0 : s₁.heap = h0 := by rw [← hh, Bd.state]; rfl
  have N0 := Fr.nil n0
  have pre0 : ∀ t_, Steps p.tables e below (s₁.setTop (mkF m 0 #[.val (.ref ca), .val (.int (0 : Int32)), .val (.ref ba), .val (.int (0 : Int32)), .val (.int (Int32.ofNat n)), .unset, .unset] [])) t_ → Steps p.tables e below (s₁.setTop (entryFrame m #[(.ref ca), (.int (0 : Int32)), (.ref ba), (.int (0 : Int32)), (.int (Int32.ofNat n))] 7)) t_ := fun t_ k_ => castTop (ef_rmCmpL m ca (0 : Int32) ba (0 : Int32) (Int32.ofNat n)) k_
  have lt_I1 : @LT.lt Nat _ ca h0.size := I1.lt
  have lt_I2 : @LT.lt Nat _ ba h0.size := I2.lt
  have s1 : ∀ t_, Steps p.tables e below (s₁.setTop (mkF m 3 #[.val (.ref ca), .val (.int (0 : Int32)), .val (.ref ba), .val (.int (0 : Int32)), .val (.int (Int32.ofNat n)), .val (.int (0 : Int32)), .unset] [])) t_ → Steps p.tables e below (s₁.setTop (entryFrame m #[(.ref ca), (.int (0 : Int32)), (.ref ba), (.int (0 : Int32)), (.int (Int32.ofNat n))] 7)) t_ := fun t_ k_ => pre0 t_ (by
    show Steps p.tables e below (s₁.setTop (mkF m 0 #[.val (.ref ca), .val (.int (0 : Int32)), .val (.ref ba), .val (.int (0 : Int32)), .val (.int (Int32.ofNat n)), .unset, .unset] [])) t_
    refine XS.iconst X0.here hx rfl (Jvm.hb hby d_jdk_52_method_21_0) ?_
    refine XS.istore X0.here hx rfl (Jvm.hb hby d_jdk_52_method_21_1) rfl (l' := #[.val (.ref ca), .val (.int (0 : Int32)), .val (.ref ba), .val (.int (0 : Int32)), .val (.int (Int32.ofNat n)), .val (.int (0 : Int32)), .unset]) rfl ?_
    show Steps p.tables e below (s₁.setTop (mkF m 3 #[.val (.ref ca), .val (.int (0 : Int32)), .val (.ref ba), .val (.int (0 : Int32)), .val (.int (Int32.ofNat n)), .val (.int (0 : Int32)), .unset] [])) t_
    exact k_)
  have lp2 : ∀ (k_ : Nat) (j : Nat) (s6 : Slot) (T_ : State) (lo_ : List Loc) (hh2 : Heap), j + k_ = n → Stand p l e ({ frames := 0, cells := 0, slots := 0, locals := 0 } : Room) s m #[(.ref ca), (.int (0 : Int32)), (.ref ba), (.int (0 : Int32)), (.int (Int32.ofNat n))] below meth c T_ lo_ 0 0 → T_.heap = hh2 → Fr n0 lo_ → Keep h0 hh2 [ba] → Arv Z hh2 ba kb .byte (Int32.ofNat n) (own_mix (own_low cs) vs j) (.int (0 : Int32)) → (One s6) → ∃ (T' : State) (lo' : List Loc) (hx_ : Heap) (fe_ : JFrame), Stand p l e ({ frames := 0, cells := 0, slots := 0, locals := 0 } : Room) s m #[(.ref ca), (.int (0 : Int32)), (.ref ba), (.int (0 : Int32)), (.int (Int32.ofNat n))] below meth c T' lo' 0 0 ∧ T'.heap = hx_ ∧ Fr n0 lo' ∧ Keep h0 hx_ [ba] ∧ ((∃ (s6 : Slot), fe_ = (mkF m 44 #[.val (.ref ca), .val (.int (Int32.ofNat n)), .val (.ref ba), .val (.int (Int32.ofNat n)), .val (.int (Int32.ofNat n)), .val (.int (Int32.ofNat n)), s6] []) ∧ Arv Z hx_ ba kb .byte (Int32.ofNat n) (own_mix (own_low cs) vs n) (.int (0 : Int32)))) ∧ ∀ t_, Steps p.tables e below (T'.setTop fe_) t_ → Steps p.tables e below (T_.setTop (mkF m 3 #[.val (.ref ca), .val (.int (Int32.ofNat j)), .val (.ref ba), .val (.int (Int32.ofNat j)), .val (.int (Int32.ofNat n)), .val (.int (Int32.ofNat j)), s6] [])) t_ := by
    intro k_
    induction k_ with
    | zero => 
      intro j s6 T_ lo_ hh2 hm_ X_ e_ N_ K_ F_0 hs6
      have zk_ : h0.size ≤ hh2.size := K_.1
      have s3 : ∀ t_, Steps p.tables e below (T_.setTop (mkF m 44 #[.val (.ref ca), .val (.int (Int32.ofNat j)), .val (.ref ba), .val (.int (Int32.ofNat j)), .val (.int (Int32.ofNat n)), .val (.int (Int32.ofNat j)), s6] [])) t_ → Steps p.tables e below (T_.setTop (mkF m 3 #[.val (.ref ca), .val (.int (Int32.ofNat j)), .val (.ref ba), .val (.int (Int32.ofNat j)), .val (.int (Int32.ofNat n)), .val (.int (Int32.ofNat j)), s6] [])) t_ := fun t_ k_ => (fun _ k_ => k_) t_ (by
        show Steps p.tables e below (T_.setTop (mkF m 3 #[.val (.ref ca), .val (.int (Int32.ofNat j)), .val (.ref ba), .val (.int (Int32.ofNat j)), .val (.int (Int32.ofNat n)), .val (.int (Int32.ofNat j)), s6] [])) t_
        refine XS.iload X_.here hx rfl (Jvm.hb hby d_jdk_52_method_21_3) rfl ?_
        refine XS.iload X_.here hx rfl (Jvm.hb hby d_jdk_52_method_21_5) rfl ?_
        refine XS.icmpYes X_.here hx rfl (pc0 := 7) (pc' := 44) rfl (Jvm.hb hby d_jdk_52_method_21_7) rfl (flt (own_nlt (by omega) (by omega))).2.1 (by decide) (by decide) ?_
        show Steps p.tables e below (T_.setTop (mkF m 44 #[.val (.ref ca), .val (.int (Int32.ofNat j)), .val (.ref ba), .val (.int (Int32.ofNat j)), .val (.int (Int32.ofNat n)), .val (.int (Int32.ofNat j)), s6] [])) _
        show Steps p.tables e below (T_.setTop (mkF m 44 #[.val (.ref ca), .val (.int (Int32.ofNat j)), .val (.ref ba), .val (.int (Int32.ofNat j)), .val (.int (Int32.ofNat n)), .val (.int (Int32.ofNat j)), s6] [])) t_
        exact k_)
      exact ⟨T_, _, _, _, X_, e_, N_, ((Keep.refl h0 [ba]).trans K_ (allS (Or.inl (by simp)) all0)), ⟨s6, (by rw [show j = n by omega]), (by obtain rfl : j = n := (by omega); exact F_0)⟩, s3⟩
    | succ k_ ih => 
      intro j s6 T_ lo_ hh2 hm_ X_ e_ N_ K_ F_0 hs6
      have zk_ : h0.size ≤ hh2.size := K_.1
      have f4 : Arv Z hh2 ca kc .char (Int32.ofNat n) (cs.map Value.int) (.int (0 : Int32)) := (I1.keep K_ (ninS (show @Ne Nat ca ba by omega) nin0))
      obtain ⟨cl5, Ar5, -, S5, M5, H5, -⟩ := id f4
      have hin5 : ¬ ((Int32.ofNat j) < 0 ∨ cl5.slots.size ≤ ((Int32.ofNat j)).toNatClampNeg) := inb_of S5 (own_in (by omega) (by omega))
      have hat5 : cl5.slots[((Int32.ofNat j)).toNatClampNeg]? = some (.int (cs.getD j 0)) := H5.at hin5 (own_getc cs j _ (by omega) (by omega))
      obtain ⟨cl6, Ar6, q6, S6, M6, H6, G6⟩ := id F_0
      have hin6 : ¬ ((Int32.ofNat j) < 0 ∨ cl6.slots.size ≤ ((Int32.ofNat j)).toNatClampNeg) := inb_of S6 (own_in (by omega) (by omega))
      obtain ⟨T7, h7, X7, e7, W7, st7⟩ := stB X_ hx hZ e_ Ar6 (j := (Int32.ofNat j)) hin6 (g := (mkF m 31 #[.val (.ref ca), .val (.int (Int32.ofNat j)), .val (.ref ba), .val (.int (Int32.ofNat j)), .val (.int (Int32.ofNat n)), .val (.int (Int32.ofNat j)), .val (.int (cs.getD j 0))] [(.int (own_lo (cs.getD j 0))), (.int (Int32.ofNat j)), (.ref ba)])) rfl rfl (Jvm.hb hby d_jdk_52_method_21_31)
      have z8 : hh2.size ≤ h7.size := Nat.le_of_eq W7.size.symm
      have V7 : Arv Z h7 ba kb .byte (Int32.ofNat n) (own_mix (own_low cs) vs (j + 1)) (.int (0 : Int32)) := by
        have q : Arv Z h7 ba kb .byte (Int32.ofNat n) ((own_mix (own_low cs) vs j).set j (.int (nar .byte (own_lo (cs.getD j 0))))) (.int (0 : Int32)) := Arv.set Ar6 q6 S6 M6 H6 G6 (fits_nar_byte _) W7 j (own_tn (by omega)) (by rw [own_mixl _ _ _ (by rw [own_lowl]; omega)]; omega)
        rw [own_mixc cs vs j (by omega) (by omega)] at q
        exact q
      have N7 := Fr.snoc X7 N_ (show n0 ≤ ba by omega)
      have s9 : ∀ t_, Steps p.tables e below (T7.setTop (mkF m 3 #[.val (.ref ca), .val (.int ((Int32.ofNat j) + (1 : Int32))), .val (.ref ba), .val (.int ((Int32.ofNat j) + (1 : Int32))), .val (.int (Int32.ofNat n)), .val (.int ((Int32.ofNat j) + (1 : Int32))), .val (.int (cs.getD j 0))] [])) t_ → Steps p.tables e below (T_.setTop (mkF m 3 #[.val (.ref ca), .val (.int (Int32.ofNat j)), .val (.ref ba), .val (.int (Int32.ofNat j)), .val (.int (Int32.ofNat n)), .val (.int (Int32.ofNat j)), s6] [])) t_ := fun t_ k_ => (fun _ k_ => k_) t_ (by
        show Steps p.tables e below (T_.setTop (mkF m 3 #[.val (.ref ca), .val (.int (Int32.ofNat j)), .val (.ref ba), .val (.int (Int32.ofNat j)), .val (.int (Int32.ofNat n)), .val (.int (Int32.ofNat j)), s6] [])) t_
        refine XS.iload X_.here hx rfl (Jvm.hb hby d_jdk_52_method_21_3) rfl ?_
        refine XS.iload X_.here hx rfl (Jvm.hb hby d_jdk_52_method_21_5) rfl ?_
        refine XS.icmpNo X_.here hx rfl (Jvm.hb hby d_jdk_52_method_21_7) rfl (tlt (own_lt (by omega) (by omega))).2.1 ?_
        show Steps p.tables e below (T_.setTop (mkF m 10 #[.val (.ref ca), .val (.int (Int32.ofNat j)), .val (.ref ba), .val (.int (Int32.ofNat j)), .val (.int (Int32.ofNat n)), .val (.int (Int32.ofNat j)), s6] [])) _
        refine XS.aloadN X_.here hx rfl (Jvm.hb hby d_jdk_52_method_21_10) rfl rfl ?_
        refine XS.iloadN X_.here hx rfl (Jvm.hb hby d_jdk_52_method_21_11) rfl ?_
        refine X_.caload hx (j := (Int32.ofNat j)) (v := (.int (cs.getD j 0))) (by rw [e_]; exact Ar5.1) (State.isArrayOf_alike hZ.alike Ar5.2.1) Ar5.2.2 hin5 hat5 (g := (mkF m 12 #[.val (.ref ca), .val (.int (Int32.ofNat j)), .val (.ref ba), .val (.int (Int32.ofNat j)), .val (.int (Int32.ofNat n)), .val (.int (Int32.ofNat j)), s6] [(.int (Int32.ofNat j)), (.ref ca)])) rfl rfl (Jvm.hb hby d_jdk_52_method_21_12) _ ?_
        show Steps p.tables e below (T_.setTop (mkF m 13 #[.val (.ref ca), .val (.int (Int32.ofNat j)), .val (.ref ba), .val (.int (Int32.ofNat j)), .val (.int (Int32.ofNat n)), .val (.int (Int32.ofNat j)), s6] [(.int (cs.getD j 0))])) _
        refine XS.istore X_.here hx rfl (Jvm.hb hby d_jdk_52_method_21_13) rfl (l' := #[.val (.ref ca), .val (.int (Int32.ofNat j)), .val (.ref ba), .val (.int (Int32.ofNat j)), .val (.int (Int32.ofNat n)), .val (.int (Int32.ofNat j)), .val (.int (cs.getD j 0))]) (os_rmCmpL_13 hs6) ?_
        refine XS.iload X_.here hx rfl (Jvm.hb hby d_jdk_52_method_21_15) rfl ?_
        refine XS.sipush X_.here hx rfl (Jvm.hb hby d_jdk_52_method_21_17) ?_
        refine XS.icmpYes X_.here hx rfl (pc0 := 20) (pc' := 26) rfl (Jvm.hb hby d_jdk_52_method_21_20) rfl (flt (hlat _ (own_mem cs j (by omega)))).2.2.2 (by decide) (by decide) ?_
        show Steps p.tables e below (T_.setTop (mkF m 26 #[.val (.ref ca), .val (.int (Int32.ofNat j)), .val (.ref ba), .val (.int (Int32.ofNat j)), .val (.int (Int32.ofNat n)), .val (.int (Int32.ofNat j)), .val (.int (cs.getD j 0))] [])) _
        refine XS.aloadN X_.here hx rfl (Jvm.hb hby d_jdk_52_method_21_26) rfl rfl ?_
        refine XS.iloadN X_.here hx rfl (Jvm.hb hby d_jdk_52_method_21_27) rfl ?_
        refine XS.iload X_.here hx rfl (Jvm.hb hby d_jdk_52_method_21_28) rfl ?_
        refine XS.i2b X_.here hx rfl (Jvm.hb hby d_jdk_52_method_21_30) rfl ?_
        refine st7 _ ?_
        show Steps p.tables e below (T7.setTop (mkF m 32 #[.val (.ref ca), .val (.int (Int32.ofNat j)), .val (.ref ba), .val (.int (Int32.ofNat j)), .val (.int (Int32.ofNat n)), .val (.int (Int32.ofNat j)), .val (.int (cs.getD j 0))] [])) _
        refine XS.iinc X7.here hx rfl (Jvm.hb hby d_jdk_52_method_21_32) rfl (l' := #[.val (.ref ca), .val (.int ((Int32.ofNat j) + (1 : Int32))), .val (.ref ba), .val (.int (Int32.ofNat j)), .val (.int (Int32.ofNat n)), .val (.int (Int32.ofNat j)), .val (.int (cs.getD j 0))]) rfl ?_
        refine XS.iinc X7.here hx rfl (Jvm.hb hby d_jdk_52_method_21_35) rfl (l' := #[.val (.ref ca), .val (.int ((Int32.ofNat j) + (1 : Int32))), .val (.ref ba), .val (.int ((Int32.ofNat j) + (1 : Int32))), .val (.int (Int32.ofNat n)), .val (.int (Int32.ofNat j)), .val (.int (cs.getD j 0))]) rfl ?_
        refine XS.iinc X7.here hx rfl (Jvm.hb hby d_jdk_52_method_21_38) rfl (l' := #[.val (.ref ca), .val (.int ((Int32.ofNat j) + (1 : Int32))), .val (.ref ba), .val (.int ((Int32.ofNat j) + (1 : Int32))), .val (.int (Int32.ofNat n)), .val (.int ((Int32.ofNat j) + (1 : Int32))), .val (.int (cs.getD j 0))]) rfl ?_
        refine XS.goto X7.here hx rfl (pc0 := 41) (pc' := 3) rfl (Jvm.hb hby d_jdk_52_method_21_41) (by decide) (by decide) ?_
        show Steps p.tables e below (T7.setTop (mkF m 3 #[.val (.ref ca), .val (.int ((Int32.ofNat j) + (1 : Int32))), .val (.ref ba), .val (.int ((Int32.ofNat j) + (1 : Int32))), .val (.int (Int32.ofNat n)), .val (.int ((Int32.ofNat j) + (1 : Int32))), .val (.int (cs.getD j 0))] [])) t_
        exact k_)
      obtain ⟨T10, lo10, h10, fe10, X10, e10, N10, K10, A10, st10⟩ := ih (j + 1) (.val (.int (cs.getD j 0))) T7 _ h7 (by omega) X7 e7 N7 (((Keep.refl h0 [ba]).trans K_ (allS (Or.inl (by simp)) all0)).wr W7 (Or.inl (by simp))) V7 (One.val rfl)
      exact ⟨T10, lo10, h10, fe10, X10, e10, N10, K10, A10, fun t_ k_ => s9 t_ (castTop (by rw [own_up]) (st10 t_ k_))⟩
  obtain ⟨T11, lo11, h11, fe11, X11, e11, N11, K11, A11, st11⟩ := lp2 n 0 .unset s₁ _ h0 (by omega) X0 e0 N0 (Keep.refl _ _) (by rw [own_mix0]; exact I2) One.u
  have z12 : h0.size ≤ h11.size := K11.1
  obtain ⟨s6_11, rfl, G11_0⟩ := A11
  have s13 : ∀ t_, Steps p.tables e below (T11.setTop (mkF m 44 #[.val (.ref ca), .val (.int (Int32.ofNat n)), .val (.ref ba), .val (.int (Int32.ofNat n)), .val (.int (Int32.ofNat n)), .val (.int (Int32.ofNat n)), s6_11] [])) t_ → Steps p.tables e below (s₁.setTop (entryFrame m #[(.ref ca), (.int (0 : Int32)), (.ref ba), (.int (0 : Int32)), (.int (Int32.ofNat n))] 7)) t_ := fun t_ k_ => s1 t_ (st11 t_ k_)
  have s14 : ∀ t_, Steps p.tables e below (T11.setTop (mkF m 46 #[.val (.ref ca), .val (.int (Int32.ofNat n)), .val (.ref ba), .val (.int (Int32.ofNat n)), .val (.int (Int32.ofNat n)), .val (.int (Int32.ofNat n)), s6_11] [(.int (Int32.ofNat n))])) t_ → Steps p.tables e below (s₁.setTop (entryFrame m #[(.ref ca), (.int (0 : Int32)), (.ref ba), (.int (0 : Int32)), (.int (Int32.ofNat n))] 7)) t_ := fun t_ k_ => s13 t_ (by
    show Steps p.tables e below (T11.setTop (mkF m 44 #[.val (.ref ca), .val (.int (Int32.ofNat n)), .val (.ref ba), .val (.int (Int32.ofNat n)), .val (.int (Int32.ofNat n)), .val (.int (Int32.ofNat n)), s6_11] [])) t_
    refine XS.iload X11.here hx rfl (Jvm.hb hby d_jdk_52_method_21_44) rfl ?_
    show Steps p.tables e below (T11.setTop (mkF m 46 #[.val (.ref ca), .val (.int (Int32.ofNat n)), .val (.ref ba), .val (.int (Int32.ofNat n)), .val (.int (Int32.ofNat n)), .val (.int (Int32.ofNat n)), s6_11] [(.int (Int32.ofNat n))])) t_
    exact k_)
  obtain ⟨fs, hr, hrun, hended, hW, hsame⟩ := X11.leave (v := some (.int (Int32.ofNat n))) (fun h => by rw [Bd.returns] at h; cases h)
  refine ⟨_, _, s14 _ ?_, hrun, hended, _, _, rfl, ?_, ⟨_, rfl⟩, hW, hsame.mono (by decide) (by decide)⟩
  · show Steps p.tables e below (T11.setTop (mkF m 46 #[.val (.ref ca), .val (.int (Int32.ofNat n)), .val (.ref ba), .val (.int (Int32.ofNat n)), .val (.int (Int32.ofNat n)), .val (.int (Int32.ofNat n)), s6_11] [(.int (Int32.ofNat n))])) _
    exact retI X11 hx Bd.returns (Jvm.hb hby d_jdk_52_method_21_46) hr
  · show Q_rmCmpL Z _ _ _ _ _ _ _ h0 n0 _ T11.heap _
    rw [e11]
    exact ⟨rfl, N11, ((Keep.refl h0 [ba]).trans K11 (allS (Or.inl (by simp)) all0)), G11_0⟩
theorem d_jdk_52_method_15_0 : decode jdk_52_method_15_code 0 = .ok (.iload_n 1, 1) := by decide +kernel
theorem d_jdk_52_method_15_1 : decode jdk_52_method_15_code 1 = .ok (.aload_n 0, 1) := by decide +kernel
theorem d_jdk_52_method_15_2 : decode jdk_52_method_15_code 2 = .ok (.arraylength, 1) := by decide +kernel
theorem d_jdk_52_method_15_3 : decode jdk_52_method_15_code 3 = .ok (.isub, 1) := by decide +kernel
theorem d_jdk_52_method_15_4 : decode jdk_52_method_15_code 4 = .ok (.bipush 31, 2) := by decide +kernel
theorem d_jdk_52_method_15_6 : decode jdk_52_method_15_code 6 = .ok (.iushr, 1) := by decide +kernel
theorem d_jdk_52_method_15_7 : decode jdk_52_method_15_code 7 = .ok (.i2b, 1) := by decide +kernel
theorem d_jdk_52_method_15_8 : decode jdk_52_method_15_code 8 = .ok (.ireturn, 1) := by decide +kernel
theorem ef_rmCod (m : MethodId) (x0 : Addr) (x1 : Int32) : entryFrame m #[(.ref x0), (.int x1)] 2 = mkF m 0 #[.val (.ref x0), .val (.int x1)] [] := by first | (simp [entryFrame, mkF, argsToLocals, Value.category]; done) | rfl
def Q_rmCod (Z : State) (ba : Addr) (nn : Int32) (kb : ClassId) (zz : Int32) (vs : List Value) (h0 : Heap) (n0 : Nat) (v : Option Value) (h : Heap) (L : List Loc) : Prop := (v = some (.int (nar .byte (own_lo (ushr (nn - zz) (31 : Int32)))))) ∧ (Fr n0 L) ∧ (h = h0)
set_option maxRecDepth 65536 in
set_option maxHeartbeats 40000000 in
theorem rmCod (l : Launch) (Z : State) (a0 : Array Value) (hw : ∀ d ∈ tables_1, d.before a0 Z = true) (ws : List Jvm.Cond) (ba : Addr) (nn : Int32) (kb : ClassId) (zz : Int32) (vs : List Value) (h0 : Heap) (n0 : Nat) (Z0 : n0 ≤ h0.size) (I1 : Arv Z h0 ba kb .byte zz vs (.int (0 : Int32))) :
    MetFree l (⟨"java/lang/StringUTF16", "coderFromArrayLen", "([BI)B"⟩ : MethodName) (head1 (Jvm.Cond.code (⟨"java/lang/StringUTF16", "coderFromArrayLen", "([BI)B"⟩ : MethodName) jdk_52_method_15_code 2 (some .byte) :: ws) ({ frames := 0, cells := 0, slots := 0, locals := 0 } : Room)) (fun ar_ U => ar_ = #[(.ref ba), (.int nn)] ∧ Z.Warmed39 U.vm ∧ U.heap = h0) (fun _ _ _ _ _ => True) (fun _ U o U' => ∃ v L, o = .returned v ∧ Q_rmCod Z ba nn kb zz vs h0 n0 v U'.heap L ∧ FrameEnd U o U' L ({ frames := 0, cells := 0, slots := 0, locals := 0 } : Room).cells ({ frames := 0, cells := 0, slots := 0, locals := 0 } : Room).slots) := by
  refine MetFree.of_bodySF (plainFor_of_name pn_java_lang_StringUTF16) hisR ?_
  intro p e s m args below meth c s₁ Bd hml0 hP hK
  obtain ⟨rfl, hZ, hh⟩ := hP
  have hx := Bd.exec
  have hby := Bd.bytes
  have hml : c.maxLocals = 2 := hml0
  have hown : s.vm.findClass "java/lang/StringUTF16" = some m.cls := findClass_of_methodNamed Bd.named
  have hnm := (name_of_methodNamed Bd.named Bd.method).1
  have X0 : Stand p l e ({ frames := 0, cells := 0, slots := 0, locals := 0 } : Room) s m #[(.ref ba), (.int nn)] below meth c s₁ [] 0 0 := Stand.of_body Bd
  have e0 : s₁.heap = h0 := by rw [← hh, Bd.state]; rfl
  have N0 := Fr.nil n0
  have pre0 : ∀ t_, Steps p.tables e below (s₁.setTop (mkF m 0 #[.val (.ref ba), .val (.int nn)] [])) t_ → Steps p.tables e below (s₁.setTop (entryFrame m #[(.ref ba), (.int nn)] 2)) t_ := fun t_ k_ => castTop (ef_rmCod m ba nn) k_
  have lt_I1 : @LT.lt Nat _ ba h0.size := I1.lt
  obtain ⟨cl1, Ar1, -, S1, M1, -, -⟩ := id I1
  have s2 : ∀ t_, Steps p.tables e below (s₁.setTop (mkF m 8 #[.val (.ref ba), .val (.int nn)] [(.int (own_lo (ushr (nn - zz) (31 : Int32))))])) t_ → Steps p.tables e below (s₁.setTop (entryFrame m #[(.ref ba), (.int nn)] 2)) t_ := fun t_ k_ => pre0 t_ (by
    show Steps p.tables e below (s₁.setTop (mkF m 0 #[.val (.ref ba), .val (.int nn)] [])) t_
    refine XS.iloadN X0.here hx rfl (Jvm.hb hby d_jdk_52_method_15_0) rfl ?_
    refine XS.aloadN X0.here hx rfl (Jvm.hb hby d_jdk_52_method_15_1) rfl rfl ?_
    refine X0.arraylength hx (by rw [e0]; exact Ar1.1) (State.isArrayOf_alike hZ.alike Ar1.2.1) (g := (mkF m 2 #[.val (.ref ba), .val (.int nn)] [(.ref ba), (.int nn)])) rfl rfl (Jvm.hb hby d_jdk_52_method_15_2) _ ?_
    rw [len_of S1 M1]
    show Steps p.tables e below (s₁.setTop (mkF m 3 #[.val (.ref ba), .val (.int nn)] [(.int zz), (.int nn)])) _
    refine XS.isub X0.here hx rfl (Jvm.hb hby d_jdk_52_method_15_3) rfl ?_
    refine XS.bipush X0.here hx rfl (Jvm.hb hby d_jdk_52_method_15_4) ?_
    refine XS.iushr X0.here hx rfl (Jvm.hb hby d_jdk_52_method_15_6) rfl ?_
    refine XS.i2b X0.here hx rfl (Jvm.hb hby d_jdk_52_method_15_7) rfl ?_
    show Steps p.tables e below (s₁.setTop (mkF m 8 #[.val (.ref ba), .val (.int nn)] [(.int (own_lo (ushr (nn - zz) (31 : Int32))))])) t_
    exact k_)
  obtain ⟨fs, hr, hrun, hended, hW, hsame⟩ := X0.leave (v := some (.int (nar .byte (own_lo (ushr (nn - zz) (31 : Int32)))))) (fun h => by rw [Bd.returns] at h; cases h)
  refine ⟨_, _, s2 _ ?_, hrun, hended, _, _, rfl, ?_, ⟨_, rfl⟩, hW, hsame.mono (by decide) (by decide)⟩
  · show Steps p.tables e below (s₁.setTop (mkF m 8 #[.val (.ref ba), .val (.int nn)] [(.int (own_lo (ushr (nn - zz) (31 : Int32))))])) _
    exact retN X0 hx (t := .byte) Bd.returns (by simp) (Jvm.hb hby d_jdk_52_method_15_8) hr
  · show Q_rmCod Z _ _ _ _ _ h0 n0 _ s₁.heap _
    rw [e0]
    exact ⟨rfl, N0, rfl⟩
theorem d_jdk_52_method_16_0 : decode jdk_52_method_16_code 0 = .ok (.iload_n 2, 1) := by decide +kernel
theorem d_jdk_52_method_16_1 : decode jdk_52_method_16_code 1 = .ok (.newarray .byte, 2) := by decide +kernel
theorem d_jdk_52_method_16_3 : decode jdk_52_method_16_code 3 = .ok (.astore_n 3, 1) := by decide +kernel
theorem d_jdk_52_method_16_4 : decode jdk_52_method_16_code 4 = .ok (.aload_n 0, 1) := by decide +kernel
theorem d_jdk_52_method_16_5 : decode jdk_52_method_16_code 5 = .ok (.iload_n 1, 1) := by decide +kernel
theorem d_jdk_52_method_16_6 : decode jdk_52_method_16_code 6 = .ok (.aload_n 3, 1) := by decide +kernel
theorem d_jdk_52_method_16_7 : decode jdk_52_method_16_code 7 = .ok (.iconst 0, 1) := by decide +kernel
theorem d_jdk_52_method_16_8 : decode jdk_52_method_16_code 8 = .ok (.iload_n 2, 1) := by decide +kernel
theorem pd___CI_BII_I : parseMethodDescriptor "([CI[BII)I" = some ⟨[(.array .char), .int, (.array .byte), .int, .int], some .int⟩ := by decide +kernel
theorem d_jdk_52_method_16_9 : decode jdk_52_method_16_code 9 = .ok (.invokestatic 115, 3) := by decide +kernel
theorem d_jdk_52_method_16_12 : decode jdk_52_method_16_code 12 = .ok (.istore 4, 2) := by decide +kernel
theorem d_jdk_52_method_16_14 : decode jdk_52_method_16_code 14 = .ok (.iload 4, 2) := by decide +kernel
theorem d_jdk_52_method_16_16 : decode jdk_52_method_16_code 16 = .ok (.iload_n 2, 1) := by decide +kernel
theorem d_jdk_52_method_16_17 : decode jdk_52_method_16_code 17 = .ok (.if_icmp .eq 40, 3) := by decide +kernel
theorem d_jdk_52_method_16_57 : decode jdk_52_method_16_code 57 = .ok (.aload_n 3, 1) := by decide +kernel
theorem d_jdk_52_method_16_58 : decode jdk_52_method_16_code 58 = .ok (.areturn, 1) := by decide +kernel
theorem ef_rmComp (m : MethodId) (x0 : Addr) (x1 : Int32) (x2 : Int32) : entryFrame m #[(.ref x0), (.int x1), (.int x2)] 6 = mkF m 0 #[.val (.ref x0), .val (.int x1), .val (.int x2), .unset, .unset, .unset] [] := by first | (simp [entryFrame, mkF, argsToLocals, Value.category]; done) | rfl
def Q_rmComp (Z : State) (ca : Addr) (cs : List Int32) (kc : ClassId) (n : Nat) (h0 : Heap) (n0 : Nat) (v : Option Value) (h : Heap) (L : List Loc) : Prop := ∃ (b : Addr), ∃ (kb : ClassId), (v = some (.ref b)) ∧ (Fr n0 L) ∧ (Keep h0 h []) ∧ (Arv Z h b kb .byte (Int32.ofNat (own_enl cs)) (own_enc cs) (.int (0 : Int32))) ∧ (h0.size ≤ b)
set_option maxRecDepth 65536 in
set_option maxHeartbeats 40000000 in
theorem rmComp (l : Launch) (Z : State) (a0 : Array Value) (hw : ∀ d ∈ tables_1, d.before a0 Z = true) (ws : List Jvm.Cond) (ca : Addr) (cs : List Int32) (kc : ClassId) (n : Nat) (h0 : Heap) (n0 : Nat) (Z0 : n0 ≤ h0.size) (I1 : Arv Z h0 ca kc .char (Int32.ofNat n) (cs.map Value.int) (.int (0 : Int32))) (hn : cs.length = n) (hb : n ≤ 3) (hlat : own_lat cs) :
    MetFree l (⟨"java/lang/StringUTF16", "compress", "([CII)[B"⟩ : MethodName) (head1 (Jvm.Cond.code (⟨"java/lang/StringUTF16", "compress", "([CII)[B"⟩ : MethodName) jdk_52_method_16_code 6 (some (.array .byte)) :: ws) ({ frames := 1, cells := 1, slots := 3, locals := 18 } : Room)) (fun ar_ U => ar_ = #[(.ref ca), (.int (0 : Int32)), (.int (Int32.ofNat n))] ∧ Z.Warmed39 U.vm ∧ U.heap = h0) (fun _ _ _ _ _ => True) (fun _ U o U' => ∃ v L, o = .returned v ∧ Q_rmComp Z ca cs kc n h0 n0 v U'.heap L ∧ FrameEnd U o U' L ({ frames := 1, cells := 1, slots := 3, locals := 18 } : Room).cells ({ frames := 1, cells := 1, slots := 3, locals := 18 } : Room).slots) := by
  refine MetFree.of_bodySF (plainFor_of_name pn_java_lang_StringUTF16) hisR ?_
  intro p e s m args below meth c s₁ Bd hml0 hP hK
  obtain ⟨rfl, hZ, hh⟩ := hP
  have hx := Bd.exec
  have hby := Bd.bytes
  have hml : c.maxLocals = 6 := hml0
  have hown : s.vm.findClass "java/lang/StringUTF16" = some m.cls := findClass_of_methodNamed Bd.named
  have hnm := (name_of_methodNamed Bd.named Bd.method).1
  have X0 : Stand p l e ({ frames := 1, cells := 1, slots := 3, locals := 18 } : Room) s m #[(.ref ca), (.int (0 : Int32)), (.int (Int32.ofNat n))] below meth c s₁ [] 0 0 := Stand.of_body Bd
  have e0 : s₁.heap = h0 := by rw [← hh, Bd.state]; rfl
  have N0 := Fr.nil n0
  have pre0 : ∀ t_, Steps p.tables e below (s₁.setTop (mkF m 0 #[.val (.ref ca), .val (.int (0 : Int32)), .val (.int (Int32.ofNat n)), .unset, .unset, .unset] [])) t_ → Steps p.tables e below (s₁.setTop (entryFrame m #[(.ref ca), (.int (0 : Int32)), (.int (Int32.ofNat n))] 6)) t_ := fun t_ k_ => castTop (ef_rmComp m ca (0 : Int32) (Int32.ofNat n)) k_
  have lt_I1 : @LT.lt Nat _ ca h0.size := I1.lt
  obtain ⟨T1, h1, k1, X1, e1, E1, A1, st1⟩ := newP X0 hx hZ (hw _ (List.mem_of_getElem? (i := 29) rfl)) e0 (g := (mkF m 1 #[.val (.ref ca), .val (.int (0 : Int32)), .val (.int (Int32.ofNat n)), .unset, .unset, .unset] [(.int (Int32.ofNat n))])) rfl (Jvm.hb hby d_jdk_52_method_16_1) rfl (own_nn (by omega)) (cap := 3) (by rw [own_tn (by omega)]; omega) (by decide) (by decide) (by decide)
  obtain ⟨b1, g1⟩ : ∃ z, z = h0.size := ⟨_, rfl⟩
  rw [← g1] at A1 st1
  have z2 : h0.size ≤ h1.size := E1.1
  have l1 : b1 < h1.size := A1.lt
  have V1 : Arv Z h1 b1 k1 .byte (Int32.ofNat n) (List.replicate n (.int (0 : Int32))) (.int (0 : Int32)) := (Arv.new A1 (own_nn (by omega))).pad (pad_rep [] _ n)
  have f3 : Arv Z h1 ca kc .char (Int32.ofNat n) (cs.map Value.int) (.int (0 : Int32)) := (I1.ext E1)
  have Zc4 : n0 ≤ h1.size := by omega
  obtain ⟨_, _, ⟨T5, L5, k5, n5⟩, -, X5, ⟨Lc5, hQ5, l5, y5, z5⟩, st5⟩ := Jvm.LawKit.callS X1 hx (y := (⟨"java/lang/StringUTF16", "compress", "([CI[BII)I"⟩ : MethodName)) hown (mvT hZ (hw _ (List.mem_of_getElem? (i := 30) rfl))) (mvT hZ (hw _ (List.mem_of_getElem? (i := 31) rfl))) (mvT hZ (hw _ (List.mem_of_getElem? (i := 27) rfl))) (mvT hZ (hw _ (List.mem_of_getElem? (i := 32) rfl))) (by decide) (backOf (W := 0) (rmCmpL l Z a0 hw [] ca b1 cs kc n k1 (List.replicate n (.int (0 : Int32))) h1 n0 Zc4 f3 V1 (hn : cs.length = n) (hb : n ≤ 3) (by simp) (by first | assumption | omega | rfl | decide : n0 ≤ b1) (by first | assumption | omega | rfl | decide : @Ne Nat ca b1) (hlat : own_lat cs)) hZ (hw _ (List.mem_of_getElem? (i := 32) rfl)) (hw _ (List.mem_of_getElem? (i := 27) rfl)) (by decide) (by decide)) (g := (mkF m 9 #[.val (.ref ca), .val (.int (0 : Int32)), .val (.int (Int32.ofNat n)), .val (.ref b1), .unset, .unset] [(.int (Int32.ofNat n)), (.int (0 : Int32)), (.ref b1), (.int (0 : Int32)), (.ref ca)])) rfl (by rw [hml]; rfl) (argsL := [(.ref ca), (.int (0 : Int32)), (.ref b1), (.int (0 : Int32)), (.int (Int32.ofNat n))]) (rest := []) (lenOf pd___CI_BII_I rfl) rfl (by show 2 * 0 + _ ≤ _; exact Nat.le_of_eq rfl) (Jvm.hb hby d_jdk_52_method_16_9) (fun _ _ => ⟨rfl, e1, (by decide : 1 + 0 ≤ _), (by decide : 3 + 0 ≤ _)⟩)
  dsimp only [Pt.U, Pt.locs, Pt.cells, Pt.slots] at X5 l5 y5 z5 st5 hQ5
  subst l5 y5 z5
  obtain ⟨rfl, N5q, K5, Fq5_0⟩ := hQ5
  have N5 := Fr.app N0 N5q
  obtain ⟨h5, e5⟩ : ∃ z, T5.heap = z := ⟨_, rfl⟩
  rw [e5] at K5 Fq5_0
  have z6 : h1.size ≤ h5.size := K5.1
  have lt5_0 : @LT.lt Nat _ b1 h5.size := Fq5_0.lt
  have s7 : ∀ t_, Steps p.tables e below (T5.setTop (mkF m 58 #[.val (.ref ca), .val (.int (0 : Int32)), .val (.int (Int32.ofNat n)), .val (.ref b1), .val (.int (Int32.ofNat n)), .unset] [(.ref b1)])) t_ → Steps p.tables e below (s₁.setTop (entryFrame m #[(.ref ca), (.int (0 : Int32)), (.int (Int32.ofNat n))] 6)) t_ := fun t_ k_ => pre0 t_ (by
    show Steps p.tables e below (s₁.setTop (mkF m 0 #[.val (.ref ca), .val (.int (0 : Int32)), .val (.int (Int32.ofNat n)), .unset, .unset, .unset] [])) t_
    refine XS.iloadN X0.here hx rfl (Jvm.hb hby d_jdk_52_method_16_0) rfl ?_
    refine st1 _ ?_
    show Steps p.tables e below (T1.setTop (mkF m 3 #[.val (.ref ca), .val (.int (0 : Int32)), .val (.int (Int32.ofNat n)), .unset, .unset, .unset] [(.ref b1)])) _
    refine XS.astoreN X1.here hx rfl (Jvm.hb hby d_jdk_52_method_16_3) rfl rfl (l' := #[.val (.ref ca), .val (.int (0 : Int32)), .val (.int (Int32.ofNat n)), .val (.ref b1), .unset, .unset]) rfl ?_
    refine XS.aloadN X1.here hx rfl (Jvm.hb hby d_jdk_52_method_16_4) rfl rfl ?_
    refine XS.iloadN X1.here hx rfl (Jvm.hb hby d_jdk_52_method_16_5) rfl ?_
    refine XS.aloadN X1.here hx rfl (Jvm.hb hby d_jdk_52_method_16_6) rfl rfl ?_
    refine XS.iconst X1.here hx rfl (Jvm.hb hby d_jdk_52_method_16_7) ?_
    refine XS.iloadN X1.here hx rfl (Jvm.hb hby d_jdk_52_method_16_8) rfl ?_
    show Steps p.tables e below (T1.setTop (mkF m 9 #[.val (.ref ca), .val (.int (0 : Int32)), .val (.int (Int32.ofNat n)), .val (.ref b1), .unset, .unset] [(.int (Int32.ofNat n)), (.int (0 : Int32)), (.ref b1), (.int (0 : Int32)), (.ref ca)])) _
    refine st5 _ ?_
    show Steps p.tables e below (T5.setTop (mkF m 12 #[.val (.ref ca), .val (.int (0 : Int32)), .val (.int (Int32.ofNat n)), .val (.ref b1), .unset, .unset] [(.int (Int32.ofNat n))])) _
    refine XS.istore X5.here hx rfl (Jvm.hb hby d_jdk_52_method_16_12) rfl (l' := #[.val (.ref ca), .val (.int (0 : Int32)), .val (.int (Int32.ofNat n)), .val (.ref b1), .val (.int (Int32.ofNat n)), .unset]) rfl ?_
    refine XS.iload X5.here hx rfl (Jvm.hb hby d_jdk_52_method_16_14) rfl ?_
    refine XS.iloadN X5.here hx rfl (Jvm.hb hby d_jdk_52_method_16_16) rfl ?_
    refine XS.icmpYes X5.here hx rfl (pc0 := 17) (pc' := 57) rfl (Jvm.hb hby d_jdk_52_method_16_17) rfl (teq rfl).1 (by decide) (by decide) ?_
    show Steps p.tables e below (T5.setTop (mkF m 57 #[.val (.ref ca), .val (.int (0 : Int32)), .val (.int (Int32.ofNat n)), .val (.ref b1), .val (.int (Int32.ofNat n)), .unset] [])) _
    refine XS.aloadN X5.here hx rfl (Jvm.hb hby d_jdk_52_method_16_57) rfl rfl ?_
    show Steps p.tables e below (T5.setTop (mkF m 58 #[.val (.ref ca), .val (.int (0 : Int32)), .val (.int (Int32.ofNat n)), .val (.ref b1), .val (.int (Int32.ofNat n)), .unset] [(.ref b1)])) t_
    exact k_)
  obtain ⟨fs, hr, hrun, hended, hW, hsame⟩ := X5.leave (v := some (.ref b1)) (fun h => by rw [Bd.returns] at h; cases h)
  refine ⟨_, _, s7 _ ?_, hrun, hended, _, _, rfl, ?_, ⟨_, rfl⟩, hW, hsame.mono (by decide) (by decide)⟩
  · show Steps p.tables e below (T5.setTop (mkF m 58 #[.val (.ref ca), .val (.int (0 : Int32)), .val (.int (Int32.ofNat n)), .val (.ref b1), .val (.int (Int32.ofNat n)), .unset] [(.ref b1)])) _
    jvm_step X5.here [X5.here.top, hx, (Jvm.hb hby d_jdk_52_method_16_58), X5.method', Bd.returns, Value.isRef, FieldType.isReference]
    first | (intro acts; rw [hr _ acts rfl rfl rfl]) | rw [hr _ _ rfl rfl rfl]
    exact Steps.refl _
  · show Q_rmComp Z _ _ _ _ h0 n0 _ T5.heap _
    rw [e5]
    exact ⟨b1, k1, rfl, N5, (((Keep.refl h0 []).ext E1).trans K5 (allS (Or.inr (show h0.size ≤ b1 by omega)) all0)), (own_fixL hlat Fq5_0 hn (by simp)), by omega⟩
theorem pn_java_lang_String : plainName "java/lang/String" = true := by first | (simp [plainName, overriddenIn]; done) | decide +kernel
theorem d_jdk_42_method_149_0 : decode jdk_42_method_149_code 0 = .ok (.aload_n 0, 1) := by decide +kernel
theorem d_jdk_42_method_149_1 : decode jdk_42_method_149_code 1 = .ok (.invokespecial 1, 3) := by decide +kernel
theorem d_jdk_42_method_149_4 : decode jdk_42_method_149_code 4 = .ok (.iload_n 3, 1) := by decide +kernel
theorem d_jdk_42_method_149_5 : decode jdk_42_method_149_code 5 = .ok (.ifCond .ne 22, 3) := by decide +kernel
theorem d_jdk_42_method_149_8 : decode jdk_42_method_149_code 8 = .ok (.aload_n 0, 1) := by decide +kernel
theorem d_jdk_42_method_149_9 : decode jdk_42_method_149_code 9 = .ok (.ldc 7, 2) := by decide +kernel
theorem d_jdk_42_method_149_11 : decode jdk_42_method_149_code 11 = .ok (.getfield 9, 3) := by decide +kernel
theorem d_jdk_42_method_149_14 : decode jdk_42_method_149_code 14 = .ok (.putfield 9, 3) := by decide +kernel
theorem d_jdk_42_method_149_17 : decode jdk_42_method_149_code 17 = .ok (.aload_n 0, 1) := by decide +kernel
theorem d_jdk_42_method_149_18 : decode jdk_42_method_149_code 18 = .ok (.ldc 7, 2) := by decide +kernel
theorem d_jdk_42_method_149_20 : decode jdk_42_method_149_code 20 = .ok (.getfield 15, 3) := by decide +kernel
theorem d_jdk_42_method_149_23 : decode jdk_42_method_149_code 23 = .ok (.putfield 15, 3) := by decide +kernel
theorem d_jdk_42_method_149_26 : decode jdk_42_method_149_code 26 = .ok (.return_, 1) := by decide +kernel
theorem d_jdk_42_method_149_27 : decode jdk_42_method_149_code 27 = .ok (.getstatic 38, 3) := by decide +kernel
theorem d_jdk_42_method_149_30 : decode jdk_42_method_149_code 30 = .ok (.ifCond .eq 28, 3) := by decide +kernel
theorem d_jdk_42_method_149_33 : decode jdk_42_method_149_code 33 = .ok (.aload_n 1, 1) := by decide +kernel
theorem d_jdk_42_method_149_34 : decode jdk_42_method_149_code 34 = .ok (.iload_n 2, 1) := by decide +kernel
theorem d_jdk_42_method_149_35 : decode jdk_42_method_149_code 35 = .ok (.iload_n 3, 1) := by decide +kernel
theorem pd___CII__B : parseMethodDescriptor "([CII)[B" = some ⟨[(.array .char), .int, .int], some (.array .byte)⟩ := by decide +kernel
theorem d_jdk_42_method_149_36 : decode jdk_42_method_149_code 36 = .ok (.invokestatic 177, 3) := by decide +kernel
theorem d_jdk_42_method_149_39 : decode jdk_42_method_149_code 39 = .ok (.astore 5, 2) := by decide +kernel
theorem d_jdk_42_method_149_41 : decode jdk_42_method_149_code 41 = .ok (.aload_n 0, 1) := by decide +kernel
theorem d_jdk_42_method_149_42 : decode jdk_42_method_149_code 42 = .ok (.aload 5, 2) := by decide +kernel
theorem d_jdk_42_method_149_44 : decode jdk_42_method_149_code 44 = .ok (.iload_n 3, 1) := by decide +kernel
theorem pd___BI_B : parseMethodDescriptor "([BI)B" = some ⟨[(.array .byte), .int], some .byte⟩ := by decide +kernel
theorem d_jdk_42_method_149_45 : decode jdk_42_method_149_code 45 = .ok (.invokestatic 47, 3) := by decide +kernel
theorem d_jdk_42_method_149_48 : decode jdk_42_method_149_code 48 = .ok (.putfield 15, 3) := by decide +kernel
theorem d_jdk_42_method_149_51 : decode jdk_42_method_149_code 51 = .ok (.aload_n 0, 1) := by decide +kernel
theorem d_jdk_42_method_149_52 : decode jdk_42_method_149_code 52 = .ok (.aload 5, 2) := by decide +kernel
theorem d_jdk_42_method_149_54 : decode jdk_42_method_149_code 54 = .ok (.putfield 9, 3) := by decide +kernel
theorem d_jdk_42_method_149_57 : decode jdk_42_method_149_code 57 = .ok (.return_, 1) := by decide +kernel
theorem ef_rmIni4 (m : MethodId) (x0 : Addr) (x1 : Addr) (x2 : Int32) (x3 : Int32) : entryFrame m #[(.ref x0), (.ref x1), (.int x2), (.int x3), .null] 6 = mkF m 0 #[.val (.ref x0), .val (.ref x1), .val (.int x2), .val (.int x3), .val .null, .unset] [] := by first | (simp [entryFrame, mkF, argsToLocals, Value.category]; done) | rfl
def Q_rmIni4 (Z : State) (a : Addr) (ca : Addr) (cst : Int32) (cs : List Int32) (kc : ClassId) (n : Nat) (h0 : Heap) (n0 : Nat) (v : Option Value) (h : Heap) (L : List Loc) : Prop := ∃ (b : Addr), ∃ (kb : ClassId), (v = none) ∧ (Fr n0 L) ∧ (Keep h0 h [a]) ∧ (Exa Z h a "java/lang/String") ∧ (Fld Z h a "java/lang/String" "value" "[B" (.ref b)) ∧ (Fld Z h a "java/lang/String" "coder" "B" (.int (own_cod cs))) ∧ (Arv Z h b kb .byte (Int32.ofNat (own_enl cs)) (own_enc cs) (.int (0 : Int32)))
set_option maxRecDepth 65536 in
set_option maxHeartbeats 40000000 in
theorem rmIni4 (l : Launch) (Z : State) (a0 : Array Value) (hw : ∀ d ∈ tables_1, d.before a0 Z = true) (ws : List Jvm.Cond) (a : Addr) (ca : Addr) (cst : Int32) (cs : List Int32) (kc : ClassId) (n : Nat) (h0 : Heap) (n0 : Nat) (Z0 : n0 ≤ h0.size) (I1 : Sta Z Z.heap "java/lang/String" "COMPACT_STRINGS" "Z" (.int cst)) (OX : Old Z n0 h0) (hcst : ¬ (cst = (0 : Int32))) (I2 : Exa Z h0 a "java/lang/String") (I3 : Fld Z h0 a "java/lang/String" "value" "[B" .null) (I4 : Fld Z h0 a "java/lang/String" "coder" "B" (.int (0 : Int32))) (I5 : Arv Z h0 ca kc .char (Int32.ofNat n) (cs.map Value.int) (.int (0 : Int32))) (hn : cs.length = n) (hb : n ≤ 3) (hlat : own_lat cs) (ga : n0 ≤ a) (hac : @Ne Nat a ca) :
    MetFree l (⟨"java/lang/String", "<init>", "([CIILjava/lang/Void;)V"⟩ : MethodName) (head1 (Jvm.Cond.code (⟨"java/lang/String", "<init>", "([CIILjava/lang/Void;)V"⟩ : MethodName) jdk_42_method_149_code 6 none :: ws) ({ frames := 2, cells := 4, slots := 8, locals := 35 } : Room)) (fun ar_ U => ar_ = #[(.ref a), (.ref ca), (.int (0 : Int32)), (.int (Int32.ofNat n)), .null] ∧ Z.Warmed39 U.vm ∧ U.heap = h0 ∧ CHv Z ELs U.vm h0) (fun _ _ _ _ _ => True) (fun _ U o U' => ∃ v L, o = .returned v ∧ Q_rmIni4 Z a ca cst cs kc n h0 n0 v U'.heap L ∧ CHr Z ELs U.vm U.heap U'.vm U'.heap ∧ ReturnedEndW U o U' L ({ frames := 2, cells := 4, slots := 8, locals := 35 } : Room).cells ({ frames := 2, cells := 4, slots := 8, locals := 35 } : Room).slots) := by
  refine MetFree.of_bodySF (plainFor_of_name pn_java_lang_String) hisR ?_
  intro p e s m args below meth c s₁ Bd hml0 hP hK
  obtain ⟨rfl, hZ, hh, hCH⟩ := hP
  have hx := Bd.exec
  have hby := Bd.bytes
  have hml : c.maxLocals = 6 := hml0
  have hown : s.vm.findClass "java/lang/String" = some m.cls := findClass_of_methodNamed Bd.named
  have hnm := (name_of_methodNamed Bd.named Bd.method).1
  have X0 : Stand p l e ({ frames := 2, cells := 4, slots := 8, locals := 35 } : Room) (s.setVm s.vm) m #[(.ref a), (.ref ca), (.int (0 : Int32)), (.int (Int32.ofNat n)), .null] below meth c s₁ [] 0 0 := Stand.of_body Bd
  have e0 : s₁.heap = h0 := by rw [← hh, Bd.state]; rfl
  have N0 := Fr.nil n0
  have pre0 : ∀ t_, Steps p.tables e below (s₁.setTop (mkF m 0 #[.val (.ref a), .val (.ref ca), .val (.int (0 : Int32)), .val (.int (Int32.ofNat n)), .val .null, .unset] [])) t_ → Steps p.tables e below (s₁.setTop (entryFrame m #[(.ref a), (.ref ca), (.int (0 : Int32)), (.int (Int32.ofNat n)), .null] 6)) t_ := fun t_ k_ => castTop (ef_rmIni4 m a ca (0 : Int32) (Int32.ofNat n)) k_
  have hEL : EW Z a0 ELs := own_EW hw
  have wS : ∀ a ∈ Bundle.stringAtoms, a.before a0 Z = true := own_wS hw
  have hS : s.Since s.vm s.heap.size := (State.WarmedH.refl s).since _
  have hk : s.heap.size ≤ h0.size := by rw [hh]; exact Nat.le_refl _
  have CR : CHr Z ELs s.vm h0 s.vm h0 := CHr.refl hCH
  have lt_I2 : @LT.lt Nat _ a h0.size := I2.lt
  have lt_I3 : @LT.lt Nat _ a h0.size := I3.lt
  have lt_I4 : @LT.lt Nat _ a h0.size := I4.lt
  have lt_I5 : @LT.lt Nat _ ca h0.size := I5.lt
  obtain ⟨T1, X1, e1, st1⟩ := initO X0 hx hZ hown (hw _ (List.mem_of_getElem? (i := 21) rfl)) (hw _ (List.mem_of_getElem? (i := 22) rfl)) (hw _ (List.mem_of_getElem? (i := 23) rfl)) e0 (g := (mkF m 1 #[.val (.ref a), .val (.ref ca), .val (.int (0 : Int32)), .val (.int (Int32.ofNat n)), .val .null, .unset] [(.ref a)])) rfl (by rw [hml]; rfl) rfl (Jvm.hb hby d_jdk_42_method_149_1) (by decide) (W := 0) (by show 2 * 0 + _ ≤ _; exact Nat.le_of_eq rfl) (by decide)
  have s2 : ∀ t_, Steps p.tables e below (T1.setTop (mkF m 5 #[.val (.ref a), .val (.ref ca), .val (.int (0 : Int32)), .val (.int (Int32.ofNat n)), .val .null, .unset] [(.int (Int32.ofNat n))])) t_ → Steps p.tables e below (s₁.setTop (entryFrame m #[(.ref a), (.ref ca), (.int (0 : Int32)), (.int (Int32.ofNat n)), .null] 6)) t_ := fun t_ k_ => pre0 t_ (by
    show Steps p.tables e below (s₁.setTop (mkF m 0 #[.val (.ref a), .val (.ref ca), .val (.int (0 : Int32)), .val (.int (Int32.ofNat n)), .val .null, .unset] [])) t_
    refine XS.aloadN X0.here hx rfl (Jvm.hb hby d_jdk_42_method_149_0) rfl rfl ?_
    refine st1 _ ?_
    show Steps p.tables e below (T1.setTop (mkF m 4 #[.val (.ref a), .val (.ref ca), .val (.int (0 : Int32)), .val (.int (Int32.ofNat n)), .val .null, .unset] [])) _
    refine XS.iloadN X1.here hx rfl (Jvm.hb hby d_jdk_42_method_149_4) rfl ?_
    show Steps p.tables e below (T1.setTop (mkF m 5 #[.val (.ref a), .val (.ref ca), .val (.int (0 : Int32)), .val (.int (Int32.ofNat n)), .val .null, .unset] [(.int (Int32.ofNat n))])) t_
    exact k_)
  by_cases h3 : (Int32.ofNat n) = (0 : Int32)
  · have s5 : ∀ t_, Steps p.tables e below (T1.setTop (mkF m 9 #[.val (.ref a), .val (.ref ca), .val (.int (0 : Int32)), .val (.int (Int32.ofNat n)), .val .null, .unset] [(.ref a)])) t_ → Steps p.tables e below (s₁.setTop (entryFrame m #[(.ref a), (.ref ca), (.int (0 : Int32)), (.int (Int32.ofNat n)), .null] 6)) t_ := fun t_ k_ => s2 t_ (by
      show Steps p.tables e below (T1.setTop (mkF m 5 #[.val (.ref a), .val (.ref ca), .val (.int (0 : Int32)), .val (.int (Int32.ofNat n)), .val .null, .unset] [(.int (Int32.ofNat n))])) t_
      refine XS.ifNo X1.here hx rfl (Jvm.hb hby d_jdk_42_method_149_5) rfl ((if0 _ _).trans (teq h3).2) ?_
      show Steps p.tables e below (T1.setTop (mkF m 8 #[.val (.ref a), .val (.ref ca), .val (.int (0 : Int32)), .val (.int (Int32.ofNat n)), .val .null, .unset] [])) _
      refine XS.aloadN X1.here hx rfl (Jvm.hb hby d_jdk_42_method_149_8) rfl rfl ?_
      show Steps p.tables e below (T1.setTop (mkF m 9 #[.val (.ref a), .val (.ref ca), .val (.int (0 : Int32)), .val (.int (Int32.ofNat n)), .val .null, .unset] [(.ref a)])) t_
      exact k_)
    obtain ⟨a4, T4, h4, k4, b4, kk4, X4, e4, E4, hS, hk, hZ, hown, Ex4, Fc4, Fv4, Av4, la4, lb4, Cp4, Li4, Sa4, st4⟩ := ldcCH X1 hx hZ hown (hw _ (List.mem_of_getElem? (i := 118) rfl)) wS e1 hS hk hEL (List.mem_of_getElem? (i := 2) rfl) CR.1 (vs := []) (z := (0 : Int32)) ⟨by decide, by decide⟩ (by decide) rfl (g := (mkF m 9 #[.val (.ref a), .val (.ref ca), .val (.int (0 : Int32)), .val (.int (Int32.ofNat n)), .val .null, .unset] [(.ref a)])) rfl (Jvm.hb hby d_jdk_42_method_149_9) (n := 0) (by decide) (by decide) (by decide) (by decide)
    have z6 : h0.size ≤ h4.size := E4.1
    have CR := CR.trans Cp4
    have la4 : @LT.lt Nat _ a4 h4.size := la4
    have lb4 : @LT.lt Nat _ b4 h4.size := lb4
    obtain ⟨T7, X7, e7, st7⟩ := getF X4 hx hZ hown (host := "") (Or.inl (hw _ (List.mem_of_getElem? (i := 38) rfl))) Via.refl e4 Fv4 (g := (mkF m 11 #[.val (.ref a), .val (.ref ca), .val (.int (0 : Int32)), .val (.int (Int32.ofNat n)), .val .null, .unset] [(.ref a4), (.ref a)])) rfl rfl (Jvm.hb hby d_jdk_42_method_149_11)
    have f8 : Exa Z h4 a "java/lang/String" := (I2.ext E4)
    have f9 : Fld Z h4 a "java/lang/String" "value" "[B" .null := (I3.ext E4)
    obtain ⟨T10, h10, X10, e10, W10, st10⟩ := putF X7 hx hZ hown (host := "") (Or.inl (hw _ (List.mem_of_getElem? (i := 38) rfl))) Via.refl e7 f9 f8 (Or.inr ⟨(hw _ (List.mem_of_getElem? (i := 39) rfl)), rfl, hnm⟩) (hw _ (List.mem_of_getElem? (i := 11) rfl)) (ty := (.array .byte)) (by decide) rfl rfl (g := (mkF m 14 #[.val (.ref a), .val (.ref ca), .val (.int (0 : Int32)), .val (.int (Int32.ofNat n)), .val .null, .unset] [(.ref b4), (.ref a)])) rfl rfl (Jvm.hb hby d_jdk_42_method_149_14)
    have Sf12 : Safe Z ELs T4.vm h4 a := own_safeN hZ.alike f8 f9
    have z11 : h4.size ≤ h10.size := Nat.le_of_eq W10.size.symm
    have Cp11 : CHr Z ELs T4.vm h4 T4.vm h10 := CHr.wr W10 Sf12 CR.1
    have hk := Nat.le_trans hk z11
    have CR := CR.trans Cp11
    have F10 : Fld Z h10 a "java/lang/String" "value" "[B" (.ref b4) := f9.same W10
    have N10 := Fr.snoc X10 N0 (show n0 ≤ a by omega)
    have s14 : ∀ t_, Steps p.tables e below (T10.setTop (mkF m 18 #[.val (.ref a), .val (.ref ca), .val (.int (0 : Int32)), .val (.int (Int32.ofNat n)), .val .null, .unset] [(.ref a)])) t_ → Steps p.tables e below (s₁.setTop (entryFrame m #[(.ref a), (.ref ca), (.int (0 : Int32)), (.int (Int32.ofNat n)), .null] 6)) t_ := fun t_ k_ => s5 t_ (by
      show Steps p.tables e below (T1.setTop (mkF m 9 #[.val (.ref a), .val (.ref ca), .val (.int (0 : Int32)), .val (.int (Int32.ofNat n)), .val .null, .unset] [(.ref a)])) t_
      refine st4 _ ?_
      show Steps p.tables e below (T4.setTop (mkF m 11 #[.val (.ref a), .val (.ref ca), .val (.int (0 : Int32)), .val (.int (Int32.ofNat n)), .val .null, .unset] [(.ref a4), (.ref a)])) _
      refine st7 _ ?_
      show Steps p.tables e below (T7.setTop (mkF m 14 #[.val (.ref a), .val (.ref ca), .val (.int (0 : Int32)), .val (.int (Int32.ofNat n)), .val .null, .unset] [(.ref b4), (.ref a)])) _
      refine st10 _ ?_
      show Steps p.tables e below (T10.setTop (mkF m 17 #[.val (.ref a), .val (.ref ca), .val (.int (0 : Int32)), .val (.int (Int32.ofNat n)), .val .null, .unset] [])) _
      refine XS.aloadN X10.here hx rfl (Jvm.hb hby d_jdk_42_method_149_17) rfl rfl ?_
      show Steps p.tables e below (T10.setTop (mkF m 18 #[.val (.ref a), .val (.ref ca), .val (.int (0 : Int32)), .val (.int (Int32.ofNat n)), .val .null, .unset] [(.ref a)])) t_
      exact k_)
    obtain ⟨a13, T13, h13, k13, b13, kk13, X13, e13, E13, hS, hk, hZ, hown, Ex13, Fc13, Fv13, Av13, la13, lb13, Cp13, Li13, Sa13, st13⟩ := ldcCH X10 hx hZ hown (hw _ (List.mem_of_getElem? (i := 118) rfl)) wS e10 hS hk hEL (List.mem_of_getElem? (i := 2) rfl) CR.1 (vs := []) (z := (0 : Int32)) ⟨by decide, by decide⟩ (by decide) rfl (g := (mkF m 18 #[.val (.ref a), .val (.ref ca), .val (.int (0 : Int32)), .val (.int (Int32.ofNat n)), .val .null, .unset] [(.ref a)])) rfl (Jvm.hb hby d_jdk_42_method_149_18) (n := 0) (by decide) (by decide) (by decide) (by decide)
    have z15 : h10.size ≤ h13.size := E13.1
    have CR := CR.trans Cp13
    have la13 : @LT.lt Nat _ a13 h13.size := la13
    have lb13 : @LT.lt Nat _ b13 h13.size := lb13
    obtain ⟨T16, X16, e16, st16⟩ := getF X13 hx hZ hown (host := "") (Or.inl (hw _ (List.mem_of_getElem? (i := 36) rfl))) Via.refl e13 Fc13 (g := (mkF m 20 #[.val (.ref a), .val (.ref ca), .val (.int (0 : Int32)), .val (.int (Int32.ofNat n)), .val .null, .unset] [(.ref a13), (.ref a)])) rfl rfl (Jvm.hb hby d_jdk_42_method_149_20)
    have f17 : Exa Z h13 a "java/lang/String" := ((f8.wr W10).ext E13)
    have f18 : Fld Z h13 a "java/lang/String" "coder" "B" (.int (0 : Int32)) := (((I4.ext E4).other W10 (Or.inr (slot_ne (Or.inr (hw _ (List.mem_of_getElem? (i := 37) rfl))) (Or.inr (hw _ (List.mem_of_getElem? (i := 39) rfl))) (by decide) (t := .byte) (t' := (.array .byte)) (by decide) (by decide)))).ext E13)
    obtain ⟨T19, h19, X19, e19, W19, st19⟩ := putFN X16 hx hZ hown (hw _ (List.mem_of_getElem? (i := 36) rfl)) Via.refl e16 f18 f17 (Or.inr ⟨(hw _ (List.mem_of_getElem? (i := 37) rfl)), rfl, hnm⟩) (hw _ (List.mem_of_getElem? (i := 11) rfl)) (ty := .byte) (v' := (.int (0 : Int32))) (by decide) rfl rfl (g := (mkF m 23 #[.val (.ref a), .val (.ref ca), .val (.int (0 : Int32)), .val (.int (Int32.ofNat n)), .val .null, .unset] [(.int (0 : Int32)), (.ref a)])) rfl rfl (Jvm.hb hby d_jdk_42_method_149_23)
    have Sf21 : Safe Z ELs T13.vm h13 a := (Cp13.safe (show @LT.lt Nat _ a h10.size by omega) (Cp11.safe (show @LT.lt Nat _ a h4.size by omega) Sf12))
    have z20 : h13.size ≤ h19.size := Nat.le_of_eq W19.size.symm
    have Cp20 : CHr Z ELs T13.vm h13 T13.vm h19 := CHr.wr W19 Sf21 CR.1
    have hk := Nat.le_trans hk z20
    have CR := CR.trans Cp20
    have F19 : Fld Z h19 a "java/lang/String" "coder" "B" (.int (0 : Int32)) := f18.same W19
    have N19 := Fr.snoc X19 N10 (show n0 ≤ a by omega)
    have s22 : ∀ t_, Steps p.tables e below (T19.setTop (mkF m 26 #[.val (.ref a), .val (.ref ca), .val (.int (0 : Int32)), .val (.int (Int32.ofNat n)), .val .null, .unset] [])) t_ → Steps p.tables e below (s₁.setTop (entryFrame m #[(.ref a), (.ref ca), (.int (0 : Int32)), (.int (Int32.ofNat n)), .null] 6)) t_ := fun t_ k_ => s14 t_ (by
      show Steps p.tables e below (T10.setTop (mkF m 18 #[.val (.ref a), .val (.ref ca), .val (.int (0 : Int32)), .val (.int (Int32.ofNat n)), .val .null, .unset] [(.ref a)])) t_
      refine st13 _ ?_
      show Steps p.tables e below (T13.setTop (mkF m 20 #[.val (.ref a), .val (.ref ca), .val (.int (0 : Int32)), .val (.int (Int32.ofNat n)), .val .null, .unset] [(.ref a13), (.ref a)])) _
      refine st16 _ ?_
      show Steps p.tables e below (T16.setTop (mkF m 23 #[.val (.ref a), .val (.ref ca), .val (.int (0 : Int32)), .val (.int (Int32.ofNat n)), .val .null, .unset] [(.int (0 : Int32)), (.ref a)])) _
      refine st19 _ ?_
      show Steps p.tables e below (T19.setTop (mkF m 26 #[.val (.ref a), .val (.ref ca), .val (.int (0 : Int32)), .val (.int (Int32.ofNat n)), .val .null, .unset] [])) _
      show Steps p.tables e below (T19.setTop (mkF m 26 #[.val (.ref a), .val (.ref ca), .val (.int (0 : Int32)), .val (.int (Int32.ofNat n)), .val .null, .unset] [])) t_
      exact k_)
    obtain ⟨fs, hr, hrun, hended, hREW⟩ := X19.leaveW hS (by first | exact Nat.le_refl _ | (rw [e19]; exact hk)) (v := none) (fun _ => rfl)
    have hnil : cs = [] := List.eq_nil_of_length_eq_zero (hn.trans (own_inj (n := 0) (by omega) (by decide) h3))
    have F23 : Fld Z h19 a "java/lang/String" "coder" "B" (.int (own_cod cs)) := by have q := F19; rw [← own_cod0 (cs := cs) (by rw [hnil]; exact own_lat0)] at q; exact q
    have f24 : Arv Z h19 b4 kk4 .byte (0 : Int32) [] (.int (0 : Int32)) := (((Av4.other W10 (Ne.symm (Exa.neArv f8 Av4 (hw _ (List.mem_of_getElem? (i := 11) rfl))))).ext E13).other W19 (Ne.symm (Exa.neArv f17 ((Av4.other W10 (Ne.symm (Exa.neArv f8 Av4 (hw _ (List.mem_of_getElem? (i := 11) rfl))))).ext E13) (hw _ (List.mem_of_getElem? (i := 11) rfl)))))
    have f25 : Exa Z h19 a "java/lang/String" := (f17.wr W19)
    have f26 : Fld Z h19 a "java/lang/String" "value" "[B" (.ref b4) := ((F10.ext E13).other W19 (Or.inr (slot_ne (Or.inr (hw _ (List.mem_of_getElem? (i := 39) rfl))) (Or.inr (hw _ (List.mem_of_getElem? (i := 37) rfl))) (by decide) (t := (.array .byte)) (t' := .byte) (by decide) (by decide))))
    refine ⟨_, _, s22 _ ?_, hrun, hended, _, _, rfl, ?_, (by show CHr Z ELs s.vm s.heap T19.vm T19.heap; rw [hh, e19]; exact CR.trans (CHv.at X19 hZ hEL CR.1)), hREW.1, hREW.2.1, hREW.2.2.1, hREW.2.2.2.mono (by decide) (by decide)⟩
    · show Steps p.tables e below (T19.setTop (mkF m 26 #[.val (.ref a), .val (.ref ca), .val (.int (0 : Int32)), .val (.int (Int32.ofNat n)), .val .null, .unset] [])) _
      exact X19.returnOut hx Bd.returns (Jvm.hb hby d_jdk_42_method_149_26) hr
    · show Q_rmIni4 Z _ _ _ _ _ _ h0 n0 _ T19.heap _
      rw [e19]
      exact ⟨b4, kk4, rfl, N19, (((((Keep.refl h0 [a]).ext E4).wr W10 (Or.inl (by simp))).ext E13).wr W19 (Or.inl (by simp))), f25, f26, F23, (own_fix0 hnil f24)⟩
  · obtain ⟨T27, X27, e27, st27⟩ := getS2 X1 hx hZ hown (host := "") (Or.inl (hw _ (List.mem_of_getElem? (i := 24) rfl))) Via.refl e1 (I1.ext OX.2) (g := (mkF m 27 #[.val (.ref a), .val (.ref ca), .val (.int (0 : Int32)), .val (.int (Int32.ofNat n)), .val .null, .unset] [])) rfl (Jvm.hb hby d_jdk_42_method_149_27)
    have Zc28 : n0 ≤ h0.size := by omega
    obtain ⟨_, _, ⟨T29, L29, k29, n29⟩, -, X29, ⟨Lc29, hQ29, l29, y29, z29⟩, st29⟩ := Jvm.LawKit.callS X27 hx (y := (⟨"java/lang/StringUTF16", "compress", "([CII)[B"⟩ : MethodName)) hown (mvT hZ (hw _ (List.mem_of_getElem? (i := 25) rfl))) (mvT hZ (hw _ (List.mem_of_getElem? (i := 26) rfl))) (mvT hZ (hw _ (List.mem_of_getElem? (i := 27) rfl))) (mvT hZ (hw _ (List.mem_of_getElem? (i := 28) rfl))) (by decide) (backOf (W := 0) (rmComp l Z a0 hw [] ca cs kc n h0 n0 Zc28 I5 (hn : cs.length = n) (hb : n ≤ 3) (hlat : own_lat cs)) hZ (hw _ (List.mem_of_getElem? (i := 28) rfl)) (hw _ (List.mem_of_getElem? (i := 27) rfl)) (by decide) (by decide)) (g := (mkF m 36 #[.val (.ref a), .val (.ref ca), .val (.int (0 : Int32)), .val (.int (Int32.ofNat n)), .val .null, .unset] [(.int (Int32.ofNat n)), (.int (0 : Int32)), (.ref ca)])) rfl (by rw [hml]; rfl) (argsL := [(.ref ca), (.int (0 : Int32)), (.int (Int32.ofNat n))]) (rest := []) (lenOf pd___CII__B rfl) rfl (by show 2 * 0 + _ ≤ _; exact Nat.le_of_eq rfl) (Jvm.hb hby d_jdk_42_method_149_36) (fun _ _ => ⟨rfl, e27, (by decide : 0 + 1 ≤ _), (by decide : 0 + 3 ≤ _)⟩)
    dsimp only [Pt.U, Pt.locs, Pt.cells, Pt.slots] at X29 l29 y29 z29 st29 hQ29
    subst l29 y29 z29
    obtain ⟨b_29, kb_29, rfl, N29q, K29, Fq29_0, P29_0⟩ := hQ29
    have N29 := Fr.app N0 N29q
    obtain ⟨h29, e29⟩ : ∃ z, T29.heap = z := ⟨_, rfl⟩
    rw [e29] at K29 Fq29_0
    have z30 : h0.size ≤ h29.size := K29.1
    have Cp30 : CHr Z ELs s.vm h0 s.vm h29 := CHr.keep K29 sf0 CR.1
    have hk := Nat.le_trans hk z30
    have CR := CR.trans Cp30
    have lt29_0 : @LT.lt Nat _ b_29 h29.size := Fq29_0.lt
    have Zc31 : n0 ≤ h29.size := by omega
    obtain ⟨_, _, ⟨T32, L32, k32, n32⟩, -, X32, ⟨Lc32, hQ32, l32, y32, z32⟩, st32⟩ := Jvm.LawKit.callS X29 hx (y := (⟨"java/lang/StringUTF16", "coderFromArrayLen", "([BI)B"⟩ : MethodName)) hown (mvT hZ (hw _ (List.mem_of_getElem? (i := 33) rfl))) (mvT hZ (hw _ (List.mem_of_getElem? (i := 34) rfl))) (mvT hZ (hw _ (List.mem_of_getElem? (i := 27) rfl))) (mvT hZ (hw _ (List.mem_of_getElem? (i := 35) rfl))) (by decide) (backOf (W := 1) (rmCod l Z a0 hw [] b_29 (Int32.ofNat n) kb_29 (Int32.ofNat (own_enl cs)) (own_enc cs) h29 n0 Zc31 Fq29_0) hZ (hw _ (List.mem_of_getElem? (i := 35) rfl)) (hw _ (List.mem_of_getElem? (i := 27) rfl)) (by decide) (by decide)) (g := (mkF m 45 #[.val (.ref a), .val (.ref ca), .val (.int (0 : Int32)), .val (.int (Int32.ofNat n)), .val .null, .val (.ref b_29)] [(.int (Int32.ofNat n)), (.ref b_29), (.ref a)])) rfl (by rw [hml]; rfl) (argsL := [(.ref b_29), (.int (Int32.ofNat n))]) (rest := [(.ref a)]) (lenOf pd___BI_B rfl) rfl (by show 2 * 0 + _ ≤ _; exact Nat.le_of_eq rfl) (Jvm.hb hby d_jdk_42_method_149_45) (fun _ _ => ⟨rfl, e29, (by decide : 1 + 0 ≤ _), (by decide : 3 + 0 ≤ _)⟩)
    dsimp only [Pt.U, Pt.locs, Pt.cells, Pt.slots] at X32 l32 y32 z32 st32 hQ32
    subst l32 y32 z32
    obtain ⟨rfl, N32q, e32⟩ := hQ32
    have N32 := Fr.app N29 N32q
    have f33 : Exa Z h29 a "java/lang/String" := (I2.keep K29)
    have f34 : Fld Z h29 a "java/lang/String" "coder" "B" (.int (0 : Int32)) := (I4.keep K29 nin0)
    obtain ⟨T35, h35, X35, e35, W35, st35⟩ := putFN X32 hx hZ hown (hw _ (List.mem_of_getElem? (i := 36) rfl)) Via.refl e32 f34 f33 (Or.inr ⟨(hw _ (List.mem_of_getElem? (i := 37) rfl)), rfl, hnm⟩) (hw _ (List.mem_of_getElem? (i := 11) rfl)) (ty := .byte) (v' := (.int (own_cod cs))) (by decide) (own_cnar cs) (own_cfit cs) (g := (mkF m 48 #[.val (.ref a), .val (.ref ca), .val (.int (0 : Int32)), .val (.int (Int32.ofNat n)), .val .null, .val (.ref b_29)] [(.int (own_cod cs)), (.ref a)])) rfl rfl (Jvm.hb hby d_jdk_42_method_149_48)
    have f38 : Fld Z h29 a "java/lang/String" "value" "[B" .null := (I3.keep K29 nin0)
    have Sf37 : Safe Z ELs s.vm h29 a := own_safeN hZ.alike f33 f38
    have z36 : h29.size ≤ h35.size := Nat.le_of_eq W35.size.symm
    have Cp36 : CHr Z ELs s.vm h29 s.vm h35 := CHr.wr W35 Sf37 CR.1
    have hk := Nat.le_trans hk z36
    have CR := CR.trans Cp36
    have F35 : Fld Z h35 a "java/lang/String" "coder" "B" (.int (own_cod cs)) := f34.same W35
    have N35 := Fr.snoc X35 N32 (show n0 ≤ a by omega)
    have f39 : Exa Z h35 a "java/lang/String" := (f33.wr W35)
    have f40 : Fld Z h35 a "java/lang/String" "value" "[B" .null := (f38.other W35 (Or.inr (slot_ne (Or.inr (hw _ (List.mem_of_getElem? (i := 39) rfl))) (Or.inr (hw _ (List.mem_of_getElem? (i := 37) rfl))) (by decide) (t := (.array .byte)) (t' := .byte) (by decide) (by decide))))
    obtain ⟨T41, h41, X41, e41, W41, st41⟩ := putF X35 hx hZ hown (host := "") (Or.inl (hw _ (List.mem_of_getElem? (i := 38) rfl))) Via.refl e35 f40 f39 (Or.inr ⟨(hw _ (List.mem_of_getElem? (i := 39) rfl)), rfl, hnm⟩) (hw _ (List.mem_of_getElem? (i := 11) rfl)) (ty := (.array .byte)) (by decide) rfl rfl (g := (mkF m 54 #[.val (.ref a), .val (.ref ca), .val (.int (0 : Int32)), .val (.int (Int32.ofNat n)), .val .null, .val (.ref b_29)] [(.ref b_29), (.ref a)])) rfl rfl (Jvm.hb hby d_jdk_42_method_149_54)
    have Sf43 : Safe Z ELs s.vm h35 a := (Cp36.safe (show @LT.lt Nat _ a h29.size by omega) Sf37)
    have z42 : h35.size ≤ h41.size := Nat.le_of_eq W41.size.symm
    have Cp42 : CHr Z ELs s.vm h35 s.vm h41 := CHr.wr W41 Sf43 CR.1
    have hk := Nat.le_trans hk z42
    have CR := CR.trans Cp42
    have F41 : Fld Z h41 a "java/lang/String" "value" "[B" (.ref b_29) := f40.same W41
    have N41 := Fr.snoc X41 N35 (show n0 ≤ a by omega)
    have s44 : ∀ t_, Steps p.tables e below (T41.setTop (mkF m 57 #[.val (.ref a), .val (.ref ca), .val (.int (0 : Int32)), .val (.int (Int32.ofNat n)), .val .null, .val (.ref b_29)] [])) t_ → Steps p.tables e below (s₁.setTop (entryFrame m #[(.ref a), (.ref ca), (.int (0 : Int32)), (.int (Int32.ofNat n)), .null] 6)) t_ := fun t_ k_ => s2 t_ (by
      show Steps p.tables e below (T1.setTop (mkF m 5 #[.val (.ref a), .val (.ref ca), .val (.int (0 : Int32)), .val (.int (Int32.ofNat n)), .val .null, .unset] [(.int (Int32.ofNat n))])) t_
      refine XS.ifYes X1.here hx rfl (pc0 := 5) (pc' := 27) rfl (Jvm.hb hby d_jdk_42_method_149_5) rfl ((if0 _ _).trans (feq h3).2) (by decide) (by decide) ?_
      show Steps p.tables e below (T1.setTop (mkF m 27 #[.val (.ref a), .val (.ref ca), .val (.int (0 : Int32)), .val (.int (Int32.ofNat n)), .val .null, .unset] [])) _
      refine st27 _ ?_
      show Steps p.tables e below (T27.setTop (mkF m 30 #[.val (.ref a), .val (.ref ca), .val (.int (0 : Int32)), .val (.int (Int32.ofNat n)), .val .null, .unset] [(.int cst)])) _
      refine XS.ifNo X27.here hx rfl (Jvm.hb hby d_jdk_42_method_149_30) rfl ((if0 _ _).trans (feq hcst).1) ?_
      show Steps p.tables e below (T27.setTop (mkF m 33 #[.val (.ref a), .val (.ref ca), .val (.int (0 : Int32)), .val (.int (Int32.ofNat n)), .val .null, .unset] [])) _
      refine XS.aloadN X27.here hx rfl (Jvm.hb hby d_jdk_42_method_149_33) rfl rfl ?_
      refine XS.iloadN X27.here hx rfl (Jvm.hb hby d_jdk_42_method_149_34) rfl ?_
      refine XS.iloadN X27.here hx rfl (Jvm.hb hby d_jdk_42_method_149_35) rfl ?_
      refine st29 _ ?_
      show Steps p.tables e below (T29.setTop (mkF m 39 #[.val (.ref a), .val (.ref ca), .val (.int (0 : Int32)), .val (.int (Int32.ofNat n)), .val .null, .unset] [(.ref b_29)])) _
      refine XS.astore X29.here hx rfl (Jvm.hb hby d_jdk_42_method_149_39) rfl rfl (l' := #[.val (.ref a), .val (.ref ca), .val (.int (0 : Int32)), .val (.int (Int32.ofNat n)), .val .null, .val (.ref b_29)]) rfl ?_
      refine XS.aloadN X29.here hx rfl (Jvm.hb hby d_jdk_42_method_149_41) rfl rfl ?_
      refine XS.aload X29.here hx rfl (Jvm.hb hby d_jdk_42_method_149_42) rfl rfl ?_
      refine XS.iloadN X29.here hx rfl (Jvm.hb hby d_jdk_42_method_149_44) rfl ?_
      refine st32 _ ?_
      show Steps p.tables e below (T32.setTop (mkF m 48 #[.val (.ref a), .val (.ref ca), .val (.int (0 : Int32)), .val (.int (Int32.ofNat n)), .val .null, .val (.ref b_29)] [(.int (nar .byte (own_lo (ushr ((Int32.ofNat n) - (Int32.ofNat (own_enl cs))) (31 : Int32))))), (.ref a)])) _
      refine castTop (g' := (mkF m 48 #[.val (.ref a), .val (.ref ca), .val (.int (0 : Int32)), .val (.int (Int32.ofNat n)), .val .null, .val (.ref b_29)] [(.int (own_cod cs)), (.ref a)])) (by rw [own_codl hn (own_pos h3) (by omega)]) ?_
      show Steps p.tables e below (T32.setTop (mkF m 48 #[.val (.ref a), .val (.ref ca), .val (.int (0 : Int32)), .val (.int (Int32.ofNat n)), .val .null, .val (.ref b_29)] [(.int (own_cod cs)), (.ref a)])) _
      refine st35 _ ?_
      show Steps p.tables e below (T35.setTop (mkF m 51 #[.val (.ref a), .val (.ref ca), .val (.int (0 : Int32)), .val (.int (Int32.ofNat n)), .val .null, .val (.ref b_29)] [])) _
      refine XS.aloadN X35.here hx rfl (Jvm.hb hby d_jdk_42_method_149_51) rfl rfl ?_
      refine XS.aload X35.here hx rfl (Jvm.hb hby d_jdk_42_method_149_52) rfl rfl ?_
      refine st41 _ ?_
      show Steps p.tables e below (T41.setTop (mkF m 57 #[.val (.ref a), .val (.ref ca), .val (.int (0 : Int32)), .val (.int (Int32.ofNat n)), .val .null, .val (.ref b_29)] [])) _
      show Steps p.tables e below (T41.setTop (mkF m 57 #[.val (.ref a), .val (.ref ca), .val (.int (0 : Int32)), .val (.int (Int32.ofNat n)), .val .null, .val (.ref b_29)] [])) t_
      exact k_)
    obtain ⟨fs, hr, hrun, hended, hREW⟩ := X41.leaveW hS (by first | exact Nat.le_refl _ | (rw [e41]; exact hk)) (v := none) (fun _ => rfl)
    have f45 : Arv Z h41 b_29 kb_29 .byte (Int32.ofNat (own_enl cs)) (own_enc cs) (.int (0 : Int32)) := ((Fq29_0.other W35 (show @Ne Nat b_29 a by omega)).other W41 (show @Ne Nat b_29 a by omega))
    have f46 : Exa Z h41 a "java/lang/String" := (f39.wr W41)
    have f47 : Fld Z h41 a "java/lang/String" "coder" "B" (.int (own_cod cs)) := (F35.other W41 (Or.inr (slot_ne (Or.inr (hw _ (List.mem_of_getElem? (i := 37) rfl))) (Or.inr (hw _ (List.mem_of_getElem? (i := 39) rfl))) (by decide) (t := .byte) (t' := (.array .byte)) (by decide) (by decide))))
    refine ⟨_, _, s44 _ ?_, hrun, hended, _, _, rfl, ?_, (by show CHr Z ELs s.vm s.heap T41.vm T41.heap; rw [hh, e41]; exact CR.trans (CHv.at X41 hZ hEL CR.1)), hREW.1, hREW.2.1, hREW.2.2.1, hREW.2.2.2.mono (by decide) (by decide)⟩
    · show Steps p.tables e below (T41.setTop (mkF m 57 #[.val (.ref a), .val (.ref ca), .val (.int (0 : Int32)), .val (.int (Int32.ofNat n)), .val .null, .val (.ref b_29)] [])) _
      exact X41.returnOut hx Bd.returns (Jvm.hb hby d_jdk_42_method_149_57) hr
    · show Q_rmIni4 Z _ _ _ _ _ _ h0 n0 _ T41.heap _
      rw [e41]
      exact ⟨b_29, kb_29, rfl, N41, ((((Keep.refl h0 [a]).trans K29 all0).wr W35 (Or.inl (by simp))).wr W41 (Or.inl (by simp))), f46, F41, f47, f45⟩
theorem d_jdk_42_method_3_0 : decode jdk_42_method_3_code 0 = .ok (.aload_n 0, 1) := by decide +kernel
theorem d_jdk_42_method_3_1 : decode jdk_42_method_3_code 1 = .ok (.aload_n 1, 1) := by decide +kernel
theorem d_jdk_42_method_3_2 : decode jdk_42_method_3_code 2 = .ok (.iconst 0, 1) := by decide +kernel
theorem d_jdk_42_method_3_3 : decode jdk_42_method_3_code 3 = .ok (.aload_n 1, 1) := by decide +kernel
theorem d_jdk_42_method_3_4 : decode jdk_42_method_3_code 4 = .ok (.arraylength, 1) := by decide +kernel
theorem d_jdk_42_method_3_5 : decode jdk_42_method_3_code 5 = .ok (.aconst_null, 1) := by decide +kernel
theorem pd___CIILjava_lang_Void__V : parseMethodDescriptor "([CIILjava/lang/Void;)V" = some ⟨[(.array .char), .int, .int, (.object "java/lang/Void")], none⟩ := by decide +kernel
theorem d_jdk_42_method_3_6 : decode jdk_42_method_3_code 6 = .ok (.invokespecial 27, 3) := by decide +kernel
theorem d_jdk_42_method_3_9 : decode jdk_42_method_3_code 9 = .ok (.return_, 1) := by decide +kernel
theorem ef_rmIni1 (m : MethodId) (x0 : Addr) (x1 : Addr) : entryFrame m #[(.ref x0), (.ref x1)] 2 = mkF m 0 #[.val (.ref x0), .val (.ref x1)] [] := by first | (simp [entryFrame, mkF, argsToLocals, Value.category]; done) | rfl
def Q_rmIni1 (Z : State) (a : Addr) (ca : Addr) (cst : Int32) (cs : List Int32) (kc : ClassId) (n : Nat) (h0 : Heap) (n0 : Nat) (v : Option Value) (h : Heap) (L : List Loc) : Prop := ∃ (b : Addr), ∃ (kb : ClassId), (v = none) ∧ (Fr n0 L) ∧ (Keep h0 h [a]) ∧ (Exa Z h a "java/lang/String") ∧ (Fld Z h a "java/lang/String" "value" "[B" (.ref b)) ∧ (Fld Z h a "java/lang/String" "coder" "B" (.int (own_cod cs))) ∧ (Arv Z h b kb .byte (Int32.ofNat (own_enl cs)) (own_enc cs) (.int (0 : Int32)))
set_option maxRecDepth 65536 in
set_option maxHeartbeats 40000000 in
theorem rmIni1 (l : Launch) (Z : State) (a0 : Array Value) (hw : ∀ d ∈ tables_1, d.before a0 Z = true) (ws : List Jvm.Cond) (a : Addr) (ca : Addr) (cst : Int32) (cs : List Int32) (kc : ClassId) (n : Nat) (h0 : Heap) (n0 : Nat) (Z0 : n0 ≤ h0.size) (I1 : Sta Z Z.heap "java/lang/String" "COMPACT_STRINGS" "Z" (.int cst)) (OX : Old Z n0 h0) (hcst : ¬ (cst = (0 : Int32))) (I2 : Exa Z h0 a "java/lang/String") (I3 : Fld Z h0 a "java/lang/String" "value" "[B" .null) (I4 : Fld Z h0 a "java/lang/String" "coder" "B" (.int (0 : Int32))) (I5 : Arv Z h0 ca kc .char (Int32.ofNat n) (cs.map Value.int) (.int (0 : Int32))) (hn : cs.length = n) (hb : n ≤ 3) (hlat : own_lat cs) (ga : n0 ≤ a) (hac : @Ne Nat a ca) :
    MetFree l (⟨"java/lang/String", "<init>", "([C)V"⟩ : MethodName) (head1 (Jvm.Cond.code (⟨"java/lang/String", "<init>", "([C)V"⟩ : MethodName) jdk_42_method_3_code 2 none :: ws) ({ frames := 3, cells := 4, slots := 8, locals := 52 } : Room)) (fun ar_ U => ar_ = #[(.ref a), (.ref ca)] ∧ Z.Warmed39 U.vm ∧ U.heap = h0 ∧ CHv Z ELs U.vm h0) (fun _ _ _ _ _ => True) (fun _ U o U' => ∃ v L, o = .returned v ∧ Q_rmIni1 Z a ca cst cs kc n h0 n0 v U'.heap L ∧ CHr Z ELs U.vm U.heap U'.vm U'.heap ∧ ReturnedEndW U o U' L ({ frames := 3, cells := 4, slots := 8, locals := 52 } : Room).cells ({ frames := 3, cells := 4, slots := 8, locals := 52 } : Room).slots) := by
  refine MetFree.of_bodySF (plainFor_of_name pn_java_lang_String) hisR ?_
  intro p e s m args below meth c s₁ Bd hml0 hP hK
  obtain ⟨rfl, hZ, hh, hCH⟩ := hP
  have hx := Bd.exec
  have hby := Bd.bytes
  have hml : c.maxLocals = 2 := hml0
  have hown : s.vm.findClass "java/lang/String" = some m.cls := findClass_of_methodNamed Bd.named
  have hnm := (name_of_methodNamed Bd.named Bd.method).1
  have X0 : Stand p l e ({ frames := 3, cells := 4, slots := 8, locals := 52 } : Room) (s.setVm s.vm) m #[(.ref a), (.ref ca)] below meth c s₁ [] 0 0 := Stand.of_body Bd
  have e0 : s₁.heap = h0 := by rw [← hh, Bd.state]; rfl
  have N0 := Fr.nil n0
  have pre0 : ∀ t_, Steps p.tables e below (s₁.setTop (mkF m 0 #[.val (.ref a), .val (.ref ca)] [])) t_ → Steps p.tables e below (s₁.setTop (entryFrame m #[(.ref a), (.ref ca)] 2)) t_ := fun t_ k_ => castTop (ef_rmIni1 m a ca) k_
  have hEL : EW Z a0 ELs := own_EW hw
  have wS : ∀ a ∈ Bundle.stringAtoms, a.before a0 Z = true := own_wS hw
  have hS : s.Since s.vm s.heap.size := (State.WarmedH.refl s).since _
  have hk : s.heap.size ≤ h0.size := by rw [hh]; exact Nat.le_refl _
  have CR : CHr Z ELs s.vm h0 s.vm h0 := CHr.refl hCH
  have lt_I2 : @LT.lt Nat _ a h0.size := I2.lt
  have lt_I3 : @LT.lt Nat _ a h0.size := I3.lt
  have lt_I4 : @LT.lt Nat _ a h0.size := I4.lt
  have lt_I5 : @LT.lt Nat _ ca h0.size := I5.lt
  obtain ⟨cl1, Ar1, -, S1, M1, -, -⟩ := id I5
  have Zc2 : n0 ≤ h0.size := by omega
  have s4 : ∀ t_, Steps p.tables e below (s₁.setTop (mkF m 6 #[.val (.ref a), .val (.ref ca)] [.null, (.int (Int32.ofNat n)), (.int (0 : Int32)), (.ref ca), (.ref a)])) t_ → Steps p.tables e below (s₁.setTop (entryFrame m #[(.ref a), (.ref ca)] 2)) t_ := fun t_ k_ => pre0 t_ (by
    show Steps p.tables e below (s₁.setTop (mkF m 0 #[.val (.ref a), .val (.ref ca)] [])) t_
    refine XS.aloadN X0.here hx rfl (Jvm.hb hby d_jdk_42_method_3_0) rfl rfl ?_
    refine XS.aloadN X0.here hx rfl (Jvm.hb hby d_jdk_42_method_3_1) rfl rfl ?_
    refine XS.iconst X0.here hx rfl (Jvm.hb hby d_jdk_42_method_3_2) ?_
    refine XS.aloadN X0.here hx rfl (Jvm.hb hby d_jdk_42_method_3_3) rfl rfl ?_
    refine X0.arraylength hx (by rw [e0]; exact Ar1.1) (State.isArrayOf_alike hZ.alike Ar1.2.1) (g := (mkF m 4 #[.val (.ref a), .val (.ref ca)] [(.ref ca), (.int (0 : Int32)), (.ref ca), (.ref a)])) rfl rfl (Jvm.hb hby d_jdk_42_method_3_4) _ ?_
    rw [len_of S1 M1]
    show Steps p.tables e below (s₁.setTop (mkF m 5 #[.val (.ref a), .val (.ref ca)] [(.int (Int32.ofNat n)), (.int (0 : Int32)), (.ref ca), (.ref a)])) _
    refine XS.aconstNull X0.here hx rfl (Jvm.hb hby d_jdk_42_method_3_5) ?_
    show Steps p.tables e below (s₁.setTop (mkF m 6 #[.val (.ref a), .val (.ref ca)] [.null, (.int (Int32.ofNat n)), (.int (0 : Int32)), (.ref ca), (.ref a)])) t_
    exact k_)
  obtain ⟨_, _, ⟨T3, L3, k3, n3⟩, -, Xr3, hSr3, hg3, ⟨Lc3, hQ3, l3, y3, z3, Cp3⟩, st3⟩ := X0.specialBackS hx (y := (⟨"java/lang/String", "<init>", "([CIILjava/lang/Void;)V"⟩ : MethodName)) rfl hown (mvT hZ (hw _ (List.mem_of_getElem? (i := 17) rfl))) (mvT hZ (hw _ (List.mem_of_getElem? (i := 18) rfl))) (mvT hZ (hw _ (List.mem_of_getElem? (i := 20) rfl))) (by decide) (backOfSH (s := s) (vm0 := s.vm) (W := 0) (rmIni4 l Z a0 hw [] a ca cst cs kc n h0 n0 Zc2 I1 OX (hcst : ¬ (cst = (0 : Int32))) I2 I3 I4 I5 (hn : cs.length = n) (hb : n ≤ 3) (hlat : own_lat cs) (ga : n0 ≤ a) (hac : @Ne Nat a ca)) hZ (hw _ (List.mem_of_getElem? (i := 20) rfl)) (hw _ (List.mem_of_getElem? (i := 12) rfl)) (by decide) (by decide) hEL CR.1) (g := (mkF m 6 #[.val (.ref a), .val (.ref ca)] [.null, (.int (Int32.ofNat n)), (.int (0 : Int32)), (.ref ca), (.ref a)])) rfl (by rw [hml]; rfl) (Steps.refl _) (a := a) (argsL := [(.ref ca), (.int (0 : Int32)), (.int (Int32.ofNat n)), .null]) (rest := []) (lenOf pd___CIILjava_lang_Void__V rfl) rfl (by show 2 * 0 + _ ≤ _; exact Nat.le_of_eq rfl) (Jvm.hb hby d_jdk_42_method_3_6) (fun _ _ => ⟨rfl, e0, (by decide : 0 + 4 ≤ _), (by decide : 0 + 8 ≤ _)⟩)
  dsimp only [Pt.U, Pt.locs, Pt.cells, Pt.slots] at Xr3 hSr3 hg3 l3 y3 z3 st3 hQ3 Cp3
  subst l3 y3 z3
  obtain ⟨X3, hS, hZ, hown⟩ := rebS (own := "java/lang/String") hS (by first | exact Nat.le_refl _ | (rw [e0]; exact hk)) Xr3 hSr3 hg3 hZ hown
  obtain ⟨b_3, kb_3, rfl, N3q, K3, Fq3_0, Fq3_1, Fq3_2, Fq3_3⟩ := hQ3
  have N3 := Fr.app N0 N3q
  obtain ⟨h3, e3⟩ : ∃ z, T3.heap = z := ⟨_, rfl⟩
  rw [e3] at K3 Fq3_0 Fq3_1 Fq3_2 Fq3_3 Cp3
  have hk : T3.heap.size ≤ h3.size := Nat.le_of_eq (congrArg Array.size e3)
  have z5 : h0.size ≤ h3.size := K3.1
  have CR := CR.trans Cp3
  have lt3_0 : @LT.lt Nat _ a h3.size := Fq3_0.lt
  have lt3_3 : @LT.lt Nat _ b_3 h3.size := Fq3_3.lt
  have s6 : ∀ t_, Steps p.tables e below (T3.setTop (mkF m 9 #[.val (.ref a), .val (.ref ca)] [])) t_ → Steps p.tables e below (s₁.setTop (entryFrame m #[(.ref a), (.ref ca)] 2)) t_ := fun t_ k_ => s4 t_ (by
    show Steps p.tables e below (s₁.setTop (mkF m 6 #[.val (.ref a), .val (.ref ca)] [.null, (.int (Int32.ofNat n)), (.int (0 : Int32)), (.ref ca), (.ref a)])) t_
    refine st3.trans ?_
    show Steps p.tables e below (T3.setTop (mkF m 9 #[.val (.ref a), .val (.ref ca)] [])) _
    show Steps p.tables e below (T3.setTop (mkF m 9 #[.val (.ref a), .val (.ref ca)] [])) t_
    exact k_)
  obtain ⟨fs, hr, hrun, hended, hREW⟩ := X3.leaveW hS (by first | exact Nat.le_refl _ | (rw [e3]; exact hk)) (v := none) (fun _ => rfl)
  refine ⟨_, _, s6 _ ?_, hrun, hended, _, _, rfl, ?_, (by show CHr Z ELs s.vm s.heap T3.vm T3.heap; rw [hh, e3]; exact CR.trans (CHv.at X3 hZ hEL CR.1)), hREW.1, hREW.2.1, hREW.2.2.1, hREW.2.2.2.mono (by decide) (by decide)⟩
  · show Steps p.tables e below (T3.setTop (mkF m 9 #[.val (.ref a), .val (.ref ca)] [])) _
    exact X3.returnOut hx Bd.returns (Jvm.hb hby d_jdk_42_method_3_9) hr
  · show Q_rmIni1 Z _ _ _ _ _ _ h0 n0 _ T3.heap _
    rw [e3]
    exact ⟨b_3, kb_3, rfl, N3, ((Keep.refl h0 [a]).trans K3 (allS (Or.inl (by simp)) all0)), Fq3_0, Fq3_1, Fq3_2, Fq3_3⟩
theorem d_jdk_42_method_152_0 : decode jdk_42_method_152_code 0 = .ok (.getstatic 38, 3) := by decide +kernel
theorem d_jdk_42_method_152_3 : decode jdk_42_method_152_code 3 = .ok (.ifCond .eq 10, 3) := by decide +kernel
theorem d_jdk_42_method_152_6 : decode jdk_42_method_152_code 6 = .ok (.aload_n 0, 1) := by decide +kernel
theorem d_jdk_42_method_152_7 : decode jdk_42_method_152_code 7 = .ok (.getfield 15, 3) := by decide +kernel
theorem d_jdk_42_method_152_10 : decode jdk_42_method_152_code 10 = .ok (.goto 4, 3) := by decide +kernel
theorem d_jdk_42_method_152_14 : decode jdk_42_method_152_code 14 = .ok (.ireturn, 1) := by decide +kernel
theorem ef_rmCdr (m : MethodId) (x0 : Addr) : entryFrame m #[(.ref x0)] 1 = mkF m 0 #[.val (.ref x0)] [] := by first | (simp [entryFrame, mkF, argsToLocals, Value.category]; done) | rfl
def Q_rmCdr (Z : State) (a : Addr) (cst : Int32) (cs : List Int32) (h0 : Heap) (n0 : Nat) (v : Option Value) (h : Heap) (L : List Loc) : Prop := (v = some (.int (own_cod cs))) ∧ (Fr n0 L) ∧ (h = h0)
set_option maxRecDepth 65536 in
set_option maxHeartbeats 40000000 in
theorem rmCdr (l : Launch) (Z : State) (a0 : Array Value) (hw : ∀ d ∈ tables_1, d.before a0 Z = true) (ws : List Jvm.Cond) (a : Addr) (cst : Int32) (cs : List Int32) (h0 : Heap) (n0 : Nat) (Z0 : n0 ≤ h0.size) (I1 : Sta Z Z.heap "java/lang/String" "COMPACT_STRINGS" "Z" (.int cst)) (OX : Old Z n0 h0) (hcst : ¬ (cst = (0 : Int32))) (I2 : Fld Z h0 a "java/lang/String" "coder" "B" (.int (own_cod cs))) :
    MetFree l (⟨"java/lang/String", "coder", "()B"⟩ : MethodName) (head1 (Jvm.Cond.code (⟨"java/lang/String", "coder", "()B"⟩ : MethodName) jdk_42_method_152_code 1 (some .byte) :: ws) ({ frames := 0, cells := 0, slots := 0, locals := 0 } : Room)) (fun ar_ U => ar_ = #[(.ref a)] ∧ Z.Warmed39 U.vm ∧ U.heap = h0) (fun _ _ _ _ _ => True) (fun _ U o U' => ∃ v L, o = .returned v ∧ Q_rmCdr Z a cst cs h0 n0 v U'.heap L ∧ FrameEnd U o U' L ({ frames := 0, cells := 0, slots := 0, locals := 0 } : Room).cells ({ frames := 0, cells := 0, slots := 0, locals := 0 } : Room).slots) := by
  refine MetFree.of_bodySF (plainFor_of_name pn_java_lang_String) hisR ?_
  intro p e s m args below meth c s₁ Bd hml0 hP hK
  obtain ⟨rfl, hZ, hh⟩ := hP
  have hx := Bd.exec
  have hby := Bd.bytes
  have hml : c.maxLocals = 1 := hml0
  have hown : s.vm.findClass "java/lang/String" = some m.cls := findClass_of_methodNamed Bd.named
  have hnm := (name_of_methodNamed Bd.named Bd.method).1
  have X0 : Stand p l e ({ frames := 0, cells := 0, slots := 0, locals := 0 } : Room) s m #[(.ref a)] below meth c s₁ [] 0 0 := Stand.of_body Bd
  have e0 : s₁.heap = h0 := by rw [← hh, Bd.state]; rfl
  have N0 := Fr.nil n0
  have pre0 : ∀ t_, Steps p.tables e below (s₁.setTop (mkF m 0 #[.val (.ref a)] [])) t_ → Steps p.tables e below (s₁.setTop (entryFrame m #[(.ref a)] 1)) t_ := fun t_ k_ => castTop (ef_rmCdr m a) k_
  have lt_I2 : @LT.lt Nat _ a h0.size := I2.lt
  obtain ⟨T1, X1, e1, st1⟩ := getS2 X0 hx hZ hown (host := "") (Or.inl (hw _ (List.mem_of_getElem? (i := 24) rfl))) Via.refl e0 (I1.ext OX.2) (g := (mkF m 0 #[.val (.ref a)] [])) rfl (Jvm.hb hby d_jdk_42_method_152_0)
  obtain ⟨T2, X2, e2, st2⟩ := getF X1 hx hZ hown (host := "") (Or.inl (hw _ (List.mem_of_getElem? (i := 36) rfl))) Via.refl e1 I2 (g := (mkF m 7 #[.val (.ref a)] [(.ref a)])) rfl rfl (Jvm.hb hby d_jdk_42_method_152_7)
  have s3 : ∀ t_, Steps p.tables e below (T2.setTop (mkF m 14 #[.val (.ref a)] [(.int (own_cod cs))])) t_ → Steps p.tables e below (s₁.setTop (entryFrame m #[(.ref a)] 1)) t_ := fun t_ k_ => pre0 t_ (by
    show Steps p.tables e below (s₁.setTop (mkF m 0 #[.val (.ref a)] [])) t_
    refine st1 _ ?_
    show Steps p.tables e below (T1.setTop (mkF m 3 #[.val (.ref a)] [(.int cst)])) _
    refine XS.ifNo X1.here hx rfl (Jvm.hb hby d_jdk_42_method_152_3) rfl ((if0 _ _).trans (feq hcst).1) ?_
    show Steps p.tables e below (T1.setTop (mkF m 6 #[.val (.ref a)] [])) _
    refine XS.aloadN X1.here hx rfl (Jvm.hb hby d_jdk_42_method_152_6) rfl rfl ?_
    refine st2 _ ?_
    show Steps p.tables e below (T2.setTop (mkF m 10 #[.val (.ref a)] [(.int (own_cod cs))])) _
    refine XS.goto X2.here hx rfl (pc0 := 10) (pc' := 14) rfl (Jvm.hb hby d_jdk_42_method_152_10) (by decide) (by decide) ?_
    show Steps p.tables e below (T2.setTop (mkF m 14 #[.val (.ref a)] [(.int (own_cod cs))])) t_
    exact k_)
  obtain ⟨fs, hr, hrun, hended, hW, hsame⟩ := X2.leave (v := some (.int (nar .byte (own_cod cs)))) (fun h => by rw [Bd.returns] at h; cases h)
  refine ⟨_, _, s3 _ ?_, hrun, hended, _, _, rfl, ?_, ⟨_, rfl⟩, hW, hsame.mono (by decide) (by decide)⟩
  · show Steps p.tables e below (T2.setTop (mkF m 14 #[.val (.ref a)] [(.int (own_cod cs))])) _
    exact retN X2 hx (t := .byte) Bd.returns (by simp) (Jvm.hb hby d_jdk_42_method_152_14) hr
  · show Q_rmCdr Z _ _ _ h0 n0 _ T2.heap _
    rw [e2]
    exact ⟨(by rw [own_cnarb]), N0, rfl⟩
theorem d_jdk_42_method_54_0 : decode jdk_42_method_54_code 0 = .ok (.aload_n 0, 1) := by decide +kernel
theorem d_jdk_42_method_54_1 : decode jdk_42_method_54_code 1 = .ok (.getfield 9, 3) := by decide +kernel
theorem d_jdk_42_method_54_4 : decode jdk_42_method_54_code 4 = .ok (.arraylength, 1) := by decide +kernel
theorem d_jdk_42_method_54_5 : decode jdk_42_method_54_code 5 = .ok (.aload_n 0, 1) := by decide +kernel
theorem pd___B : parseMethodDescriptor "()B" = some ⟨[], some .byte⟩ := by decide +kernel
theorem d_jdk_42_method_54_6 : decode jdk_42_method_54_code 6 = .ok (.invokevirtual 335, 3) := by decide +kernel
theorem d_jdk_42_method_54_9 : decode jdk_42_method_54_code 9 = .ok (.ishr, 1) := by decide +kernel
theorem d_jdk_42_method_54_10 : decode jdk_42_method_54_code 10 = .ok (.ireturn, 1) := by decide +kernel
theorem ef_rmLen (m : MethodId) (x0 : Addr) : entryFrame m #[(.ref x0)] 1 = mkF m 0 #[.val (.ref x0)] [] := by first | (simp [entryFrame, mkF, argsToLocals, Value.category]; done) | rfl
def Q_rmLen (Z : State) (a : Addr) (cst : Int32) (b : Addr) (kb : ClassId) (cs : List Int32) (h0 : Heap) (n0 : Nat) (v : Option Value) (h : Heap) (L : List Loc) : Prop := (v = some (.int (Int32.ofNat cs.length))) ∧ (Fr n0 L) ∧ (h = h0)
set_option maxRecDepth 65536 in
set_option maxHeartbeats 40000000 in
theorem rmLen (l : Launch) (Z : State) (a0 : Array Value) (hw : ∀ d ∈ tables_1, d.before a0 Z = true) (ws : List Jvm.Cond) (a : Addr) (cst : Int32) (b : Addr) (kb : ClassId) (cs : List Int32) (h0 : Heap) (n0 : Nat) (Z0 : n0 ≤ h0.size) (I1 : Sta Z Z.heap "java/lang/String" "COMPACT_STRINGS" "Z" (.int cst)) (OX : Old Z n0 h0) (hcst : ¬ (cst = (0 : Int32))) (I2 : Exa Z h0 a "java/lang/String") (I3 : Fld Z h0 a "java/lang/String" "value" "[B" (.ref b)) (I4 : Fld Z h0 a "java/lang/String" "coder" "B" (.int (own_cod cs))) (I5 : Arv Z h0 b kb .byte (Int32.ofNat (own_enl cs)) (own_enc cs) (.int (0 : Int32))) (hb : cs.length ≤ 3) :
    MetFree l (⟨"java/lang/String", "length", "()I"⟩ : MethodName) (head1 (Jvm.Cond.code (⟨"java/lang/String", "length", "()I"⟩ : MethodName) jdk_42_method_54_code 1 (some .int) :: ws) ({ frames := 1, cells := 0, slots := 0, locals := 13 } : Room)) (fun ar_ U => ar_ = #[(.ref a)] ∧ Z.Warmed39 U.vm ∧ U.heap = h0) (fun _ _ _ _ _ => True) (fun _ U o U' => ∃ v L, o = .returned v ∧ Q_rmLen Z a cst b kb cs h0 n0 v U'.heap L ∧ FrameEnd U o U' L ({ frames := 1, cells := 0, slots := 0, locals := 13 } : Room).cells ({ frames := 1, cells := 0, slots := 0, locals := 13 } : Room).slots) := by
  refine MetFree.of_bodySF (plainFor_of_name pn_java_lang_String) hisR ?_
  intro p e s m args below meth c s₁ Bd hml0 hP hK
  obtain ⟨rfl, hZ, hh⟩ := hP
  have hx := Bd.exec
  have hby := Bd.bytes
  have hml : c.maxLocals = 1 := hml0
  have hown : s.vm.findClass "java/lang/String" = some m.cls := findClass_of_methodNamed Bd.named
  have hnm := (name_of_methodNamed Bd.named Bd.method).1
  have X0 : Stand p l e ({ frames := 1, cells := 0, slots := 0, locals := 13 } : Room) s m #[(.ref a)] below meth c s₁ [] 0 0 := Stand.of_body Bd
  have e0 : s₁.heap = h0 := by rw [← hh, Bd.state]; rfl
  have N0 := Fr.nil n0
  have pre0 : ∀ t_, Steps p.tables e below (s₁.setTop (mkF m 0 #[.val (.ref a)] [])) t_ → Steps p.tables e below (s₁.setTop (entryFrame m #[(.ref a)] 1)) t_ := fun t_ k_ => castTop (ef_rmLen m a) k_
  have lt_I2 : @LT.lt Nat _ a h0.size := I2.lt
  have lt_I3 : @LT.lt Nat _ a h0.size := I3.lt
  have lt_I4 : @LT.lt Nat _ a h0.size := I4.lt
  have lt_I5 : @LT.lt Nat _ b h0.size := I5.lt
  obtain ⟨T1, X1, e1, st1⟩ := getF X0 hx hZ hown (host := "") (Or.inl (hw _ (List.mem_of_getElem? (i := 38) rfl))) Via.refl e0 I3 (g := (mkF m 1 #[.val (.ref a)] [(.ref a)])) rfl rfl (Jvm.hb hby d_jdk_42_method_54_1)
  obtain ⟨cl2, Ar2, -, S2, M2, -, -⟩ := id I5
  have Zc3 : n0 ≤ h0.size := by omega
  obtain ⟨cq4, kq4, q4a, q4b, q4c⟩ := isOf hZ e1 I2
  obtain ⟨_, _, ⟨T4, L4, k4, n4⟩, -, X4, ⟨Lc4, hQ4, l4, y4, z4⟩, st4⟩ := X1.virtualBack hx (y := (⟨"java/lang/String", "coder", "()B"⟩ : MethodName)) (z := (⟨"java/lang/String", "coder", "()B"⟩ : MethodName)) hown (mvT hZ (hw _ (List.mem_of_getElem? (i := 56) rfl))) (mvT hZ (hw _ (List.mem_of_getElem? (i := 57) rfl))) (notFace_of_selects (args := #[]) (mvT hZ (hw _ (List.mem_of_getElem? (i := 59) rfl)))) (mvT hZ (hw _ (List.mem_of_getElem? (i := 59) rfl))) (mvT hZ (hw _ (List.mem_of_getElem? (i := 58) rfl))) (by decide) (backOf (W := 1) (rmCdr l Z a0 hw [] a cst cs h0 n0 Zc3 I1 OX (hcst : ¬ (cst = (0 : Int32))) I4) hZ (hw _ (List.mem_of_getElem? (i := 60) rfl)) (hw _ (List.mem_of_getElem? (i := 12) rfl)) (by decide) (by decide)) q4a q4c (g := (mkF m 6 #[.val (.ref a)] [(.ref a), (.int (Int32.ofNat (own_enl cs)))])) rfl (by rw [hml]; rfl) (Steps.refl _) (argsL := []) (rest := [(.int (Int32.ofNat (own_enl cs)))]) (lenOf pd___B rfl) rfl (by show 2 * 0 + _ ≤ _; exact Nat.le_of_eq rfl) (Jvm.hb hby d_jdk_42_method_54_6) (fun _ _ => ⟨rfl, e1, (by decide : 0 + 0 ≤ _), (by decide : 0 + 0 ≤ _)⟩)
  dsimp only [Pt.U, Pt.locs, Pt.cells, Pt.slots] at X4 l4 y4 z4 st4 hQ4
  subst l4 y4 z4
  obtain ⟨rfl, N4q, e4⟩ := hQ4
  have N4 := Fr.app N0 N4q
  have s5 : ∀ t_, Steps p.tables e below (T4.setTop (mkF m 10 #[.val (.ref a)] [(.int ((Int32.ofNat (own_enl cs)) >>> ((own_cod cs) &&& 31)))])) t_ → Steps p.tables e below (s₁.setTop (entryFrame m #[(.ref a)] 1)) t_ := fun t_ k_ => pre0 t_ (by
    show Steps p.tables e below (s₁.setTop (mkF m 0 #[.val (.ref a)] [])) t_
    refine XS.aloadN X0.here hx rfl (Jvm.hb hby d_jdk_42_method_54_0) rfl rfl ?_
    refine st1 _ ?_
    show Steps p.tables e below (T1.setTop (mkF m 4 #[.val (.ref a)] [(.ref b)])) _
    refine X1.arraylength hx (by rw [e1]; exact Ar2.1) (State.isArrayOf_alike hZ.alike Ar2.2.1) (g := (mkF m 4 #[.val (.ref a)] [(.ref b)])) rfl rfl (Jvm.hb hby d_jdk_42_method_54_4) _ ?_
    rw [len_of S2 M2]
    show Steps p.tables e below (T1.setTop (mkF m 5 #[.val (.ref a)] [(.int (Int32.ofNat (own_enl cs)))])) _
    refine XS.aloadN X1.here hx rfl (Jvm.hb hby d_jdk_42_method_54_5) rfl rfl ?_
    refine st4.trans ?_
    show Steps p.tables e below (T4.setTop (mkF m 9 #[.val (.ref a)] [(.int (own_cod cs)), (.int (Int32.ofNat (own_enl cs)))])) _
    refine XS.ishr X4.here hx rfl (Jvm.hb hby d_jdk_42_method_54_9) rfl ?_
    show Steps p.tables e below (T4.setTop (mkF m 10 #[.val (.ref a)] [(.int ((Int32.ofNat (own_enl cs)) >>> ((own_cod cs) &&& 31)))])) t_
    exact k_)
  obtain ⟨fs, hr, hrun, hended, hW, hsame⟩ := X4.leave (v := some (.int ((Int32.ofNat (own_enl cs)) >>> ((own_cod cs) &&& 31)))) (fun h => by rw [Bd.returns] at h; cases h)
  refine ⟨_, _, s5 _ ?_, hrun, hended, _, _, rfl, ?_, ⟨_, rfl⟩, hW, hsame.mono (by decide) (by decide)⟩
  · show Steps p.tables e below (T4.setTop (mkF m 10 #[.val (.ref a)] [(.int ((Int32.ofNat (own_enl cs)) >>> ((own_cod cs) &&& 31)))])) _
    exact retI X4 hx Bd.returns (Jvm.hb hby d_jdk_42_method_54_10) hr
  · show Q_rmLen Z _ _ _ _ _ h0 n0 _ T4.heap _
    rw [e4]
    exact ⟨(by rw [own_lenq cs (by omega)]), N4, rfl⟩
theorem d_jdk_42_method_154_0 : decode jdk_42_method_154_code 0 = .ok (.getstatic 38, 3) := by decide +kernel
theorem d_jdk_42_method_154_3 : decode jdk_42_method_154_code 3 = .ok (.ifCond .eq 14, 3) := by decide +kernel
theorem d_jdk_42_method_154_6 : decode jdk_42_method_154_code 6 = .ok (.aload_n 0, 1) := by decide +kernel
theorem d_jdk_42_method_154_7 : decode jdk_42_method_154_code 7 = .ok (.getfield 15, 3) := by decide +kernel
theorem d_jdk_42_method_154_10 : decode jdk_42_method_154_code 10 = .ok (.ifCond .ne 7, 3) := by decide +kernel
theorem d_jdk_42_method_154_13 : decode jdk_42_method_154_code 13 = .ok (.iconst 1, 1) := by decide +kernel
theorem d_jdk_42_method_154_14 : decode jdk_42_method_154_code 14 = .ok (.goto 4, 3) := by decide +kernel
theorem d_jdk_42_method_154_18 : decode jdk_42_method_154_code 18 = .ok (.ireturn, 1) := by decide +kernel
theorem d_jdk_42_method_154_17 : decode jdk_42_method_154_code 17 = .ok (.iconst 0, 1) := by decide +kernel
theorem ef_rmIsL (m : MethodId) (x0 : Addr) : entryFrame m #[(.ref x0)] 1 = mkF m 0 #[.val (.ref x0)] [] := by first | (simp [entryFrame, mkF, argsToLocals, Value.category]; done) | rfl
def Q_rmIsL (Z : State) (a : Addr) (cst : Int32) (cs : List Int32) (h0 : Heap) (n0 : Nat) (v : Option Value) (h : Heap) (L : List Loc) : Prop := (v = some (.int (if own_cod cs = (0 : Int32) then (1 : Int32) else (0 : Int32)))) ∧ (Fr n0 L) ∧ (h = h0)
set_option maxRecDepth 65536 in
set_option maxHeartbeats 40000000 in
theorem rmIsL (l : Launch) (Z : State) (a0 : Array Value) (hw : ∀ d ∈ tables_1, d.before a0 Z = true) (ws : List Jvm.Cond) (a : Addr) (cst : Int32) (cs : List Int32) (h0 : Heap) (n0 : Nat) (Z0 : n0 ≤ h0.size) (I1 : Sta Z Z.heap "java/lang/String" "COMPACT_STRINGS" "Z" (.int cst)) (OX : Old Z n0 h0) (hcst : ¬ (cst = (0 : Int32))) (I2 : Fld Z h0 a "java/lang/String" "coder" "B" (.int (own_cod cs))) :
    MetFree l (⟨"java/lang/String", "isLatin1", "()Z"⟩ : MethodName) (head1 (Jvm.Cond.code (⟨"java/lang/String", "isLatin1", "()Z"⟩ : MethodName) jdk_42_method_154_code 1 (some .boolean) :: ws) ({ frames := 0, cells := 0, slots := 0, locals := 0 } : Room)) (fun ar_ U => ar_ = #[(.ref a)] ∧ Z.Warmed39 U.vm ∧ U.heap = h0) (fun _ _ _ _ _ => True) (fun _ U o U' => ∃ v L, o = .returned v ∧ Q_rmIsL Z a cst cs h0 n0 v U'.heap L ∧ FrameEnd U o U' L ({ frames := 0, cells := 0, slots := 0, locals := 0 } : Room).cells ({ frames := 0, cells := 0, slots := 0, locals := 0 } : Room).slots) := by
  refine MetFree.of_bodySF (plainFor_of_name pn_java_lang_String) hisR ?_
  intro p e s m args below meth c s₁ Bd hml0 hP hK
  obtain ⟨rfl, hZ, hh⟩ := hP
  have hx := Bd.exec
  have hby := Bd.bytes
  have hml : c.maxLocals = 1 := hml0
  have hown : s.vm.findClass "java/lang/String" = some m.cls := findClass_of_methodNamed Bd.named
  have hnm := (name_of_methodNamed Bd.named Bd.method).1
  have X0 : Stand p l e ({ frames := 0, cells := 0, slots := 0, locals := 0 } : Room) s m #[(.ref a)] below meth c s₁ [] 0 0 := Stand.of_body Bd
  have e0 : s₁.heap = h0 := by rw [← hh, Bd.state]; rfl
  have N0 := Fr.nil n0
  have pre0 : ∀ t_, Steps p.tables e below (s₁.setTop (mkF m 0 #[.val (.ref a)] [])) t_ → Steps p.tables e below (s₁.setTop (entryFrame m #[(.ref a)] 1)) t_ := fun t_ k_ => castTop (ef_rmIsL m a) k_
  have lt_I2 : @LT.lt Nat _ a h0.size := I2.lt
  obtain ⟨T1, X1, e1, st1⟩ := getS2 X0 hx hZ hown (host := "") (Or.inl (hw _ (List.mem_of_getElem? (i := 24) rfl))) Via.refl e0 (I1.ext OX.2) (g := (mkF m 0 #[.val (.ref a)] [])) rfl (Jvm.hb hby d_jdk_42_method_154_0)
  obtain ⟨T2, X2, e2, st2⟩ := getF X1 hx hZ hown (host := "") (Or.inl (hw _ (List.mem_of_getElem? (i := 36) rfl))) Via.refl e1 I2 (g := (mkF m 7 #[.val (.ref a)] [(.ref a)])) rfl rfl (Jvm.hb hby d_jdk_42_method_154_7)
  have s3 : ∀ t_, Steps p.tables e below (T2.setTop (mkF m 10 #[.val (.ref a)] [(.int (own_cod cs))])) t_ → Steps p.tables e below (s₁.setTop (entryFrame m #[(.ref a)] 1)) t_ := fun t_ k_ => pre0 t_ (by
    show Steps p.tables e below (s₁.setTop (mkF m 0 #[.val (.ref a)] [])) t_
    refine st1 _ ?_
    show Steps p.tables e below (T1.setTop (mkF m 3 #[.val (.ref a)] [(.int cst)])) _
    refine XS.ifNo X1.here hx rfl (Jvm.hb hby d_jdk_42_method_154_3) rfl ((if0 _ _).trans (feq hcst).1) ?_
    show Steps p.tables e below (T1.setTop (mkF m 6 #[.val (.ref a)] [])) _
    refine XS.aloadN X1.here hx rfl (Jvm.hb hby d_jdk_42_method_154_6) rfl rfl ?_
    refine st2 _ ?_
    show Steps p.tables e below (T2.setTop (mkF m 10 #[.val (.ref a)] [(.int (own_cod cs))])) _
    show Steps p.tables e below (T2.setTop (mkF m 10 #[.val (.ref a)] [(.int (own_cod cs))])) t_
    exact k_)
  by_cases h4 : (own_cod cs) = (0 : Int32)
  · have s5 : ∀ t_, Steps p.tables e below (T2.setTop (mkF m 18 #[.val (.ref a)] [(.int (1 : Int32))])) t_ → Steps p.tables e below (s₁.setTop (entryFrame m #[(.ref a)] 1)) t_ := fun t_ k_ => s3 t_ (by
      show Steps p.tables e below (T2.setTop (mkF m 10 #[.val (.ref a)] [(.int (own_cod cs))])) t_
      refine XS.ifNo X2.here hx rfl (Jvm.hb hby d_jdk_42_method_154_10) rfl ((if0 _ _).trans (teq h4).2) ?_
      show Steps p.tables e below (T2.setTop (mkF m 13 #[.val (.ref a)] [])) _
      refine XS.iconst X2.here hx rfl (Jvm.hb hby d_jdk_42_method_154_13) ?_
      refine XS.goto X2.here hx rfl (pc0 := 14) (pc' := 18) rfl (Jvm.hb hby d_jdk_42_method_154_14) (by decide) (by decide) ?_
      show Steps p.tables e below (T2.setTop (mkF m 18 #[.val (.ref a)] [(.int (1 : Int32))])) t_
      exact k_)
    obtain ⟨fs, hr, hrun, hended, hW, hsame⟩ := X2.leave (v := some (.int (1 : Int32))) (fun h => by rw [Bd.returns] at h; cases h)
    refine ⟨_, _, s5 _ ?_, hrun, hended, _, _, rfl, ?_, ⟨_, rfl⟩, hW, hsame.mono (by decide) (by decide)⟩
    · show Steps p.tables e below (T2.setTop (mkF m 18 #[.val (.ref a)] [(.int (1 : Int32))])) _
      exact retN X2 hx (t := .boolean) Bd.returns (by simp) (Jvm.hb hby d_jdk_42_method_154_18) hr
    · show Q_rmIsL Z _ _ _ h0 n0 _ T2.heap _
      rw [e2]
      exact ⟨(by first | rfl | (simp only [if_pos h4]; done) | (simp only [if_pos h4]; rfl) | (simp only [if_pos h4, own_narb]; done)), N0, rfl⟩
  · have s6 : ∀ t_, Steps p.tables e below (T2.setTop (mkF m 18 #[.val (.ref a)] [(.int (0 : Int32))])) t_ → Steps p.tables e below (s₁.setTop (entryFrame m #[(.ref a)] 1)) t_ := fun t_ k_ => s3 t_ (by
      show Steps p.tables e below (T2.setTop (mkF m 10 #[.val (.ref a)] [(.int (own_cod cs))])) t_
      refine XS.ifYes X2.here hx rfl (pc0 := 10) (pc' := 17) rfl (Jvm.hb hby d_jdk_42_method_154_10) rfl ((if0 _ _).trans (feq h4).2) (by decide) (by decide) ?_
      show Steps p.tables e below (T2.setTop (mkF m 17 #[.val (.ref a)] [])) _
      refine XS.iconst X2.here hx rfl (Jvm.hb hby d_jdk_42_method_154_17) ?_
      show Steps p.tables e below (T2.setTop (mkF m 18 #[.val (.ref a)] [(.int (0 : Int32))])) t_
      exact k_)
    obtain ⟨fs, hr, hrun, hended, hW, hsame⟩ := X2.leave (v := some (.int (0 : Int32))) (fun h => by rw [Bd.returns] at h; cases h)
    refine ⟨_, _, s6 _ ?_, hrun, hended, _, _, rfl, ?_, ⟨_, rfl⟩, hW, hsame.mono (by decide) (by decide)⟩
    · show Steps p.tables e below (T2.setTop (mkF m 18 #[.val (.ref a)] [(.int (0 : Int32))])) _
      exact retN X2 hx (t := .boolean) Bd.returns (by simp) (Jvm.hb hby d_jdk_42_method_154_18) hr
    · show Q_rmIsL Z _ _ _ h0 n0 _ T2.heap _
      rw [e2]
      exact ⟨(by first | rfl | (simp only [if_neg h4]; done) | (simp only [if_neg h4]; rfl) | (simp only [if_neg h4, own_narb]; done)), N0, rfl⟩
theorem d_jdk_42_method_55_0 : decode jdk_42_method_55_code 0 = .ok (.aload_n 0, 1) := by decide +kernel
theorem d_jdk_42_method_55_1 : decode jdk_42_method_55_code 1 = .ok (.getfield 9, 3) := by decide +kernel
theorem d_jdk_42_method_55_4 : decode jdk_42_method_55_code 4 = .ok (.arraylength, 1) := by decide +kernel
theorem d_jdk_42_method_55_5 : decode jdk_42_method_55_code 5 = .ok (.ifCond .ne 7, 3) := by decide +kernel
theorem d_jdk_42_method_55_8 : decode jdk_42_method_55_code 8 = .ok (.iconst 1, 1) := by decide +kernel
theorem d_jdk_42_method_55_9 : decode jdk_42_method_55_code 9 = .ok (.goto 4, 3) := by decide +kernel
theorem d_jdk_42_method_55_13 : decode jdk_42_method_55_code 13 = .ok (.ireturn, 1) := by decide +kernel
theorem d_jdk_42_method_55_12 : decode jdk_42_method_55_code 12 = .ok (.iconst 0, 1) := by decide +kernel
theorem ef_rmEmp (m : MethodId) (x0 : Addr) : entryFrame m #[(.ref x0)] 1 = mkF m 0 #[.val (.ref x0)] [] := by first | (simp [entryFrame, mkF, argsToLocals, Value.category]; done) | rfl
def Q_rmEmp (Z : State) (a : Addr) (b : Addr) (kb : ClassId) (cs : List Int32) (h0 : Heap) (n0 : Nat) (v : Option Value) (h : Heap) (L : List Loc) : Prop := (v = some (.int (if cs = [] then (1 : Int32) else (0 : Int32)))) ∧ (Fr n0 L) ∧ (h = h0)
set_option maxRecDepth 65536 in
set_option maxHeartbeats 40000000 in
theorem rmEmp (l : Launch) (Z : State) (a0 : Array Value) (hw : ∀ d ∈ tables_1, d.before a0 Z = true) (ws : List Jvm.Cond) (a : Addr) (b : Addr) (kb : ClassId) (cs : List Int32) (h0 : Heap) (n0 : Nat) (Z0 : n0 ≤ h0.size) (I1 : Exa Z h0 a "java/lang/String") (I2 : Fld Z h0 a "java/lang/String" "value" "[B" (.ref b)) (I3 : Arv Z h0 b kb .byte (Int32.ofNat (own_enl cs)) (own_enc cs) (.int (0 : Int32))) (hb : cs.length ≤ 3) :
    MetFree l (⟨"java/lang/String", "isEmpty", "()Z"⟩ : MethodName) (head1 (Jvm.Cond.code (⟨"java/lang/String", "isEmpty", "()Z"⟩ : MethodName) jdk_42_method_55_code 1 (some .boolean) :: ws) ({ frames := 0, cells := 0, slots := 0, locals := 0 } : Room)) (fun ar_ U => ar_ = #[(.ref a)] ∧ Z.Warmed39 U.vm ∧ U.heap = h0) (fun _ _ _ _ _ => True) (fun _ U o U' => ∃ v L, o = .returned v ∧ Q_rmEmp Z a b kb cs h0 n0 v U'.heap L ∧ FrameEnd U o U' L ({ frames := 0, cells := 0, slots := 0, locals := 0 } : Room).cells ({ frames := 0, cells := 0, slots := 0, locals := 0 } : Room).slots) := by
  refine MetFree.of_bodySF (plainFor_of_name pn_java_lang_String) hisR ?_
  intro p e s m args below meth c s₁ Bd hml0 hP hK
  obtain ⟨rfl, hZ, hh⟩ := hP
  have hx := Bd.exec
  have hby := Bd.bytes
  have hml : c.maxLocals = 1 := hml0
  have hown : s.vm.findClass "java/lang/String" = some m.cls := findClass_of_methodNamed Bd.named
  have hnm := (name_of_methodNamed Bd.named Bd.method).1
  have X0 : Stand p l e ({ frames := 0, cells := 0, slots := 0, locals := 0 } : Room) s m #[(.ref a)] below meth c s₁ [] 0 0 := Stand.of_body Bd
  have e0 : s₁.heap = h0 := by rw [← hh, Bd.state]; rfl
  have N0 := Fr.nil n0
  have pre0 : ∀ t_, Steps p.tables e below (s₁.setTop (mkF m 0 #[.val (.ref a)] [])) t_ → Steps p.tables e below (s₁.setTop (entryFrame m #[(.ref a)] 1)) t_ := fun t_ k_ => castTop (ef_rmEmp m a) k_
  have lt_I1 : @LT.lt Nat _ a h0.size := I1.lt
  have lt_I2 : @LT.lt Nat _ a h0.size := I2.lt
  have lt_I3 : @LT.lt Nat _ b h0.size := I3.lt
  obtain ⟨T1, X1, e1, st1⟩ := getF X0 hx hZ hown (host := "") (Or.inl (hw _ (List.mem_of_getElem? (i := 38) rfl))) Via.refl e0 I2 (g := (mkF m 1 #[.val (.ref a)] [(.ref a)])) rfl rfl (Jvm.hb hby d_jdk_42_method_55_1)
  obtain ⟨cl2, Ar2, -, S2, M2, -, -⟩ := id I3
  have s3 : ∀ t_, Steps p.tables e below (T1.setTop (mkF m 5 #[.val (.ref a)] [(.int (Int32.ofNat (own_enl cs)))])) t_ → Steps p.tables e below (s₁.setTop (entryFrame m #[(.ref a)] 1)) t_ := fun t_ k_ => pre0 t_ (by
    show Steps p.tables e below (s₁.setTop (mkF m 0 #[.val (.ref a)] [])) t_
    refine XS.aloadN X0.here hx rfl (Jvm.hb hby d_jdk_42_method_55_0) rfl rfl ?_
    refine st1 _ ?_
    show Steps p.tables e below (T1.setTop (mkF m 4 #[.val (.ref a)] [(.ref b)])) _
    refine X1.arraylength hx (by rw [e1]; exact Ar2.1) (State.isArrayOf_alike hZ.alike Ar2.2.1) (g := (mkF m 4 #[.val (.ref a)] [(.ref b)])) rfl rfl (Jvm.hb hby d_jdk_42_method_55_4) _ ?_
    rw [len_of S2 M2]
    show Steps p.tables e below (T1.setTop (mkF m 5 #[.val (.ref a)] [(.int (Int32.ofNat (own_enl cs)))])) _
    show Steps p.tables e below (T1.setTop (mkF m 5 #[.val (.ref a)] [(.int (Int32.ofNat (own_enl cs)))])) t_
    exact k_)
  by_cases h4 : (Int32.ofNat (own_enl cs)) = (0 : Int32)
  · have s5 : ∀ t_, Steps p.tables e below (T1.setTop (mkF m 13 #[.val (.ref a)] [(.int (1 : Int32))])) t_ → Steps p.tables e below (s₁.setTop (entryFrame m #[(.ref a)] 1)) t_ := fun t_ k_ => s3 t_ (by
      show Steps p.tables e below (T1.setTop (mkF m 5 #[.val (.ref a)] [(.int (Int32.ofNat (own_enl cs)))])) t_
      refine XS.ifNo X1.here hx rfl (Jvm.hb hby d_jdk_42_method_55_5) rfl ((if0 _ _).trans (teq h4).2) ?_
      show Steps p.tables e below (T1.setTop (mkF m 8 #[.val (.ref a)] [])) _
      refine XS.iconst X1.here hx rfl (Jvm.hb hby d_jdk_42_method_55_8) ?_
      refine XS.goto X1.here hx rfl (pc0 := 9) (pc' := 13) rfl (Jvm.hb hby d_jdk_42_method_55_9) (by decide) (by decide) ?_
      show Steps p.tables e below (T1.setTop (mkF m 13 #[.val (.ref a)] [(.int (1 : Int32))])) t_
      exact k_)
    obtain ⟨fs, hr, hrun, hended, hW, hsame⟩ := X1.leave (v := some (.int (1 : Int32))) (fun h => by rw [Bd.returns] at h; cases h)
    refine ⟨_, _, s5 _ ?_, hrun, hended, _, _, rfl, ?_, ⟨_, rfl⟩, hW, hsame.mono (by decide) (by decide)⟩
    · show Steps p.tables e below (T1.setTop (mkF m 13 #[.val (.ref a)] [(.int (1 : Int32))])) _
      exact retN X1 hx (t := .boolean) Bd.returns (by simp) (Jvm.hb hby d_jdk_42_method_55_13) hr
    · show Q_rmEmp Z _ _ _ _ h0 n0 _ T1.heap _
      rw [e1]
      exact ⟨(by rw [if_pos ((own_enl0 (by omega)).mp h4)]), N0, rfl⟩
  · have s6 : ∀ t_, Steps p.tables e below (T1.setTop (mkF m 13 #[.val (.ref a)] [(.int (0 : Int32))])) t_ → Steps p.tables e below (s₁.setTop (entryFrame m #[(.ref a)] 1)) t_ := fun t_ k_ => s3 t_ (by
      show Steps p.tables e below (T1.setTop (mkF m 5 #[.val (.ref a)] [(.int (Int32.ofNat (own_enl cs)))])) t_
      refine XS.ifYes X1.here hx rfl (pc0 := 5) (pc' := 12) rfl (Jvm.hb hby d_jdk_42_method_55_5) rfl ((if0 _ _).trans (feq h4).2) (by decide) (by decide) ?_
      show Steps p.tables e below (T1.setTop (mkF m 12 #[.val (.ref a)] [])) _
      refine XS.iconst X1.here hx rfl (Jvm.hb hby d_jdk_42_method_55_12) ?_
      show Steps p.tables e below (T1.setTop (mkF m 13 #[.val (.ref a)] [(.int (0 : Int32))])) t_
      exact k_)
    obtain ⟨fs, hr, hrun, hended, hW, hsame⟩ := X1.leave (v := some (.int (0 : Int32))) (fun h => by rw [Bd.returns] at h; cases h)
    refine ⟨_, _, s6 _ ?_, hrun, hended, _, _, rfl, ?_, ⟨_, rfl⟩, hW, hsame.mono (by decide) (by decide)⟩
    · show Steps p.tables e below (T1.setTop (mkF m 13 #[.val (.ref a)] [(.int (0 : Int32))])) _
      exact retN X1 hx (t := .boolean) Bd.returns (by simp) (Jvm.hb hby d_jdk_42_method_55_13) hr
    · show Q_rmEmp Z _ _ _ _ h0 n0 _ T1.heap _
      rw [e1]
      exact ⟨(by rw [if_neg (fun e => h4 ((own_enl0 (by omega)).mpr e))]), N0, rfl⟩
theorem pn_jdk_internal_util_Preconditions : plainName "jdk/internal/util/Preconditions" = true := by first | (simp [plainName, overriddenIn]; done) | decide +kernel
theorem d_jdk_41_method_11_0 : decode jdk_41_method_11_code 0 = .ok (.iload_n 0, 1) := by decide +kernel
theorem d_jdk_41_method_11_1 : decode jdk_41_method_11_code 1 = .ok (.ifCond .lt 8, 3) := by decide +kernel
theorem d_jdk_41_method_11_4 : decode jdk_41_method_11_code 4 = .ok (.iload_n 0, 1) := by decide +kernel
theorem d_jdk_41_method_11_5 : decode jdk_41_method_11_code 5 = .ok (.iload_n 1, 1) := by decide +kernel
theorem d_jdk_41_method_11_6 : decode jdk_41_method_11_code 6 = .ok (.if_icmp .lt 10, 3) := by decide +kernel
theorem d_jdk_41_method_11_16 : decode jdk_41_method_11_code 16 = .ok (.iload_n 0, 1) := by decide +kernel
theorem d_jdk_41_method_11_17 : decode jdk_41_method_11_code 17 = .ok (.ireturn, 1) := by decide +kernel
theorem ef_rmPCk (m : MethodId) (x0 : Int32) (x1 : Int32) (x2 : Value) (hr_x2 : x2.isRef = true) : entryFrame m #[(.int x0), (.int x1), x2] 3 = mkF m 0 #[.val (.int x0), .val (.int x1), .val x2] [] := by first | (simp [entryFrame, mkF, argsToLocals, Value.category]; done) | rfl | (cases x2 <;> simp [Value.isRef] at hr_x2 <;> rfl)
def Q_rmPCk (Z : State) (fmt : Value) (i : Nat) (n : Nat) (h0 : Heap) (n0 : Nat) (v : Option Value) (h : Heap) (L : List Loc) : Prop := (v = some (.int (Int32.ofNat i))) ∧ (Fr n0 L) ∧ (h = h0)
set_option maxRecDepth 65536 in
set_option maxHeartbeats 40000000 in
theorem rmPCk (l : Launch) (Z : State) (a0 : Array Value) (hw : ∀ d ∈ tables_1, d.before a0 Z = true) (ws : List Jvm.Cond) (fmt : Value) (i : Nat) (n : Nat) (h0 : Heap) (n0 : Nat) (Z0 : n0 ≤ h0.size) (hfmt : fmt.isRef = true) (hin : i < n) (hn8 : n ≤ 8000) :
    MetFree l (⟨"jdk/internal/util/Preconditions", "checkIndex", "(IILjava/util/function/BiFunction;)I"⟩ : MethodName) (head1 (Jvm.Cond.code (⟨"jdk/internal/util/Preconditions", "checkIndex", "(IILjava/util/function/BiFunction;)I"⟩ : MethodName) jdk_41_method_11_code 3 (some .int) :: ws) ({ frames := 0, cells := 0, slots := 0, locals := 0 } : Room)) (fun ar_ U => ar_ = #[(.int (Int32.ofNat i)), (.int (Int32.ofNat n)), fmt] ∧ Z.Warmed39 U.vm ∧ U.heap = h0) (fun _ _ _ _ _ => True) (fun _ U o U' => ∃ v L, o = .returned v ∧ Q_rmPCk Z fmt i n h0 n0 v U'.heap L ∧ FrameEnd U o U' L ({ frames := 0, cells := 0, slots := 0, locals := 0 } : Room).cells ({ frames := 0, cells := 0, slots := 0, locals := 0 } : Room).slots) := by
  refine MetFree.of_bodySF (plainFor_of_name pn_jdk_internal_util_Preconditions) hisR ?_
  intro p e s m args below meth c s₁ Bd hml0 hP hK
  obtain ⟨rfl, hZ, hh⟩ := hP
  have hx := Bd.exec
  have hby := Bd.bytes
  have hml : c.maxLocals = 3 := hml0
  have hown : s.vm.findClass "jdk/internal/util/Preconditions" = some m.cls := findClass_of_methodNamed Bd.named
  have hnm := (name_of_methodNamed Bd.named Bd.method).1
  have X0 : Stand p l e ({ frames := 0, cells := 0, slots := 0, locals := 0 } : Room) s m #[(.int (Int32.ofNat i)), (.int (Int32.ofNat n)), fmt] below meth c s₁ [] 0 0 := Stand.of_body Bd
  have e0 : s₁.heap = h0 := by rw [← hh, Bd.state]; rfl
  have N0 := Fr.nil n0
  have pre0 : ∀ t_, Steps p.tables e below (s₁.setTop (mkF m 0 #[.val (.int (Int32.ofNat i)), .val (.int (Int32.ofNat n)), .val fmt] [])) t_ → Steps p.tables e below (s₁.setTop (entryFrame m #[(.int (Int32.ofNat i)), (.int (Int32.ofNat n)), fmt] 3)) t_ := fun t_ k_ => castTop (ef_rmPCk m (Int32.ofNat i) (Int32.ofNat n) fmt hfmt) k_
  have s1 : ∀ t_, Steps p.tables e below (s₁.setTop (mkF m 17 #[.val (.int (Int32.ofNat i)), .val (.int (Int32.ofNat n)), .val fmt] [(.int (Int32.ofNat i))])) t_ → Steps p.tables e below (s₁.setTop (entryFrame m #[(.int (Int32.ofNat i)), (.int (Int32.ofNat n)), fmt] 3)) t_ := fun t_ k_ => pre0 t_ (by
    show Steps p.tables e below (s₁.setTop (mkF m 0 #[.val (.int (Int32.ofNat i)), .val (.int (Int32.ofNat n)), .val fmt] [])) t_
    refine XS.iloadN X0.here hx rfl (Jvm.hb hby d_jdk_41_method_11_0) rfl ?_
    refine XS.ifNo X0.here hx rfl (Jvm.hb hby d_jdk_41_method_11_1) rfl ((if0 _ _).trans (flt (own_nn (by omega))).1) ?_
    show Steps p.tables e below (s₁.setTop (mkF m 4 #[.val (.int (Int32.ofNat i)), .val (.int (Int32.ofNat n)), .val fmt] [])) _
    refine XS.iloadN X0.here hx rfl (Jvm.hb hby d_jdk_41_method_11_4) rfl ?_
    refine XS.iloadN X0.here hx rfl (Jvm.hb hby d_jdk_41_method_11_5) rfl ?_
    refine XS.icmpYes X0.here hx rfl (pc0 := 6) (pc' := 16) rfl (Jvm.hb hby d_jdk_41_method_11_6) rfl (tlt (own_lt (by omega) (by omega))).1 (by decide) (by decide) ?_
    show Steps p.tables e below (s₁.setTop (mkF m 16 #[.val (.int (Int32.ofNat i)), .val (.int (Int32.ofNat n)), .val fmt] [])) _
    refine XS.iloadN X0.here hx rfl (Jvm.hb hby d_jdk_41_method_11_16) rfl ?_
    show Steps p.tables e below (s₁.setTop (mkF m 17 #[.val (.int (Int32.ofNat i)), .val (.int (Int32.ofNat n)), .val fmt] [(.int (Int32.ofNat i))])) t_
    exact k_)
  obtain ⟨fs, hr, hrun, hended, hW, hsame⟩ := X0.leave (v := some (.int (Int32.ofNat i))) (fun h => by rw [Bd.returns] at h; cases h)
  refine ⟨_, _, s1 _ ?_, hrun, hended, _, _, rfl, ?_, ⟨_, rfl⟩, hW, hsame.mono (by decide) (by decide)⟩
  · show Steps p.tables e below (s₁.setTop (mkF m 17 #[.val (.int (Int32.ofNat i)), .val (.int (Int32.ofNat n)), .val fmt] [(.int (Int32.ofNat i))])) _
    exact retI X0 hx Bd.returns (Jvm.hb hby d_jdk_41_method_11_17) hr
  · show Q_rmPCk Z _ _ _ h0 n0 _ s₁.heap _
    rw [e0]
    exact ⟨rfl, N0, rfl⟩
theorem d_jdk_42_method_155_0 : decode jdk_42_method_155_code 0 = .ok (.iload_n 0, 1) := by decide +kernel
theorem d_jdk_42_method_155_1 : decode jdk_42_method_155_code 1 = .ok (.iload_n 1, 1) := by decide +kernel
theorem d_jdk_42_method_155_2 : decode jdk_42_method_155_code 2 = .ok (.getstatic 1053, 3) := by decide +kernel
theorem pd__IILjava_util_function_BiFunction__I : parseMethodDescriptor "(IILjava/util/function/BiFunction;)I" = some ⟨[.int, .int, (.object "java/util/function/BiFunction")], some .int⟩ := by decide +kernel
theorem d_jdk_42_method_155_5 : decode jdk_42_method_155_code 5 = .ok (.invokestatic 1059, 3) := by decide +kernel
theorem d_jdk_42_method_155_8 : decode jdk_42_method_155_code 8 = .ok (.pop, 1) := by decide +kernel
theorem d_jdk_42_method_155_9 : decode jdk_42_method_155_code 9 = .ok (.return_, 1) := by decide +kernel
theorem ef_rmSCk (m : MethodId) (x0 : Int32) (x1 : Int32) : entryFrame m #[(.int x0), (.int x1)] 2 = mkF m 0 #[.val (.int x0), .val (.int x1)] [] := by first | (simp [entryFrame, mkF, argsToLocals, Value.category]; done) | rfl
def Q_rmSCk (Z : State) (i : Nat) (n : Nat) (fmt : Value) (h0 : Heap) (n0 : Nat) (v : Option Value) (h : Heap) (L : List Loc) : Prop := (v = none) ∧ (Fr n0 L) ∧ (h = h0)
set_option maxRecDepth 65536 in
set_option maxHeartbeats 40000000 in
theorem rmSCk (l : Launch) (Z : State) (a0 : Array Value) (hw : ∀ d ∈ tables_1, d.before a0 Z = true) (ws : List Jvm.Cond) (i : Nat) (n : Nat) (fmt : Value) (h0 : Heap) (n0 : Nat) (Z0 : n0 ≤ h0.size) (hfmt : fmt.isRef = true) (I1 : Sta Z Z.heap "jdk/internal/util/Preconditions" "SIOOBE_FORMATTER" "Ljava/util/function/BiFunction;" fmt) (OX : Old Z n0 h0) (hin : i < n) (hn8 : n ≤ 8000) :
    MetFree l (⟨"java/lang/String", "checkIndex", "(II)V"⟩ : MethodName) (head1 (Jvm.Cond.code (⟨"java/lang/String", "checkIndex", "(II)V"⟩ : MethodName) jdk_42_method_155_code 2 none :: ws) ({ frames := 1, cells := 0, slots := 0, locals := 14 } : Room)) (fun ar_ U => ar_ = #[(.int (Int32.ofNat i)), (.int (Int32.ofNat n))] ∧ Z.Warmed39 U.vm ∧ U.heap = h0) (fun _ _ _ _ _ => True) (fun _ U o U' => ∃ v L, o = .returned v ∧ Q_rmSCk Z i n fmt h0 n0 v U'.heap L ∧ FrameEnd U o U' L ({ frames := 1, cells := 0, slots := 0, locals := 14 } : Room).cells ({ frames := 1, cells := 0, slots := 0, locals := 14 } : Room).slots) := by
  refine MetFree.of_bodySF (plainFor_of_name pn_java_lang_String) hisR ?_
  intro p e s m args below meth c s₁ Bd hml0 hP hK
  obtain ⟨rfl, hZ, hh⟩ := hP
  have hx := Bd.exec
  have hby := Bd.bytes
  have hml : c.maxLocals = 2 := hml0
  have hown : s.vm.findClass "java/lang/String" = some m.cls := findClass_of_methodNamed Bd.named
  have hnm := (name_of_methodNamed Bd.named Bd.method).1
  have X0 : Stand p l e ({ frames := 1, cells := 0, slots := 0, locals := 14 } : Room) s m #[(.int (Int32.ofNat i)), (.int (Int32.ofNat n))] below meth c s₁ [] 0 0 := Stand.of_body Bd
  have e0 : s₁.heap = h0 := by rw [← hh, Bd.state]; rfl
  have N0 := Fr.nil n0
  have pre0 : ∀ t_, Steps p.tables e below (s₁.setTop (mkF m 0 #[.val (.int (Int32.ofNat i)), .val (.int (Int32.ofNat n))] [])) t_ → Steps p.tables e below (s₁.setTop (entryFrame m #[(.int (Int32.ofNat i)), (.int (Int32.ofNat n))] 2)) t_ := fun t_ k_ => castTop (ef_rmSCk m (Int32.ofNat i) (Int32.ofNat n)) k_
  obtain ⟨T1, X1, e1, st1⟩ := getS2 X0 hx hZ hown (host := "") (Or.inl (hw _ (List.mem_of_getElem? (i := 88) rfl))) Via.refl e0 (I1.ext OX.2) (g := (mkF m 2 #[.val (.int (Int32.ofNat i)), .val (.int (Int32.ofNat n))] [(.int (Int32.ofNat n)), (.int (Int32.ofNat i))])) rfl (Jvm.hb hby d_jdk_42_method_155_2)
  have Zc2 : n0 ≤ h0.size := by omega
  obtain ⟨_, _, ⟨T3, L3, k3, n3⟩, -, X3, ⟨Lc3, hQ3, l3, y3, z3⟩, st3⟩ := Jvm.LawKit.callS X1 hx (y := (⟨"jdk/internal/util/Preconditions", "checkIndex", "(IILjava/util/function/BiFunction;)I"⟩ : MethodName)) hown (mvT hZ (hw _ (List.mem_of_getElem? (i := 90) rfl))) (mvT hZ (hw _ (List.mem_of_getElem? (i := 91) rfl))) (mvT hZ (hw _ (List.mem_of_getElem? (i := 89) rfl))) (mvT hZ (hw _ (List.mem_of_getElem? (i := 92) rfl))) (by decide) (backOf (W := 0) (rmPCk l Z a0 hw [] fmt i n h0 n0 Zc2 (hfmt : fmt.isRef = true) (hin : i < n) (hn8 : n ≤ 8000)) hZ (hw _ (List.mem_of_getElem? (i := 92) rfl)) (hw _ (List.mem_of_getElem? (i := 89) rfl)) (by decide) (by decide)) (g := (mkF m 5 #[.val (.int (Int32.ofNat i)), .val (.int (Int32.ofNat n))] [fmt, (.int (Int32.ofNat n)), (.int (Int32.ofNat i))])) rfl (by rw [hml]; rfl) (argsL := [(.int (Int32.ofNat i)), (.int (Int32.ofNat n)), fmt]) (rest := []) (lenOf pd__IILjava_util_function_BiFunction__I rfl) rfl (by show 2 * 0 + _ ≤ _; exact Nat.le_of_eq rfl) (Jvm.hb hby d_jdk_42_method_155_5) (fun _ _ => ⟨rfl, e1, (by decide : 0 + 0 ≤ _), (by decide : 0 + 0 ≤ _)⟩)
  dsimp only [Pt.U, Pt.locs, Pt.cells, Pt.slots] at X3 l3 y3 z3 st3 hQ3
  subst l3 y3 z3
  obtain ⟨rfl, N3q, e3⟩ := hQ3
  have N3 := Fr.app N0 N3q
  have s4 : ∀ t_, Steps p.tables e below (T3.setTop (mkF m 9 #[.val (.int (Int32.ofNat i)), .val (.int (Int32.ofNat n))] [])) t_ → Steps p.tables e below (s₁.setTop (entryFrame m #[(.int (Int32.ofNat i)), (.int (Int32.ofNat n))] 2)) t_ := fun t_ k_ => pre0 t_ (by
    show Steps p.tables e below (s₁.setTop (mkF m 0 #[.val (.int (Int32.ofNat i)), .val (.int (Int32.ofNat n))] [])) t_
    refine XS.iloadN X0.here hx rfl (Jvm.hb hby d_jdk_42_method_155_0) rfl ?_
    refine XS.iloadN X0.here hx rfl (Jvm.hb hby d_jdk_42_method_155_1) rfl ?_
    refine st1 _ ?_
    show Steps p.tables e below (T1.setTop (mkF m 5 #[.val (.int (Int32.ofNat i)), .val (.int (Int32.ofNat n))] [fmt, (.int (Int32.ofNat n)), (.int (Int32.ofNat i))])) _
    refine st3 _ ?_
    show Steps p.tables e below (T3.setTop (mkF m 8 #[.val (.int (Int32.ofNat i)), .val (.int (Int32.ofNat n))] [(.int (Int32.ofNat i))])) _
    refine XS.pop X3.here hx rfl (Jvm.hb hby d_jdk_42_method_155_8) rfl rfl ?_
    show Steps p.tables e below (T3.setTop (mkF m 9 #[.val (.int (Int32.ofNat i)), .val (.int (Int32.ofNat n))] [])) t_
    exact k_)
  obtain ⟨fs, hr, hrun, hended, hW, hsame⟩ := X3.leave (v := none) (fun _ => rfl)
  refine ⟨_, _, s4 _ ?_, hrun, hended, _, _, rfl, ?_, ⟨_, rfl⟩, hW, hsame.mono (by decide) (by decide)⟩
  · show Steps p.tables e below (T3.setTop (mkF m 9 #[.val (.int (Int32.ofNat i)), .val (.int (Int32.ofNat n))] [])) _
    exact X3.returnOut hx Bd.returns (Jvm.hb hby d_jdk_42_method_155_9) hr
  · show Q_rmSCk Z _ _ _ h0 n0 _ T3.heap _
    rw [e3]
    exact ⟨rfl, N3, rfl⟩
theorem pn_java_lang_StringLatin1 : plainName "java/lang/StringLatin1" = true := by first | (simp [plainName, overriddenIn]; done) | decide +kernel
theorem d_jdk_43_method_2_0 : decode jdk_43_method_2_code 0 = .ok (.iload_n 1, 1) := by decide +kernel
theorem d_jdk_43_method_2_1 : decode jdk_43_method_2_code 1 = .ok (.aload_n 0, 1) := by decide +kernel
theorem d_jdk_43_method_2_2 : decode jdk_43_method_2_code 2 = .ok (.arraylength, 1) := by decide +kernel
theorem pd__II_V : parseMethodDescriptor "(II)V" = some ⟨[.int, .int], none⟩ := by decide +kernel
theorem d_jdk_43_method_2_3 : decode jdk_43_method_2_code 3 = .ok (.invokestatic 9, 3) := by decide +kernel
theorem d_jdk_43_method_2_6 : decode jdk_43_method_2_code 6 = .ok (.aload_n 0, 1) := by decide +kernel
theorem d_jdk_43_method_2_7 : decode jdk_43_method_2_code 7 = .ok (.iload_n 1, 1) := by decide +kernel
theorem d_jdk_43_method_2_8 : decode jdk_43_method_2_code 8 = .ok (.baload, 1) := by decide +kernel
theorem d_jdk_43_method_2_9 : decode jdk_43_method_2_code 9 = .ok (.sipush 255, 3) := by decide +kernel
theorem d_jdk_43_method_2_12 : decode jdk_43_method_2_code 12 = .ok (.iand, 1) := by decide +kernel
theorem d_jdk_43_method_2_13 : decode jdk_43_method_2_code 13 = .ok (.i2c, 1) := by decide +kernel
theorem d_jdk_43_method_2_14 : decode jdk_43_method_2_code 14 = .ok (.ireturn, 1) := by decide +kernel
theorem ef_rmLCh (m : MethodId) (x0 : Addr) (x1 : Int32) : entryFrame m #[(.ref x0), (.int x1)] 2 = mkF m 0 #[.val (.ref x0), .val (.int x1)] [] := by first | (simp [entryFrame, mkF, argsToLocals, Value.category]; done) | rfl
def Q_rmLCh (Z : State) (b : Addr) (kb : ClassId) (cs : List Int32) (i : Nat) (fmt : Value) (h0 : Heap) (n0 : Nat) (v : Option Value) (h : Heap) (L : List Loc) : Prop := (v = some (.int (cs.getD i 0))) ∧ (Fr n0 L) ∧ (h = h0)
set_option maxRecDepth 65536 in
set_option maxHeartbeats 40000000 in
theorem rmLCh (l : Launch) (Z : State) (a0 : Array Value) (hw : ∀ d ∈ tables_1, d.before a0 Z = true) (ws : List Jvm.Cond) (b : Addr) (kb : ClassId) (cs : List Int32) (i : Nat) (fmt : Value) (h0 : Heap) (n0 : Nat) (Z0 : n0 ≤ h0.size) (hfmt : fmt.isRef = true) (I1 : Sta Z Z.heap "jdk/internal/util/Preconditions" "SIOOBE_FORMATTER" "Ljava/util/function/BiFunction;" fmt) (OX : Old Z n0 h0) (I2 : Arv Z h0 b kb .byte (Int32.ofNat cs.length) (own_enc cs) (.int (0 : Int32))) (hb : cs.length ≤ 3) (hi : i < cs.length) (hlat : own_lat cs) (hchs : own_chs cs) :
    MetFree l (⟨"java/lang/StringLatin1", "charAt", "([BI)C"⟩ : MethodName) (head1 (Jvm.Cond.code (⟨"java/lang/StringLatin1", "charAt", "([BI)C"⟩ : MethodName) jdk_43_method_2_code 2 (some .char) :: ws) ({ frames := 2, cells := 0, slots := 0, locals := 27 } : Room)) (fun ar_ U => ar_ = #[(.ref b), (.int (Int32.ofNat i))] ∧ Z.Warmed39 U.vm ∧ U.heap = h0) (fun _ _ _ _ _ => True) (fun _ U o U' => ∃ v L, o = .returned v ∧ Q_rmLCh Z b kb cs i fmt h0 n0 v U'.heap L ∧ FrameEnd U o U' L ({ frames := 2, cells := 0, slots := 0, locals := 27 } : Room).cells ({ frames := 2, cells := 0, slots := 0, locals := 27 } : Room).slots) := by
  refine MetFree.of_bodySF (plainFor_of_name pn_java_lang_StringLatin1) hisR ?_
  intro p e s m args below meth c s₁ Bd hml0 hP hK
  obtain ⟨rfl, hZ, hh⟩ := hP
  have hx := Bd.exec
  have hby := Bd.bytes
  have hml : c.maxLocals = 2 := hml0
  have hown : s.vm.findClass "java/lang/StringLatin1" = some m.cls := findClass_of_methodNamed Bd.named
  have hnm := (name_of_methodNamed Bd.named Bd.method).1
  have X0 : Stand p l e ({ frames := 2, cells := 0, slots := 0, locals := 27 } : Room) s m #[(.ref b), (.int (Int32.ofNat i))] below meth c s₁ [] 0 0 := Stand.of_body Bd
  have e0 : s₁.heap = h0 := by rw [← hh, Bd.state]; rfl
  have N0 := Fr.nil n0
  have pre0 : ∀ t_, Steps p.tables e below (s₁.setTop (mkF m 0 #[.val (.ref b), .val (.int (Int32.ofNat i))] [])) t_ → Steps p.tables e below (s₁.setTop (entryFrame m #[(.ref b), (.int (Int32.ofNat i))] 2)) t_ := fun t_ k_ => castTop (ef_rmLCh m b (Int32.ofNat i)) k_
  have lt_I2 : @LT.lt Nat _ b h0.size := I2.lt
  obtain ⟨cl1, Ar1, -, S1, M1, -, -⟩ := id I2
  have Zc2 : n0 ≤ h0.size := by omega
  obtain ⟨_, _, ⟨T3, L3, k3, n3⟩, -, X3, ⟨Lc3, hQ3, l3, y3, z3⟩, st3⟩ := Jvm.LawKit.callS X0 hx (y := (⟨"java/lang/String", "checkIndex", "(II)V"⟩ : MethodName)) hown (mvT hZ (hw _ (List.mem_of_getElem? (i := 85) rfl))) (mvT hZ (hw _ (List.mem_of_getElem? (i := 86) rfl))) (mvT hZ (hw _ (List.mem_of_getElem? (i := 12) rfl))) (mvT hZ (hw _ (List.mem_of_getElem? (i := 87) rfl))) (by decide) (backOf (W := 0) (rmSCk l Z a0 hw [] i cs.length fmt h0 n0 Zc2 (hfmt : fmt.isRef = true) I1 OX hi (by first | assumption | omega | rfl | decide : cs.length ≤ 8000)) hZ (hw _ (List.mem_of_getElem? (i := 87) rfl)) (hw _ (List.mem_of_getElem? (i := 12) rfl)) (by decide) (by decide)) (g := (mkF m 3 #[.val (.ref b), .val (.int (Int32.ofNat i))] [(.int (Int32.ofNat cs.length)), (.int (Int32.ofNat i))])) rfl (by rw [hml]; rfl) (argsL := [(.int (Int32.ofNat i)), (.int (Int32.ofNat cs.length))]) (rest := []) (lenOf pd__II_V rfl) rfl (by show 2 * 0 + _ ≤ _; exact Nat.le_of_eq rfl) (Jvm.hb hby d_jdk_43_method_2_3) (fun _ _ => ⟨rfl, e0, (by decide : 0 + 0 ≤ _), (by decide : 0 + 0 ≤ _)⟩)
  dsimp only [Pt.U, Pt.locs, Pt.cells, Pt.slots] at X3 l3 y3 z3 st3 hQ3
  subst l3 y3 z3
  obtain ⟨rfl, N3q, e3⟩ := hQ3
  have N3 := Fr.app N0 N3q
  obtain ⟨cl4, Ar4, -, S4, M4, H4, -⟩ := id I2
  have hin4 : ¬ ((Int32.ofNat i) < 0 ∨ cl4.slots.size ≤ ((Int32.ofNat i)).toNatClampNeg) := inb_of S4 (own_in hi (by omega))
  have hat4 : cl4.slots[((Int32.ofNat i)).toNatClampNeg]? = some (.int (own_lo (cs.getD i 0))) := H4.at hin4 (own_geth cs i _ hlat hi (by omega))
  have s5 : ∀ t_, Steps p.tables e below (T3.setTop (mkF m 14 #[.val (.ref b), .val (.int (Int32.ofNat i))] [(.int (i2c ((own_lo (cs.getD i 0)) &&& (255 : Int32))))])) t_ → Steps p.tables e below (s₁.setTop (entryFrame m #[(.ref b), (.int (Int32.ofNat i))] 2)) t_ := fun t_ k_ => pre0 t_ (by
    show Steps p.tables e below (s₁.setTop (mkF m 0 #[.val (.ref b), .val (.int (Int32.ofNat i))] [])) t_
    refine XS.iloadN X0.here hx rfl (Jvm.hb hby d_jdk_43_method_2_0) rfl ?_
    refine XS.aloadN X0.here hx rfl (Jvm.hb hby d_jdk_43_method_2_1) rfl rfl ?_
    refine X0.arraylength hx (by rw [e0]; exact Ar1.1) (State.isArrayOf_alike hZ.alike Ar1.2.1) (g := (mkF m 2 #[.val (.ref b), .val (.int (Int32.ofNat i))] [(.ref b), (.int (Int32.ofNat i))])) rfl rfl (Jvm.hb hby d_jdk_43_method_2_2) _ ?_
    rw [len_of S1 M1]
    show Steps p.tables e below (s₁.setTop (mkF m 3 #[.val (.ref b), .val (.int (Int32.ofNat i))] [(.int (Int32.ofNat cs.length)), (.int (Int32.ofNat i))])) _
    refine st3 _ ?_
    show Steps p.tables e below (T3.setTop (mkF m 6 #[.val (.ref b), .val (.int (Int32.ofNat i))] [])) _
    refine XS.aloadN X3.here hx rfl (Jvm.hb hby d_jdk_43_method_2_6) rfl rfl ?_
    refine XS.iloadN X3.here hx rfl (Jvm.hb hby d_jdk_43_method_2_7) rfl ?_
    refine X3.baloadBytes hx (j := (Int32.ofNat i)) (v := (.int (own_lo (cs.getD i 0)))) (by rw [e3]; exact Ar4.1) (State.isArrayOf_alike hZ.alike Ar4.2.1) Ar4.2.2 hin4 hat4 (g := (mkF m 8 #[.val (.ref b), .val (.int (Int32.ofNat i))] [(.int (Int32.ofNat i)), (.ref b)])) rfl rfl (Jvm.hb hby d_jdk_43_method_2_8) _ ?_
    show Steps p.tables e below (T3.setTop (mkF m 9 #[.val (.ref b), .val (.int (Int32.ofNat i))] [(.int (own_lo (cs.getD i 0)))])) _
    refine XS.sipush X3.here hx rfl (Jvm.hb hby d_jdk_43_method_2_9) ?_
    refine XS.iand X3.here hx rfl (Jvm.hb hby d_jdk_43_method_2_12) rfl ?_
    refine XS.i2c X3.here hx rfl (Jvm.hb hby d_jdk_43_method_2_13) rfl ?_
    show Steps p.tables e below (T3.setTop (mkF m 14 #[.val (.ref b), .val (.int (Int32.ofNat i))] [(.int (i2c ((own_lo (cs.getD i 0)) &&& (255 : Int32))))])) t_
    exact k_)
  obtain ⟨fs, hr, hrun, hended, hW, hsame⟩ := X3.leave (v := some (.int (nar .char (i2c ((own_lo (cs.getD i 0)) &&& (255 : Int32)))))) (fun h => by rw [Bd.returns] at h; cases h)
  refine ⟨_, _, s5 _ ?_, hrun, hended, _, _, rfl, ?_, ⟨_, rfl⟩, hW, hsame.mono (by decide) (by decide)⟩
  · show Steps p.tables e below (T3.setTop (mkF m 14 #[.val (.ref b), .val (.int (Int32.ofNat i))] [(.int (i2c ((own_lo (cs.getD i 0)) &&& (255 : Int32))))])) _
    exact retN X3 hx (t := .char) Bd.returns (by simp) (Jvm.hb hby d_jdk_43_method_2_14) hr
  · show Q_rmLCh Z _ _ _ _ _ h0 n0 _ T3.heap _
    rw [e3]
    exact ⟨(by rw [own_chr (hchs _ (own_mem cs i hi)).1 (hlat _ (own_mem cs i hi))]), N3, rfl⟩
theorem d_jdk_42_method_56_0 : decode jdk_42_method_56_code 0 = .ok (.aload_n 0, 1) := by decide +kernel
theorem pd___Z : parseMethodDescriptor "()Z" = some ⟨[], some .boolean⟩ := by decide +kernel
theorem d_jdk_42_method_56_1 : decode jdk_42_method_56_code 1 = .ok (.invokevirtual 492, 3) := by decide +kernel
theorem d_jdk_42_method_56_4 : decode jdk_42_method_56_code 4 = .ok (.ifCond .eq 12, 3) := by decide +kernel
theorem d_jdk_42_method_56_7 : decode jdk_42_method_56_code 7 = .ok (.aload_n 0, 1) := by decide +kernel
theorem d_jdk_42_method_56_8 : decode jdk_42_method_56_code 8 = .ok (.getfield 9, 3) := by decide +kernel
theorem d_jdk_42_method_56_11 : decode jdk_42_method_56_code 11 = .ok (.iload_n 1, 1) := by decide +kernel
theorem pd___BI_C : parseMethodDescriptor "([BI)C" = some ⟨[(.array .byte), .int], some .char⟩ := by decide +kernel
theorem d_jdk_42_method_56_12 : decode jdk_42_method_56_code 12 = .ok (.invokestatic 495, 3) := by decide +kernel
theorem d_jdk_42_method_56_15 : decode jdk_42_method_56_code 15 = .ok (.ireturn, 1) := by decide +kernel
theorem ef_rmChA (m : MethodId) (x0 : Addr) (x1 : Int32) : entryFrame m #[(.ref x0), (.int x1)] 2 = mkF m 0 #[.val (.ref x0), .val (.int x1)] [] := by first | (simp [entryFrame, mkF, argsToLocals, Value.category]; done) | rfl
def Q_rmChA (Z : State) (a : Addr) (cst : Int32) (b : Addr) (kb : ClassId) (cs : List Int32) (i : Nat) (fmt : Value) (h0 : Heap) (n0 : Nat) (v : Option Value) (h : Heap) (L : List Loc) : Prop := (v = some (.int (cs.getD i 0))) ∧ (Fr n0 L) ∧ (h = h0)
set_option maxRecDepth 65536 in
set_option maxHeartbeats 40000000 in
theorem rmChA (l : Launch) (Z : State) (a0 : Array Value) (hw : ∀ d ∈ tables_1, d.before a0 Z = true) (ws : List Jvm.Cond) (a : Addr) (cst : Int32) (b : Addr) (kb : ClassId) (cs : List Int32) (i : Nat) (fmt : Value) (h0 : Heap) (n0 : Nat) (Z0 : n0 ≤ h0.size) (I1 : Sta Z Z.heap "java/lang/String" "COMPACT_STRINGS" "Z" (.int cst)) (hfmt : fmt.isRef = true) (I2 : Sta Z Z.heap "jdk/internal/util/Preconditions" "SIOOBE_FORMATTER" "Ljava/util/function/BiFunction;" fmt) (OX : Old Z n0 h0) (hcst : ¬ (cst = (0 : Int32))) (I3 : Exa Z h0 a "java/lang/String") (I4 : Fld Z h0 a "java/lang/String" "value" "[B" (.ref b)) (I5 : Fld Z h0 a "java/lang/String" "coder" "B" (.int (own_cod cs))) (I6 : Arv Z h0 b kb .byte (Int32.ofNat (own_enl cs)) (own_enc cs) (.int (0 : Int32))) (hb : cs.length ≤ 3) (hi : i < cs.length) (hchs : own_chs cs) (hlat : own_lat cs) :
    MetFree l (⟨"java/lang/String", "charAt", "(I)C"⟩ : MethodName) (head1 (Jvm.Cond.code (⟨"java/lang/String", "charAt", "(I)C"⟩ : MethodName) jdk_42_method_56_code 2 (some .char) :: ws) ({ frames := 3, cells := 0, slots := 0, locals := 40 } : Room)) (fun ar_ U => ar_ = #[(.ref a), (.int (Int32.ofNat i))] ∧ Z.Warmed39 U.vm ∧ U.heap = h0) (fun _ _ _ _ _ => True) (fun _ U o U' => ∃ v L, o = .returned v ∧ Q_rmChA Z a cst b kb cs i fmt h0 n0 v U'.heap L ∧ FrameEnd U o U' L ({ frames := 3, cells := 0, slots := 0, locals := 40 } : Room).cells ({ frames := 3, cells := 0, slots := 0, locals := 40 } : Room).slots) := by
  refine MetFree.of_bodySF (plainFor_of_name pn_java_lang_String) hisR ?_
  intro p e s m args below meth c s₁ Bd hml0 hP hK
  obtain ⟨rfl, hZ, hh⟩ := hP
  have hx := Bd.exec
  have hby := Bd.bytes
  have hml : c.maxLocals = 2 := hml0
  have hown : s.vm.findClass "java/lang/String" = some m.cls := findClass_of_methodNamed Bd.named
  have hnm := (name_of_methodNamed Bd.named Bd.method).1
  have X0 : Stand p l e ({ frames := 3, cells := 0, slots := 0, locals := 40 } : Room) s m #[(.ref a), (.int (Int32.ofNat i))] below meth c s₁ [] 0 0 := Stand.of_body Bd
  have e0 : s₁.heap = h0 := by rw [← hh, Bd.state]; rfl
  have N0 := Fr.nil n0
  have pre0 : ∀ t_, Steps p.tables e below (s₁.setTop (mkF m 0 #[.val (.ref a), .val (.int (Int32.ofNat i))] [])) t_ → Steps p.tables e below (s₁.setTop (entryFrame m #[(.ref a), (.int (Int32.ofNat i))] 2)) t_ := fun t_ k_ => castTop (ef_rmChA m a (Int32.ofNat i)) k_
  have lt_I3 : @LT.lt Nat _ a h0.size := I3.lt
  have lt_I4 : @LT.lt Nat _ a h0.size := I4.lt
  have lt_I5 : @LT.lt Nat _ a h0.size := I5.lt
  have lt_I6 : @LT.lt Nat _ b h0.size := I6.lt
  have Zc1 : n0 ≤ h0.size := by omega
  obtain ⟨cq2, kq2, q2a, q2b, q2c⟩ := isOf hZ e0 I3
  obtain ⟨_, _, ⟨T2, L2, k2, n2⟩, -, X2, ⟨Lc2, hQ2, l2, y2, z2⟩, st2⟩ := X0.virtualBack hx (y := (⟨"java/lang/String", "isLatin1", "()Z"⟩ : MethodName)) (z := (⟨"java/lang/String", "isLatin1", "()Z"⟩ : MethodName)) hown (mvT hZ (hw _ (List.mem_of_getElem? (i := 76) rfl))) (mvT hZ (hw _ (List.mem_of_getElem? (i := 77) rfl))) (notFace_of_selects (args := #[]) (mvT hZ (hw _ (List.mem_of_getElem? (i := 79) rfl)))) (mvT hZ (hw _ (List.mem_of_getElem? (i := 79) rfl))) (mvT hZ (hw _ (List.mem_of_getElem? (i := 78) rfl))) (by decide) (backOf (W := 0) (rmIsL l Z a0 hw [] a cst cs h0 n0 Zc1 I1 OX (hcst : ¬ (cst = (0 : Int32))) I5) hZ (hw _ (List.mem_of_getElem? (i := 80) rfl)) (hw _ (List.mem_of_getElem? (i := 12) rfl)) (by decide) (by decide)) q2a q2c (g := (mkF m 1 #[.val (.ref a), .val (.int (Int32.ofNat i))] [(.ref a)])) rfl (by rw [hml]; rfl) (Steps.refl _) (argsL := []) (rest := []) (lenOf pd___Z rfl) rfl (by show 2 * 0 + _ ≤ _; exact Nat.le_of_eq rfl) (Jvm.hb hby d_jdk_42_method_56_1) (fun _ _ => ⟨rfl, e0, (by decide : 0 + 0 ≤ _), (by decide : 0 + 0 ≤ _)⟩)
  dsimp only [Pt.U, Pt.locs, Pt.cells, Pt.slots] at X2 l2 y2 z2 st2 hQ2
  subst l2 y2 z2
  obtain ⟨rfl, N2q, e2⟩ := hQ2
  have N2 := Fr.app N0 N2q
  obtain ⟨T3, X3, e3, st3⟩ := getF X2 hx hZ hown (host := "") (Or.inl (hw _ (List.mem_of_getElem? (i := 38) rfl))) Via.refl e2 I4 (g := (mkF m 8 #[.val (.ref a), .val (.int (Int32.ofNat i))] [(.ref a)])) rfl rfl (Jvm.hb hby d_jdk_42_method_56_8)
  have V4 : Arv Z h0 b kb .byte (Int32.ofNat cs.length) (own_enc cs) (.int (0 : Int32)) := by have q := I6; rw [own_enl, if_pos hlat] at q; exact q
  have Zc5 : n0 ≤ h0.size := by omega
  obtain ⟨_, _, ⟨T6, L6, k6, n6⟩, -, X6, ⟨Lc6, hQ6, l6, y6, z6⟩, st6⟩ := Jvm.LawKit.callS X3 hx (y := (⟨"java/lang/StringLatin1", "charAt", "([BI)C"⟩ : MethodName)) hown (mvT hZ (hw _ (List.mem_of_getElem? (i := 81) rfl))) (mvT hZ (hw _ (List.mem_of_getElem? (i := 82) rfl))) (mvT hZ (hw _ (List.mem_of_getElem? (i := 83) rfl))) (mvT hZ (hw _ (List.mem_of_getElem? (i := 84) rfl))) (by decide) (backOf (W := 0) (rmLCh l Z a0 hw [] b kb cs i fmt h0 n0 Zc5 (hfmt : fmt.isRef = true) I2 OX V4 (hb : cs.length ≤ 3) (hi : i < cs.length) (hlat : own_lat cs) (hchs : own_chs cs)) hZ (hw _ (List.mem_of_getElem? (i := 84) rfl)) (hw _ (List.mem_of_getElem? (i := 83) rfl)) (by decide) (by decide)) (g := (mkF m 12 #[.val (.ref a), .val (.int (Int32.ofNat i))] [(.int (Int32.ofNat i)), (.ref b)])) rfl (by rw [hml]; rfl) (argsL := [(.ref b), (.int (Int32.ofNat i))]) (rest := []) (lenOf pd___BI_C rfl) rfl (by show 2 * 0 + _ ≤ _; exact Nat.le_of_eq rfl) (Jvm.hb hby d_jdk_42_method_56_12) (fun _ _ => ⟨rfl, e3, (by decide : 0 + 0 ≤ _), (by decide : 0 + 0 ≤ _)⟩)
  dsimp only [Pt.U, Pt.locs, Pt.cells, Pt.slots] at X6 l6 y6 z6 st6 hQ6
  subst l6 y6 z6
  obtain ⟨rfl, N6q, e6⟩ := hQ6
  have N6 := Fr.app N2 N6q
  have s7 : ∀ t_, Steps p.tables e below (T6.setTop (mkF m 15 #[.val (.ref a), .val (.int (Int32.ofNat i))] [(.int (cs.getD i 0))])) t_ → Steps p.tables e below (s₁.setTop (entryFrame m #[(.ref a), (.int (Int32.ofNat i))] 2)) t_ := fun t_ k_ => pre0 t_ (by
    show Steps p.tables e below (s₁.setTop (mkF m 0 #[.val (.ref a), .val (.int (Int32.ofNat i))] [])) t_
    refine XS.aloadN X0.here hx rfl (Jvm.hb hby d_jdk_42_method_56_0) rfl rfl ?_
    refine st2.trans ?_
    show Steps p.tables e below (T2.setTop (mkF m 4 #[.val (.ref a), .val (.int (Int32.ofNat i))] [(.int (if own_cod cs = (0 : Int32) then (1 : Int32) else (0 : Int32)))])) _
    refine castTop (g' := (mkF m 4 #[.val (.ref a), .val (.int (Int32.ofNat i))] [(.int (1 : Int32))])) (by rw [if_pos (own_cod0 hlat)]) ?_
    show Steps p.tables e below (T2.setTop (mkF m 4 #[.val (.ref a), .val (.int (Int32.ofNat i))] [(.int (1 : Int32))])) _
    refine XS.ifNo X2.here hx rfl (Jvm.hb hby d_jdk_42_method_56_4) rfl ((if0 _ _).trans (feq (by decide : ¬ ((1 : Int32) = (0 : Int32)))).1) ?_
    show Steps p.tables e below (T2.setTop (mkF m 7 #[.val (.ref a), .val (.int (Int32.ofNat i))] [])) _
    refine XS.aloadN X2.here hx rfl (Jvm.hb hby d_jdk_42_method_56_7) rfl rfl ?_
    refine st3 _ ?_
    show Steps p.tables e below (T3.setTop (mkF m 11 #[.val (.ref a), .val (.int (Int32.ofNat i))] [(.ref b)])) _
    refine XS.iloadN X3.here hx rfl (Jvm.hb hby d_jdk_42_method_56_11) rfl ?_
    refine st6 _ ?_
    show Steps p.tables e below (T6.setTop (mkF m 15 #[.val (.ref a), .val (.int (Int32.ofNat i))] [(.int (cs.getD i 0))])) _
    show Steps p.tables e below (T6.setTop (mkF m 15 #[.val (.ref a), .val (.int (Int32.ofNat i))] [(.int (cs.getD i 0))])) t_
    exact k_)
  obtain ⟨fs, hr, hrun, hended, hW, hsame⟩ := X6.leave (v := some (.int (nar .char (cs.getD i 0)))) (fun h => by rw [Bd.returns] at h; cases h)
  refine ⟨_, _, s7 _ ?_, hrun, hended, _, _, rfl, ?_, ⟨_, rfl⟩, hW, hsame.mono (by decide) (by decide)⟩
  · show Steps p.tables e below (T6.setTop (mkF m 15 #[.val (.ref a), .val (.int (Int32.ofNat i))] [(.int (cs.getD i 0))])) _
    exact retN X6 hx (t := .char) Bd.returns (by simp) (Jvm.hb hby d_jdk_42_method_56_15) hr
  · show Q_rmChA Z _ _ _ _ _ _ _ h0 n0 _ T6.heap _
    rw [e6]
    exact ⟨(by rw [own_narc (hchs _ (own_mem cs i hi)).1 (hchs _ (own_mem cs i hi)).2]), N6, rfl⟩
theorem d_jdk_43_method_13_0 : decode jdk_43_method_13_code 0 = .ok (.aload_n 0, 1) := by decide +kernel
theorem d_jdk_43_method_13_1 : decode jdk_43_method_13_code 1 = .ok (.arraylength, 1) := by decide +kernel
theorem d_jdk_43_method_13_2 : decode jdk_43_method_13_code 2 = .ok (.aload_n 1, 1) := by decide +kernel
theorem d_jdk_43_method_13_3 : decode jdk_43_method_13_code 3 = .ok (.arraylength, 1) := by decide +kernel
theorem d_jdk_43_method_13_4 : decode jdk_43_method_13_code 4 = .ok (.if_icmp .ne 30, 3) := by decide +kernel
theorem d_jdk_43_method_13_7 : decode jdk_43_method_13_code 7 = .ok (.iconst 0, 1) := by decide +kernel
theorem d_jdk_43_method_13_8 : decode jdk_43_method_13_code 8 = .ok (.istore_n 2, 1) := by decide +kernel
theorem d_jdk_43_method_13_9 : decode jdk_43_method_13_code 9 = .ok (.iload_n 2, 1) := by decide +kernel
theorem d_jdk_43_method_13_10 : decode jdk_43_method_13_code 10 = .ok (.aload_n 0, 1) := by decide +kernel
theorem d_jdk_43_method_13_11 : decode jdk_43_method_13_code 11 = .ok (.arraylength, 1) := by decide +kernel
theorem d_jdk_43_method_13_12 : decode jdk_43_method_13_code 12 = .ok (.if_icmp .ge 20, 3) := by decide +kernel
theorem d_jdk_43_method_13_15 : decode jdk_43_method_13_code 15 = .ok (.aload_n 0, 1) := by decide +kernel
theorem d_jdk_43_method_13_16 : decode jdk_43_method_13_code 16 = .ok (.iload_n 2, 1) := by decide +kernel
theorem d_jdk_43_method_13_17 : decode jdk_43_method_13_code 17 = .ok (.baload, 1) := by decide +kernel
theorem d_jdk_43_method_13_18 : decode jdk_43_method_13_code 18 = .ok (.aload_n 1, 1) := by decide +kernel
theorem d_jdk_43_method_13_19 : decode jdk_43_method_13_code 19 = .ok (.iload_n 2, 1) := by decide +kernel
theorem d_jdk_43_method_13_20 : decode jdk_43_method_13_code 20 = .ok (.baload, 1) := by decide +kernel
theorem d_jdk_43_method_13_21 : decode jdk_43_method_13_code 21 = .ok (.if_icmp .eq 5, 3) := by decide +kernel
theorem d_jdk_43_method_13_26 : decode jdk_43_method_13_code 26 = .ok (.iinc 2 1, 3) := by decide +kernel
theorem d_jdk_43_method_13_29 : decode jdk_43_method_13_code 29 = .ok (.goto (-20), 3) := by decide +kernel
theorem d_jdk_43_method_13_32 : decode jdk_43_method_13_code 32 = .ok (.iconst 1, 1) := by decide +kernel
theorem d_jdk_43_method_13_33 : decode jdk_43_method_13_code 33 = .ok (.ireturn, 1) := by decide +kernel
theorem d_jdk_43_method_13_24 : decode jdk_43_method_13_code 24 = .ok (.iconst 0, 1) := by decide +kernel
theorem d_jdk_43_method_13_25 : decode jdk_43_method_13_code 25 = .ok (.ireturn, 1) := by decide +kernel
theorem d_jdk_43_method_13_34 : decode jdk_43_method_13_code 34 = .ok (.iconst 0, 1) := by decide +kernel
theorem d_jdk_43_method_13_35 : decode jdk_43_method_13_code 35 = .ok (.ireturn, 1) := by decide +kernel
theorem ef_rmLEq (m : MethodId) (x0 : Addr) (x1 : Addr) : entryFrame m #[(.ref x0), (.ref x1)] 3 = mkF m 0 #[.val (.ref x0), .val (.ref x1), .unset] [] := by first | (simp [entryFrame, mkF, argsToLocals, Value.category]; done) | rfl
def Q_rmLEq (Z : State) (bx : Addr) (by_ : Addr) (kx : ClassId) (ky : ClassId) (xs : List Int32) (ys : List Int32) (h0 : Heap) (n0 : Nat) (v : Option Value) (h : Heap) (L : List Loc) : Prop := (v = some (.int (if xs = ys then (1 : Int32) else (0 : Int32)))) ∧ (Fr n0 L) ∧ (h = h0)
set_option maxRecDepth 65536 in
set_option maxHeartbeats 40000000 in
theorem rmLEq (l : Launch) (Z : State) (a0 : Array Value) (hw : ∀ d ∈ tables_1, d.before a0 Z = true) (ws : List Jvm.Cond) (bx : Addr) (by_ : Addr) (kx : ClassId) (ky : ClassId) (xs : List Int32) (ys : List Int32) (h0 : Heap) (n0 : Nat) (Z0 : n0 ≤ h0.size) (I1 : Arv Z h0 bx kx .byte (Int32.ofNat xs.length) (xs.map Value.int) (.int (0 : Int32))) (I2 : Arv Z h0 by_ ky .byte (Int32.ofNat ys.length) (ys.map Value.int) (.int (0 : Int32))) (hb1 : xs.length ≤ 8000) (hb2 : ys.length ≤ 8000) :
    MetFree l (⟨"java/lang/StringLatin1", "equals", "([B[B)Z"⟩ : MethodName) (head1 (Jvm.Cond.code (⟨"java/lang/StringLatin1", "equals", "([B[B)Z"⟩ : MethodName) jdk_43_method_13_code 3 (some .boolean) :: ws) ({ frames := 0, cells := 0, slots := 0, locals := 0 } : Room)) (fun ar_ U => ar_ = #[(.ref bx), (.ref by_)] ∧ Z.Warmed39 U.vm ∧ U.heap = h0) (fun _ _ _ _ _ => True) (fun _ U o U' => ∃ v L, o = .returned v ∧ Q_rmLEq Z bx by_ kx ky xs ys h0 n0 v U'.heap L ∧ FrameEnd U o U' L ({ frames := 0, cells := 0, slots := 0, locals := 0 } : Room).cells ({ frames := 0, cells := 0, slots := 0, locals := 0 } : Room).slots) := by
  refine MetFree.of_bodySF (plainFor_of_name pn_java_lang_StringLatin1) hisR ?_
  intro p e s m args below meth c s₁ Bd hml0 hP hK
  obtain ⟨rfl, hZ, hh⟩ := hP
  have hx := Bd.exec
  have hby := Bd.bytes
  have hml : c.maxLocals = 3 := hml0
  have hown : s.vm.findClass "java/lang/StringLatin1" = some m.cls := findClass_of_methodNamed Bd.named
  have hnm := (name_of_methodNamed Bd.named Bd.method).1
  have X0 : Stand p l e ({ frames := 0, cells := 0, slots := 0, locals := 0 } : Room) s m #[(.ref bx), (.ref by_)] below meth c s₁ [] 0 0 := Stand.of_body Bd
  have e0 : s₁.heap = h0 := by rw [← hh, Bd.state]; rfl
  have N0 := Fr.nil n0
  have pre0 : ∀ t_, Steps p.tables e below (s₁.setTop (mkF m 0 #[.val (.ref bx), .val (.ref by_), .unset] [])) t_ → Steps p.tables e below (s₁.setTop (entryFrame m #[(.ref bx), (.ref by_)] 3)) t_ := fun t_ k_ => castTop (ef_rmLEq m bx by_) k_
  have lt_I1 : @LT.lt Nat _ bx h0.size := I1.lt
  have lt_I2 : @LT.lt Nat _ by_ h0.size := I2.lt
  obtain ⟨cl1, Ar1, -, S1, M1, -, -⟩ := id I1
  obtain ⟨cl2, Ar2, -, S2, M2, -, -⟩ := id I2
  have s3 : ∀ t_, Steps p.tables e below (s₁.setTop (mkF m 4 #[.val (.ref bx), .val (.ref by_), .unset] [(.int (Int32.ofNat ys.length)), (.int (Int32.ofNat xs.length))])) t_ → Steps p.tables e below (s₁.setTop (entryFrame m #[(.ref bx), (.ref by_)] 3)) t_ := fun t_ k_ => pre0 t_ (by
    show Steps p.tables e below (s₁.setTop (mkF m 0 #[.val (.ref bx), .val (.ref by_), .unset] [])) t_
    refine XS.aloadN X0.here hx rfl (Jvm.hb hby d_jdk_43_method_13_0) rfl rfl ?_
    refine X0.arraylength hx (by rw [e0]; exact Ar1.1) (State.isArrayOf_alike hZ.alike Ar1.2.1) (g := (mkF m 1 #[.val (.ref bx), .val (.ref by_), .unset] [(.ref bx)])) rfl rfl (Jvm.hb hby d_jdk_43_method_13_1) _ ?_
    rw [len_of S1 M1]
    show Steps p.tables e below (s₁.setTop (mkF m 2 #[.val (.ref bx), .val (.ref by_), .unset] [(.int (Int32.ofNat xs.length))])) _
    refine XS.aloadN X0.here hx rfl (Jvm.hb hby d_jdk_43_method_13_2) rfl rfl ?_
    refine X0.arraylength hx (by rw [e0]; exact Ar2.1) (State.isArrayOf_alike hZ.alike Ar2.2.1) (g := (mkF m 3 #[.val (.ref bx), .val (.ref by_), .unset] [(.ref by_), (.int (Int32.ofNat xs.length))])) rfl rfl (Jvm.hb hby d_jdk_43_method_13_3) _ ?_
    rw [len_of S2 M2]
    show Steps p.tables e below (s₁.setTop (mkF m 4 #[.val (.ref bx), .val (.ref by_), .unset] [(.int (Int32.ofNat ys.length)), (.int (Int32.ofNat xs.length))])) _
    show Steps p.tables e below (s₁.setTop (mkF m 4 #[.val (.ref bx), .val (.ref by_), .unset] [(.int (Int32.ofNat ys.length)), (.int (Int32.ofNat xs.length))])) t_
    exact k_)
  by_cases h4 : (Int32.ofNat xs.length) = (Int32.ofNat ys.length)
  · have s5 : ∀ t_, Steps p.tables e below (s₁.setTop (mkF m 9 #[.val (.ref bx), .val (.ref by_), .val (.int (0 : Int32))] [])) t_ → Steps p.tables e below (s₁.setTop (entryFrame m #[(.ref bx), (.ref by_)] 3)) t_ := fun t_ k_ => s3 t_ (by
      show Steps p.tables e below (s₁.setTop (mkF m 4 #[.val (.ref bx), .val (.ref by_), .unset] [(.int (Int32.ofNat ys.length)), (.int (Int32.ofNat xs.length))])) t_
      refine XS.icmpNo X0.here hx rfl (Jvm.hb hby d_jdk_43_method_13_4) rfl (teq h4).2 ?_
      show Steps p.tables e below (s₁.setTop (mkF m 7 #[.val (.ref bx), .val (.ref by_), .unset] [])) _
      refine XS.iconst X0.here hx rfl (Jvm.hb hby d_jdk_43_method_13_7) ?_
      refine XS.istoreN X0.here hx rfl (Jvm.hb hby d_jdk_43_method_13_8) rfl (l' := #[.val (.ref bx), .val (.ref by_), .val (.int (0 : Int32))]) rfl ?_
      show Steps p.tables e below (s₁.setTop (mkF m 9 #[.val (.ref bx), .val (.ref by_), .val (.int (0 : Int32))] [])) t_
      exact k_)
    have lp6 : ∀ (k_ : Nat) (j : Nat) (T_ : State) (lo_ : List Loc), j + k_ = xs.length → Stand p l e ({ frames := 0, cells := 0, slots := 0, locals := 0 } : Room) s m #[(.ref bx), (.ref by_)] below meth c T_ lo_ 0 0 → T_.heap = h0 → Fr n0 lo_ → (∀ i, i < j → xs.getD i 0 = ys.getD i 0) → (xs.length = ys.length) → ∃ (T' : State) (lo' : List Loc) (fe_ : JFrame), Stand p l e ({ frames := 0, cells := 0, slots := 0, locals := 0 } : Room) s m #[(.ref bx), (.ref by_)] below meth c T' lo' 0 0 ∧ T'.heap = h0 ∧ Fr n0 lo' ∧ ((fe_ = (mkF m 32 #[.val (.ref bx), .val (.ref by_), .val (.int (Int32.ofNat xs.length))] []) ∧ (xs = ys)) ∨ (∃ (jj : Nat), fe_ = (mkF m 24 #[.val (.ref bx), .val (.ref by_), .val (.int (Int32.ofNat jj))] []) ∧ (¬ (xs = ys)))) ∧ ∀ t_, Steps p.tables e below (T'.setTop fe_) t_ → Steps p.tables e below (T_.setTop (mkF m 9 #[.val (.ref bx), .val (.ref by_), .val (.int (Int32.ofNat j))] [])) t_ := by
      intro k_
      induction k_ with
      | zero => 
        intro j T_ lo_ hm_ X_ e_ N_ hp hlen
        obtain ⟨cl7, Ar7, -, S7, M7, -, -⟩ := id I1
        have s8 : ∀ t_, Steps p.tables e below (T_.setTop (mkF m 32 #[.val (.ref bx), .val (.ref by_), .val (.int (Int32.ofNat j))] [])) t_ → Steps p.tables e below (T_.setTop (mkF m 9 #[.val (.ref bx), .val (.ref by_), .val (.int (Int32.ofNat j))] [])) t_ := fun t_ k_ => (fun _ k_ => k_) t_ (by
          show Steps p.tables e below (T_.setTop (mkF m 9 #[.val (.ref bx), .val (.ref by_), .val (.int (Int32.ofNat j))] [])) t_
          refine XS.iloadN X_.here hx rfl (Jvm.hb hby d_jdk_43_method_13_9) rfl ?_
          refine XS.aloadN X_.here hx rfl (Jvm.hb hby d_jdk_43_method_13_10) rfl rfl ?_
          refine X_.arraylength hx (by rw [e_]; exact Ar7.1) (State.isArrayOf_alike hZ.alike Ar7.2.1) (g := (mkF m 11 #[.val (.ref bx), .val (.ref by_), .val (.int (Int32.ofNat j))] [(.ref bx), (.int (Int32.ofNat j))])) rfl rfl (Jvm.hb hby d_jdk_43_method_13_11) _ ?_
          rw [len_of S7 M7]
          show Steps p.tables e below (T_.setTop (mkF m 12 #[.val (.ref bx), .val (.ref by_), .val (.int (Int32.ofNat j))] [(.int (Int32.ofNat xs.length)), (.int (Int32.ofNat j))])) _
          refine XS.icmpYes X_.here hx rfl (pc0 := 12) (pc' := 32) rfl (Jvm.hb hby d_jdk_43_method_13_12) rfl (flt (own_nlt (by omega) (by omega))).2.1 (by decide) (by decide) ?_
          show Steps p.tables e below (T_.setTop (mkF m 32 #[.val (.ref bx), .val (.ref by_), .val (.int (Int32.ofNat j))] [])) _
          show Steps p.tables e below (T_.setTop (mkF m 32 #[.val (.ref bx), .val (.ref by_), .val (.int (Int32.ofNat j))] [])) t_
          exact k_)
        exact ⟨T_, _, _, X_, e_, N_, (Or.inl ⟨(by rw [show j = xs.length by omega]), (own_ext hlen fun i hi => hp i (by omega))⟩), s8⟩
      | succ k_ ih => 
        intro j T_ lo_ hm_ X_ e_ N_ hp hlen
        obtain ⟨cl9, Ar9, -, S9, M9, -, -⟩ := id I1
        obtain ⟨cl10, Ar10, -, S10, M10, H10, -⟩ := id I1
        have hin10 : ¬ ((Int32.ofNat j) < 0 ∨ cl10.slots.size ≤ ((Int32.ofNat j)).toNatClampNeg) := inb_of S10 (own_in (by omega) (by omega))
        have hat10 : cl10.slots[((Int32.ofNat j)).toNatClampNeg]? = some (.int (xs.getD j 0)) := H10.at hin10 (own_getc xs j _ (by omega) (by omega))
        obtain ⟨cl11, Ar11, -, S11, M11, H11, -⟩ := id I2
        have hin11 : ¬ ((Int32.ofNat j) < 0 ∨ cl11.slots.size ≤ ((Int32.ofNat j)).toNatClampNeg) := inb_of S11 (own_in (by omega) (by omega))
        have hat11 : cl11.slots[((Int32.ofNat j)).toNatClampNeg]? = some (.int (ys.getD j 0)) := H11.at hin11 (own_getc ys j _ (by omega) (by omega))
        have s12 : ∀ t_, Steps p.tables e below (T_.setTop (mkF m 21 #[.val (.ref bx), .val (.ref by_), .val (.int (Int32.ofNat j))] [(.int (ys.getD j 0)), (.int (xs.getD j 0))])) t_ → Steps p.tables e below (T_.setTop (mkF m 9 #[.val (.ref bx), .val (.ref by_), .val (.int (Int32.ofNat j))] [])) t_ := fun t_ k_ => (fun _ k_ => k_) t_ (by
          show Steps p.tables e below (T_.setTop (mkF m 9 #[.val (.ref bx), .val (.ref by_), .val (.int (Int32.ofNat j))] [])) t_
          refine XS.iloadN X_.here hx rfl (Jvm.hb hby d_jdk_43_method_13_9) rfl ?_
          refine XS.aloadN X_.here hx rfl (Jvm.hb hby d_jdk_43_method_13_10) rfl rfl ?_
          refine X_.arraylength hx (by rw [e_]; exact Ar9.1) (State.isArrayOf_alike hZ.alike Ar9.2.1) (g := (mkF m 11 #[.val (.ref bx), .val (.ref by_), .val (.int (Int32.ofNat j))] [(.ref bx), (.int (Int32.ofNat j))])) rfl rfl (Jvm.hb hby d_jdk_43_method_13_11) _ ?_
          rw [len_of S9 M9]
          show Steps p.tables e below (T_.setTop (mkF m 12 #[.val (.ref bx), .val (.ref by_), .val (.int (Int32.ofNat j))] [(.int (Int32.ofNat xs.length)), (.int (Int32.ofNat j))])) _
          refine XS.icmpNo X_.here hx rfl (Jvm.hb hby d_jdk_43_method_13_12) rfl (tlt (own_lt (by omega) (by omega))).2.1 ?_
          show Steps p.tables e below (T_.setTop (mkF m 15 #[.val (.ref bx), .val (.ref by_), .val (.int (Int32.ofNat j))] [])) _
          refine XS.aloadN X_.here hx rfl (Jvm.hb hby d_jdk_43_method_13_15) rfl rfl ?_
          refine XS.iloadN X_.here hx rfl (Jvm.hb hby d_jdk_43_method_13_16) rfl ?_
          refine X_.baloadBytes hx (j := (Int32.ofNat j)) (v := (.int (xs.getD j 0))) (by rw [e_]; exact Ar10.1) (State.isArrayOf_alike hZ.alike Ar10.2.1) Ar10.2.2 hin10 hat10 (g := (mkF m 17 #[.val (.ref bx), .val (.ref by_), .val (.int (Int32.ofNat j))] [(.int (Int32.ofNat j)), (.ref bx)])) rfl rfl (Jvm.hb hby d_jdk_43_method_13_17) _ ?_
          show Steps p.tables e below (T_.setTop (mkF m 18 #[.val (.ref bx), .val (.ref by_), .val (.int (Int32.ofNat j))] [(.int (xs.getD j 0))])) _
          refine XS.aloadN X_.here hx rfl (Jvm.hb hby d_jdk_43_method_13_18) rfl rfl ?_
          refine XS.iloadN X_.here hx rfl (Jvm.hb hby d_jdk_43_method_13_19) rfl ?_
          refine X_.baloadBytes hx (j := (Int32.ofNat j)) (v := (.int (ys.getD j 0))) (by rw [e_]; exact Ar11.1) (State.isArrayOf_alike hZ.alike Ar11.2.1) Ar11.2.2 hin11 hat11 (g := (mkF m 20 #[.val (.ref bx), .val (.ref by_), .val (.int (Int32.ofNat j))] [(.int (Int32.ofNat j)), (.ref by_), (.int (xs.getD j 0))])) rfl rfl (Jvm.hb hby d_jdk_43_method_13_20) _ ?_
          show Steps p.tables e below (T_.setTop (mkF m 21 #[.val (.ref bx), .val (.ref by_), .val (.int (Int32.ofNat j))] [(.int (ys.getD j 0)), (.int (xs.getD j 0))])) _
          show Steps p.tables e below (T_.setTop (mkF m 21 #[.val (.ref bx), .val (.ref by_), .val (.int (Int32.ofNat j))] [(.int (ys.getD j 0)), (.int (xs.getD j 0))])) t_
          exact k_)
        by_cases h13 : (xs.getD j 0) = (ys.getD j 0)
        · have s14 : ∀ t_, Steps p.tables e below (T_.setTop (mkF m 9 #[.val (.ref bx), .val (.ref by_), .val (.int ((Int32.ofNat j) + (1 : Int32)))] [])) t_ → Steps p.tables e below (T_.setTop (mkF m 9 #[.val (.ref bx), .val (.ref by_), .val (.int (Int32.ofNat j))] [])) t_ := fun t_ k_ => s12 t_ (by
            show Steps p.tables e below (T_.setTop (mkF m 21 #[.val (.ref bx), .val (.ref by_), .val (.int (Int32.ofNat j))] [(.int (ys.getD j 0)), (.int (xs.getD j 0))])) t_
            refine XS.icmpYes X_.here hx rfl (pc0 := 21) (pc' := 26) rfl (Jvm.hb hby d_jdk_43_method_13_21) rfl (teq h13).1 (by decide) (by decide) ?_
            show Steps p.tables e below (T_.setTop (mkF m 26 #[.val (.ref bx), .val (.ref by_), .val (.int (Int32.ofNat j))] [])) _
            refine XS.iinc X_.here hx rfl (Jvm.hb hby d_jdk_43_method_13_26) rfl (l' := #[.val (.ref bx), .val (.ref by_), .val (.int ((Int32.ofNat j) + (1 : Int32)))]) rfl ?_
            refine XS.goto X_.here hx rfl (pc0 := 29) (pc' := 9) rfl (Jvm.hb hby d_jdk_43_method_13_29) (by decide) (by decide) ?_
            show Steps p.tables e below (T_.setTop (mkF m 9 #[.val (.ref bx), .val (.ref by_), .val (.int ((Int32.ofNat j) + (1 : Int32)))] [])) t_
            exact k_)
          obtain ⟨T15, lo15, fe15, X15, e15, N15, A15, st15⟩ := ih (j + 1) T_ _  (by omega) X_ e_ N_   (fun i hi => by rcases Nat.lt_succ_iff_lt_or_eq.mp hi with q | q; exact hp i q; rw [q]; exact h13) hlen
          exact ⟨T15, lo15, fe15, X15, e15, N15, A15, fun t_ k_ => s14 t_ (castTop (by rw [own_up]) (st15 t_ k_))⟩
        · have s16 : ∀ t_, Steps p.tables e below (T_.setTop (mkF m 24 #[.val (.ref bx), .val (.ref by_), .val (.int (Int32.ofNat j))] [])) t_ → Steps p.tables e below (T_.setTop (mkF m 9 #[.val (.ref bx), .val (.ref by_), .val (.int (Int32.ofNat j))] [])) t_ := fun t_ k_ => s12 t_ (by
            show Steps p.tables e below (T_.setTop (mkF m 21 #[.val (.ref bx), .val (.ref by_), .val (.int (Int32.ofNat j))] [(.int (ys.getD j 0)), (.int (xs.getD j 0))])) t_
            refine XS.icmpNo X_.here hx rfl (Jvm.hb hby d_jdk_43_method_13_21) rfl (feq h13).1 ?_
            show Steps p.tables e below (T_.setTop (mkF m 24 #[.val (.ref bx), .val (.ref by_), .val (.int (Int32.ofNat j))] [])) _
            show Steps p.tables e below (T_.setTop (mkF m 24 #[.val (.ref bx), .val (.ref by_), .val (.int (Int32.ofNat j))] [])) t_
            exact k_)
          exact ⟨T_, _, _, X_, e_, N_, (Or.inr ⟨j, rfl, (fun e => h13 (by rw [e]))⟩), s16⟩
    obtain ⟨T17, lo17, fe17, X17, e17, N17, A17, st17⟩ := lp6 xs.length 0 s₁ _  (by omega) X0 e0 N0   (fun i hi => absurd hi (Nat.not_lt_zero i)) (own_inj (by omega) (by omega) h4)
    rcases A17 with ⟨rfl, J17_0⟩ | ⟨jj_17, rfl, J17_0⟩
    · have s18 : ∀ t_, Steps p.tables e below (T17.setTop (mkF m 32 #[.val (.ref bx), .val (.ref by_), .val (.int (Int32.ofNat xs.length))] [])) t_ → Steps p.tables e below (s₁.setTop (entryFrame m #[(.ref bx), (.ref by_)] 3)) t_ := fun t_ k_ => s5 t_ (st17 t_ k_)
      have s19 : ∀ t_, Steps p.tables e below (T17.setTop (mkF m 33 #[.val (.ref bx), .val (.ref by_), .val (.int (Int32.ofNat xs.length))] [(.int (1 : Int32))])) t_ → Steps p.tables e below (s₁.setTop (entryFrame m #[(.ref bx), (.ref by_)] 3)) t_ := fun t_ k_ => s18 t_ (by
        show Steps p.tables e below (T17.setTop (mkF m 32 #[.val (.ref bx), .val (.ref by_), .val (.int (Int32.ofNat xs.length))] [])) t_
        refine XS.iconst X17.here hx rfl (Jvm.hb hby d_jdk_43_method_13_32) ?_
        show Steps p.tables e below (T17.setTop (mkF m 33 #[.val (.ref bx), .val (.ref by_), .val (.int (Int32.ofNat xs.length))] [(.int (1 : Int32))])) t_
        exact k_)
      obtain ⟨fs, hr, hrun, hended, hW, hsame⟩ := X17.leave (v := some (.int (1 : Int32))) (fun h => by rw [Bd.returns] at h; cases h)
      refine ⟨_, _, s19 _ ?_, hrun, hended, _, _, rfl, ?_, ⟨_, rfl⟩, hW, hsame.mono (by decide) (by decide)⟩
      · show Steps p.tables e below (T17.setTop (mkF m 33 #[.val (.ref bx), .val (.ref by_), .val (.int (Int32.ofNat xs.length))] [(.int (1 : Int32))])) _
        exact retN X17 hx (t := .boolean) Bd.returns (by simp) (Jvm.hb hby d_jdk_43_method_13_33) hr
      · show Q_rmLEq Z _ _ _ _ _ _ h0 n0 _ T17.heap _
        rw [e17]
        exact ⟨(by rw [if_pos J17_0]), N17, rfl⟩
    · have s20 : ∀ t_, Steps p.tables e below (T17.setTop (mkF m 24 #[.val (.ref bx), .val (.ref by_), .val (.int (Int32.ofNat jj_17))] [])) t_ → Steps p.tables e below (s₁.setTop (entryFrame m #[(.ref bx), (.ref by_)] 3)) t_ := fun t_ k_ => s5 t_ (st17 t_ k_)
      have s21 : ∀ t_, Steps p.tables e below (T17.setTop (mkF m 25 #[.val (.ref bx), .val (.ref by_), .val (.int (Int32.ofNat jj_17))] [(.int (0 : Int32))])) t_ → Steps p.tables e below (s₁.setTop (entryFrame m #[(.ref bx), (.ref by_)] 3)) t_ := fun t_ k_ => s20 t_ (by
        show Steps p.tables e below (T17.setTop (mkF m 24 #[.val (.ref bx), .val (.ref by_), .val (.int (Int32.ofNat jj_17))] [])) t_
        refine XS.iconst X17.here hx rfl (Jvm.hb hby d_jdk_43_method_13_24) ?_
        show Steps p.tables e below (T17.setTop (mkF m 25 #[.val (.ref bx), .val (.ref by_), .val (.int (Int32.ofNat jj_17))] [(.int (0 : Int32))])) t_
        exact k_)
      obtain ⟨fs, hr, hrun, hended, hW, hsame⟩ := X17.leave (v := some (.int (0 : Int32))) (fun h => by rw [Bd.returns] at h; cases h)
      refine ⟨_, _, s21 _ ?_, hrun, hended, _, _, rfl, ?_, ⟨_, rfl⟩, hW, hsame.mono (by decide) (by decide)⟩
      · show Steps p.tables e below (T17.setTop (mkF m 25 #[.val (.ref bx), .val (.ref by_), .val (.int (Int32.ofNat jj_17))] [(.int (0 : Int32))])) _
        exact retN X17 hx (t := .boolean) Bd.returns (by simp) (Jvm.hb hby d_jdk_43_method_13_25) hr
      · show Q_rmLEq Z _ _ _ _ _ _ h0 n0 _ T17.heap _
        rw [e17]
        exact ⟨(by rw [if_neg J17_0]), N17, rfl⟩
  · have s22 : ∀ t_, Steps p.tables e below (s₁.setTop (mkF m 35 #[.val (.ref bx), .val (.ref by_), .unset] [(.int (0 : Int32))])) t_ → Steps p.tables e below (s₁.setTop (entryFrame m #[(.ref bx), (.ref by_)] 3)) t_ := fun t_ k_ => s3 t_ (by
      show Steps p.tables e below (s₁.setTop (mkF m 4 #[.val (.ref bx), .val (.ref by_), .unset] [(.int (Int32.ofNat ys.length)), (.int (Int32.ofNat xs.length))])) t_
      refine XS.icmpYes X0.here hx rfl (pc0 := 4) (pc' := 34) rfl (Jvm.hb hby d_jdk_43_method_13_4) rfl (feq h4).2 (by decide) (by decide) ?_
      show Steps p.tables e below (s₁.setTop (mkF m 34 #[.val (.ref bx), .val (.ref by_), .unset] [])) _
      refine XS.iconst X0.here hx rfl (Jvm.hb hby d_jdk_43_method_13_34) ?_
      show Steps p.tables e below (s₁.setTop (mkF m 35 #[.val (.ref bx), .val (.ref by_), .unset] [(.int (0 : Int32))])) t_
      exact k_)
    obtain ⟨fs, hr, hrun, hended, hW, hsame⟩ := X0.leave (v := some (.int (0 : Int32))) (fun h => by rw [Bd.returns] at h; cases h)
    refine ⟨_, _, s22 _ ?_, hrun, hended, _, _, rfl, ?_, ⟨_, rfl⟩, hW, hsame.mono (by decide) (by decide)⟩
    · show Steps p.tables e below (s₁.setTop (mkF m 35 #[.val (.ref bx), .val (.ref by_), .unset] [(.int (0 : Int32))])) _
      exact retN X0 hx (t := .boolean) Bd.returns (by simp) (Jvm.hb hby d_jdk_43_method_13_35) hr
    · show Q_rmLEq Z _ _ _ _ _ _ h0 n0 _ s₁.heap _
      rw [e0]
      exact ⟨(by rw [if_neg (fun e => h4 (by rw [e]))]), N0, rfl⟩
theorem d_jdk_42_method_66_0 : decode jdk_42_method_66_code 0 = .ok (.aload_n 0, 1) := by decide +kernel
theorem d_jdk_42_method_66_1 : decode jdk_42_method_66_code 1 = .ok (.aload_n 1, 1) := by decide +kernel
theorem d_jdk_42_method_66_2 : decode jdk_42_method_66_code 2 = .ok (.if_acmp .ne 5, 3) := by decide +kernel
theorem d_jdk_42_method_66_7 : decode jdk_42_method_66_code 7 = .ok (.aload_n 1, 1) := by decide +kernel
theorem d_jdk_42_method_66_8 : decode jdk_42_method_66_code 8 = .ok (.instanceof 10, 3) := by decide +kernel
theorem d_jdk_42_method_66_11 : decode jdk_42_method_66_code 11 = .ok (.ifCond .eq 43, 3) := by decide +kernel
theorem d_jdk_42_method_66_14 : decode jdk_42_method_66_code 14 = .ok (.aload_n 1, 1) := by decide +kernel
theorem d_jdk_42_method_66_15 : decode jdk_42_method_66_code 15 = .ok (.checkcast 10, 3) := by decide +kernel
theorem d_jdk_42_method_66_18 : decode jdk_42_method_66_code 18 = .ok (.astore_n 2, 1) := by decide +kernel
theorem d_jdk_42_method_66_19 : decode jdk_42_method_66_code 19 = .ok (.getstatic 38, 3) := by decide +kernel
theorem d_jdk_42_method_66_22 : decode jdk_42_method_66_code 22 = .ok (.ifCond .eq 14, 3) := by decide +kernel
theorem d_jdk_42_method_66_25 : decode jdk_42_method_66_code 25 = .ok (.aload_n 0, 1) := by decide +kernel
theorem d_jdk_42_method_66_26 : decode jdk_42_method_66_code 26 = .ok (.getfield 15, 3) := by decide +kernel
theorem d_jdk_42_method_66_29 : decode jdk_42_method_66_code 29 = .ok (.aload_n 2, 1) := by decide +kernel
theorem d_jdk_42_method_66_30 : decode jdk_42_method_66_code 30 = .ok (.getfield 15, 3) := by decide +kernel
theorem d_jdk_42_method_66_33 : decode jdk_42_method_66_code 33 = .ok (.if_icmp .ne 21, 3) := by decide +kernel
theorem d_jdk_42_method_66_36 : decode jdk_42_method_66_code 36 = .ok (.aload_n 0, 1) := by decide +kernel
theorem d_jdk_42_method_66_37 : decode jdk_42_method_66_code 37 = .ok (.getfield 9, 3) := by decide +kernel
theorem d_jdk_42_method_66_40 : decode jdk_42_method_66_code 40 = .ok (.aload_n 2, 1) := by decide +kernel
theorem d_jdk_42_method_66_41 : decode jdk_42_method_66_code 41 = .ok (.getfield 9, 3) := by decide +kernel
theorem pd___B_B_Z : parseMethodDescriptor "([B[B)Z" = some ⟨[(.array .byte), (.array .byte)], some .boolean⟩ := by decide +kernel
theorem d_jdk_42_method_66_44 : decode jdk_42_method_66_code 44 = .ok (.invokestatic 541, 3) := by decide +kernel
theorem d_jdk_42_method_66_47 : decode jdk_42_method_66_code 47 = .ok (.ifCond .eq 7, 3) := by decide +kernel
theorem d_jdk_42_method_66_50 : decode jdk_42_method_66_code 50 = .ok (.iconst 1, 1) := by decide +kernel
theorem d_jdk_42_method_66_51 : decode jdk_42_method_66_code 51 = .ok (.goto 4, 3) := by decide +kernel
theorem d_jdk_42_method_66_55 : decode jdk_42_method_66_code 55 = .ok (.ireturn, 1) := by decide +kernel
theorem d_jdk_42_method_66_54 : decode jdk_42_method_66_code 54 = .ok (.iconst 0, 1) := by decide +kernel
theorem ef_rmSEq (m : MethodId) (x0 : Addr) (x1 : Addr) : entryFrame m #[(.ref x0), (.ref x1)] 3 = mkF m 0 #[.val (.ref x0), .val (.ref x1), .unset] [] := by first | (simp [entryFrame, mkF, argsToLocals, Value.category]; done) | rfl
def Q_rmSEq (Z : State) (ax : Addr) (ay : Addr) (cst : Int32) (bx : Addr) (kx : ClassId) (cs : List Int32) (by_ : Addr) (ky : ClassId) (ds : List Int32) (h0 : Heap) (n0 : Nat) (v : Option Value) (h : Heap) (L : List Loc) : Prop := (v = some (.int (if cs = ds then (1 : Int32) else (0 : Int32)))) ∧ (Fr n0 L) ∧ (h = h0)
set_option maxRecDepth 65536 in
set_option maxHeartbeats 40000000 in
theorem rmSEq (l : Launch) (Z : State) (a0 : Array Value) (hw : ∀ d ∈ tables_1, d.before a0 Z = true) (ws : List Jvm.Cond) (ax : Addr) (ay : Addr) (cst : Int32) (bx : Addr) (kx : ClassId) (cs : List Int32) (by_ : Addr) (ky : ClassId) (ds : List Int32) (h0 : Heap) (n0 : Nat) (Z0 : n0 ≤ h0.size) (I1 : Sta Z Z.heap "java/lang/String" "COMPACT_STRINGS" "Z" (.int cst)) (OX : Old Z n0 h0) (hcst : ¬ (cst = (0 : Int32))) (I2 : Exa Z h0 ax "java/lang/String") (I3 : Fld Z h0 ax "java/lang/String" "value" "[B" (.ref bx)) (I4 : Fld Z h0 ax "java/lang/String" "coder" "B" (.int (own_cod cs))) (I5 : Arv Z h0 bx kx .byte (Int32.ofNat (own_enl cs)) (own_enc cs) (.int (0 : Int32))) (I6 : Exa Z h0 ay "java/lang/String") (I7 : Fld Z h0 ay "java/lang/String" "value" "[B" (.ref by_)) (I8 : Fld Z h0 ay "java/lang/String" "coder" "B" (.int (own_cod ds))) (I9 : Arv Z h0 by_ ky .byte (Int32.ofNat (own_enl ds)) (own_enc ds) (.int (0 : Int32))) (hne : ¬ (ax = ay)) (hchc : own_chs cs) (hchd : own_chs ds) (hbc : cs.length ≤ 3) (hbd : ds.length ≤ 3) :
    MetFree l (⟨"java/lang/String", "equals", "(Ljava/lang/Object;)Z"⟩ : MethodName) (head1 (Jvm.Cond.code (⟨"java/lang/String", "equals", "(Ljava/lang/Object;)Z"⟩ : MethodName) jdk_42_method_66_code 3 (some .boolean) :: ws) ({ frames := 1, cells := 0, slots := 0, locals := 14 } : Room)) (fun ar_ U => ar_ = #[(.ref ax), (.ref ay)] ∧ Z.Warmed39 U.vm ∧ U.heap = h0) (fun _ _ _ _ _ => True) (fun _ U o U' => ∃ v L, o = .returned v ∧ Q_rmSEq Z ax ay cst bx kx cs by_ ky ds h0 n0 v U'.heap L ∧ FrameEnd U o U' L ({ frames := 1, cells := 0, slots := 0, locals := 14 } : Room).cells ({ frames := 1, cells := 0, slots := 0, locals := 14 } : Room).slots) := by
  refine MetFree.of_bodySF (plainFor_of_name pn_java_lang_String) hisR ?_
  intro p e s m args below meth c s₁ Bd hml0 hP hK
  obtain ⟨rfl, hZ, hh⟩ := hP
  have hx := Bd.exec
  have hby := Bd.bytes
  have hml : c.maxLocals = 3 := hml0
  have hown : s.vm.findClass "java/lang/String" = some m.cls := findClass_of_methodNamed Bd.named
  have hnm := (name_of_methodNamed Bd.named Bd.method).1
  have X0 : Stand p l e ({ frames := 1, cells := 0, slots := 0, locals := 14 } : Room) s m #[(.ref ax), (.ref ay)] below meth c s₁ [] 0 0 := Stand.of_body Bd
  have e0 : s₁.heap = h0 := by rw [← hh, Bd.state]; rfl
  have N0 := Fr.nil n0
  have pre0 : ∀ t_, Steps p.tables e below (s₁.setTop (mkF m 0 #[.val (.ref ax), .val (.ref ay), .unset] [])) t_ → Steps p.tables e below (s₁.setTop (entryFrame m #[(.ref ax), (.ref ay)] 3)) t_ := fun t_ k_ => castTop (ef_rmSEq m ax ay) k_
  have lt_I2 : @LT.lt Nat _ ax h0.size := I2.lt
  have lt_I3 : @LT.lt Nat _ ax h0.size := I3.lt
  have lt_I4 : @LT.lt Nat _ ax h0.size := I4.lt
  have lt_I5 : @LT.lt Nat _ bx h0.size := I5.lt
  have lt_I6 : @LT.lt Nat _ ay h0.size := I6.lt
  have lt_I7 : @LT.lt Nat _ ay h0.size := I7.lt
  have lt_I8 : @LT.lt Nat _ ay h0.size := I8.lt
  have lt_I9 : @LT.lt Nat _ by_ h0.size := I9.lt
  obtain ⟨T1, X1, e1, st1⟩ := instY X0 hx hZ hown (hw _ (List.mem_of_getElem? (i := 114) rfl)) e0 (Ins.self I6) (g := (mkF m 8 #[.val (.ref ax), .val (.ref ay), .unset] [(.ref ay)])) rfl rfl (Jvm.hb hby d_jdk_42_method_66_8)
  obtain ⟨T2, X2, e2, st2⟩ := castY X1 hx hZ hown (hw _ (List.mem_of_getElem? (i := 114) rfl)) e1 (Ins.self I6) (g := (mkF m 15 #[.val (.ref ax), .val (.ref ay), .unset] [(.ref ay)])) rfl rfl (Jvm.hb hby d_jdk_42_method_66_15)
  obtain ⟨T3, X3, e3, st3⟩ := getS2 X2 hx hZ hown (host := "") (Or.inl (hw _ (List.mem_of_getElem? (i := 24) rfl))) Via.refl e2 (I1.ext OX.2) (g := (mkF m 19 #[.val (.ref ax), .val (.ref ay), .val (.ref ay)] [])) rfl (Jvm.hb hby d_jdk_42_method_66_19)
  obtain ⟨T4, X4, e4, st4⟩ := getF X3 hx hZ hown (host := "") (Or.inl (hw _ (List.mem_of_getElem? (i := 36) rfl))) Via.refl e3 I4 (g := (mkF m 26 #[.val (.ref ax), .val (.ref ay), .val (.ref ay)] [(.ref ax)])) rfl rfl (Jvm.hb hby d_jdk_42_method_66_26)
  obtain ⟨T5, X5, e5, st5⟩ := getF X4 hx hZ hown (host := "") (Or.inl (hw _ (List.mem_of_getElem? (i := 36) rfl))) Via.refl e4 I8 (g := (mkF m 30 #[.val (.ref ax), .val (.ref ay), .val (.ref ay)] [(.ref ay), (.int (own_cod cs))])) rfl rfl (Jvm.hb hby d_jdk_42_method_66_30)
  have s6 : ∀ t_, Steps p.tables e below (T5.setTop (mkF m 33 #[.val (.ref ax), .val (.ref ay), .val (.ref ay)] [(.int (own_cod ds)), (.int (own_cod cs))])) t_ → Steps p.tables e below (s₁.setTop (entryFrame m #[(.ref ax), (.ref ay)] 3)) t_ := fun t_ k_ => pre0 t_ (by
    show Steps p.tables e below (s₁.setTop (mkF m 0 #[.val (.ref ax), .val (.ref ay), .unset] [])) t_
    refine XS.aloadN X0.here hx rfl (Jvm.hb hby d_jdk_42_method_66_0) rfl rfl ?_
    refine XS.aloadN X0.here hx rfl (Jvm.hb hby d_jdk_42_method_66_1) rfl rfl ?_
    refine Jvm.RoadKit.acmp (g := (mkF m 2 #[.val (.ref ax), .val (.ref ay), .unset] [(.ref ay), (.ref ax)])) X0 hx rfl rfl rfl (pc0 := 2) (pc' := 7) (same := false) rfl (Jvm.hb hby d_jdk_42_method_66_2) rfl (decide_eq_false fun q => hne (Value.ref.inj q)) (by decide) (by decide) ?_
    show Steps p.tables e below (s₁.setTop (mkF m 7 #[.val (.ref ax), .val (.ref ay), .unset] [])) _
    refine XS.aloadN X0.here hx rfl (Jvm.hb hby d_jdk_42_method_66_7) rfl rfl ?_
    refine st1 _ ?_
    show Steps p.tables e below (T1.setTop (mkF m 11 #[.val (.ref ax), .val (.ref ay), .unset] [(.int (1 : Int32))])) _
    refine XS.ifNo X1.here hx rfl (Jvm.hb hby d_jdk_42_method_66_11) rfl ((if0 _ _).trans (feq (by decide : ¬ ((1 : Int32) = (0 : Int32)))).1) ?_
    show Steps p.tables e below (T1.setTop (mkF m 14 #[.val (.ref ax), .val (.ref ay), .unset] [])) _
    refine XS.aloadN X1.here hx rfl (Jvm.hb hby d_jdk_42_method_66_14) rfl rfl ?_
    refine st2 _ ?_
    show Steps p.tables e below (T2.setTop (mkF m 18 #[.val (.ref ax), .val (.ref ay), .unset] [(.ref ay)])) _
    refine XS.astoreN X2.here hx rfl (Jvm.hb hby d_jdk_42_method_66_18) rfl rfl (l' := #[.val (.ref ax), .val (.ref ay), .val (.ref ay)]) rfl ?_
    refine st3 _ ?_
    show Steps p.tables e below (T3.setTop (mkF m 22 #[.val (.ref ax), .val (.ref ay), .val (.ref ay)] [(.int cst)])) _
    refine XS.ifNo X3.here hx rfl (Jvm.hb hby d_jdk_42_method_66_22) rfl ((if0 _ _).trans (feq hcst).1) ?_
    show Steps p.tables e below (T3.setTop (mkF m 25 #[.val (.ref ax), .val (.ref ay), .val (.ref ay)] [])) _
    refine XS.aloadN X3.here hx rfl (Jvm.hb hby d_jdk_42_method_66_25) rfl rfl ?_
    refine st4 _ ?_
    show Steps p.tables e below (T4.setTop (mkF m 29 #[.val (.ref ax), .val (.ref ay), .val (.ref ay)] [(.int (own_cod cs))])) _
    refine XS.aloadN X4.here hx rfl (Jvm.hb hby d_jdk_42_method_66_29) rfl rfl ?_
    refine st5 _ ?_
    show Steps p.tables e below (T5.setTop (mkF m 33 #[.val (.ref ax), .val (.ref ay), .val (.ref ay)] [(.int (own_cod ds)), (.int (own_cod cs))])) _
    show Steps p.tables e below (T5.setTop (mkF m 33 #[.val (.ref ax), .val (.ref ay), .val (.ref ay)] [(.int (own_cod ds)), (.int (own_cod cs))])) t_
    exact k_)
  by_cases h7 : (own_cod cs) = (own_cod ds)
  · obtain ⟨T8, X8, e8, st8⟩ := getF X5 hx hZ hown (host := "") (Or.inl (hw _ (List.mem_of_getElem? (i := 38) rfl))) Via.refl e5 I3 (g := (mkF m 37 #[.val (.ref ax), .val (.ref ay), .val (.ref ay)] [(.ref ax)])) rfl rfl (Jvm.hb hby d_jdk_42_method_66_37)
    obtain ⟨T9, X9, e9, st9⟩ := getF X8 hx hZ hown (host := "") (Or.inl (hw _ (List.mem_of_getElem? (i := 38) rfl))) Via.refl e8 I7 (g := (mkF m 41 #[.val (.ref ax), .val (.ref ay), .val (.ref ay)] [(.ref ay), (.ref bx)])) rfl rfl (Jvm.hb hby d_jdk_42_method_66_41)
    have V10 : Arv Z h0 bx kx .byte (Int32.ofNat (own_eb cs).length) ((own_eb cs).map Value.int) (.int (0 : Int32)) := by rw [own_ebl, ← own_encb]; exact I5
    have V11 : Arv Z h0 by_ ky .byte (Int32.ofNat (own_eb ds).length) ((own_eb ds).map Value.int) (.int (0 : Int32)) := by rw [own_ebl, ← own_encb]; exact I9
    have Zc12 : n0 ≤ h0.size := by omega
    obtain ⟨_, _, ⟨T13, L13, k13, n13⟩, -, X13, ⟨Lc13, hQ13, l13, y13, z13⟩, st13⟩ := Jvm.LawKit.callS X9 hx (y := (⟨"java/lang/StringLatin1", "equals", "([B[B)Z"⟩ : MethodName)) hown (mvT hZ (hw _ (List.mem_of_getElem? (i := 115) rfl))) (mvT hZ (hw _ (List.mem_of_getElem? (i := 116) rfl))) (mvT hZ (hw _ (List.mem_of_getElem? (i := 83) rfl))) (mvT hZ (hw _ (List.mem_of_getElem? (i := 117) rfl))) (by decide) (backOf (W := 0) (rmLEq l Z a0 hw [] bx by_ kx ky (own_eb cs) (own_eb ds) h0 n0 Zc12 V10 V11 (by rw [own_ebl]; have := own_enll cs; omega) (by rw [own_ebl]; have := own_enll ds; omega)) hZ (hw _ (List.mem_of_getElem? (i := 117) rfl)) (hw _ (List.mem_of_getElem? (i := 83) rfl)) (by decide) (by decide)) (g := (mkF m 44 #[.val (.ref ax), .val (.ref ay), .val (.ref ay)] [(.ref by_), (.ref bx)])) rfl (by rw [hml]; rfl) (argsL := [(.ref bx), (.ref by_)]) (rest := []) (lenOf pd___B_B_Z rfl) rfl (by show 2 * 0 + _ ≤ _; exact Nat.le_of_eq rfl) (Jvm.hb hby d_jdk_42_method_66_44) (fun _ _ => ⟨rfl, e9, (by decide : 0 + 0 ≤ _), (by decide : 0 + 0 ≤ _)⟩)
    dsimp only [Pt.U, Pt.locs, Pt.cells, Pt.slots] at X13 l13 y13 z13 st13 hQ13
    subst l13 y13 z13
    obtain ⟨rfl, N13q, e13⟩ := hQ13
    have N13 := Fr.app N0 N13q
    have s14 : ∀ t_, Steps p.tables e below (T13.setTop (mkF m 47 #[.val (.ref ax), .val (.ref ay), .val (.ref ay)] [(.int (if (own_eb cs) = (own_eb ds) then (1 : Int32) else (0 : Int32)))])) t_ → Steps p.tables e below (s₁.setTop (entryFrame m #[(.ref ax), (.ref ay)] 3)) t_ := fun t_ k_ => s6 t_ (by
      show Steps p.tables e below (T5.setTop (mkF m 33 #[.val (.ref ax), .val (.ref ay), .val (.ref ay)] [(.int (own_cod ds)), (.int (own_cod cs))])) t_
      refine XS.icmpNo X5.here hx rfl (Jvm.hb hby d_jdk_42_method_66_33) rfl (teq h7).2 ?_
      show Steps p.tables e below (T5.setTop (mkF m 36 #[.val (.ref ax), .val (.ref ay), .val (.ref ay)] [])) _
      refine XS.aloadN X5.here hx rfl (Jvm.hb hby d_jdk_42_method_66_36) rfl rfl ?_
      refine st8 _ ?_
      show Steps p.tables e below (T8.setTop (mkF m 40 #[.val (.ref ax), .val (.ref ay), .val (.ref ay)] [(.ref bx)])) _
      refine XS.aloadN X8.here hx rfl (Jvm.hb hby d_jdk_42_method_66_40) rfl rfl ?_
      refine st9 _ ?_
      show Steps p.tables e below (T9.setTop (mkF m 44 #[.val (.ref ax), .val (.ref ay), .val (.ref ay)] [(.ref by_), (.ref bx)])) _
      refine st13 _ ?_
      show Steps p.tables e below (T13.setTop (mkF m 47 #[.val (.ref ax), .val (.ref ay), .val (.ref ay)] [(.int (if (own_eb cs) = (own_eb ds) then (1 : Int32) else (0 : Int32)))])) _
      show Steps p.tables e below (T13.setTop (mkF m 47 #[.val (.ref ax), .val (.ref ay), .val (.ref ay)] [(.int (if (own_eb cs) = (own_eb ds) then (1 : Int32) else (0 : Int32)))])) t_
      exact k_)
    by_cases h15 : own_eb cs = own_eb ds
    · have s16 : ∀ t_, Steps p.tables e below (T13.setTop (mkF m 47 #[.val (.ref ax), .val (.ref ay), .val (.ref ay)] [(.int (1 : Int32))])) t_ → Steps p.tables e below (s₁.setTop (entryFrame m #[(.ref ax), (.ref ay)] 3)) t_ := fun t_ k_ => s14 t_ (castTop (by simp only [if_pos h15]) k_)
      have s17 : ∀ t_, Steps p.tables e below (T13.setTop (mkF m 55 #[.val (.ref ax), .val (.ref ay), .val (.ref ay)] [(.int (1 : Int32))])) t_ → Steps p.tables e below (s₁.setTop (entryFrame m #[(.ref ax), (.ref ay)] 3)) t_ := fun t_ k_ => s16 t_ (by
        show Steps p.tables e below (T13.setTop (mkF m 47 #[.val (.ref ax), .val (.ref ay), .val (.ref ay)] [(.int (1 : Int32))])) t_
        refine XS.ifNo X13.here hx rfl (Jvm.hb hby d_jdk_42_method_66_47) rfl ((if0 _ _).trans (feq (by decide : ¬ ((1 : Int32) = (0 : Int32)))).1) ?_
        show Steps p.tables e below (T13.setTop (mkF m 50 #[.val (.ref ax), .val (.ref ay), .val (.ref ay)] [])) _
        refine XS.iconst X13.here hx rfl (Jvm.hb hby d_jdk_42_method_66_50) ?_
        refine XS.goto X13.here hx rfl (pc0 := 51) (pc' := 55) rfl (Jvm.hb hby d_jdk_42_method_66_51) (by decide) (by decide) ?_
        show Steps p.tables e below (T13.setTop (mkF m 55 #[.val (.ref ax), .val (.ref ay), .val (.ref ay)] [(.int (1 : Int32))])) t_
        exact k_)
      obtain ⟨fs, hr, hrun, hended, hW, hsame⟩ := X13.leave (v := some (.int (1 : Int32))) (fun h => by rw [Bd.returns] at h; cases h)
      refine ⟨_, _, s17 _ ?_, hrun, hended, _, _, rfl, ?_, ⟨_, rfl⟩, hW, hsame.mono (by decide) (by decide)⟩
      · show Steps p.tables e below (T13.setTop (mkF m 55 #[.val (.ref ax), .val (.ref ay), .val (.ref ay)] [(.int (1 : Int32))])) _
        exact retN X13 hx (t := .boolean) Bd.returns (by simp) (Jvm.hb hby d_jdk_42_method_66_55) hr
      · show Q_rmSEq Z _ _ _ _ _ _ _ _ _ h0 n0 _ T13.heap _
        rw [e13]
        exact ⟨(by rw [if_pos (own_encinj hchc hchd h7 h15)]), N13, rfl⟩
    · have s18 : ∀ t_, Steps p.tables e below (T13.setTop (mkF m 47 #[.val (.ref ax), .val (.ref ay), .val (.ref ay)] [(.int (0 : Int32))])) t_ → Steps p.tables e below (s₁.setTop (entryFrame m #[(.ref ax), (.ref ay)] 3)) t_ := fun t_ k_ => s14 t_ (castTop (by simp only [if_neg h15]) k_)
      have s19 : ∀ t_, Steps p.tables e below (T13.setTop (mkF m 55 #[.val (.ref ax), .val (.ref ay), .val (.ref ay)] [(.int (0 : Int32))])) t_ → Steps p.tables e below (s₁.setTop (entryFrame m #[(.ref ax), (.ref ay)] 3)) t_ := fun t_ k_ => s18 t_ (by
        show Steps p.tables e below (T13.setTop (mkF m 47 #[.val (.ref ax), .val (.ref ay), .val (.ref ay)] [(.int (0 : Int32))])) t_
        refine XS.ifYes X13.here hx rfl (pc0 := 47) (pc' := 54) rfl (Jvm.hb hby d_jdk_42_method_66_47) rfl ((if0 _ _).trans (teq (rfl : (0 : Int32) = (0 : Int32))).1) (by decide) (by decide) ?_
        show Steps p.tables e below (T13.setTop (mkF m 54 #[.val (.ref ax), .val (.ref ay), .val (.ref ay)] [])) _
        refine XS.iconst X13.here hx rfl (Jvm.hb hby d_jdk_42_method_66_54) ?_
        show Steps p.tables e below (T13.setTop (mkF m 55 #[.val (.ref ax), .val (.ref ay), .val (.ref ay)] [(.int (0 : Int32))])) t_
        exact k_)
      obtain ⟨fs, hr, hrun, hended, hW, hsame⟩ := X13.leave (v := some (.int (0 : Int32))) (fun h => by rw [Bd.returns] at h; cases h)
      refine ⟨_, _, s19 _ ?_, hrun, hended, _, _, rfl, ?_, ⟨_, rfl⟩, hW, hsame.mono (by decide) (by decide)⟩
      · show Steps p.tables e below (T13.setTop (mkF m 55 #[.val (.ref ax), .val (.ref ay), .val (.ref ay)] [(.int (0 : Int32))])) _
        exact retN X13 hx (t := .boolean) Bd.returns (by simp) (Jvm.hb hby d_jdk_42_method_66_55) hr
      · show Q_rmSEq Z _ _ _ _ _ _ _ _ _ h0 n0 _ T13.heap _
        rw [e13]
        exact ⟨(by rw [if_neg (fun e => h15 (by rw [e]))]), N13, rfl⟩
  · have s20 : ∀ t_, Steps p.tables e below (T5.setTop (mkF m 55 #[.val (.ref ax), .val (.ref ay), .val (.ref ay)] [(.int (0 : Int32))])) t_ → Steps p.tables e below (s₁.setTop (entryFrame m #[(.ref ax), (.ref ay)] 3)) t_ := fun t_ k_ => s6 t_ (by
      show Steps p.tables e below (T5.setTop (mkF m 33 #[.val (.ref ax), .val (.ref ay), .val (.ref ay)] [(.int (own_cod ds)), (.int (own_cod cs))])) t_
      refine XS.icmpYes X5.here hx rfl (pc0 := 33) (pc' := 54) rfl (Jvm.hb hby d_jdk_42_method_66_33) rfl (feq h7).2 (by decide) (by decide) ?_
      show Steps p.tables e below (T5.setTop (mkF m 54 #[.val (.ref ax), .val (.ref ay), .val (.ref ay)] [])) _
      refine XS.iconst X5.here hx rfl (Jvm.hb hby d_jdk_42_method_66_54) ?_
      show Steps p.tables e below (T5.setTop (mkF m 55 #[.val (.ref ax), .val (.ref ay), .val (.ref ay)] [(.int (0 : Int32))])) t_
      exact k_)
    obtain ⟨fs, hr, hrun, hended, hW, hsame⟩ := X5.leave (v := some (.int (0 : Int32))) (fun h => by rw [Bd.returns] at h; cases h)
    refine ⟨_, _, s20 _ ?_, hrun, hended, _, _, rfl, ?_, ⟨_, rfl⟩, hW, hsame.mono (by decide) (by decide)⟩
    · show Steps p.tables e below (T5.setTop (mkF m 55 #[.val (.ref ax), .val (.ref ay), .val (.ref ay)] [(.int (0 : Int32))])) _
      exact retN X5 hx (t := .boolean) Bd.returns (by simp) (Jvm.hb hby d_jdk_42_method_66_55) hr
    · show Q_rmSEq Z _ _ _ _ _ _ _ _ _ h0 n0 _ T5.heap _
      rw [e5]
      exact ⟨(by rw [if_neg (fun e => h7 (by rw [e]))]), N0, rfl⟩
theorem d_jdk_42_method_66_5 : decode jdk_42_method_66_code 5 = .ok (.iconst 1, 1) := by decide +kernel
theorem d_jdk_42_method_66_6 : decode jdk_42_method_66_code 6 = .ok (.ireturn, 1) := by decide +kernel
theorem ef_rmSEqS (m : MethodId) (x0 : Addr) (x1 : Addr) : entryFrame m #[(.ref x0), (.ref x1)] 3 = mkF m 0 #[.val (.ref x0), .val (.ref x1), .unset] [] := by first | (simp [entryFrame, mkF, argsToLocals, Value.category]; done) | rfl
def Q_rmSEqS (Z : State) (ax : Addr) (h0 : Heap) (n0 : Nat) (v : Option Value) (h : Heap) (L : List Loc) : Prop := (v = some (.int (1 : Int32))) ∧ (Fr n0 L) ∧ (h = h0)
set_option maxRecDepth 65536 in
set_option maxHeartbeats 40000000 in
theorem rmSEqS (l : Launch) (Z : State) (a0 : Array Value) (hw : ∀ d ∈ tables_1, d.before a0 Z = true) (ws : List Jvm.Cond) (ax : Addr) (h0 : Heap) (n0 : Nat) (Z0 : n0 ≤ h0.size)  :
    MetFree l (⟨"java/lang/String", "equals", "(Ljava/lang/Object;)Z"⟩ : MethodName) (head1 (Jvm.Cond.code (⟨"java/lang/String", "equals", "(Ljava/lang/Object;)Z"⟩ : MethodName) jdk_42_method_66_code 3 (some .boolean) :: ws) ({ frames := 0, cells := 0, slots := 0, locals := 0 } : Room)) (fun ar_ U => ar_ = #[(.ref ax), (.ref ax)] ∧ Z.Warmed39 U.vm ∧ U.heap = h0) (fun _ _ _ _ _ => True) (fun _ U o U' => ∃ v L, o = .returned v ∧ Q_rmSEqS Z ax h0 n0 v U'.heap L ∧ FrameEnd U o U' L ({ frames := 0, cells := 0, slots := 0, locals := 0 } : Room).cells ({ frames := 0, cells := 0, slots := 0, locals := 0 } : Room).slots) := by
  refine MetFree.of_bodySF (plainFor_of_name pn_java_lang_String) hisR ?_
  intro p e s m args below meth c s₁ Bd hml0 hP hK
  obtain ⟨rfl, hZ, hh⟩ := hP
  have hx := Bd.exec
  have hby := Bd.bytes
  have hml : c.maxLocals = 3 := hml0
  have hown : s.vm.findClass "java/lang/String" = some m.cls := findClass_of_methodNamed Bd.named
  have hnm := (name_of_methodNamed Bd.named Bd.method).1
  have X0 : Stand p l e ({ frames := 0, cells := 0, slots := 0, locals := 0 } : Room) s m #[(.ref ax), (.ref ax)] below meth c s₁ [] 0 0 := Stand.of_body Bd
  have e0 : s₁.heap = h0 := by rw [← hh, Bd.state]; rfl
  have N0 := Fr.nil n0
  have pre0 : ∀ t_, Steps p.tables e below (s₁.setTop (mkF m 0 #[.val (.ref ax), .val (.ref ax), .unset] [])) t_ → Steps p.tables e below (s₁.setTop (entryFrame m #[(.ref ax), (.ref ax)] 3)) t_ := fun t_ k_ => castTop (ef_rmSEqS m ax ax) k_
  have s1 : ∀ t_, Steps p.tables e below (s₁.setTop (mkF m 6 #[.val (.ref ax), .val (.ref ax), .unset] [(.int (1 : Int32))])) t_ → Steps p.tables e below (s₁.setTop (entryFrame m #[(.ref ax), (.ref ax)] 3)) t_ := fun t_ k_ => pre0 t_ (by
    show Steps p.tables e below (s₁.setTop (mkF m 0 #[.val (.ref ax), .val (.ref ax), .unset] [])) t_
    refine XS.aloadN X0.here hx rfl (Jvm.hb hby d_jdk_42_method_66_0) rfl rfl ?_
    refine XS.aloadN X0.here hx rfl (Jvm.hb hby d_jdk_42_method_66_1) rfl rfl ?_
    refine Jvm.RoadKit.acmp (g := (mkF m 2 #[.val (.ref ax), .val (.ref ax), .unset] [(.ref ax), (.ref ax)])) X0 hx rfl rfl rfl (pc0 := 2) (pc' := 5) (same := true) rfl (Jvm.hb hby d_jdk_42_method_66_2) rfl (decide_eq_true rfl) (by decide) (by decide) ?_
    show Steps p.tables e below (s₁.setTop (mkF m 5 #[.val (.ref ax), .val (.ref ax), .unset] [])) _
    refine XS.iconst X0.here hx rfl (Jvm.hb hby d_jdk_42_method_66_5) ?_
    show Steps p.tables e below (s₁.setTop (mkF m 6 #[.val (.ref ax), .val (.ref ax), .unset] [(.int (1 : Int32))])) t_
    exact k_)
  obtain ⟨fs, hr, hrun, hended, hW, hsame⟩ := X0.leave (v := some (.int (1 : Int32))) (fun h => by rw [Bd.returns] at h; cases h)
  refine ⟨_, _, s1 _ ?_, hrun, hended, _, _, rfl, ?_, ⟨_, rfl⟩, hW, hsame.mono (by decide) (by decide)⟩
  · show Steps p.tables e below (s₁.setTop (mkF m 6 #[.val (.ref ax), .val (.ref ax), .unset] [(.int (1 : Int32))])) _
    exact retN X0 hx (t := .boolean) Bd.returns (by simp) (Jvm.hb hby d_jdk_42_method_66_6) hr
  · show Q_rmSEqS Z _ h0 n0 _ s₁.heap _
    rw [e0]
    exact ⟨rfl, N0, rfl⟩
theorem pn_com_example_zastupnik_zastupnik_protocol_AsciiDigits : plainName "com/example/zastupnik/zastupnik/protocol/AsciiDigits" = true := by first | (simp [plainName, overriddenIn]; done) | decide +kernel
theorem d_prog_32_method_2_0 : decode prog_32_method_2_code 0 = .ok (.aload_n 0, 1) := by decide +kernel
theorem d_prog_32_method_2_1 : decode prog_32_method_2_code 1 = .ok (.invokevirtual 7, 3) := by decide +kernel
theorem d_prog_32_method_2_4 : decode prog_32_method_2_code 4 = .ok (.ifCond .eq 5, 3) := by decide +kernel
theorem d_prog_32_method_2_7 : decode prog_32_method_2_code 7 = .ok (.iconst 0, 1) := by decide +kernel
theorem d_prog_32_method_2_8 : decode prog_32_method_2_code 8 = .ok (.ireturn, 1) := by decide +kernel
theorem d_prog_32_method_2_9 : decode prog_32_method_2_code 9 = .ok (.iconst 0, 1) := by decide +kernel
theorem d_prog_32_method_2_10 : decode prog_32_method_2_code 10 = .ok (.istore_n 1, 1) := by decide +kernel
theorem d_prog_32_method_2_11 : decode prog_32_method_2_code 11 = .ok (.iload_n 1, 1) := by decide +kernel
theorem d_prog_32_method_2_12 : decode prog_32_method_2_code 12 = .ok (.aload_n 0, 1) := by decide +kernel
theorem pd___I : parseMethodDescriptor "()I" = some ⟨[], some .int⟩ := by decide +kernel
theorem d_prog_32_method_2_13 : decode prog_32_method_2_code 13 = .ok (.invokevirtual 13, 3) := by decide +kernel
theorem d_prog_32_method_2_16 : decode prog_32_method_2_code 16 = .ok (.if_icmp .ge 29, 3) := by decide +kernel
theorem d_prog_32_method_2_19 : decode prog_32_method_2_code 19 = .ok (.aload_n 0, 1) := by decide +kernel
theorem d_prog_32_method_2_20 : decode prog_32_method_2_code 20 = .ok (.iload_n 1, 1) := by decide +kernel
theorem pd__I_C : parseMethodDescriptor "(I)C" = some ⟨[.int], some .char⟩ := by decide +kernel
theorem d_prog_32_method_2_21 : decode prog_32_method_2_code 21 = .ok (.invokevirtual 17, 3) := by decide +kernel
theorem os_rmOnly_24 {z0 : Value} {z1 : Value} {s2 : Slot} {v : Int32} (h : One s2) : storeLocals #[.val z0, .val z1, s2] 2 (.int v) = some #[.val z0, .val z1, .val (.int v)] := by
  rcases h with rfl | ⟨w, rfl, hw⟩
  · rfl
  · cases w <;> first | rfl | (simp [Value.category] at hw)
theorem d_prog_32_method_2_24 : decode prog_32_method_2_code 24 = .ok (.istore_n 2, 1) := by decide +kernel
theorem d_prog_32_method_2_25 : decode prog_32_method_2_code 25 = .ok (.iload_n 2, 1) := by decide +kernel
theorem d_prog_32_method_2_26 : decode prog_32_method_2_code 26 = .ok (.bipush 48, 2) := by decide +kernel
theorem d_prog_32_method_2_28 : decode prog_32_method_2_code 28 = .ok (.if_icmp .lt 9, 3) := by decide +kernel
theorem d_prog_32_method_2_31 : decode prog_32_method_2_code 31 = .ok (.iload_n 2, 1) := by decide +kernel
theorem d_prog_32_method_2_32 : decode prog_32_method_2_code 32 = .ok (.bipush 57, 2) := by decide +kernel
theorem d_prog_32_method_2_34 : decode prog_32_method_2_code 34 = .ok (.if_icmp .le 5, 3) := by decide +kernel
theorem d_prog_32_method_2_39 : decode prog_32_method_2_code 39 = .ok (.iinc 1 1, 3) := by decide +kernel
theorem d_prog_32_method_2_42 : decode prog_32_method_2_code 42 = .ok (.goto (-31), 3) := by decide +kernel
theorem d_prog_32_method_2_45 : decode prog_32_method_2_code 45 = .ok (.iconst 1, 1) := by decide +kernel
theorem d_prog_32_method_2_46 : decode prog_32_method_2_code 46 = .ok (.ireturn, 1) := by decide +kernel
theorem d_prog_32_method_2_37 : decode prog_32_method_2_code 37 = .ok (.iconst 0, 1) := by decide +kernel
theorem d_prog_32_method_2_38 : decode prog_32_method_2_code 38 = .ok (.ireturn, 1) := by decide +kernel
theorem ef_rmOnly (m : MethodId) (x0 : Addr) : entryFrame m #[(.ref x0)] 3 = mkF m 0 #[.val (.ref x0), .unset, .unset] [] := by first | (simp [entryFrame, mkF, argsToLocals, Value.category]; done) | rfl
def Q_rmOnly (Z : State) (a : Addr) (cst : Int32) (b : Addr) (kb : ClassId) (cs : List Int32) (fmt : Value) (h0 : Heap) (n0 : Nat) (v : Option Value) (h : Heap) (L : List Loc) : Prop := (v = some (.int (own_only cs))) ∧ (Fr n0 L) ∧ (h = h0)
set_option maxRecDepth 65536 in
set_option maxHeartbeats 40000000 in
theorem rmOnly (l : Launch) (Z : State) (a0 : Array Value) (hw : ∀ d ∈ tables_1, d.before a0 Z = true) (ws : List Jvm.Cond) (a : Addr) (cst : Int32) (b : Addr) (kb : ClassId) (cs : List Int32) (fmt : Value) (h0 : Heap) (n0 : Nat) (Z0 : n0 ≤ h0.size) (I1 : Sta Z Z.heap "java/lang/String" "COMPACT_STRINGS" "Z" (.int cst)) (hfmt : fmt.isRef = true) (I2 : Sta Z Z.heap "jdk/internal/util/Preconditions" "SIOOBE_FORMATTER" "Ljava/util/function/BiFunction;" fmt) (OX : Old Z n0 h0) (hcst : ¬ (cst = (0 : Int32))) (I3 : Exa Z h0 a "java/lang/String") (I4 : Fld Z h0 a "java/lang/String" "value" "[B" (.ref b)) (I5 : Fld Z h0 a "java/lang/String" "coder" "B" (.int (own_cod cs))) (I6 : Arv Z h0 b kb .byte (Int32.ofNat (own_enl cs)) (own_enc cs) (.int (0 : Int32))) (hb : cs.length ≤ 3) (hchs : own_chs cs) (hlat : own_lat cs) :
    MetFree l (⟨"com/example/zastupnik/zastupnik/protocol/AsciiDigits", "only", "(Ljava/lang/String;)Z"⟩ : MethodName) (head1 (Jvm.Cond.code (⟨"com/example/zastupnik/zastupnik/protocol/AsciiDigits", "only", "(Ljava/lang/String;)Z"⟩ : MethodName) prog_32_method_2_code 3 (some .boolean) :: ws) ({ frames := 4, cells := 0, slots := 0, locals := 53 } : Room)) (fun ar_ U => ar_ = #[(.ref a)] ∧ Z.Warmed39 U.vm ∧ U.heap = h0) (fun _ _ _ _ _ => True) (fun _ U o U' => ∃ v L, o = .returned v ∧ Q_rmOnly Z a cst b kb cs fmt h0 n0 v U'.heap L ∧ FrameEnd U o U' L ({ frames := 4, cells := 0, slots := 0, locals := 53 } : Room).cells ({ frames := 4, cells := 0, slots := 0, locals := 53 } : Room).slots) := by
  refine MetFree.of_bodySF (plainFor_of_name pn_com_example_zastupnik_zastupnik_protocol_AsciiDigits) hisR ?_
  intro p e s m args below meth c s₁ Bd hml0 hP hK
  obtain ⟨rfl, hZ, hh⟩ := hP
  have hx := Bd.exec
  have hby := Bd.bytes
  have hml : c.maxLocals = 3 := hml0
  have hown : s.vm.findClass "com/example/zastupnik/zastupnik/protocol/AsciiDigits" = some m.cls := findClass_of_methodNamed Bd.named
  have hnm := (name_of_methodNamed Bd.named Bd.method).1
  have X0 : Stand p l e ({ frames := 4, cells := 0, slots := 0, locals := 53 } : Room) s m #[(.ref a)] below meth c s₁ [] 0 0 := Stand.of_body Bd
  have e0 : s₁.heap = h0 := by rw [← hh, Bd.state]; rfl
  have N0 := Fr.nil n0
  have pre0 : ∀ t_, Steps p.tables e below (s₁.setTop (mkF m 0 #[.val (.ref a), .unset, .unset] [])) t_ → Steps p.tables e below (s₁.setTop (entryFrame m #[(.ref a)] 3)) t_ := fun t_ k_ => castTop (ef_rmOnly m a) k_
  have lt_I3 : @LT.lt Nat _ a h0.size := I3.lt
  have lt_I4 : @LT.lt Nat _ a h0.size := I4.lt
  have lt_I5 : @LT.lt Nat _ a h0.size := I5.lt
  have lt_I6 : @LT.lt Nat _ b h0.size := I6.lt
  have Zc1 : n0 ≤ h0.size := by omega
  obtain ⟨cq2, kq2, q2a, q2b, q2c⟩ := isOf hZ e0 I3
  obtain ⟨_, _, ⟨T2, L2, k2, n2⟩, -, X2, ⟨Lc2, hQ2, l2, y2, z2⟩, st2⟩ := X0.virtualBack hx (y := (⟨"java/lang/String", "isEmpty", "()Z"⟩ : MethodName)) (z := (⟨"java/lang/String", "isEmpty", "()Z"⟩ : MethodName)) hown (mvT hZ (hw _ (List.mem_of_getElem? (i := 65) rfl))) (mvT hZ (hw _ (List.mem_of_getElem? (i := 66) rfl))) (notFace_of_selects (args := #[]) (mvT hZ (hw _ (List.mem_of_getElem? (i := 68) rfl)))) (mvT hZ (hw _ (List.mem_of_getElem? (i := 68) rfl))) (mvT hZ (hw _ (List.mem_of_getElem? (i := 67) rfl))) (by decide) (backOf (W := 0) (rmEmp l Z a0 hw [] a b kb cs h0 n0 Zc1 I3 I4 I6 (hb : cs.length ≤ 3)) hZ (hw _ (List.mem_of_getElem? (i := 69) rfl)) (hw _ (List.mem_of_getElem? (i := 12) rfl)) (by decide) (by decide)) q2a q2c (g := (mkF m 1 #[.val (.ref a), .unset, .unset] [(.ref a)])) rfl (by rw [hml]; rfl) (Steps.refl _) (argsL := []) (rest := []) (lenOf pd___Z rfl) rfl (by show 2 * 0 + _ ≤ _; exact Nat.le_of_eq rfl) (Jvm.hb hby d_prog_32_method_2_1) (fun _ _ => ⟨rfl, e0, (by decide : 0 + 0 ≤ _), (by decide : 0 + 0 ≤ _)⟩)
  dsimp only [Pt.U, Pt.locs, Pt.cells, Pt.slots] at X2 l2 y2 z2 st2 hQ2
  subst l2 y2 z2
  obtain ⟨rfl, N2q, e2⟩ := hQ2
  have N2 := Fr.app N0 N2q
  have s3 : ∀ t_, Steps p.tables e below (T2.setTop (mkF m 4 #[.val (.ref a), .unset, .unset] [(.int (if cs = [] then (1 : Int32) else (0 : Int32)))])) t_ → Steps p.tables e below (s₁.setTop (entryFrame m #[(.ref a)] 3)) t_ := fun t_ k_ => pre0 t_ (by
    show Steps p.tables e below (s₁.setTop (mkF m 0 #[.val (.ref a), .unset, .unset] [])) t_
    refine XS.aloadN X0.here hx rfl (Jvm.hb hby d_prog_32_method_2_0) rfl rfl ?_
    refine st2.trans ?_
    show Steps p.tables e below (T2.setTop (mkF m 4 #[.val (.ref a), .unset, .unset] [(.int (if cs = [] then (1 : Int32) else (0 : Int32)))])) _
    show Steps p.tables e below (T2.setTop (mkF m 4 #[.val (.ref a), .unset, .unset] [(.int (if cs = [] then (1 : Int32) else (0 : Int32)))])) t_
    exact k_)
  by_cases h4 : cs = []
  · have s5 : ∀ t_, Steps p.tables e below (T2.setTop (mkF m 4 #[.val (.ref a), .unset, .unset] [(.int (1 : Int32))])) t_ → Steps p.tables e below (s₁.setTop (entryFrame m #[(.ref a)] 3)) t_ := fun t_ k_ => s3 t_ (castTop (by simp only [if_pos h4]) k_)
    have s6 : ∀ t_, Steps p.tables e below (T2.setTop (mkF m 8 #[.val (.ref a), .unset, .unset] [(.int (0 : Int32))])) t_ → Steps p.tables e below (s₁.setTop (entryFrame m #[(.ref a)] 3)) t_ := fun t_ k_ => s5 t_ (by
      show Steps p.tables e below (T2.setTop (mkF m 4 #[.val (.ref a), .unset, .unset] [(.int (1 : Int32))])) t_
      refine XS.ifNo X2.here hx rfl (Jvm.hb hby d_prog_32_method_2_4) rfl ((if0 _ _).trans (feq (by decide : ¬ ((1 : Int32) = (0 : Int32)))).1) ?_
      show Steps p.tables e below (T2.setTop (mkF m 7 #[.val (.ref a), .unset, .unset] [])) _
      refine XS.iconst X2.here hx rfl (Jvm.hb hby d_prog_32_method_2_7) ?_
      show Steps p.tables e below (T2.setTop (mkF m 8 #[.val (.ref a), .unset, .unset] [(.int (0 : Int32))])) t_
      exact k_)
    obtain ⟨fs, hr, hrun, hended, hW, hsame⟩ := X2.leave (v := some (.int (0 : Int32))) (fun h => by rw [Bd.returns] at h; cases h)
    refine ⟨_, _, s6 _ ?_, hrun, hended, _, _, rfl, ?_, ⟨_, rfl⟩, hW, hsame.mono (by decide) (by decide)⟩
    · show Steps p.tables e below (T2.setTop (mkF m 8 #[.val (.ref a), .unset, .unset] [(.int (0 : Int32))])) _
      exact retN X2 hx (t := .boolean) Bd.returns (by simp) (Jvm.hb hby d_prog_32_method_2_8) hr
    · show Q_rmOnly Z _ _ _ _ _ _ h0 n0 _ T2.heap _
      rw [e2]
      exact ⟨(by rw [h4]; rfl), N2, rfl⟩
  · have s7 : ∀ t_, Steps p.tables e below (T2.setTop (mkF m 4 #[.val (.ref a), .unset, .unset] [(.int (0 : Int32))])) t_ → Steps p.tables e below (s₁.setTop (entryFrame m #[(.ref a)] 3)) t_ := fun t_ k_ => s3 t_ (castTop (by simp only [if_neg h4]) k_)
    have s8 : ∀ t_, Steps p.tables e below (T2.setTop (mkF m 11 #[.val (.ref a), .val (.int (0 : Int32)), .unset] [])) t_ → Steps p.tables e below (s₁.setTop (entryFrame m #[(.ref a)] 3)) t_ := fun t_ k_ => s7 t_ (by
      show Steps p.tables e below (T2.setTop (mkF m 4 #[.val (.ref a), .unset, .unset] [(.int (0 : Int32))])) t_
      refine XS.ifYes X2.here hx rfl (pc0 := 4) (pc' := 9) rfl (Jvm.hb hby d_prog_32_method_2_4) rfl ((if0 _ _).trans (teq (rfl : (0 : Int32) = (0 : Int32))).1) (by decide) (by decide) ?_
      show Steps p.tables e below (T2.setTop (mkF m 9 #[.val (.ref a), .unset, .unset] [])) _
      refine XS.iconst X2.here hx rfl (Jvm.hb hby d_prog_32_method_2_9) ?_
      refine XS.istoreN X2.here hx rfl (Jvm.hb hby d_prog_32_method_2_10) rfl (l' := #[.val (.ref a), .val (.int (0 : Int32)), .unset]) rfl ?_
      show Steps p.tables e below (T2.setTop (mkF m 11 #[.val (.ref a), .val (.int (0 : Int32)), .unset] [])) t_
      exact k_)
    have lp9 : ∀ (k_ : Nat) (j : Nat) (s2 : Slot) (T_ : State) (lo_ : List Loc), j + k_ = cs.length → Stand p l e ({ frames := 4, cells := 0, slots := 0, locals := 53 } : Room) s m #[(.ref a)] below meth c T_ lo_ 0 0 → T_.heap = h0 → Fr n0 lo_ → (One s2) → (∀ i, i < j → own_dig (cs.getD i 0)) → ∃ (T' : State) (lo' : List Loc) (fe_ : JFrame), Stand p l e ({ frames := 4, cells := 0, slots := 0, locals := 53 } : Room) s m #[(.ref a)] below meth c T' lo' 0 0 ∧ T'.heap = h0 ∧ Fr n0 lo' ∧ ((∃ (s2 : Slot), fe_ = (mkF m 45 #[.val (.ref a), .val (.int (Int32.ofNat cs.length)), s2] []) ∧ (∀ c ∈ cs, own_dig c)) ∨ (∃ (jj : Nat), fe_ = (mkF m 37 #[.val (.ref a), .val (.int (Int32.ofNat jj)), .val (.int (cs.getD jj 0))] []) ∧ (jj < cs.length) ∧ (¬ own_dig (cs.getD jj 0)))) ∧ ∀ t_, Steps p.tables e below (T'.setTop fe_) t_ → Steps p.tables e below (T_.setTop (mkF m 11 #[.val (.ref a), .val (.int (Int32.ofNat j)), s2] [])) t_ := by
      intro k_
      induction k_ with
      | zero => 
        intro j s2 T_ lo_ hm_ X_ e_ N_ hs2 hp
        have Zc10 : n0 ≤ h0.size := by omega
        obtain ⟨cq11, kq11, q11a, q11b, q11c⟩ := isOf hZ e_ I3
        obtain ⟨_, _, ⟨T11, L11, k11, n11⟩, -, X11, ⟨Lc11, hQ11, l11, y11, z11⟩, st11⟩ := X_.virtualBack hx (y := (⟨"java/lang/String", "length", "()I"⟩ : MethodName)) (z := (⟨"java/lang/String", "length", "()I"⟩ : MethodName)) hown (mvT hZ (hw _ (List.mem_of_getElem? (i := 70) rfl))) (mvT hZ (hw _ (List.mem_of_getElem? (i := 52) rfl))) (notFace_of_selects (args := #[]) (mvT hZ (hw _ (List.mem_of_getElem? (i := 54) rfl)))) (mvT hZ (hw _ (List.mem_of_getElem? (i := 54) rfl))) (mvT hZ (hw _ (List.mem_of_getElem? (i := 53) rfl))) (by decide) (backOf (W := 1) (rmLen l Z a0 hw [] a cst b kb cs h0 n0 Zc10 I1 OX (hcst : ¬ (cst = (0 : Int32))) I3 I4 I5 I6 (hb : cs.length ≤ 3)) hZ (hw _ (List.mem_of_getElem? (i := 55) rfl)) (hw _ (List.mem_of_getElem? (i := 12) rfl)) (by decide) (by decide)) q11a q11c (g := (mkF m 13 #[.val (.ref a), .val (.int (Int32.ofNat j)), s2] [(.ref a), (.int (Int32.ofNat j))])) rfl (by rw [hml]; rfl) (Steps.refl _) (argsL := []) (rest := [(.int (Int32.ofNat j))]) (lenOf pd___I rfl) rfl (by show 2 * 0 + _ ≤ _; exact Nat.le_of_eq rfl) (Jvm.hb hby d_prog_32_method_2_13) (fun _ _ => ⟨rfl, e_, (by decide : 0 + 0 ≤ _), (by decide : 0 + 0 ≤ _)⟩)
        dsimp only [Pt.U, Pt.locs, Pt.cells, Pt.slots] at X11 l11 y11 z11 st11 hQ11
        subst l11 y11 z11
        obtain ⟨rfl, N11q, e11⟩ := hQ11
        have N11 := Fr.app N_ N11q
        have s12 : ∀ t_, Steps p.tables e below (T11.setTop (mkF m 45 #[.val (.ref a), .val (.int (Int32.ofNat j)), s2] [])) t_ → Steps p.tables e below (T_.setTop (mkF m 11 #[.val (.ref a), .val (.int (Int32.ofNat j)), s2] [])) t_ := fun t_ k_ => (fun _ k_ => k_) t_ (by
          show Steps p.tables e below (T_.setTop (mkF m 11 #[.val (.ref a), .val (.int (Int32.ofNat j)), s2] [])) t_
          refine XS.iloadN X_.here hx rfl (Jvm.hb hby d_prog_32_method_2_11) rfl ?_
          refine XS.aloadN X_.here hx rfl (Jvm.hb hby d_prog_32_method_2_12) rfl rfl ?_
          refine st11.trans ?_
          show Steps p.tables e below (T11.setTop (mkF m 16 #[.val (.ref a), .val (.int (Int32.ofNat j)), s2] [(.int (Int32.ofNat cs.length)), (.int (Int32.ofNat j))])) _
          refine XS.icmpYes X11.here hx rfl (pc0 := 16) (pc' := 45) rfl (Jvm.hb hby d_prog_32_method_2_16) rfl (flt (own_nlt (by omega) (by omega))).2.1 (by decide) (by decide) ?_
          show Steps p.tables e below (T11.setTop (mkF m 45 #[.val (.ref a), .val (.int (Int32.ofNat j)), s2] [])) _
          show Steps p.tables e below (T11.setTop (mkF m 45 #[.val (.ref a), .val (.int (Int32.ofNat j)), s2] [])) t_
          exact k_)
        exact ⟨T11, _, _, X11, e11, N11, (Or.inl ⟨s2, (by rw [show j = cs.length by omega]), (own_allx fun i hi => hp i (by omega))⟩), s12⟩
      | succ k_ ih => 
        intro j s2 T_ lo_ hm_ X_ e_ N_ hs2 hp
        have Zc13 : n0 ≤ h0.size := by omega
        obtain ⟨cq14, kq14, q14a, q14b, q14c⟩ := isOf hZ e_ I3
        obtain ⟨_, _, ⟨T14, L14, k14, n14⟩, -, X14, ⟨Lc14, hQ14, l14, y14, z14⟩, st14⟩ := X_.virtualBack hx (y := (⟨"java/lang/String", "length", "()I"⟩ : MethodName)) (z := (⟨"java/lang/String", "length", "()I"⟩ : MethodName)) hown (mvT hZ (hw _ (List.mem_of_getElem? (i := 70) rfl))) (mvT hZ (hw _ (List.mem_of_getElem? (i := 52) rfl))) (notFace_of_selects (args := #[]) (mvT hZ (hw _ (List.mem_of_getElem? (i := 54) rfl)))) (mvT hZ (hw _ (List.mem_of_getElem? (i := 54) rfl))) (mvT hZ (hw _ (List.mem_of_getElem? (i := 53) rfl))) (by decide) (backOf (W := 1) (rmLen l Z a0 hw [] a cst b kb cs h0 n0 Zc13 I1 OX (hcst : ¬ (cst = (0 : Int32))) I3 I4 I5 I6 (hb : cs.length ≤ 3)) hZ (hw _ (List.mem_of_getElem? (i := 55) rfl)) (hw _ (List.mem_of_getElem? (i := 12) rfl)) (by decide) (by decide)) q14a q14c (g := (mkF m 13 #[.val (.ref a), .val (.int (Int32.ofNat j)), s2] [(.ref a), (.int (Int32.ofNat j))])) rfl (by rw [hml]; rfl) (Steps.refl _) (argsL := []) (rest := [(.int (Int32.ofNat j))]) (lenOf pd___I rfl) rfl (by show 2 * 0 + _ ≤ _; exact Nat.le_of_eq rfl) (Jvm.hb hby d_prog_32_method_2_13) (fun _ _ => ⟨rfl, e_, (by decide : 0 + 0 ≤ _), (by decide : 0 + 0 ≤ _)⟩)
        dsimp only [Pt.U, Pt.locs, Pt.cells, Pt.slots] at X14 l14 y14 z14 st14 hQ14
        subst l14 y14 z14
        obtain ⟨rfl, N14q, e14⟩ := hQ14
        have N14 := Fr.app N_ N14q
        have Zc15 : n0 ≤ h0.size := by omega
        obtain ⟨cq16, kq16, q16a, q16b, q16c⟩ := isOf hZ e14 I3
        obtain ⟨_, _, ⟨T16, L16, k16, n16⟩, -, X16, ⟨Lc16, hQ16, l16, y16, z16⟩, st16⟩ := X14.virtualBack hx (y := (⟨"java/lang/String", "charAt", "(I)C"⟩ : MethodName)) (z := (⟨"java/lang/String", "charAt", "(I)C"⟩ : MethodName)) hown (mvT hZ (hw _ (List.mem_of_getElem? (i := 71) rfl))) (mvT hZ (hw _ (List.mem_of_getElem? (i := 72) rfl))) (notFace_of_selects (args := #[]) (mvT hZ (hw _ (List.mem_of_getElem? (i := 74) rfl)))) (mvT hZ (hw _ (List.mem_of_getElem? (i := 74) rfl))) (mvT hZ (hw _ (List.mem_of_getElem? (i := 73) rfl))) (by decide) (backOf (W := 0) (rmChA l Z a0 hw [] a cst b kb cs j fmt h0 n0 Zc15 I1 (hfmt : fmt.isRef = true) I2 OX (hcst : ¬ (cst = (0 : Int32))) I3 I4 I5 I6 (hb : cs.length ≤ 3) (by omega) (hchs : own_chs cs) (hlat : own_lat cs)) hZ (hw _ (List.mem_of_getElem? (i := 75) rfl)) (hw _ (List.mem_of_getElem? (i := 12) rfl)) (by decide) (by decide)) q16a q16c (g := (mkF m 21 #[.val (.ref a), .val (.int (Int32.ofNat j)), s2] [(.int (Int32.ofNat j)), (.ref a)])) rfl (by rw [hml]; rfl) (Steps.refl _) (argsL := [(.int (Int32.ofNat j))]) (rest := []) (lenOf pd__I_C rfl) rfl (by show 2 * 0 + _ ≤ _; exact Nat.le_of_eq rfl) (Jvm.hb hby d_prog_32_method_2_21) (fun _ _ => ⟨rfl, e14, (by decide : 0 + 0 ≤ _), (by decide : 0 + 0 ≤ _)⟩)
        dsimp only [Pt.U, Pt.locs, Pt.cells, Pt.slots] at X16 l16 y16 z16 st16 hQ16
        subst l16 y16 z16
        obtain ⟨rfl, N16q, e16⟩ := hQ16
        have N16 := Fr.app N14 N16q
        have s17 : ∀ t_, Steps p.tables e below (T16.setTop (mkF m 28 #[.val (.ref a), .val (.int (Int32.ofNat j)), .val (.int (cs.getD j 0))] [(.int (48 : Int32)), (.int (cs.getD j 0))])) t_ → Steps p.tables e below (T_.setTop (mkF m 11 #[.val (.ref a), .val (.int (Int32.ofNat j)), s2] [])) t_ := fun t_ k_ => (fun _ k_ => k_) t_ (by
          show Steps p.tables e below (T_.setTop (mkF m 11 #[.val (.ref a), .val (.int (Int32.ofNat j)), s2] [])) t_
          refine XS.iloadN X_.here hx rfl (Jvm.hb hby d_prog_32_method_2_11) rfl ?_
          refine XS.aloadN X_.here hx rfl (Jvm.hb hby d_prog_32_method_2_12) rfl rfl ?_
          refine st14.trans ?_
          show Steps p.tables e below (T14.setTop (mkF m 16 #[.val (.ref a), .val (.int (Int32.ofNat j)), s2] [(.int (Int32.ofNat cs.length)), (.int (Int32.ofNat j))])) _
          refine XS.icmpNo X14.here hx rfl (Jvm.hb hby d_prog_32_method_2_16) rfl (tlt (own_lt (by omega) (by omega))).2.1 ?_
          show Steps p.tables e below (T14.setTop (mkF m 19 #[.val (.ref a), .val (.int (Int32.ofNat j)), s2] [])) _
          refine XS.aloadN X14.here hx rfl (Jvm.hb hby d_prog_32_method_2_19) rfl rfl ?_
          refine XS.iloadN X14.here hx rfl (Jvm.hb hby d_prog_32_method_2_20) rfl ?_
          refine st16.trans ?_
          show Steps p.tables e below (T16.setTop (mkF m 24 #[.val (.ref a), .val (.int (Int32.ofNat j)), s2] [(.int (cs.getD j 0))])) _
          refine XS.istoreN X16.here hx rfl (Jvm.hb hby d_prog_32_method_2_24) rfl (l' := #[.val (.ref a), .val (.int (Int32.ofNat j)), .val (.int (cs.getD j 0))]) (os_rmOnly_24 hs2) ?_
          refine XS.iloadN X16.here hx rfl (Jvm.hb hby d_prog_32_method_2_25) rfl ?_
          refine XS.bipush X16.here hx rfl (Jvm.hb hby d_prog_32_method_2_26) ?_
          show Steps p.tables e below (T16.setTop (mkF m 28 #[.val (.ref a), .val (.int (Int32.ofNat j)), .val (.int (cs.getD j 0))] [(.int (48 : Int32)), (.int (cs.getD j 0))])) t_
          exact k_)
        by_cases h18 : (cs.getD j 0) < (48 : Int32)
        · have s19 : ∀ t_, Steps p.tables e below (T16.setTop (mkF m 37 #[.val (.ref a), .val (.int (Int32.ofNat j)), .val (.int (cs.getD j 0))] [])) t_ → Steps p.tables e below (T_.setTop (mkF m 11 #[.val (.ref a), .val (.int (Int32.ofNat j)), s2] [])) t_ := fun t_ k_ => s17 t_ (by
            show Steps p.tables e below (T16.setTop (mkF m 28 #[.val (.ref a), .val (.int (Int32.ofNat j)), .val (.int (cs.getD j 0))] [(.int (48 : Int32)), (.int (cs.getD j 0))])) t_
            refine XS.icmpYes X16.here hx rfl (pc0 := 28) (pc' := 37) rfl (Jvm.hb hby d_prog_32_method_2_28) rfl (tlt h18).1 (by decide) (by decide) ?_
            show Steps p.tables e below (T16.setTop (mkF m 37 #[.val (.ref a), .val (.int (Int32.ofNat j)), .val (.int (cs.getD j 0))] [])) _
            show Steps p.tables e below (T16.setTop (mkF m 37 #[.val (.ref a), .val (.int (Int32.ofNat j)), .val (.int (cs.getD j 0))] [])) t_
            exact k_)
          exact ⟨T16, _, _, X16, e16, N16, (Or.inr ⟨j, rfl, (by omega), (fun q => q.1 h18)⟩), s19⟩
        · have s20 : ∀ t_, Steps p.tables e below (T16.setTop (mkF m 34 #[.val (.ref a), .val (.int (Int32.ofNat j)), .val (.int (cs.getD j 0))] [(.int (57 : Int32)), (.int (cs.getD j 0))])) t_ → Steps p.tables e below (T_.setTop (mkF m 11 #[.val (.ref a), .val (.int (Int32.ofNat j)), s2] [])) t_ := fun t_ k_ => s17 t_ (by
            show Steps p.tables e below (T16.setTop (mkF m 28 #[.val (.ref a), .val (.int (Int32.ofNat j)), .val (.int (cs.getD j 0))] [(.int (48 : Int32)), (.int (cs.getD j 0))])) t_
            refine XS.icmpNo X16.here hx rfl (Jvm.hb hby d_prog_32_method_2_28) rfl (flt h18).1 ?_
            show Steps p.tables e below (T16.setTop (mkF m 31 #[.val (.ref a), .val (.int (Int32.ofNat j)), .val (.int (cs.getD j 0))] [])) _
            refine XS.iloadN X16.here hx rfl (Jvm.hb hby d_prog_32_method_2_31) rfl ?_
            refine XS.bipush X16.here hx rfl (Jvm.hb hby d_prog_32_method_2_32) ?_
            show Steps p.tables e below (T16.setTop (mkF m 34 #[.val (.ref a), .val (.int (Int32.ofNat j)), .val (.int (cs.getD j 0))] [(.int (57 : Int32)), (.int (cs.getD j 0))])) t_
            exact k_)
          by_cases h21 : (57 : Int32) < (cs.getD j 0)
          · have s22 : ∀ t_, Steps p.tables e below (T16.setTop (mkF m 37 #[.val (.ref a), .val (.int (Int32.ofNat j)), .val (.int (cs.getD j 0))] [])) t_ → Steps p.tables e below (T_.setTop (mkF m 11 #[.val (.ref a), .val (.int (Int32.ofNat j)), s2] [])) t_ := fun t_ k_ => s20 t_ (by
              show Steps p.tables e below (T16.setTop (mkF m 34 #[.val (.ref a), .val (.int (Int32.ofNat j)), .val (.int (cs.getD j 0))] [(.int (57 : Int32)), (.int (cs.getD j 0))])) t_
              refine XS.icmpNo X16.here hx rfl (Jvm.hb hby d_prog_32_method_2_34) rfl (tlt h21).2.2.2 ?_
              show Steps p.tables e below (T16.setTop (mkF m 37 #[.val (.ref a), .val (.int (Int32.ofNat j)), .val (.int (cs.getD j 0))] [])) _
              show Steps p.tables e below (T16.setTop (mkF m 37 #[.val (.ref a), .val (.int (Int32.ofNat j)), .val (.int (cs.getD j 0))] [])) t_
              exact k_)
            exact ⟨T16, _, _, X16, e16, N16, (Or.inr ⟨j, rfl, (by omega), (fun q => q.2 h21)⟩), s22⟩
          · have s23 : ∀ t_, Steps p.tables e below (T16.setTop (mkF m 11 #[.val (.ref a), .val (.int ((Int32.ofNat j) + (1 : Int32))), .val (.int (cs.getD j 0))] [])) t_ → Steps p.tables e below (T_.setTop (mkF m 11 #[.val (.ref a), .val (.int (Int32.ofNat j)), s2] [])) t_ := fun t_ k_ => s20 t_ (by
              show Steps p.tables e below (T16.setTop (mkF m 34 #[.val (.ref a), .val (.int (Int32.ofNat j)), .val (.int (cs.getD j 0))] [(.int (57 : Int32)), (.int (cs.getD j 0))])) t_
              refine XS.icmpYes X16.here hx rfl (pc0 := 34) (pc' := 39) rfl (Jvm.hb hby d_prog_32_method_2_34) rfl (flt h21).2.2.2 (by decide) (by decide) ?_
              show Steps p.tables e below (T16.setTop (mkF m 39 #[.val (.ref a), .val (.int (Int32.ofNat j)), .val (.int (cs.getD j 0))] [])) _
              refine XS.iinc X16.here hx rfl (Jvm.hb hby d_prog_32_method_2_39) rfl (l' := #[.val (.ref a), .val (.int ((Int32.ofNat j) + (1 : Int32))), .val (.int (cs.getD j 0))]) rfl ?_
              refine XS.goto X16.here hx rfl (pc0 := 42) (pc' := 11) rfl (Jvm.hb hby d_prog_32_method_2_42) (by decide) (by decide) ?_
              show Steps p.tables e below (T16.setTop (mkF m 11 #[.val (.ref a), .val (.int ((Int32.ofNat j) + (1 : Int32))), .val (.int (cs.getD j 0))] [])) t_
              exact k_)
            obtain ⟨T24, lo24, fe24, X24, e24, N24, A24, st24⟩ := ih (j + 1) (.val (.int (cs.getD j 0))) T16 _  (by omega) X16 e16 N16   (One.val rfl) (fun i hi => by rcases Nat.lt_succ_iff_lt_or_eq.mp hi with q | q; exact hp i q; rw [q]; exact ⟨h18, h21⟩)
            exact ⟨T24, lo24, fe24, X24, e24, N24, A24, fun t_ k_ => s23 t_ (castTop (by rw [own_up]) (st24 t_ k_))⟩
    obtain ⟨T25, lo25, fe25, X25, e25, N25, A25, st25⟩ := lp9 cs.length 0 .unset T2 _  (by omega) X2 e2 N2   One.u (fun i hi => absurd hi (Nat.not_lt_zero i))
    rcases A25 with ⟨s2_25, rfl, J25_0⟩ | ⟨jj_25, rfl, J25_0, J25_1⟩
    · have s26 : ∀ t_, Steps p.tables e below (T25.setTop (mkF m 45 #[.val (.ref a), .val (.int (Int32.ofNat cs.length)), s2_25] [])) t_ → Steps p.tables e below (s₁.setTop (entryFrame m #[(.ref a)] 3)) t_ := fun t_ k_ => s8 t_ (st25 t_ k_)
      have s27 : ∀ t_, Steps p.tables e below (T25.setTop (mkF m 46 #[.val (.ref a), .val (.int (Int32.ofNat cs.length)), s2_25] [(.int (1 : Int32))])) t_ → Steps p.tables e below (s₁.setTop (entryFrame m #[(.ref a)] 3)) t_ := fun t_ k_ => s26 t_ (by
        show Steps p.tables e below (T25.setTop (mkF m 45 #[.val (.ref a), .val (.int (Int32.ofNat cs.length)), s2_25] [])) t_
        refine XS.iconst X25.here hx rfl (Jvm.hb hby d_prog_32_method_2_45) ?_
        show Steps p.tables e below (T25.setTop (mkF m 46 #[.val (.ref a), .val (.int (Int32.ofNat cs.length)), s2_25] [(.int (1 : Int32))])) t_
        exact k_)
      obtain ⟨fs, hr, hrun, hended, hW, hsame⟩ := X25.leave (v := some (.int (1 : Int32))) (fun h => by rw [Bd.returns] at h; cases h)
      refine ⟨_, _, s27 _ ?_, hrun, hended, _, _, rfl, ?_, ⟨_, rfl⟩, hW, hsame.mono (by decide) (by decide)⟩
      · show Steps p.tables e below (T25.setTop (mkF m 46 #[.val (.ref a), .val (.int (Int32.ofNat cs.length)), s2_25] [(.int (1 : Int32))])) _
        exact retN X25 hx (t := .boolean) Bd.returns (by simp) (Jvm.hb hby d_prog_32_method_2_46) hr
      · show Q_rmOnly Z _ _ _ _ _ _ h0 n0 _ T25.heap _
        rw [e25]
        exact ⟨(by rw [own_onlyT h4 J25_0]), N25, rfl⟩
    · have s28 : ∀ t_, Steps p.tables e below (T25.setTop (mkF m 37 #[.val (.ref a), .val (.int (Int32.ofNat jj_25)), .val (.int (cs.getD jj_25 0))] [])) t_ → Steps p.tables e below (s₁.setTop (entryFrame m #[(.ref a)] 3)) t_ := fun t_ k_ => s8 t_ (st25 t_ k_)
      have s29 : ∀ t_, Steps p.tables e below (T25.setTop (mkF m 38 #[.val (.ref a), .val (.int (Int32.ofNat jj_25)), .val (.int (cs.getD jj_25 0))] [(.int (0 : Int32))])) t_ → Steps p.tables e below (s₁.setTop (entryFrame m #[(.ref a)] 3)) t_ := fun t_ k_ => s28 t_ (by
        show Steps p.tables e below (T25.setTop (mkF m 37 #[.val (.ref a), .val (.int (Int32.ofNat jj_25)), .val (.int (cs.getD jj_25 0))] [])) t_
        refine XS.iconst X25.here hx rfl (Jvm.hb hby d_prog_32_method_2_37) ?_
        show Steps p.tables e below (T25.setTop (mkF m 38 #[.val (.ref a), .val (.int (Int32.ofNat jj_25)), .val (.int (cs.getD jj_25 0))] [(.int (0 : Int32))])) t_
        exact k_)
      obtain ⟨fs, hr, hrun, hended, hW, hsame⟩ := X25.leave (v := some (.int (0 : Int32))) (fun h => by rw [Bd.returns] at h; cases h)
      refine ⟨_, _, s29 _ ?_, hrun, hended, _, _, rfl, ?_, ⟨_, rfl⟩, hW, hsame.mono (by decide) (by decide)⟩
      · show Steps p.tables e below (T25.setTop (mkF m 38 #[.val (.ref a), .val (.int (Int32.ofNat jj_25)), .val (.int (cs.getD jj_25 0))] [(.int (0 : Int32))])) _
        exact retN X25 hx (t := .boolean) Bd.returns (by simp) (Jvm.hb hby d_prog_32_method_2_38) hr
      · show Q_rmOnly Z _ _ _ _ _ _ h0 n0 _ T25.heap _
        rw [e25]
        exact ⟨(by rw [own_onlyF (own_mem cs _ J25_0) J25_1]), N25, rfl⟩
theorem pn_com_example_zastupnik_zastupnik_protocol_ServiceErrorEqualsPinLaw : plainName "com/example/zastupnik/zastupnik/protocol/ServiceErrorEqualsPinLaw" = true := by first | (simp [plainName, overriddenIn]; done) | decide +kernel
theorem d_method_4_0 : decode method_4_code 0 = .ok (.iload_n 0, 1) := by decide +kernel
theorem d_method_4_1 : decode method_4_code 1 = .ok (.ifCond .ne 14, 3) := by decide +kernel
theorem d_method_4_4 : decode method_4_code 4 = .ok (.new 30, 3) := by decide +kernel
theorem d_method_4_7 : decode method_4_code 7 = .ok (.dup, 1) := by decide +kernel
theorem d_method_4_8 : decode method_4_code 8 = .ok (.iconst 0, 1) := by decide +kernel
theorem d_method_4_9 : decode method_4_code 9 = .ok (.newarray .char, 2) := by decide +kernel
theorem pd___C_V : parseMethodDescriptor "([C)V" = some ⟨[(.array .char)], none⟩ := by decide +kernel
theorem d_method_4_11 : decode method_4_code 11 = .ok (.invokespecial 32, 3) := by decide +kernel
theorem d_method_4_14 : decode method_4_code 14 = .ok (.areturn, 1) := by decide +kernel
theorem d_method_4_15 : decode method_4_code 15 = .ok (.iload_n 0, 1) := by decide +kernel
theorem d_method_4_16 : decode method_4_code 16 = .ok (.iconst 1, 1) := by decide +kernel
theorem d_method_4_17 : decode method_4_code 17 = .ok (.if_icmp .ne 18, 3) := by decide +kernel
theorem d_method_4_20 : decode method_4_code 20 = .ok (.new 30, 3) := by decide +kernel
theorem d_method_4_23 : decode method_4_code 23 = .ok (.dup, 1) := by decide +kernel
theorem d_method_4_24 : decode method_4_code 24 = .ok (.iconst 1, 1) := by decide +kernel
theorem d_method_4_25 : decode method_4_code 25 = .ok (.newarray .char, 2) := by decide +kernel
theorem d_method_4_27 : decode method_4_code 27 = .ok (.dup, 1) := by decide +kernel
theorem d_method_4_28 : decode method_4_code 28 = .ok (.iconst 0, 1) := by decide +kernel
theorem d_method_4_29 : decode method_4_code 29 = .ok (.iload_n 1, 1) := by decide +kernel
theorem d_method_4_30 : decode method_4_code 30 = .ok (.castore, 1) := by decide +kernel
theorem d_method_4_31 : decode method_4_code 31 = .ok (.invokespecial 32, 3) := by decide +kernel
theorem d_method_4_34 : decode method_4_code 34 = .ok (.areturn, 1) := by decide +kernel
theorem d_method_4_35 : decode method_4_code 35 = .ok (.iload_n 0, 1) := by decide +kernel
theorem d_method_4_36 : decode method_4_code 36 = .ok (.iconst 2, 1) := by decide +kernel
theorem d_method_4_37 : decode method_4_code 37 = .ok (.if_icmp .ne 22, 3) := by decide +kernel
theorem d_method_4_40 : decode method_4_code 40 = .ok (.new 30, 3) := by decide +kernel
theorem d_method_4_43 : decode method_4_code 43 = .ok (.dup, 1) := by decide +kernel
theorem d_method_4_44 : decode method_4_code 44 = .ok (.iconst 2, 1) := by decide +kernel
theorem d_method_4_45 : decode method_4_code 45 = .ok (.newarray .char, 2) := by decide +kernel
theorem d_method_4_47 : decode method_4_code 47 = .ok (.dup, 1) := by decide +kernel
theorem d_method_4_48 : decode method_4_code 48 = .ok (.iconst 0, 1) := by decide +kernel
theorem d_method_4_49 : decode method_4_code 49 = .ok (.iload_n 1, 1) := by decide +kernel
theorem d_method_4_50 : decode method_4_code 50 = .ok (.castore, 1) := by decide +kernel
theorem d_method_4_51 : decode method_4_code 51 = .ok (.dup, 1) := by decide +kernel
theorem d_method_4_52 : decode method_4_code 52 = .ok (.iconst 1, 1) := by decide +kernel
theorem d_method_4_53 : decode method_4_code 53 = .ok (.iload_n 2, 1) := by decide +kernel
theorem d_method_4_54 : decode method_4_code 54 = .ok (.castore, 1) := by decide +kernel
theorem d_method_4_55 : decode method_4_code 55 = .ok (.invokespecial 32, 3) := by decide +kernel
theorem d_method_4_58 : decode method_4_code 58 = .ok (.areturn, 1) := by decide +kernel
theorem d_method_4_59 : decode method_4_code 59 = .ok (.new 30, 3) := by decide +kernel
theorem d_method_4_62 : decode method_4_code 62 = .ok (.dup, 1) := by decide +kernel
theorem d_method_4_63 : decode method_4_code 63 = .ok (.iconst 3, 1) := by decide +kernel
theorem d_method_4_64 : decode method_4_code 64 = .ok (.newarray .char, 2) := by decide +kernel
theorem d_method_4_66 : decode method_4_code 66 = .ok (.dup, 1) := by decide +kernel
theorem d_method_4_67 : decode method_4_code 67 = .ok (.iconst 0, 1) := by decide +kernel
theorem d_method_4_68 : decode method_4_code 68 = .ok (.iload_n 1, 1) := by decide +kernel
theorem d_method_4_69 : decode method_4_code 69 = .ok (.castore, 1) := by decide +kernel
theorem d_method_4_70 : decode method_4_code 70 = .ok (.dup, 1) := by decide +kernel
theorem d_method_4_71 : decode method_4_code 71 = .ok (.iconst 1, 1) := by decide +kernel
theorem d_method_4_72 : decode method_4_code 72 = .ok (.iload_n 2, 1) := by decide +kernel
theorem d_method_4_73 : decode method_4_code 73 = .ok (.castore, 1) := by decide +kernel
theorem d_method_4_74 : decode method_4_code 74 = .ok (.dup, 1) := by decide +kernel
theorem d_method_4_75 : decode method_4_code 75 = .ok (.iconst 2, 1) := by decide +kernel
theorem d_method_4_76 : decode method_4_code 76 = .ok (.iload_n 3, 1) := by decide +kernel
theorem d_method_4_77 : decode method_4_code 77 = .ok (.castore, 1) := by decide +kernel
theorem d_method_4_78 : decode method_4_code 78 = .ok (.invokespecial 32, 3) := by decide +kernel
theorem d_method_4_81 : decode method_4_code 81 = .ok (.areturn, 1) := by decide +kernel
theorem ef_rmMk (m : MethodId) (x0 : Int32) (x1 : Int32) (x2 : Int32) (x3 : Int32) : entryFrame m #[(.int x0), (.int x1), (.int x2), (.int x3)] 4 = mkF m 0 #[.val (.int x0), .val (.int x1), .val (.int x2), .val (.int x3)] [] := by first | (simp [entryFrame, mkF, argsToLocals, Value.category]; done) | rfl
def Q_rmMk (Z : State) (cx : Int32) (cy : Int32) (cz : Int32) (cst : Int32) (n : Nat) (h0 : Heap) (n0 : Nat) (v : Option Value) (h : Heap) (L : List Loc) : Prop := ∃ (a : Addr), ∃ (b : Addr), ∃ (kb : ClassId), (v = some (.ref a)) ∧ (Fr n0 L) ∧ (Keep h0 h []) ∧ (Exa Z h a "java/lang/String") ∧ (Fld Z h a "java/lang/String" "value" "[B" (.ref b)) ∧ (Fld Z h a "java/lang/String" "coder" "B" (.int (own_cod (own_mk n cx cy cz)))) ∧ (Arv Z h b kb .byte (Int32.ofNat (own_enl (own_mk n cx cy cz))) (own_enc (own_mk n cx cy cz)) (.int (0 : Int32))) ∧ (h0.size ≤ a)
set_option maxRecDepth 65536 in
set_option maxHeartbeats 40000000 in
theorem rmMk (l : Launch) (Z : State) (a0 : Array Value) (hw : ∀ d ∈ tables_1, d.before a0 Z = true) (ws : List Jvm.Cond) (cx : Int32) (cy : Int32) (cz : Int32) (cst : Int32) (n : Nat) (h0 : Heap) (n0 : Nat) (Z0 : n0 ≤ h0.size) (I1 : Sta Z Z.heap "java/lang/String" "COMPACT_STRINGS" "Z" (.int cst)) (OX : Old Z n0 h0) (hcst : ¬ (cst = (0 : Int32))) (hn4 : n < 4) (r0a : ¬ (cx < (0 : Int32))) (r1a : ¬ (cy < (0 : Int32))) (r2a : ¬ (cz < (0 : Int32))) (r0b : ¬ ((255 : Int32) < cx)) (r1b : ¬ ((255 : Int32) < cy)) (r2b : ¬ ((255 : Int32) < cz)) :
    MetFree l (⟨"com/example/zastupnik/zastupnik/protocol/ServiceErrorEqualsPinLaw", "mk", "(ICCC)Ljava/lang/String;"⟩ : MethodName) (head1 (Jvm.Cond.code (⟨"com/example/zastupnik/zastupnik/protocol/ServiceErrorEqualsPinLaw", "mk", "(ICCC)Ljava/lang/String;"⟩ : MethodName) method_4_code 4 (some (.object "java/lang/String")) :: ws) ({ frames := 4, cells := 6, slots := 15, locals := 66 } : Room)) (fun ar_ U => ar_ = #[(.int (Int32.ofNat n)), (.int cx), (.int cy), (.int cz)] ∧ Z.Warmed39 U.vm ∧ U.heap = h0 ∧ CHv Z ELs U.vm h0) (fun _ _ _ _ _ => True) (fun _ U o U' => ∃ v L, o = .returned v ∧ Q_rmMk Z cx cy cz cst n h0 n0 v U'.heap L ∧ CHr Z ELs U.vm U.heap U'.vm U'.heap ∧ ReturnedEndW U o U' L ({ frames := 4, cells := 6, slots := 15, locals := 66 } : Room).cells ({ frames := 4, cells := 6, slots := 15, locals := 66 } : Room).slots) := by
  refine MetFree.of_bodySF (plainFor_of_name pn_com_example_zastupnik_zastupnik_protocol_ServiceErrorEqualsPinLaw) hisR ?_
  intro p e s m args below meth c s₁ Bd hml0 hP hK
  obtain ⟨rfl, hZ, hh, hCH⟩ := hP
  have hx := Bd.exec
  have hby := Bd.bytes
  have hml : c.maxLocals = 4 := hml0
  have hown : s.vm.findClass "com/example/zastupnik/zastupnik/protocol/ServiceErrorEqualsPinLaw" = some m.cls := findClass_of_methodNamed Bd.named
  have hnm := (name_of_methodNamed Bd.named Bd.method).1
  have X0 : Stand p l e ({ frames := 4, cells := 6, slots := 15, locals := 66 } : Room) (s.setVm s.vm) m #[(.int (Int32.ofNat n)), (.int cx), (.int cy), (.int cz)] below meth c s₁ [] 0 0 := Stand.of_body Bd
  have e0 : s₁.heap = h0 := by rw [← hh, Bd.state]; rfl
  have N0 := Fr.nil n0
  have pre0 : ∀ t_, Steps p.tables e below (s₁.setTop (mkF m 0 #[.val (.int (Int32.ofNat n)), .val (.int cx), .val (.int cy), .val (.int cz)] [])) t_ → Steps p.tables e below (s₁.setTop (entryFrame m #[(.int (Int32.ofNat n)), (.int cx), (.int cy), (.int cz)] 4)) t_ := fun t_ k_ => castTop (ef_rmMk m (Int32.ofNat n) cx cy cz) k_
  have hEL : EW Z a0 ELs := own_EW hw
  have wS : ∀ a ∈ Bundle.stringAtoms, a.before a0 Z = true := own_wS hw
  have hS : s.Since s.vm s.heap.size := (State.WarmedH.refl s).since _
  have hk : s.heap.size ≤ h0.size := by rw [hh]; exact Nat.le_refl _
  have CR : CHr Z ELs s.vm h0 s.vm h0 := CHr.refl hCH
  obtain rfl | rfl | rfl | rfl : n = 0 ∨ n = 1 ∨ n = 2 ∨ n = 3 := by omega
  · have hcase := trivial
    obtain ⟨T1, h1, X1, e1, E1, A1, D1, -, st1⟩ := newO X0 hx hZ hown (hw _ (List.mem_of_getElem? (i := 10) rfl)) (hw _ (List.mem_of_getElem? (i := 11) rfl)) (hw _ (List.mem_of_getElem? (i := 12) rfl)) e0 (g := (mkF m 4 #[.val (.int (0 : Int32)), .val (.int cx), .val (.int cy), .val (.int cz)] [])) rfl (Jvm.hb hby d_method_4_4) (by decide) (by decide)
    obtain ⟨b1, g1⟩ : ∃ z, z = h0.size := ⟨_, rfl⟩
    rw [← g1] at A1 D1 st1
    have z2 : h0.size ≤ h1.size := E1.1
    have Sf3 : Safe Z ELs s.vm h1 b1 := Safe.ext E1 CR.1 (Safe.new (by omega))
    have Cp2 : CHr Z ELs s.vm h0 s.vm h1 := CHr.ext E1 CR.1
    have hk := Nat.le_trans hk z2
    have CR := CR.trans Cp2
    have l1 : b1 < h1.size := A1.lt
    have F4 : Fld Z h1 b1 "java/lang/String" "coder" "B" (.int (0 : Int32)) := D1 (Or.inr (hw _ (List.mem_of_getElem? (i := 37) rfl))) (ty := .byte) (by decide)
    have F5 : Fld Z h1 b1 "java/lang/String" "value" "[B" .null := D1 (Or.inr (hw _ (List.mem_of_getElem? (i := 39) rfl))) (ty := (.array .byte)) (by decide)
    obtain ⟨T6, h6, k6, X6, e6, E6, A6, st6⟩ := newP X1 hx hZ (hw _ (List.mem_of_getElem? (i := 13) rfl)) e1 (g := (mkF m 9 #[.val (.int (0 : Int32)), .val (.int cx), .val (.int cy), .val (.int cz)] [(.int (0 : Int32)), (.ref b1), (.ref b1)])) rfl (Jvm.hb hby d_method_4_9) rfl (by decide) (cap := 0) (by decide) (by decide) (by decide) (by decide)
    obtain ⟨b6, g6⟩ : ∃ z, z = h1.size := ⟨_, rfl⟩
    rw [← g6] at A6 st6
    have z7 : h1.size ≤ h6.size := E6.1
    have Cp7 : CHr Z ELs s.vm h1 s.vm h6 := CHr.ext E6 CR.1
    have hk := Nat.le_trans hk z7
    have CR := CR.trans Cp7
    have l6 : b6 < h6.size := A6.lt
    have V6 : Arv Z h6 b6 k6 .char (0 : Int32) [] (.int (0 : Int32)) := (Arv.new A6 (by decide)).pad (pad_rep [] (.int (0 : Int32)) 0)
    have O8 : Old Z n0 h6 := ((OX.ext E1).ext E6)
    have f9 : Exa Z h6 b1 "java/lang/String" := (A1.ext E6)
    have f10 : Fld Z h6 b1 "java/lang/String" "value" "[B" .null := (F5.ext E6)
    have f11 : Fld Z h6 b1 "java/lang/String" "coder" "B" (.int (0 : Int32)) := (F4.ext E6)
    have Zc12 : n0 ≤ h6.size := by omega
    have s14 : ∀ t_, Steps p.tables e below (T6.setTop (mkF m 11 #[.val (.int (0 : Int32)), .val (.int cx), .val (.int cy), .val (.int cz)] [(.ref b6), (.ref b1), (.ref b1)])) t_ → Steps p.tables e below (s₁.setTop (entryFrame m #[(.int (0 : Int32)), (.int cx), (.int cy), (.int cz)] 4)) t_ := fun t_ k_ => pre0 t_ (by
      show Steps p.tables e below (s₁.setTop (mkF m 0 #[.val (.int (0 : Int32)), .val (.int cx), .val (.int cy), .val (.int cz)] [])) t_
      refine XS.iloadN X0.here hx rfl (Jvm.hb hby d_method_4_0) rfl ?_
      refine XS.ifNo X0.here hx rfl (Jvm.hb hby d_method_4_1) rfl ((if0 _ _).trans (teq (rfl : (0 : Int32) = (0 : Int32))).2) ?_
      show Steps p.tables e below (s₁.setTop (mkF m 4 #[.val (.int (0 : Int32)), .val (.int cx), .val (.int cy), .val (.int cz)] [])) _
      refine st1 _ ?_
      show Steps p.tables e below (T1.setTop (mkF m 7 #[.val (.int (0 : Int32)), .val (.int cx), .val (.int cy), .val (.int cz)] [(.ref b1)])) _
      refine XS.dup X1.here hx rfl (Jvm.hb hby d_method_4_7) rfl rfl ?_
      refine XS.iconst X1.here hx rfl (Jvm.hb hby d_method_4_8) ?_
      refine st6 _ ?_
      show Steps p.tables e below (T6.setTop (mkF m 11 #[.val (.int (0 : Int32)), .val (.int cx), .val (.int cy), .val (.int cz)] [(.ref b6), (.ref b1), (.ref b1)])) _
      show Steps p.tables e below (T6.setTop (mkF m 11 #[.val (.int (0 : Int32)), .val (.int cx), .val (.int cy), .val (.int cz)] [(.ref b6), (.ref b1), (.ref b1)])) t_
      exact k_)
    obtain ⟨_, _, ⟨T13, L13, k13, n13⟩, -, Xr13, hSr13, hg13, ⟨Lc13, hQ13, l13, y13, z13, Cp13⟩, st13⟩ := X6.specialBackS hx (y := (⟨"java/lang/String", "<init>", "([C)V"⟩ : MethodName)) rfl hown (mvT hZ (hw _ (List.mem_of_getElem? (i := 14) rfl))) (mvT hZ (hw _ (List.mem_of_getElem? (i := 15) rfl))) (mvT hZ (hw _ (List.mem_of_getElem? (i := 16) rfl))) (by decide) (backOfSH (s := s) (vm0 := s.vm) (W := 1) (rmIni1 l Z a0 hw [] b1 b6 cst ([] : List Int32) k6 0 h6 n0 Zc12 I1 O8 (hcst : ¬ (cst = (0 : Int32))) f9 f10 f11 V6 rfl (by first | assumption | omega | rfl | decide : 0 ≤ 3) own_lat0 (by first | assumption | omega | rfl | decide : n0 ≤ b1) (by first | assumption | omega | rfl | decide : @Ne Nat b1 b6)) hZ (hw _ (List.mem_of_getElem? (i := 16) rfl)) (hw _ (List.mem_of_getElem? (i := 12) rfl)) (by decide) (by decide) hEL CR.1) (g := (mkF m 11 #[.val (.int (0 : Int32)), .val (.int cx), .val (.int cy), .val (.int cz)] [(.ref b6), (.ref b1), (.ref b1)])) rfl (by rw [hml]; rfl) (Steps.refl _) (a := b1) (argsL := [(.ref b6)]) (rest := [(.ref b1)]) (lenOf pd___C_V rfl) rfl (by show 2 * 0 + _ ≤ _; exact Nat.le_of_eq rfl) (Jvm.hb hby d_method_4_11) (fun _ _ => ⟨rfl, e6, (by decide : 2 + 4 ≤ _), (by decide : 4 + 8 ≤ _)⟩)
    dsimp only [Pt.U, Pt.locs, Pt.cells, Pt.slots] at Xr13 hSr13 hg13 l13 y13 z13 st13 hQ13 Cp13
    subst l13 y13 z13
    obtain ⟨X13, hS, hZ, hown⟩ := rebS (own := "com/example/zastupnik/zastupnik/protocol/ServiceErrorEqualsPinLaw") hS (by first | exact Nat.le_refl _ | (rw [e6]; exact hk)) Xr13 hSr13 hg13 hZ hown
    obtain ⟨b_13, kb_13, rfl, N13q, K13, Fq13_0, Fq13_1, Fq13_2, Fq13_3⟩ := hQ13
    have N13 := Fr.app N0 N13q
    obtain ⟨h13, e13⟩ : ∃ z, T13.heap = z := ⟨_, rfl⟩
    rw [e13] at K13 Fq13_0 Fq13_1 Fq13_2 Fq13_3 Cp13
    have hk : T13.heap.size ≤ h13.size := Nat.le_of_eq (congrArg Array.size e13)
    have z15 : h6.size ≤ h13.size := K13.1
    have CR := CR.trans Cp13
    have lt13_0 : @LT.lt Nat _ b1 h13.size := Fq13_0.lt
    have lt13_3 : @LT.lt Nat _ b_13 h13.size := Fq13_3.lt
    have s16 : ∀ t_, Steps p.tables e below (T13.setTop (mkF m 14 #[.val (.int (0 : Int32)), .val (.int cx), .val (.int cy), .val (.int cz)] [(.ref b1)])) t_ → Steps p.tables e below (s₁.setTop (entryFrame m #[(.int (0 : Int32)), (.int cx), (.int cy), (.int cz)] 4)) t_ := fun t_ k_ => s14 t_ (by
      show Steps p.tables e below (T6.setTop (mkF m 11 #[.val (.int (0 : Int32)), .val (.int cx), .val (.int cy), .val (.int cz)] [(.ref b6), (.ref b1), (.ref b1)])) t_
      refine st13.trans ?_
      show Steps p.tables e below (T13.setTop (mkF m 14 #[.val (.int (0 : Int32)), .val (.int cx), .val (.int cy), .val (.int cz)] [(.ref b1)])) _
      show Steps p.tables e below (T13.setTop (mkF m 14 #[.val (.int (0 : Int32)), .val (.int cx), .val (.int cy), .val (.int cz)] [(.ref b1)])) t_
      exact k_)
    obtain ⟨fs, hr, hrun, hended, hREW⟩ := X13.leaveW hS (by first | exact Nat.le_refl _ | (rw [e13]; exact hk)) (v := some (.ref b1)) (fun h => by rw [Bd.returns] at h; cases h)
    refine ⟨_, _, s16 _ ?_, hrun, hended, _, _, rfl, ?_, (by show CHr Z ELs s.vm s.heap T13.vm T13.heap; rw [hh, e13]; exact CR.trans (CHv.at X13 hZ hEL CR.1)), hREW.1, hREW.2.1, hREW.2.2.1, hREW.2.2.2.mono (by decide) (by decide)⟩
    · show Steps p.tables e below (T13.setTop (mkF m 14 #[.val (.int (0 : Int32)), .val (.int cx), .val (.int cy), .val (.int cz)] [(.ref b1)])) _
      jvm_step X13.here [X13.here.top, hx, (Jvm.hb hby d_method_4_14), X13.method', Bd.returns, Value.isRef, FieldType.isReference]
      first | (intro acts; rw [hr _ acts rfl rfl rfl]) | rw [hr _ _ rfl rfl rfl]
      exact Steps.refl _
    · show Q_rmMk Z _ _ _ _ _ h0 n0 _ T13.heap _
      rw [e13]
      exact ⟨b1, b_13, kb_13, rfl, N13, ((((Keep.refl h0 []).ext E1).ext E6).trans K13 (allS (Or.inr (show h0.size ≤ b1 by omega)) all0)), Fq13_0, Fq13_1, Fq13_2, Fq13_3, by omega⟩
  · have hcase := trivial
    obtain ⟨T17, h17, X17, e17, E17, A17, D17, -, st17⟩ := newO X0 hx hZ hown (hw _ (List.mem_of_getElem? (i := 10) rfl)) (hw _ (List.mem_of_getElem? (i := 11) rfl)) (hw _ (List.mem_of_getElem? (i := 12) rfl)) e0 (g := (mkF m 20 #[.val (.int (1 : Int32)), .val (.int cx), .val (.int cy), .val (.int cz)] [])) rfl (Jvm.hb hby d_method_4_20) (by decide) (by decide)
    obtain ⟨b17, g17⟩ : ∃ z, z = h0.size := ⟨_, rfl⟩
    rw [← g17] at A17 D17 st17
    have z18 : h0.size ≤ h17.size := E17.1
    have Sf19 : Safe Z ELs s.vm h17 b17 := Safe.ext E17 CR.1 (Safe.new (by omega))
    have Cp18 : CHr Z ELs s.vm h0 s.vm h17 := CHr.ext E17 CR.1
    have hk := Nat.le_trans hk z18
    have CR := CR.trans Cp18
    have l17 : b17 < h17.size := A17.lt
    have F20 : Fld Z h17 b17 "java/lang/String" "coder" "B" (.int (0 : Int32)) := D17 (Or.inr (hw _ (List.mem_of_getElem? (i := 37) rfl))) (ty := .byte) (by decide)
    have F21 : Fld Z h17 b17 "java/lang/String" "value" "[B" .null := D17 (Or.inr (hw _ (List.mem_of_getElem? (i := 39) rfl))) (ty := (.array .byte)) (by decide)
    obtain ⟨T22, h22, k22, X22, e22, E22, A22, st22⟩ := newP X17 hx hZ (hw _ (List.mem_of_getElem? (i := 13) rfl)) e17 (g := (mkF m 25 #[.val (.int (1 : Int32)), .val (.int cx), .val (.int cy), .val (.int cz)] [(.int (1 : Int32)), (.ref b17), (.ref b17)])) rfl (Jvm.hb hby d_method_4_25) rfl (by decide) (cap := 1) (by decide) (by decide) (by decide) (by decide)
    obtain ⟨b22, g22⟩ : ∃ z, z = h17.size := ⟨_, rfl⟩
    rw [← g22] at A22 st22
    have z23 : h17.size ≤ h22.size := E22.1
    have Cp23 : CHr Z ELs s.vm h17 s.vm h22 := CHr.ext E22 CR.1
    have hk := Nat.le_trans hk z23
    have CR := CR.trans Cp23
    have l22 : b22 < h22.size := A22.lt
    have V22 : Arv Z h22 b22 k22 .char (1 : Int32) [(.int (0 : Int32))] (.int (0 : Int32)) := (Arv.new A22 (by decide)).pad (pad_rep [] (.int (0 : Int32)) 1)
    obtain ⟨cl24, Ar24, q24, S24, M24, H24, G24⟩ := id V22
    have hin24 : ¬ ((0 : Int32) < 0 ∨ cl24.slots.size ≤ ((0 : Int32)).toNatClampNeg) := inb_of S24 ⟨by decide, by decide⟩
    obtain ⟨T25, h25, X25, e25, W25, st25⟩ := stC X22 hx hZ e22 Ar24 (j := (0 : Int32)) hin24 (g := (mkF m 30 #[.val (.int (1 : Int32)), .val (.int cx), .val (.int cy), .val (.int cz)] [(.int cx), (.int (0 : Int32)), (.ref b22), (.ref b22), (.ref b17), (.ref b17)])) rfl rfl (Jvm.hb hby d_method_4_30)
    have z26 : h22.size ≤ h25.size := Nat.le_of_eq W25.size.symm
    have Cp26 : CHr Z ELs s.vm h22 s.vm h25 := CHr.wr W25 (Safe.arv hZ.alike V22 (by decide)) CR.1
    have hk := Nat.le_trans hk z26
    have CR := CR.trans Cp26
    have V25 : Arv Z h25 b22 k22 .char (1 : Int32) [(.int cx)] (.int (0 : Int32)) := by have q : Arv Z h25 b22 k22 .char (1 : Int32) [(.int (nar .char cx))] (.int (0 : Int32)) := Arv.set Ar24 q24 S24 M24 H24 G24 (fits_nar_char _) W25 0 rfl (Nat.le_of_ble_eq_true rfl); rw [show nar .char cx = cx from own_narc r0a (own_le64k r0b)] at q; exact q
    have N25 := Fr.snoc X25 N0 (show n0 ≤ b22 by omega)
    have O27 : Old Z n0 h25 := (((OX.ext E17).ext E22).wr W25 (show n0 ≤ b22 by omega))
    have f28 : Exa Z h25 b17 "java/lang/String" := ((A17.ext E22).wr W25)
    have f29 : Fld Z h25 b17 "java/lang/String" "value" "[B" .null := ((F21.ext E22).other W25 (Or.inl (show @Ne Nat b17 b22 by omega)))
    have f30 : Fld Z h25 b17 "java/lang/String" "coder" "B" (.int (0 : Int32)) := ((F20.ext E22).other W25 (Or.inl (show @Ne Nat b17 b22 by omega)))
    have Zc31 : n0 ≤ h25.size := by omega
    have s33 : ∀ t_, Steps p.tables e below (T25.setTop (mkF m 31 #[.val (.int (1 : Int32)), .val (.int cx), .val (.int cy), .val (.int cz)] [(.ref b22), (.ref b17), (.ref b17)])) t_ → Steps p.tables e below (s₁.setTop (entryFrame m #[(.int (1 : Int32)), (.int cx), (.int cy), (.int cz)] 4)) t_ := fun t_ k_ => pre0 t_ (by
      show Steps p.tables e below (s₁.setTop (mkF m 0 #[.val (.int (1 : Int32)), .val (.int cx), .val (.int cy), .val (.int cz)] [])) t_
      refine XS.iloadN X0.here hx rfl (Jvm.hb hby d_method_4_0) rfl ?_
      refine XS.ifYes X0.here hx rfl (pc0 := 1) (pc' := 15) rfl (Jvm.hb hby d_method_4_1) rfl ((if0 _ _).trans (feq (by decide : ¬ ((1 : Int32) = (0 : Int32)))).2) (by decide) (by decide) ?_
      show Steps p.tables e below (s₁.setTop (mkF m 15 #[.val (.int (1 : Int32)), .val (.int cx), .val (.int cy), .val (.int cz)] [])) _
      refine XS.iloadN X0.here hx rfl (Jvm.hb hby d_method_4_15) rfl ?_
      refine XS.iconst X0.here hx rfl (Jvm.hb hby d_method_4_16) ?_
      refine XS.icmpNo X0.here hx rfl (Jvm.hb hby d_method_4_17) rfl (teq (rfl : (1 : Int32) = (1 : Int32))).2 ?_
      show Steps p.tables e below (s₁.setTop (mkF m 20 #[.val (.int (1 : Int32)), .val (.int cx), .val (.int cy), .val (.int cz)] [])) _
      refine st17 _ ?_
      show Steps p.tables e below (T17.setTop (mkF m 23 #[.val (.int (1 : Int32)), .val (.int cx), .val (.int cy), .val (.int cz)] [(.ref b17)])) _
      refine XS.dup X17.here hx rfl (Jvm.hb hby d_method_4_23) rfl rfl ?_
      refine XS.iconst X17.here hx rfl (Jvm.hb hby d_method_4_24) ?_
      refine st22 _ ?_
      show Steps p.tables e below (T22.setTop (mkF m 27 #[.val (.int (1 : Int32)), .val (.int cx), .val (.int cy), .val (.int cz)] [(.ref b22), (.ref b17), (.ref b17)])) _
      refine XS.dup X22.here hx rfl (Jvm.hb hby d_method_4_27) rfl rfl ?_
      refine XS.iconst X22.here hx rfl (Jvm.hb hby d_method_4_28) ?_
      refine XS.iloadN X22.here hx rfl (Jvm.hb hby d_method_4_29) rfl ?_
      refine st25 _ ?_
      show Steps p.tables e below (T25.setTop (mkF m 31 #[.val (.int (1 : Int32)), .val (.int cx), .val (.int cy), .val (.int cz)] [(.ref b22), (.ref b17), (.ref b17)])) _
      show Steps p.tables e below (T25.setTop (mkF m 31 #[.val (.int (1 : Int32)), .val (.int cx), .val (.int cy), .val (.int cz)] [(.ref b22), (.ref b17), (.ref b17)])) t_
      exact k_)
    obtain ⟨_, _, ⟨T32, L32, k32, n32⟩, -, Xr32, hSr32, hg32, ⟨Lc32, hQ32, l32, y32, z32, Cp32⟩, st32⟩ := X25.specialBackS hx (y := (⟨"java/lang/String", "<init>", "([C)V"⟩ : MethodName)) rfl hown (mvT hZ (hw _ (List.mem_of_getElem? (i := 14) rfl))) (mvT hZ (hw _ (List.mem_of_getElem? (i := 15) rfl))) (mvT hZ (hw _ (List.mem_of_getElem? (i := 16) rfl))) (by decide) (backOfSH (s := s) (vm0 := s.vm) (W := 1) (rmIni1 l Z a0 hw [] b17 b22 cst [cx] k22 1 h25 n0 Zc31 I1 O27 (hcst : ¬ (cst = (0 : Int32))) f28 f29 f30 V25 rfl (by first | assumption | omega | rfl | decide : 1 ≤ 3) (own_latS r0b own_lat0) (by first | assumption | omega | rfl | decide : n0 ≤ b17) (by first | assumption | omega | rfl | decide : @Ne Nat b17 b22)) hZ (hw _ (List.mem_of_getElem? (i := 16) rfl)) (hw _ (List.mem_of_getElem? (i := 12) rfl)) (by decide) (by decide) hEL CR.1) (g := (mkF m 31 #[.val (.int (1 : Int32)), .val (.int cx), .val (.int cy), .val (.int cz)] [(.ref b22), (.ref b17), (.ref b17)])) rfl (by rw [hml]; rfl) (Steps.refl _) (a := b17) (argsL := [(.ref b22)]) (rest := [(.ref b17)]) (lenOf pd___C_V rfl) rfl (by show 2 * 0 + _ ≤ _; exact Nat.le_of_eq rfl) (Jvm.hb hby d_method_4_31) (fun _ _ => ⟨rfl, e25, (by decide : 2 + 4 ≤ _), (by decide : 5 + 8 ≤ _)⟩)
    dsimp only [Pt.U, Pt.locs, Pt.cells, Pt.slots] at Xr32 hSr32 hg32 l32 y32 z32 st32 hQ32 Cp32
    subst l32 y32 z32
    obtain ⟨X32, hS, hZ, hown⟩ := rebS (own := "com/example/zastupnik/zastupnik/protocol/ServiceErrorEqualsPinLaw") hS (by first | exact Nat.le_refl _ | (rw [e25]; exact hk)) Xr32 hSr32 hg32 hZ hown
    obtain ⟨b_32, kb_32, rfl, N32q, K32, Fq32_0, Fq32_1, Fq32_2, Fq32_3⟩ := hQ32
    have N32 := Fr.app N25 N32q
    obtain ⟨h32, e32⟩ : ∃ z, T32.heap = z := ⟨_, rfl⟩
    rw [e32] at K32 Fq32_0 Fq32_1 Fq32_2 Fq32_3 Cp32
    have hk : T32.heap.size ≤ h32.size := Nat.le_of_eq (congrArg Array.size e32)
    have z34 : h25.size ≤ h32.size := K32.1
    have CR := CR.trans Cp32
    have lt32_0 : @LT.lt Nat _ b17 h32.size := Fq32_0.lt
    have lt32_3 : @LT.lt Nat _ b_32 h32.size := Fq32_3.lt
    have s35 : ∀ t_, Steps p.tables e below (T32.setTop (mkF m 34 #[.val (.int (1 : Int32)), .val (.int cx), .val (.int cy), .val (.int cz)] [(.ref b17)])) t_ → Steps p.tables e below (s₁.setTop (entryFrame m #[(.int (1 : Int32)), (.int cx), (.int cy), (.int cz)] 4)) t_ := fun t_ k_ => s33 t_ (by
      show Steps p.tables e below (T25.setTop (mkF m 31 #[.val (.int (1 : Int32)), .val (.int cx), .val (.int cy), .val (.int cz)] [(.ref b22), (.ref b17), (.ref b17)])) t_
      refine st32.trans ?_
      show Steps p.tables e below (T32.setTop (mkF m 34 #[.val (.int (1 : Int32)), .val (.int cx), .val (.int cy), .val (.int cz)] [(.ref b17)])) _
      show Steps p.tables e below (T32.setTop (mkF m 34 #[.val (.int (1 : Int32)), .val (.int cx), .val (.int cy), .val (.int cz)] [(.ref b17)])) t_
      exact k_)
    obtain ⟨fs, hr, hrun, hended, hREW⟩ := X32.leaveW hS (by first | exact Nat.le_refl _ | (rw [e32]; exact hk)) (v := some (.ref b17)) (fun h => by rw [Bd.returns] at h; cases h)
    refine ⟨_, _, s35 _ ?_, hrun, hended, _, _, rfl, ?_, (by show CHr Z ELs s.vm s.heap T32.vm T32.heap; rw [hh, e32]; exact CR.trans (CHv.at X32 hZ hEL CR.1)), hREW.1, hREW.2.1, hREW.2.2.1, hREW.2.2.2.mono (by decide) (by decide)⟩
    · show Steps p.tables e below (T32.setTop (mkF m 34 #[.val (.int (1 : Int32)), .val (.int cx), .val (.int cy), .val (.int cz)] [(.ref b17)])) _
      jvm_step X32.here [X32.here.top, hx, (Jvm.hb hby d_method_4_34), X32.method', Bd.returns, Value.isRef, FieldType.isReference]
      first | (intro acts; rw [hr _ acts rfl rfl rfl]) | rw [hr _ _ rfl rfl rfl]
      exact Steps.refl _
    · show Q_rmMk Z _ _ _ _ _ h0 n0 _ T32.heap _
      rw [e32]
      exact ⟨b17, b_32, kb_32, rfl, N32, (((((Keep.refl h0 []).ext E17).ext E22).wr W25 (Or.inr (show h0.size ≤ b22 by omega))).trans K32 (allS (Or.inr (show h0.size ≤ b17 by omega)) all0)), Fq32_0, Fq32_1, Fq32_2, Fq32_3, by omega⟩
  · have hcase := trivial
    obtain ⟨T36, h36, X36, e36, E36, A36, D36, -, st36⟩ := newO X0 hx hZ hown (hw _ (List.mem_of_getElem? (i := 10) rfl)) (hw _ (List.mem_of_getElem? (i := 11) rfl)) (hw _ (List.mem_of_getElem? (i := 12) rfl)) e0 (g := (mkF m 40 #[.val (.int (2 : Int32)), .val (.int cx), .val (.int cy), .val (.int cz)] [])) rfl (Jvm.hb hby d_method_4_40) (by decide) (by decide)
    obtain ⟨b36, g36⟩ : ∃ z, z = h0.size := ⟨_, rfl⟩
    rw [← g36] at A36 D36 st36
    have z37 : h0.size ≤ h36.size := E36.1
    have Sf38 : Safe Z ELs s.vm h36 b36 := Safe.ext E36 CR.1 (Safe.new (by omega))
    have Cp37 : CHr Z ELs s.vm h0 s.vm h36 := CHr.ext E36 CR.1
    have hk := Nat.le_trans hk z37
    have CR := CR.trans Cp37
    have l36 : b36 < h36.size := A36.lt
    have F39 : Fld Z h36 b36 "java/lang/String" "coder" "B" (.int (0 : Int32)) := D36 (Or.inr (hw _ (List.mem_of_getElem? (i := 37) rfl))) (ty := .byte) (by decide)
    have F40 : Fld Z h36 b36 "java/lang/String" "value" "[B" .null := D36 (Or.inr (hw _ (List.mem_of_getElem? (i := 39) rfl))) (ty := (.array .byte)) (by decide)
    obtain ⟨T41, h41, k41, X41, e41, E41, A41, st41⟩ := newP X36 hx hZ (hw _ (List.mem_of_getElem? (i := 13) rfl)) e36 (g := (mkF m 45 #[.val (.int (2 : Int32)), .val (.int cx), .val (.int cy), .val (.int cz)] [(.int (2 : Int32)), (.ref b36), (.ref b36)])) rfl (Jvm.hb hby d_method_4_45) rfl (by decide) (cap := 2) (by decide) (by decide) (by decide) (by decide)
    obtain ⟨b41, g41⟩ : ∃ z, z = h36.size := ⟨_, rfl⟩
    rw [← g41] at A41 st41
    have z42 : h36.size ≤ h41.size := E41.1
    have Cp42 : CHr Z ELs s.vm h36 s.vm h41 := CHr.ext E41 CR.1
    have hk := Nat.le_trans hk z42
    have CR := CR.trans Cp42
    have l41 : b41 < h41.size := A41.lt
    have V41 : Arv Z h41 b41 k41 .char (2 : Int32) [(.int (0 : Int32)), (.int (0 : Int32))] (.int (0 : Int32)) := (Arv.new A41 (by decide)).pad (pad_rep [] (.int (0 : Int32)) 2)
    obtain ⟨cl43, Ar43, q43, S43, M43, H43, G43⟩ := id V41
    have hin43 : ¬ ((0 : Int32) < 0 ∨ cl43.slots.size ≤ ((0 : Int32)).toNatClampNeg) := inb_of S43 ⟨by decide, by decide⟩
    obtain ⟨T44, h44, X44, e44, W44, st44⟩ := stC X41 hx hZ e41 Ar43 (j := (0 : Int32)) hin43 (g := (mkF m 50 #[.val (.int (2 : Int32)), .val (.int cx), .val (.int cy), .val (.int cz)] [(.int cx), (.int (0 : Int32)), (.ref b41), (.ref b41), (.ref b36), (.ref b36)])) rfl rfl (Jvm.hb hby d_method_4_50)
    have z45 : h41.size ≤ h44.size := Nat.le_of_eq W44.size.symm
    have Cp45 : CHr Z ELs s.vm h41 s.vm h44 := CHr.wr W44 (Safe.arv hZ.alike V41 (by decide)) CR.1
    have hk := Nat.le_trans hk z45
    have CR := CR.trans Cp45
    have V44 : Arv Z h44 b41 k41 .char (2 : Int32) [(.int cx), (.int (0 : Int32))] (.int (0 : Int32)) := by have q : Arv Z h44 b41 k41 .char (2 : Int32) [(.int (nar .char cx)), (.int (0 : Int32))] (.int (0 : Int32)) := Arv.set Ar43 q43 S43 M43 H43 G43 (fits_nar_char _) W44 0 rfl (Nat.le_of_ble_eq_true rfl); rw [show nar .char cx = cx from own_narc r0a (own_le64k r0b)] at q; exact q
    have N44 := Fr.snoc X44 N0 (show n0 ≤ b41 by omega)
    obtain ⟨cl46, Ar46, q46, S46, M46, H46, G46⟩ := id V44
    have hin46 : ¬ ((1 : Int32) < 0 ∨ cl46.slots.size ≤ ((1 : Int32)).toNatClampNeg) := inb_of S46 ⟨by decide, by decide⟩
    obtain ⟨T47, h47, X47, e47, W47, st47⟩ := stC X44 hx hZ e44 Ar46 (j := (1 : Int32)) hin46 (g := (mkF m 54 #[.val (.int (2 : Int32)), .val (.int cx), .val (.int cy), .val (.int cz)] [(.int cy), (.int (1 : Int32)), (.ref b41), (.ref b41), (.ref b36), (.ref b36)])) rfl rfl (Jvm.hb hby d_method_4_54)
    have z48 : h44.size ≤ h47.size := Nat.le_of_eq W47.size.symm
    have Cp48 : CHr Z ELs s.vm h44 s.vm h47 := CHr.wr W47 (Safe.arv hZ.alike V44 (by decide)) CR.1
    have hk := Nat.le_trans hk z48
    have CR := CR.trans Cp48
    have V47 : Arv Z h47 b41 k41 .char (2 : Int32) [(.int cx), (.int cy)] (.int (0 : Int32)) := by have q : Arv Z h47 b41 k41 .char (2 : Int32) [(.int cx), (.int (nar .char cy))] (.int (0 : Int32)) := Arv.set Ar46 q46 S46 M46 H46 G46 (fits_nar_char _) W47 1 rfl (Nat.le_of_ble_eq_true rfl); rw [show nar .char cy = cy from own_narc r1a (own_le64k r1b)] at q; exact q
    have N47 := Fr.snoc X47 N44 (show n0 ≤ b41 by omega)
    have O49 : Old Z n0 h47 := ((((OX.ext E36).ext E41).wr W44 (show n0 ≤ b41 by omega)).wr W47 (show n0 ≤ b41 by omega))
    have f50 : Exa Z h47 b36 "java/lang/String" := (((A36.ext E41).wr W44).wr W47)
    have f51 : Fld Z h47 b36 "java/lang/String" "value" "[B" .null := (((F40.ext E41).other W44 (Or.inl (show @Ne Nat b36 b41 by omega))).other W47 (Or.inl (show @Ne Nat b36 b41 by omega)))
    have f52 : Fld Z h47 b36 "java/lang/String" "coder" "B" (.int (0 : Int32)) := (((F39.ext E41).other W44 (Or.inl (show @Ne Nat b36 b41 by omega))).other W47 (Or.inl (show @Ne Nat b36 b41 by omega)))
    have Zc53 : n0 ≤ h47.size := by omega
    have s55 : ∀ t_, Steps p.tables e below (T47.setTop (mkF m 55 #[.val (.int (2 : Int32)), .val (.int cx), .val (.int cy), .val (.int cz)] [(.ref b41), (.ref b36), (.ref b36)])) t_ → Steps p.tables e below (s₁.setTop (entryFrame m #[(.int (2 : Int32)), (.int cx), (.int cy), (.int cz)] 4)) t_ := fun t_ k_ => pre0 t_ (by
      show Steps p.tables e below (s₁.setTop (mkF m 0 #[.val (.int (2 : Int32)), .val (.int cx), .val (.int cy), .val (.int cz)] [])) t_
      refine XS.iloadN X0.here hx rfl (Jvm.hb hby d_method_4_0) rfl ?_
      refine XS.ifYes X0.here hx rfl (pc0 := 1) (pc' := 15) rfl (Jvm.hb hby d_method_4_1) rfl ((if0 _ _).trans (feq (by decide : ¬ ((2 : Int32) = (0 : Int32)))).2) (by decide) (by decide) ?_
      show Steps p.tables e below (s₁.setTop (mkF m 15 #[.val (.int (2 : Int32)), .val (.int cx), .val (.int cy), .val (.int cz)] [])) _
      refine XS.iloadN X0.here hx rfl (Jvm.hb hby d_method_4_15) rfl ?_
      refine XS.iconst X0.here hx rfl (Jvm.hb hby d_method_4_16) ?_
      refine XS.icmpYes X0.here hx rfl (pc0 := 17) (pc' := 35) rfl (Jvm.hb hby d_method_4_17) rfl (feq (by decide : ¬ ((2 : Int32) = (1 : Int32)))).2 (by decide) (by decide) ?_
      show Steps p.tables e below (s₁.setTop (mkF m 35 #[.val (.int (2 : Int32)), .val (.int cx), .val (.int cy), .val (.int cz)] [])) _
      refine XS.iloadN X0.here hx rfl (Jvm.hb hby d_method_4_35) rfl ?_
      refine XS.iconst X0.here hx rfl (Jvm.hb hby d_method_4_36) ?_
      refine XS.icmpNo X0.here hx rfl (Jvm.hb hby d_method_4_37) rfl (teq (rfl : (2 : Int32) = (2 : Int32))).2 ?_
      show Steps p.tables e below (s₁.setTop (mkF m 40 #[.val (.int (2 : Int32)), .val (.int cx), .val (.int cy), .val (.int cz)] [])) _
      refine st36 _ ?_
      show Steps p.tables e below (T36.setTop (mkF m 43 #[.val (.int (2 : Int32)), .val (.int cx), .val (.int cy), .val (.int cz)] [(.ref b36)])) _
      refine XS.dup X36.here hx rfl (Jvm.hb hby d_method_4_43) rfl rfl ?_
      refine XS.iconst X36.here hx rfl (Jvm.hb hby d_method_4_44) ?_
      refine st41 _ ?_
      show Steps p.tables e below (T41.setTop (mkF m 47 #[.val (.int (2 : Int32)), .val (.int cx), .val (.int cy), .val (.int cz)] [(.ref b41), (.ref b36), (.ref b36)])) _
      refine XS.dup X41.here hx rfl (Jvm.hb hby d_method_4_47) rfl rfl ?_
      refine XS.iconst X41.here hx rfl (Jvm.hb hby d_method_4_48) ?_
      refine XS.iloadN X41.here hx rfl (Jvm.hb hby d_method_4_49) rfl ?_
      refine st44 _ ?_
      show Steps p.tables e below (T44.setTop (mkF m 51 #[.val (.int (2 : Int32)), .val (.int cx), .val (.int cy), .val (.int cz)] [(.ref b41), (.ref b36), (.ref b36)])) _
      refine XS.dup X44.here hx rfl (Jvm.hb hby d_method_4_51) rfl rfl ?_
      refine XS.iconst X44.here hx rfl (Jvm.hb hby d_method_4_52) ?_
      refine XS.iloadN X44.here hx rfl (Jvm.hb hby d_method_4_53) rfl ?_
      refine st47 _ ?_
      show Steps p.tables e below (T47.setTop (mkF m 55 #[.val (.int (2 : Int32)), .val (.int cx), .val (.int cy), .val (.int cz)] [(.ref b41), (.ref b36), (.ref b36)])) _
      show Steps p.tables e below (T47.setTop (mkF m 55 #[.val (.int (2 : Int32)), .val (.int cx), .val (.int cy), .val (.int cz)] [(.ref b41), (.ref b36), (.ref b36)])) t_
      exact k_)
    obtain ⟨_, _, ⟨T54, L54, k54, n54⟩, -, Xr54, hSr54, hg54, ⟨Lc54, hQ54, l54, y54, z54, Cp54⟩, st54⟩ := X47.specialBackS hx (y := (⟨"java/lang/String", "<init>", "([C)V"⟩ : MethodName)) rfl hown (mvT hZ (hw _ (List.mem_of_getElem? (i := 14) rfl))) (mvT hZ (hw _ (List.mem_of_getElem? (i := 15) rfl))) (mvT hZ (hw _ (List.mem_of_getElem? (i := 16) rfl))) (by decide) (backOfSH (s := s) (vm0 := s.vm) (W := 1) (rmIni1 l Z a0 hw [] b36 b41 cst [cx, cy] k41 2 h47 n0 Zc53 I1 O49 (hcst : ¬ (cst = (0 : Int32))) f50 f51 f52 V47 rfl (by first | assumption | omega | rfl | decide : 2 ≤ 3) (own_latS r0b (own_latS r1b own_lat0)) (by first | assumption | omega | rfl | decide : n0 ≤ b36) (by first | assumption | omega | rfl | decide : @Ne Nat b36 b41)) hZ (hw _ (List.mem_of_getElem? (i := 16) rfl)) (hw _ (List.mem_of_getElem? (i := 12) rfl)) (by decide) (by decide) hEL CR.1) (g := (mkF m 55 #[.val (.int (2 : Int32)), .val (.int cx), .val (.int cy), .val (.int cz)] [(.ref b41), (.ref b36), (.ref b36)])) rfl (by rw [hml]; rfl) (Steps.refl _) (a := b36) (argsL := [(.ref b41)]) (rest := [(.ref b36)]) (lenOf pd___C_V rfl) rfl (by show 2 * 0 + _ ≤ _; exact Nat.le_of_eq rfl) (Jvm.hb hby d_method_4_55) (fun _ _ => ⟨rfl, e47, (by decide : 2 + 4 ≤ _), (by decide : 6 + 8 ≤ _)⟩)
    dsimp only [Pt.U, Pt.locs, Pt.cells, Pt.slots] at Xr54 hSr54 hg54 l54 y54 z54 st54 hQ54 Cp54
    subst l54 y54 z54
    obtain ⟨X54, hS, hZ, hown⟩ := rebS (own := "com/example/zastupnik/zastupnik/protocol/ServiceErrorEqualsPinLaw") hS (by first | exact Nat.le_refl _ | (rw [e47]; exact hk)) Xr54 hSr54 hg54 hZ hown
    obtain ⟨b_54, kb_54, rfl, N54q, K54, Fq54_0, Fq54_1, Fq54_2, Fq54_3⟩ := hQ54
    have N54 := Fr.app N47 N54q
    obtain ⟨h54, e54⟩ : ∃ z, T54.heap = z := ⟨_, rfl⟩
    rw [e54] at K54 Fq54_0 Fq54_1 Fq54_2 Fq54_3 Cp54
    have hk : T54.heap.size ≤ h54.size := Nat.le_of_eq (congrArg Array.size e54)
    have z56 : h47.size ≤ h54.size := K54.1
    have CR := CR.trans Cp54
    have lt54_0 : @LT.lt Nat _ b36 h54.size := Fq54_0.lt
    have lt54_3 : @LT.lt Nat _ b_54 h54.size := Fq54_3.lt
    have s57 : ∀ t_, Steps p.tables e below (T54.setTop (mkF m 58 #[.val (.int (2 : Int32)), .val (.int cx), .val (.int cy), .val (.int cz)] [(.ref b36)])) t_ → Steps p.tables e below (s₁.setTop (entryFrame m #[(.int (2 : Int32)), (.int cx), (.int cy), (.int cz)] 4)) t_ := fun t_ k_ => s55 t_ (by
      show Steps p.tables e below (T47.setTop (mkF m 55 #[.val (.int (2 : Int32)), .val (.int cx), .val (.int cy), .val (.int cz)] [(.ref b41), (.ref b36), (.ref b36)])) t_
      refine st54.trans ?_
      show Steps p.tables e below (T54.setTop (mkF m 58 #[.val (.int (2 : Int32)), .val (.int cx), .val (.int cy), .val (.int cz)] [(.ref b36)])) _
      show Steps p.tables e below (T54.setTop (mkF m 58 #[.val (.int (2 : Int32)), .val (.int cx), .val (.int cy), .val (.int cz)] [(.ref b36)])) t_
      exact k_)
    obtain ⟨fs, hr, hrun, hended, hREW⟩ := X54.leaveW hS (by first | exact Nat.le_refl _ | (rw [e54]; exact hk)) (v := some (.ref b36)) (fun h => by rw [Bd.returns] at h; cases h)
    refine ⟨_, _, s57 _ ?_, hrun, hended, _, _, rfl, ?_, (by show CHr Z ELs s.vm s.heap T54.vm T54.heap; rw [hh, e54]; exact CR.trans (CHv.at X54 hZ hEL CR.1)), hREW.1, hREW.2.1, hREW.2.2.1, hREW.2.2.2.mono (by decide) (by decide)⟩
    · show Steps p.tables e below (T54.setTop (mkF m 58 #[.val (.int (2 : Int32)), .val (.int cx), .val (.int cy), .val (.int cz)] [(.ref b36)])) _
      jvm_step X54.here [X54.here.top, hx, (Jvm.hb hby d_method_4_58), X54.method', Bd.returns, Value.isRef, FieldType.isReference]
      first | (intro acts; rw [hr _ acts rfl rfl rfl]) | rw [hr _ _ rfl rfl rfl]
      exact Steps.refl _
    · show Q_rmMk Z _ _ _ _ _ h0 n0 _ T54.heap _
      rw [e54]
      exact ⟨b36, b_54, kb_54, rfl, N54, ((((((Keep.refl h0 []).ext E36).ext E41).wr W44 (Or.inr (show h0.size ≤ b41 by omega))).wr W47 (Or.inr (show h0.size ≤ b41 by omega))).trans K54 (allS (Or.inr (show h0.size ≤ b36 by omega)) all0)), Fq54_0, Fq54_1, Fq54_2, Fq54_3, by omega⟩
  · have hcase := trivial
    obtain ⟨T58, h58, X58, e58, E58, A58, D58, -, st58⟩ := newO X0 hx hZ hown (hw _ (List.mem_of_getElem? (i := 10) rfl)) (hw _ (List.mem_of_getElem? (i := 11) rfl)) (hw _ (List.mem_of_getElem? (i := 12) rfl)) e0 (g := (mkF m 59 #[.val (.int (3 : Int32)), .val (.int cx), .val (.int cy), .val (.int cz)] [])) rfl (Jvm.hb hby d_method_4_59) (by decide) (by decide)
    obtain ⟨b58, g58⟩ : ∃ z, z = h0.size := ⟨_, rfl⟩
    rw [← g58] at A58 D58 st58
    have z59 : h0.size ≤ h58.size := E58.1
    have Sf60 : Safe Z ELs s.vm h58 b58 := Safe.ext E58 CR.1 (Safe.new (by omega))
    have Cp59 : CHr Z ELs s.vm h0 s.vm h58 := CHr.ext E58 CR.1
    have hk := Nat.le_trans hk z59
    have CR := CR.trans Cp59
    have l58 : b58 < h58.size := A58.lt
    have F61 : Fld Z h58 b58 "java/lang/String" "coder" "B" (.int (0 : Int32)) := D58 (Or.inr (hw _ (List.mem_of_getElem? (i := 37) rfl))) (ty := .byte) (by decide)
    have F62 : Fld Z h58 b58 "java/lang/String" "value" "[B" .null := D58 (Or.inr (hw _ (List.mem_of_getElem? (i := 39) rfl))) (ty := (.array .byte)) (by decide)
    obtain ⟨T63, h63, k63, X63, e63, E63, A63, st63⟩ := newP X58 hx hZ (hw _ (List.mem_of_getElem? (i := 13) rfl)) e58 (g := (mkF m 64 #[.val (.int (3 : Int32)), .val (.int cx), .val (.int cy), .val (.int cz)] [(.int (3 : Int32)), (.ref b58), (.ref b58)])) rfl (Jvm.hb hby d_method_4_64) rfl (by decide) (cap := 3) (by decide) (by decide) (by decide) (by decide)
    obtain ⟨b63, g63⟩ : ∃ z, z = h58.size := ⟨_, rfl⟩
    rw [← g63] at A63 st63
    have z64 : h58.size ≤ h63.size := E63.1
    have Cp64 : CHr Z ELs s.vm h58 s.vm h63 := CHr.ext E63 CR.1
    have hk := Nat.le_trans hk z64
    have CR := CR.trans Cp64
    have l63 : b63 < h63.size := A63.lt
    have V63 : Arv Z h63 b63 k63 .char (3 : Int32) [(.int (0 : Int32)), (.int (0 : Int32)), (.int (0 : Int32))] (.int (0 : Int32)) := (Arv.new A63 (by decide)).pad (pad_rep [] (.int (0 : Int32)) 3)
    obtain ⟨cl65, Ar65, q65, S65, M65, H65, G65⟩ := id V63
    have hin65 : ¬ ((0 : Int32) < 0 ∨ cl65.slots.size ≤ ((0 : Int32)).toNatClampNeg) := inb_of S65 ⟨by decide, by decide⟩
    obtain ⟨T66, h66, X66, e66, W66, st66⟩ := stC X63 hx hZ e63 Ar65 (j := (0 : Int32)) hin65 (g := (mkF m 69 #[.val (.int (3 : Int32)), .val (.int cx), .val (.int cy), .val (.int cz)] [(.int cx), (.int (0 : Int32)), (.ref b63), (.ref b63), (.ref b58), (.ref b58)])) rfl rfl (Jvm.hb hby d_method_4_69)
    have z67 : h63.size ≤ h66.size := Nat.le_of_eq W66.size.symm
    have Cp67 : CHr Z ELs s.vm h63 s.vm h66 := CHr.wr W66 (Safe.arv hZ.alike V63 (by decide)) CR.1
    have hk := Nat.le_trans hk z67
    have CR := CR.trans Cp67
    have V66 : Arv Z h66 b63 k63 .char (3 : Int32) [(.int cx), (.int (0 : Int32)), (.int (0 : Int32))] (.int (0 : Int32)) := by have q : Arv Z h66 b63 k63 .char (3 : Int32) [(.int (nar .char cx)), (.int (0 : Int32)), (.int (0 : Int32))] (.int (0 : Int32)) := Arv.set Ar65 q65 S65 M65 H65 G65 (fits_nar_char _) W66 0 rfl (Nat.le_of_ble_eq_true rfl); rw [show nar .char cx = cx from own_narc r0a (own_le64k r0b)] at q; exact q
    have N66 := Fr.snoc X66 N0 (show n0 ≤ b63 by omega)
    obtain ⟨cl68, Ar68, q68, S68, M68, H68, G68⟩ := id V66
    have hin68 : ¬ ((1 : Int32) < 0 ∨ cl68.slots.size ≤ ((1 : Int32)).toNatClampNeg) := inb_of S68 ⟨by decide, by decide⟩
    obtain ⟨T69, h69, X69, e69, W69, st69⟩ := stC X66 hx hZ e66 Ar68 (j := (1 : Int32)) hin68 (g := (mkF m 73 #[.val (.int (3 : Int32)), .val (.int cx), .val (.int cy), .val (.int cz)] [(.int cy), (.int (1 : Int32)), (.ref b63), (.ref b63), (.ref b58), (.ref b58)])) rfl rfl (Jvm.hb hby d_method_4_73)
    have z70 : h66.size ≤ h69.size := Nat.le_of_eq W69.size.symm
    have Cp70 : CHr Z ELs s.vm h66 s.vm h69 := CHr.wr W69 (Safe.arv hZ.alike V66 (by decide)) CR.1
    have hk := Nat.le_trans hk z70
    have CR := CR.trans Cp70
    have V69 : Arv Z h69 b63 k63 .char (3 : Int32) [(.int cx), (.int cy), (.int (0 : Int32))] (.int (0 : Int32)) := by have q : Arv Z h69 b63 k63 .char (3 : Int32) [(.int cx), (.int (nar .char cy)), (.int (0 : Int32))] (.int (0 : Int32)) := Arv.set Ar68 q68 S68 M68 H68 G68 (fits_nar_char _) W69 1 rfl (Nat.le_of_ble_eq_true rfl); rw [show nar .char cy = cy from own_narc r1a (own_le64k r1b)] at q; exact q
    have N69 := Fr.snoc X69 N66 (show n0 ≤ b63 by omega)
    obtain ⟨cl71, Ar71, q71, S71, M71, H71, G71⟩ := id V69
    have hin71 : ¬ ((2 : Int32) < 0 ∨ cl71.slots.size ≤ ((2 : Int32)).toNatClampNeg) := inb_of S71 ⟨by decide, by decide⟩
    obtain ⟨T72, h72, X72, e72, W72, st72⟩ := stC X69 hx hZ e69 Ar71 (j := (2 : Int32)) hin71 (g := (mkF m 77 #[.val (.int (3 : Int32)), .val (.int cx), .val (.int cy), .val (.int cz)] [(.int cz), (.int (2 : Int32)), (.ref b63), (.ref b63), (.ref b58), (.ref b58)])) rfl rfl (Jvm.hb hby d_method_4_77)
    have z73 : h69.size ≤ h72.size := Nat.le_of_eq W72.size.symm
    have Cp73 : CHr Z ELs s.vm h69 s.vm h72 := CHr.wr W72 (Safe.arv hZ.alike V69 (by decide)) CR.1
    have hk := Nat.le_trans hk z73
    have CR := CR.trans Cp73
    have V72 : Arv Z h72 b63 k63 .char (3 : Int32) [(.int cx), (.int cy), (.int cz)] (.int (0 : Int32)) := by have q : Arv Z h72 b63 k63 .char (3 : Int32) [(.int cx), (.int cy), (.int (nar .char cz))] (.int (0 : Int32)) := Arv.set Ar71 q71 S71 M71 H71 G71 (fits_nar_char _) W72 2 rfl (Nat.le_of_ble_eq_true rfl); rw [show nar .char cz = cz from own_narc r2a (own_le64k r2b)] at q; exact q
    have N72 := Fr.snoc X72 N69 (show n0 ≤ b63 by omega)
    have O74 : Old Z n0 h72 := (((((OX.ext E58).ext E63).wr W66 (show n0 ≤ b63 by omega)).wr W69 (show n0 ≤ b63 by omega)).wr W72 (show n0 ≤ b63 by omega))
    have f75 : Exa Z h72 b58 "java/lang/String" := ((((A58.ext E63).wr W66).wr W69).wr W72)
    have f76 : Fld Z h72 b58 "java/lang/String" "value" "[B" .null := ((((F62.ext E63).other W66 (Or.inl (show @Ne Nat b58 b63 by omega))).other W69 (Or.inl (show @Ne Nat b58 b63 by omega))).other W72 (Or.inl (show @Ne Nat b58 b63 by omega)))
    have f77 : Fld Z h72 b58 "java/lang/String" "coder" "B" (.int (0 : Int32)) := ((((F61.ext E63).other W66 (Or.inl (show @Ne Nat b58 b63 by omega))).other W69 (Or.inl (show @Ne Nat b58 b63 by omega))).other W72 (Or.inl (show @Ne Nat b58 b63 by omega)))
    have Zc78 : n0 ≤ h72.size := by omega
    have s80 : ∀ t_, Steps p.tables e below (T72.setTop (mkF m 78 #[.val (.int (3 : Int32)), .val (.int cx), .val (.int cy), .val (.int cz)] [(.ref b63), (.ref b58), (.ref b58)])) t_ → Steps p.tables e below (s₁.setTop (entryFrame m #[(.int (3 : Int32)), (.int cx), (.int cy), (.int cz)] 4)) t_ := fun t_ k_ => pre0 t_ (by
      show Steps p.tables e below (s₁.setTop (mkF m 0 #[.val (.int (3 : Int32)), .val (.int cx), .val (.int cy), .val (.int cz)] [])) t_
      refine XS.iloadN X0.here hx rfl (Jvm.hb hby d_method_4_0) rfl ?_
      refine XS.ifYes X0.here hx rfl (pc0 := 1) (pc' := 15) rfl (Jvm.hb hby d_method_4_1) rfl ((if0 _ _).trans (feq (by decide : ¬ ((3 : Int32) = (0 : Int32)))).2) (by decide) (by decide) ?_
      show Steps p.tables e below (s₁.setTop (mkF m 15 #[.val (.int (3 : Int32)), .val (.int cx), .val (.int cy), .val (.int cz)] [])) _
      refine XS.iloadN X0.here hx rfl (Jvm.hb hby d_method_4_15) rfl ?_
      refine XS.iconst X0.here hx rfl (Jvm.hb hby d_method_4_16) ?_
      refine XS.icmpYes X0.here hx rfl (pc0 := 17) (pc' := 35) rfl (Jvm.hb hby d_method_4_17) rfl (feq (by decide : ¬ ((3 : Int32) = (1 : Int32)))).2 (by decide) (by decide) ?_
      show Steps p.tables e below (s₁.setTop (mkF m 35 #[.val (.int (3 : Int32)), .val (.int cx), .val (.int cy), .val (.int cz)] [])) _
      refine XS.iloadN X0.here hx rfl (Jvm.hb hby d_method_4_35) rfl ?_
      refine XS.iconst X0.here hx rfl (Jvm.hb hby d_method_4_36) ?_
      refine XS.icmpYes X0.here hx rfl (pc0 := 37) (pc' := 59) rfl (Jvm.hb hby d_method_4_37) rfl (feq (by decide : ¬ ((3 : Int32) = (2 : Int32)))).2 (by decide) (by decide) ?_
      show Steps p.tables e below (s₁.setTop (mkF m 59 #[.val (.int (3 : Int32)), .val (.int cx), .val (.int cy), .val (.int cz)] [])) _
      refine st58 _ ?_
      show Steps p.tables e below (T58.setTop (mkF m 62 #[.val (.int (3 : Int32)), .val (.int cx), .val (.int cy), .val (.int cz)] [(.ref b58)])) _
      refine XS.dup X58.here hx rfl (Jvm.hb hby d_method_4_62) rfl rfl ?_
      refine XS.iconst X58.here hx rfl (Jvm.hb hby d_method_4_63) ?_
      refine st63 _ ?_
      show Steps p.tables e below (T63.setTop (mkF m 66 #[.val (.int (3 : Int32)), .val (.int cx), .val (.int cy), .val (.int cz)] [(.ref b63), (.ref b58), (.ref b58)])) _
      refine XS.dup X63.here hx rfl (Jvm.hb hby d_method_4_66) rfl rfl ?_
      refine XS.iconst X63.here hx rfl (Jvm.hb hby d_method_4_67) ?_
      refine XS.iloadN X63.here hx rfl (Jvm.hb hby d_method_4_68) rfl ?_
      refine st66 _ ?_
      show Steps p.tables e below (T66.setTop (mkF m 70 #[.val (.int (3 : Int32)), .val (.int cx), .val (.int cy), .val (.int cz)] [(.ref b63), (.ref b58), (.ref b58)])) _
      refine XS.dup X66.here hx rfl (Jvm.hb hby d_method_4_70) rfl rfl ?_
      refine XS.iconst X66.here hx rfl (Jvm.hb hby d_method_4_71) ?_
      refine XS.iloadN X66.here hx rfl (Jvm.hb hby d_method_4_72) rfl ?_
      refine st69 _ ?_
      show Steps p.tables e below (T69.setTop (mkF m 74 #[.val (.int (3 : Int32)), .val (.int cx), .val (.int cy), .val (.int cz)] [(.ref b63), (.ref b58), (.ref b58)])) _
      refine XS.dup X69.here hx rfl (Jvm.hb hby d_method_4_74) rfl rfl ?_
      refine XS.iconst X69.here hx rfl (Jvm.hb hby d_method_4_75) ?_
      refine XS.iloadN X69.here hx rfl (Jvm.hb hby d_method_4_76) rfl ?_
      refine st72 _ ?_
      show Steps p.tables e below (T72.setTop (mkF m 78 #[.val (.int (3 : Int32)), .val (.int cx), .val (.int cy), .val (.int cz)] [(.ref b63), (.ref b58), (.ref b58)])) _
      show Steps p.tables e below (T72.setTop (mkF m 78 #[.val (.int (3 : Int32)), .val (.int cx), .val (.int cy), .val (.int cz)] [(.ref b63), (.ref b58), (.ref b58)])) t_
      exact k_)
    obtain ⟨_, _, ⟨T79, L79, k79, n79⟩, -, Xr79, hSr79, hg79, ⟨Lc79, hQ79, l79, y79, z79, Cp79⟩, st79⟩ := X72.specialBackS hx (y := (⟨"java/lang/String", "<init>", "([C)V"⟩ : MethodName)) rfl hown (mvT hZ (hw _ (List.mem_of_getElem? (i := 14) rfl))) (mvT hZ (hw _ (List.mem_of_getElem? (i := 15) rfl))) (mvT hZ (hw _ (List.mem_of_getElem? (i := 16) rfl))) (by decide) (backOfSH (s := s) (vm0 := s.vm) (W := 1) (rmIni1 l Z a0 hw [] b58 b63 cst [cx, cy, cz] k63 3 h72 n0 Zc78 I1 O74 (hcst : ¬ (cst = (0 : Int32))) f75 f76 f77 V72 rfl (by first | assumption | omega | rfl | decide : 3 ≤ 3) (own_latS r0b (own_latS r1b (own_latS r2b own_lat0))) (by first | assumption | omega | rfl | decide : n0 ≤ b58) (by first | assumption | omega | rfl | decide : @Ne Nat b58 b63)) hZ (hw _ (List.mem_of_getElem? (i := 16) rfl)) (hw _ (List.mem_of_getElem? (i := 12) rfl)) (by decide) (by decide) hEL CR.1) (g := (mkF m 78 #[.val (.int (3 : Int32)), .val (.int cx), .val (.int cy), .val (.int cz)] [(.ref b63), (.ref b58), (.ref b58)])) rfl (by rw [hml]; rfl) (Steps.refl _) (a := b58) (argsL := [(.ref b63)]) (rest := [(.ref b58)]) (lenOf pd___C_V rfl) rfl (by show 2 * 0 + _ ≤ _; exact Nat.le_of_eq rfl) (Jvm.hb hby d_method_4_78) (fun _ _ => ⟨rfl, e72, (by decide : 2 + 4 ≤ _), (by decide : 7 + 8 ≤ _)⟩)
    dsimp only [Pt.U, Pt.locs, Pt.cells, Pt.slots] at Xr79 hSr79 hg79 l79 y79 z79 st79 hQ79 Cp79
    subst l79 y79 z79
    obtain ⟨X79, hS, hZ, hown⟩ := rebS (own := "com/example/zastupnik/zastupnik/protocol/ServiceErrorEqualsPinLaw") hS (by first | exact Nat.le_refl _ | (rw [e72]; exact hk)) Xr79 hSr79 hg79 hZ hown
    obtain ⟨b_79, kb_79, rfl, N79q, K79, Fq79_0, Fq79_1, Fq79_2, Fq79_3⟩ := hQ79
    have N79 := Fr.app N72 N79q
    obtain ⟨h79, e79⟩ : ∃ z, T79.heap = z := ⟨_, rfl⟩
    rw [e79] at K79 Fq79_0 Fq79_1 Fq79_2 Fq79_3 Cp79
    have hk : T79.heap.size ≤ h79.size := Nat.le_of_eq (congrArg Array.size e79)
    have z81 : h72.size ≤ h79.size := K79.1
    have CR := CR.trans Cp79
    have lt79_0 : @LT.lt Nat _ b58 h79.size := Fq79_0.lt
    have lt79_3 : @LT.lt Nat _ b_79 h79.size := Fq79_3.lt
    have s82 : ∀ t_, Steps p.tables e below (T79.setTop (mkF m 81 #[.val (.int (3 : Int32)), .val (.int cx), .val (.int cy), .val (.int cz)] [(.ref b58)])) t_ → Steps p.tables e below (s₁.setTop (entryFrame m #[(.int (3 : Int32)), (.int cx), (.int cy), (.int cz)] 4)) t_ := fun t_ k_ => s80 t_ (by
      show Steps p.tables e below (T72.setTop (mkF m 78 #[.val (.int (3 : Int32)), .val (.int cx), .val (.int cy), .val (.int cz)] [(.ref b63), (.ref b58), (.ref b58)])) t_
      refine st79.trans ?_
      show Steps p.tables e below (T79.setTop (mkF m 81 #[.val (.int (3 : Int32)), .val (.int cx), .val (.int cy), .val (.int cz)] [(.ref b58)])) _
      show Steps p.tables e below (T79.setTop (mkF m 81 #[.val (.int (3 : Int32)), .val (.int cx), .val (.int cy), .val (.int cz)] [(.ref b58)])) t_
      exact k_)
    obtain ⟨fs, hr, hrun, hended, hREW⟩ := X79.leaveW hS (by first | exact Nat.le_refl _ | (rw [e79]; exact hk)) (v := some (.ref b58)) (fun h => by rw [Bd.returns] at h; cases h)
    refine ⟨_, _, s82 _ ?_, hrun, hended, _, _, rfl, ?_, (by show CHr Z ELs s.vm s.heap T79.vm T79.heap; rw [hh, e79]; exact CR.trans (CHv.at X79 hZ hEL CR.1)), hREW.1, hREW.2.1, hREW.2.2.1, hREW.2.2.2.mono (by decide) (by decide)⟩
    · show Steps p.tables e below (T79.setTop (mkF m 81 #[.val (.int (3 : Int32)), .val (.int cx), .val (.int cy), .val (.int cz)] [(.ref b58)])) _
      jvm_step X79.here [X79.here.top, hx, (Jvm.hb hby d_method_4_81), X79.method', Bd.returns, Value.isRef, FieldType.isReference]
      first | (intro acts; rw [hr _ acts rfl rfl rfl]) | rw [hr _ _ rfl rfl rfl]
      exact Steps.refl _
    · show Q_rmMk Z _ _ _ _ _ h0 n0 _ T79.heap _
      rw [e79]
      exact ⟨b58, b_79, kb_79, rfl, N79, (((((((Keep.refl h0 []).ext E58).ext E63).wr W66 (Or.inr (show h0.size ≤ b63 by omega))).wr W69 (Or.inr (show h0.size ≤ b63 by omega))).wr W72 (Or.inr (show h0.size ≤ b63 by omega))).trans K79 (allS (Or.inr (show h0.size ≤ b58 by omega)) all0)), Fq79_0, Fq79_1, Fq79_2, Fq79_3, by omega⟩
theorem pn_java_util_Objects : plainName "java/util/Objects" = true := by first | (simp [plainName, overriddenIn]; done) | decide +kernel
theorem d_jdk_31_method_11_0 : decode jdk_31_method_11_code 0 = .ok (.aload_n 0, 1) := by decide +kernel
theorem d_jdk_31_method_11_1 : decode jdk_31_method_11_code 1 = .ok (.ifnonnull 12, 3) := by decide +kernel
theorem d_jdk_31_method_11_13 : decode jdk_31_method_11_code 13 = .ok (.aload_n 0, 1) := by decide +kernel
theorem d_jdk_31_method_11_14 : decode jdk_31_method_11_code 14 = .ok (.areturn, 1) := by decide +kernel
theorem ef_rmReq (m : MethodId) (x0 : Addr) (x1 : Addr) : entryFrame m #[(.ref x0), (.ref x1)] 2 = mkF m 0 #[.val (.ref x0), .val (.ref x1)] [] := by first | (simp [entryFrame, mkF, argsToLocals, Value.category]; done) | rfl
def Q_rmReq (Z : State) (ob : Addr) (msg : Addr) (h0 : Heap) (n0 : Nat) (v : Option Value) (h : Heap) (L : List Loc) : Prop := (v = some (.ref ob)) ∧ (Fr n0 L) ∧ (h = h0)
set_option maxRecDepth 65536 in
set_option maxHeartbeats 40000000 in
theorem rmReq (l : Launch) (Z : State) (a0 : Array Value) (hw : ∀ d ∈ tables_1, d.before a0 Z = true) (ws : List Jvm.Cond) (ob : Addr) (msg : Addr) (h0 : Heap) (n0 : Nat) (Z0 : n0 ≤ h0.size)  :
    MetFree l (⟨"java/util/Objects", "requireNonNull", "(Ljava/lang/Object;Ljava/lang/String;)Ljava/lang/Object;"⟩ : MethodName) (head1 (Jvm.Cond.code (⟨"java/util/Objects", "requireNonNull", "(Ljava/lang/Object;Ljava/lang/String;)Ljava/lang/Object;"⟩ : MethodName) jdk_31_method_11_code 2 (some (.object "java/lang/Object")) :: ws) ({ frames := 0, cells := 0, slots := 0, locals := 0 } : Room)) (fun ar_ U => ar_ = #[(.ref ob), (.ref msg)] ∧ Z.Warmed39 U.vm ∧ U.heap = h0) (fun _ _ _ _ _ => True) (fun _ U o U' => ∃ v L, o = .returned v ∧ Q_rmReq Z ob msg h0 n0 v U'.heap L ∧ FrameEnd U o U' L ({ frames := 0, cells := 0, slots := 0, locals := 0 } : Room).cells ({ frames := 0, cells := 0, slots := 0, locals := 0 } : Room).slots) := by
  refine MetFree.of_bodySF (plainFor_of_name pn_java_util_Objects) hisR ?_
  intro p e s m args below meth c s₁ Bd hml0 hP hK
  obtain ⟨rfl, hZ, hh⟩ := hP
  have hx := Bd.exec
  have hby := Bd.bytes
  have hml : c.maxLocals = 2 := hml0
  have hown : s.vm.findClass "java/util/Objects" = some m.cls := findClass_of_methodNamed Bd.named
  have hnm := (name_of_methodNamed Bd.named Bd.method).1
  have X0 : Stand p l e ({ frames := 0, cells := 0, slots := 0, locals := 0 } : Room) s m #[(.ref ob), (.ref msg)] below meth c s₁ [] 0 0 := Stand.of_body Bd
  have e0 : s₁.heap = h0 := by rw [← hh, Bd.state]; rfl
  have N0 := Fr.nil n0
  have pre0 : ∀ t_, Steps p.tables e below (s₁.setTop (mkF m 0 #[.val (.ref ob), .val (.ref msg)] [])) t_ → Steps p.tables e below (s₁.setTop (entryFrame m #[(.ref ob), (.ref msg)] 2)) t_ := fun t_ k_ => castTop (ef_rmReq m ob msg) k_
  have s1 : ∀ t_, Steps p.tables e below (s₁.setTop (mkF m 14 #[.val (.ref ob), .val (.ref msg)] [(.ref ob)])) t_ → Steps p.tables e below (s₁.setTop (entryFrame m #[(.ref ob), (.ref msg)] 2)) t_ := fun t_ k_ => pre0 t_ (by
    show Steps p.tables e below (s₁.setTop (mkF m 0 #[.val (.ref ob), .val (.ref msg)] [])) t_
    refine XS.aloadN X0.here hx rfl (Jvm.hb hby d_jdk_31_method_11_0) rfl rfl ?_
    refine XS.ifnonnullYes X0.here hx rfl (pc0 := 1) (pc' := 13) rfl (Jvm.hb hby d_jdk_31_method_11_1) rfl (by decide) (by decide) ?_
    show Steps p.tables e below (s₁.setTop (mkF m 13 #[.val (.ref ob), .val (.ref msg)] [])) _
    refine XS.aloadN X0.here hx rfl (Jvm.hb hby d_jdk_31_method_11_13) rfl rfl ?_
    show Steps p.tables e below (s₁.setTop (mkF m 14 #[.val (.ref ob), .val (.ref msg)] [(.ref ob)])) t_
    exact k_)
  obtain ⟨fs, hr, hrun, hended, hW, hsame⟩ := X0.leave (v := some (.ref ob)) (fun h => by rw [Bd.returns] at h; cases h)
  refine ⟨_, _, s1 _ ?_, hrun, hended, _, _, rfl, ?_, ⟨_, rfl⟩, hW, hsame.mono (by decide) (by decide)⟩
  · show Steps p.tables e below (s₁.setTop (mkF m 14 #[.val (.ref ob), .val (.ref msg)] [(.ref ob)])) _
    jvm_step X0.here [X0.here.top, hx, (Jvm.hb hby d_jdk_31_method_11_14), X0.method', Bd.returns, Value.isRef, FieldType.isReference]
    first | (intro acts; rw [hr _ acts rfl rfl rfl]) | rw [hr _ _ rfl rfl rfl]
    exact Steps.refl _
  · show Q_rmReq Z _ _ h0 n0 _ s₁.heap _
    rw [e0]
    exact ⟨rfl, N0, rfl⟩
theorem pn_com_example_zastupnik_zastupnik_protocol_ServiceError : plainName "com/example/zastupnik/zastupnik/protocol/ServiceError" = true := by first | (simp [plainName, overriddenIn]; done) | decide +kernel
theorem d_prog_61_method_1_0 : decode prog_61_method_1_code 0 = .ok (.aload_n 0, 1) := by decide +kernel
theorem d_prog_61_method_1_1 : decode prog_61_method_1_code 1 = .ok (.invokespecial 1, 3) := by decide +kernel
theorem d_prog_61_method_1_4 : decode prog_61_method_1_code 4 = .ok (.aload_n 1, 1) := by decide +kernel
theorem d_prog_61_method_1_5 : decode prog_61_method_1_code 5 = .ok (.ldc 7, 2) := by decide +kernel
theorem pd__Ljava_lang_Object_Ljava_lang_String__Ljava_lang_Object_ : parseMethodDescriptor "(Ljava/lang/Object;Ljava/lang/String;)Ljava/lang/Object;" = some ⟨[(.object "java/lang/Object"), (.object "java/lang/String")], some (.object "java/lang/Object")⟩ := by decide +kernel
theorem d_prog_61_method_1_7 : decode prog_61_method_1_code 7 = .ok (.invokestatic 9, 3) := by decide +kernel
theorem d_prog_61_method_1_10 : decode prog_61_method_1_code 10 = .ok (.pop, 1) := by decide +kernel
theorem d_prog_61_method_1_11 : decode prog_61_method_1_code 11 = .ok (.aload_n 1, 1) := by decide +kernel
theorem d_prog_61_method_1_12 : decode prog_61_method_1_code 12 = .ok (.invokevirtual 15, 3) := by decide +kernel
theorem d_prog_61_method_1_15 : decode prog_61_method_1_code 15 = .ok (.iconst 3, 1) := by decide +kernel
theorem d_prog_61_method_1_16 : decode prog_61_method_1_code 16 = .ok (.if_icmp .gt 10, 3) := by decide +kernel
theorem d_prog_61_method_1_19 : decode prog_61_method_1_code 19 = .ok (.aload_n 1, 1) := by decide +kernel
theorem pd__Ljava_lang_String__Z : parseMethodDescriptor "(Ljava/lang/String;)Z" = some ⟨[(.object "java/lang/String")], some .boolean⟩ := by decide +kernel
theorem d_prog_61_method_1_20 : decode prog_61_method_1_code 20 = .ok (.invokestatic 23, 3) := by decide +kernel
theorem d_prog_61_method_1_23 : decode prog_61_method_1_code 23 = .ok (.ifCond .ne 20, 3) := by decide +kernel
theorem d_prog_61_method_1_43 : decode prog_61_method_1_code 43 = .ok (.aload_n 0, 1) := by decide +kernel
theorem d_prog_61_method_1_44 : decode prog_61_method_1_code 44 = .ok (.aload_n 1, 1) := by decide +kernel
theorem d_prog_61_method_1_45 : decode prog_61_method_1_code 45 = .ok (.putfield 43, 3) := by decide +kernel
theorem d_prog_61_method_1_48 : decode prog_61_method_1_code 48 = .ok (.aload_n 0, 1) := by decide +kernel
theorem d_prog_61_method_1_49 : decode prog_61_method_1_code 49 = .ok (.aload_n 2, 1) := by decide +kernel
theorem d_prog_61_method_1_50 : decode prog_61_method_1_code 50 = .ok (.ldc 46, 2) := by decide +kernel
theorem d_prog_61_method_1_52 : decode prog_61_method_1_code 52 = .ok (.invokestatic 9, 3) := by decide +kernel
theorem d_prog_61_method_1_55 : decode prog_61_method_1_code 55 = .ok (.checkcast 16, 3) := by decide +kernel
theorem d_prog_61_method_1_58 : decode prog_61_method_1_code 58 = .ok (.putfield 48, 3) := by decide +kernel
theorem d_prog_61_method_1_61 : decode prog_61_method_1_code 61 = .ok (.return_, 1) := by decide +kernel
theorem ef_rmSEi (m : MethodId) (x0 : Addr) (x1 : Addr) (x2 : Addr) : entryFrame m #[(.ref x0), (.ref x1), (.ref x2)] 3 = mkF m 0 #[.val (.ref x0), .val (.ref x1), .val (.ref x2)] [] := by first | (simp [entryFrame, mkF, argsToLocals, Value.category]; done) | rfl
def Q_rmSEi (Z : State) (a : Addr) (co : Addr) (me : Addr) (cst : Int32) (b : Addr) (kb : ClassId) (cs : List Int32) (fmt : Value) (h0 : Heap) (n0 : Nat) (v : Option Value) (h : Heap) (L : List Loc) : Prop := (v = none) ∧ (Fr n0 L) ∧ (Keep h0 h [a]) ∧ (Exa Z h a "com/example/zastupnik/zastupnik/protocol/ServiceError") ∧ (Fld Z h a "com/example/zastupnik/zastupnik/protocol/ServiceError" "code" "Ljava/lang/String;" (.ref co)) ∧ (Fld Z h a "com/example/zastupnik/zastupnik/protocol/ServiceError" "message" "Ljava/lang/String;" (.ref me))
set_option maxRecDepth 65536 in
set_option maxHeartbeats 40000000 in
theorem rmSEi (l : Launch) (Z : State) (a0 : Array Value) (hw : ∀ d ∈ tables_1, d.before a0 Z = true) (ws : List Jvm.Cond) (a : Addr) (co : Addr) (me : Addr) (cst : Int32) (b : Addr) (kb : ClassId) (cs : List Int32) (fmt : Value) (h0 : Heap) (n0 : Nat) (Z0 : n0 ≤ h0.size) (I1 : Sta Z Z.heap "java/lang/String" "COMPACT_STRINGS" "Z" (.int cst)) (hfmt : fmt.isRef = true) (I2 : Sta Z Z.heap "jdk/internal/util/Preconditions" "SIOOBE_FORMATTER" "Ljava/util/function/BiFunction;" fmt) (OX : Old Z n0 h0) (hcst : ¬ (cst = (0 : Int32))) (I3 : Exa Z h0 a "com/example/zastupnik/zastupnik/protocol/ServiceError") (I4 : Fld Z h0 a "com/example/zastupnik/zastupnik/protocol/ServiceError" "code" "Ljava/lang/String;" .null) (I5 : Fld Z h0 a "com/example/zastupnik/zastupnik/protocol/ServiceError" "message" "Ljava/lang/String;" .null) (I6 : Exa Z h0 co "java/lang/String") (I7 : Fld Z h0 co "java/lang/String" "value" "[B" (.ref b)) (I8 : Fld Z h0 co "java/lang/String" "coder" "B" (.int (own_cod cs))) (I9 : Arv Z h0 b kb .byte (Int32.ofNat (own_enl cs)) (own_enc cs) (.int (0 : Int32))) (I10 : Exa Z h0 me "java/lang/String") (hb : cs.length ≤ 3) (hchs : own_chs cs) (hlat : own_lat cs) (hon : own_only cs = (1 : Int32)) (ga : n0 ≤ a) :
    MetFree l (⟨"com/example/zastupnik/zastupnik/protocol/ServiceError", "<init>", "(Ljava/lang/String;Ljava/lang/String;)V"⟩ : MethodName) (head1 (Jvm.Cond.code (⟨"com/example/zastupnik/zastupnik/protocol/ServiceError", "<init>", "(Ljava/lang/String;Ljava/lang/String;)V"⟩ : MethodName) prog_61_method_1_code 3 none :: ws) ({ frames := 5, cells := 4, slots := 52, locals := 67 } : Room)) (fun ar_ U => ar_ = #[(.ref a), (.ref co), (.ref me)] ∧ Z.Warmed39 U.vm ∧ U.heap = h0 ∧ CHv Z ELs U.vm h0) (fun _ _ _ _ _ => True) (fun _ U o U' => ∃ v L, o = .returned v ∧ Q_rmSEi Z a co me cst b kb cs fmt h0 n0 v U'.heap L ∧ CHr Z ELs U.vm U.heap U'.vm U'.heap ∧ ReturnedEndW U o U' L ({ frames := 5, cells := 4, slots := 52, locals := 67 } : Room).cells ({ frames := 5, cells := 4, slots := 52, locals := 67 } : Room).slots) := by
  refine MetFree.of_bodySF (plainFor_of_name pn_com_example_zastupnik_zastupnik_protocol_ServiceError) hisR ?_
  intro p e s m args below meth c s₁ Bd hml0 hP hK
  obtain ⟨rfl, hZ, hh, hCH⟩ := hP
  have hx := Bd.exec
  have hby := Bd.bytes
  have hml : c.maxLocals = 3 := hml0
  have hown : s.vm.findClass "com/example/zastupnik/zastupnik/protocol/ServiceError" = some m.cls := findClass_of_methodNamed Bd.named
  have hnm := (name_of_methodNamed Bd.named Bd.method).1
  have X0 : Stand p l e ({ frames := 5, cells := 4, slots := 52, locals := 67 } : Room) (s.setVm s.vm) m #[(.ref a), (.ref co), (.ref me)] below meth c s₁ [] 0 0 := Stand.of_body Bd
  have e0 : s₁.heap = h0 := by rw [← hh, Bd.state]; rfl
  have N0 := Fr.nil n0
  have pre0 : ∀ t_, Steps p.tables e below (s₁.setTop (mkF m 0 #[.val (.ref a), .val (.ref co), .val (.ref me)] [])) t_ → Steps p.tables e below (s₁.setTop (entryFrame m #[(.ref a), (.ref co), (.ref me)] 3)) t_ := fun t_ k_ => castTop (ef_rmSEi m a co me) k_
  have hEL : EW Z a0 ELs := own_EW hw
  have wS : ∀ a ∈ Bundle.stringAtoms, a.before a0 Z = true := own_wS hw
  have hS : s.Since s.vm s.heap.size := (State.WarmedH.refl s).since _
  have hk : s.heap.size ≤ h0.size := by rw [hh]; exact Nat.le_refl _
  have CR : CHr Z ELs s.vm h0 s.vm h0 := CHr.refl hCH
  have lt_I3 : @LT.lt Nat _ a h0.size := I3.lt
  have lt_I4 : @LT.lt Nat _ a h0.size := I4.lt
  have lt_I5 : @LT.lt Nat _ a h0.size := I5.lt
  have lt_I6 : @LT.lt Nat _ co h0.size := I6.lt
  have lt_I7 : @LT.lt Nat _ co h0.size := I7.lt
  have lt_I8 : @LT.lt Nat _ co h0.size := I8.lt
  have lt_I9 : @LT.lt Nat _ b h0.size := I9.lt
  have lt_I10 : @LT.lt Nat _ me h0.size := I10.lt
  obtain ⟨T1, X1, e1, st1⟩ := initO X0 hx hZ hown (hw _ (List.mem_of_getElem? (i := 43) rfl)) (hw _ (List.mem_of_getElem? (i := 22) rfl)) (hw _ (List.mem_of_getElem? (i := 23) rfl)) e0 (g := (mkF m 1 #[.val (.ref a), .val (.ref co), .val (.ref me)] [(.ref a)])) rfl (by rw [hml]; rfl) rfl (Jvm.hb hby d_prog_61_method_1_1) (by decide) (W := 0) (by show 2 * 0 + _ ≤ _; exact Nat.le_of_eq rfl) (by decide)
  have s3 : ∀ t_, Steps p.tables e below (T1.setTop (mkF m 5 #[.val (.ref a), .val (.ref co), .val (.ref me)] [(.ref co)])) t_ → Steps p.tables e below (s₁.setTop (entryFrame m #[(.ref a), (.ref co), (.ref me)] 3)) t_ := fun t_ k_ => pre0 t_ (by
    show Steps p.tables e below (s₁.setTop (mkF m 0 #[.val (.ref a), .val (.ref co), .val (.ref me)] [])) t_
    refine XS.aloadN X0.here hx rfl (Jvm.hb hby d_prog_61_method_1_0) rfl rfl ?_
    refine st1 _ ?_
    show Steps p.tables e below (T1.setTop (mkF m 4 #[.val (.ref a), .val (.ref co), .val (.ref me)] [])) _
    refine XS.aloadN X1.here hx rfl (Jvm.hb hby d_prog_61_method_1_4) rfl rfl ?_
    show Steps p.tables e below (T1.setTop (mkF m 5 #[.val (.ref a), .val (.ref co), .val (.ref me)] [(.ref co)])) t_
    exact k_)
  obtain ⟨a2, T2, h2, k2, b2, kk2, X2, e2, E2, hS, hk, hZ, hown, Ex2, Fc2, Fv2, Av2, la2, lb2, Cp2, Li2, Sa2, st2⟩ := ldcCH X1 hx hZ hown (hw _ (List.mem_of_getElem? (i := 44) rfl)) wS e1 hS hk hEL (List.mem_of_getElem? (i := 0) rfl) CR.1 (vs := [(.int (99 : Int32)), (.int (111 : Int32)), (.int (100 : Int32)), (.int (101 : Int32))]) (z := (4 : Int32)) ⟨by decide, by decide⟩ (by decide) rfl (g := (mkF m 5 #[.val (.ref a), .val (.ref co), .val (.ref me)] [(.ref co)])) rfl (Jvm.hb hby d_prog_61_method_1_5) (n := 16) (by decide) (by decide) (by decide) (by decide)
  have z4 : h0.size ≤ h2.size := E2.1
  have CR := CR.trans Cp2
  have la2 : @LT.lt Nat _ a2 h2.size := la2
  have lb2 : @LT.lt Nat _ b2 h2.size := lb2
  have Zc5 : n0 ≤ h2.size := by omega
  obtain ⟨_, _, ⟨T6, L6, k6, n6⟩, -, X6, ⟨Lc6, hQ6, l6, y6, z6⟩, st6⟩ := Jvm.LawKit.callS X2 hx (y := (⟨"java/util/Objects", "requireNonNull", "(Ljava/lang/Object;Ljava/lang/String;)Ljava/lang/Object;"⟩ : MethodName)) hown (mvT hZ (hw _ (List.mem_of_getElem? (i := 47) rfl))) (mvT hZ (hw _ (List.mem_of_getElem? (i := 48) rfl))) (mvT hZ (hw _ (List.mem_of_getElem? (i := 49) rfl))) (mvT hZ (hw _ (List.mem_of_getElem? (i := 50) rfl))) (by decide) (backOf (W := 0) (rmReq l Z a0 hw [] co a2 h2 n0 Zc5) hZ (hw _ (List.mem_of_getElem? (i := 50) rfl)) (hw _ (List.mem_of_getElem? (i := 49) rfl)) (by decide) (by decide)) (g := (mkF m 7 #[.val (.ref a), .val (.ref co), .val (.ref me)] [(.ref a2), (.ref co)])) rfl (by rw [hml]; rfl) (argsL := [(.ref co), (.ref a2)]) (rest := []) (lenOf pd__Ljava_lang_Object_Ljava_lang_String__Ljava_lang_Object_ rfl) rfl (by show 2 * 0 + _ ≤ _; exact Nat.le_of_eq rfl) (Jvm.hb hby d_prog_61_method_1_7) (fun _ _ => ⟨rfl, e2, (by decide : 2 + 0 ≤ _), (by decide : 20 + 0 ≤ _)⟩)
  dsimp only [Pt.U, Pt.locs, Pt.cells, Pt.slots] at X6 l6 y6 z6 st6 hQ6
  subst l6 y6 z6
  obtain ⟨rfl, N6q, e6⟩ := hQ6
  have N6 := Fr.app N0 N6q
  have O7 : Old Z n0 h2 := (OX.ext E2)
  have f8 : Exa Z h2 co "java/lang/String" := (I6.ext E2)
  have f9 : Fld Z h2 co "java/lang/String" "value" "[B" (.ref b) := (I7.ext E2)
  have f10 : Fld Z h2 co "java/lang/String" "coder" "B" (.int (own_cod cs)) := (I8.ext E2)
  have f11 : Arv Z h2 b kb .byte (Int32.ofNat (own_enl cs)) (own_enc cs) (.int (0 : Int32)) := (I9.ext E2)
  have Zc12 : n0 ≤ h2.size := by omega
  obtain ⟨cq13, kq13, q13a, q13b, q13c⟩ := isOf hZ e6 f8
  obtain ⟨_, _, ⟨T13, L13, k13, n13⟩, -, X13, ⟨Lc13, hQ13, l13, y13, z13⟩, st13⟩ := X6.virtualBack hx (y := (⟨"java/lang/String", "length", "()I"⟩ : MethodName)) (z := (⟨"java/lang/String", "length", "()I"⟩ : MethodName)) hown (mvT hZ (hw _ (List.mem_of_getElem? (i := 51) rfl))) (mvT hZ (hw _ (List.mem_of_getElem? (i := 52) rfl))) (notFace_of_selects (args := #[]) (mvT hZ (hw _ (List.mem_of_getElem? (i := 54) rfl)))) (mvT hZ (hw _ (List.mem_of_getElem? (i := 54) rfl))) (mvT hZ (hw _ (List.mem_of_getElem? (i := 53) rfl))) (by decide) (backOf (W := 0) (rmLen l Z a0 hw [] co cst b kb cs h2 n0 Zc12 I1 O7 (hcst : ¬ (cst = (0 : Int32))) f8 f9 f10 f11 (hb : cs.length ≤ 3)) hZ (hw _ (List.mem_of_getElem? (i := 55) rfl)) (hw _ (List.mem_of_getElem? (i := 12) rfl)) (by decide) (by decide)) q13a q13c (g := (mkF m 12 #[.val (.ref a), .val (.ref co), .val (.ref me)] [(.ref co)])) rfl (by rw [hml]; rfl) (Steps.refl _) (argsL := []) (rest := []) (lenOf pd___I rfl) rfl (by show 2 * 0 + _ ≤ _; exact Nat.le_of_eq rfl) (Jvm.hb hby d_prog_61_method_1_12) (fun _ _ => ⟨rfl, e6, (by decide : 2 + 0 ≤ _), (by decide : 20 + 0 ≤ _)⟩)
  dsimp only [Pt.U, Pt.locs, Pt.cells, Pt.slots] at X13 l13 y13 z13 st13 hQ13
  subst l13 y13 z13
  obtain ⟨rfl, N13q, e13⟩ := hQ13
  have N13 := Fr.app N6 N13q
  have Zc14 : n0 ≤ h2.size := by omega
  obtain ⟨_, _, ⟨T15, L15, k15, n15⟩, -, X15, ⟨Lc15, hQ15, l15, y15, z15⟩, st15⟩ := Jvm.LawKit.callS X13 hx (y := (⟨"com/example/zastupnik/zastupnik/protocol/AsciiDigits", "only", "(Ljava/lang/String;)Z"⟩ : MethodName)) hown (mvT hZ (hw _ (List.mem_of_getElem? (i := 61) rfl))) (mvT hZ (hw _ (List.mem_of_getElem? (i := 62) rfl))) (mvT hZ (hw _ (List.mem_of_getElem? (i := 63) rfl))) (mvT hZ (hw _ (List.mem_of_getElem? (i := 64) rfl))) (by decide) (backOf (W := 0) (rmOnly l Z a0 hw [] co cst b kb cs fmt h2 n0 Zc14 I1 (hfmt : fmt.isRef = true) I2 O7 (hcst : ¬ (cst = (0 : Int32))) f8 f9 f10 f11 (hb : cs.length ≤ 3) (hchs : own_chs cs) (hlat : own_lat cs)) hZ (hw _ (List.mem_of_getElem? (i := 64) rfl)) (hw _ (List.mem_of_getElem? (i := 63) rfl)) (by decide) (by decide)) (g := (mkF m 20 #[.val (.ref a), .val (.ref co), .val (.ref me)] [(.ref co)])) rfl (by rw [hml]; rfl) (argsL := [(.ref co)]) (rest := []) (lenOf pd__Ljava_lang_String__Z rfl) rfl (by show 2 * 0 + _ ≤ _; exact Nat.le_of_eq rfl) (Jvm.hb hby d_prog_61_method_1_20) (fun _ _ => ⟨rfl, e13, (by decide : 2 + 0 ≤ _), (by decide : 20 + 0 ≤ _)⟩)
  dsimp only [Pt.U, Pt.locs, Pt.cells, Pt.slots] at X15 l15 y15 z15 st15 hQ15
  subst l15 y15 z15
  obtain ⟨rfl, N15q, e15⟩ := hQ15
  have N15 := Fr.app N13 N15q
  have f16 : Exa Z h2 a "com/example/zastupnik/zastupnik/protocol/ServiceError" := (I3.ext E2)
  have f17 : Fld Z h2 a "com/example/zastupnik/zastupnik/protocol/ServiceError" "code" "Ljava/lang/String;" .null := (I4.ext E2)
  obtain ⟨T18, h18, X18, e18, W18, st18⟩ := putF X15 hx hZ hown (host := "") (Or.inl (hw _ (List.mem_of_getElem? (i := 93) rfl))) Via.refl e15 f17 f16 (Or.inr ⟨(hw _ (List.mem_of_getElem? (i := 94) rfl)), rfl, hnm⟩) (hw _ (List.mem_of_getElem? (i := 5) rfl)) (ty := (.object "java/lang/String")) (by decide) rfl rfl (g := (mkF m 45 #[.val (.ref a), .val (.ref co), .val (.ref me)] [(.ref co), (.ref a)])) rfl rfl (Jvm.hb hby d_prog_61_method_1_45)
  have z19 : h2.size ≤ h18.size := Nat.le_of_eq W18.size.symm
  have Cp19 : CHr Z ELs T2.vm h2 T2.vm h18 := CHr.wr W18 (Safe.exa hZ.alike f16 (by decide) (by decide)) CR.1
  have hk := Nat.le_trans hk z19
  have CR := CR.trans Cp19
  have F18 : Fld Z h18 a "com/example/zastupnik/zastupnik/protocol/ServiceError" "code" "Ljava/lang/String;" (.ref co) := f17.same W18
  have N18 := Fr.snoc X18 N15 (show n0 ≤ a by omega)
  have s21 : ∀ t_, Steps p.tables e below (T18.setTop (mkF m 50 #[.val (.ref a), .val (.ref co), .val (.ref me)] [(.ref me), (.ref a)])) t_ → Steps p.tables e below (s₁.setTop (entryFrame m #[(.ref a), (.ref co), (.ref me)] 3)) t_ := fun t_ k_ => s3 t_ (by
    show Steps p.tables e below (T1.setTop (mkF m 5 #[.val (.ref a), .val (.ref co), .val (.ref me)] [(.ref co)])) t_
    refine st2 _ ?_
    show Steps p.tables e below (T2.setTop (mkF m 7 #[.val (.ref a), .val (.ref co), .val (.ref me)] [(.ref a2), (.ref co)])) _
    refine st6 _ ?_
    show Steps p.tables e below (T6.setTop (mkF m 10 #[.val (.ref a), .val (.ref co), .val (.ref me)] [(.ref co)])) _
    refine XS.pop X6.here hx rfl (Jvm.hb hby d_prog_61_method_1_10) rfl rfl ?_
    refine XS.aloadN X6.here hx rfl (Jvm.hb hby d_prog_61_method_1_11) rfl rfl ?_
    refine st13.trans ?_
    show Steps p.tables e below (T13.setTop (mkF m 15 #[.val (.ref a), .val (.ref co), .val (.ref me)] [(.int (Int32.ofNat cs.length))])) _
    refine XS.iconst X13.here hx rfl (Jvm.hb hby d_prog_61_method_1_15) ?_
    refine XS.icmpNo X13.here hx rfl (Jvm.hb hby d_prog_61_method_1_16) rfl (flt (own_nlt (i := 3) (n := cs.length) (by omega) (by decide))).2.2.1 ?_
    show Steps p.tables e below (T13.setTop (mkF m 19 #[.val (.ref a), .val (.ref co), .val (.ref me)] [])) _
    refine XS.aloadN X13.here hx rfl (Jvm.hb hby d_prog_61_method_1_19) rfl rfl ?_
    refine st15 _ ?_
    show Steps p.tables e below (T15.setTop (mkF m 23 #[.val (.ref a), .val (.ref co), .val (.ref me)] [(.int (own_only cs))])) _
    refine XS.ifYes X15.here hx rfl (pc0 := 23) (pc' := 43) rfl (Jvm.hb hby d_prog_61_method_1_23) rfl ((if0 _ _).trans (feq (fun q => absurd (hon.symm.trans q) (by decide))).2) (by decide) (by decide) ?_
    show Steps p.tables e below (T15.setTop (mkF m 43 #[.val (.ref a), .val (.ref co), .val (.ref me)] [])) _
    refine XS.aloadN X15.here hx rfl (Jvm.hb hby d_prog_61_method_1_43) rfl rfl ?_
    refine XS.aloadN X15.here hx rfl (Jvm.hb hby d_prog_61_method_1_44) rfl rfl ?_
    refine st18 _ ?_
    show Steps p.tables e below (T18.setTop (mkF m 48 #[.val (.ref a), .val (.ref co), .val (.ref me)] [])) _
    refine XS.aloadN X18.here hx rfl (Jvm.hb hby d_prog_61_method_1_48) rfl rfl ?_
    refine XS.aloadN X18.here hx rfl (Jvm.hb hby d_prog_61_method_1_49) rfl rfl ?_
    show Steps p.tables e below (T18.setTop (mkF m 50 #[.val (.ref a), .val (.ref co), .val (.ref me)] [(.ref me), (.ref a)])) t_
    exact k_)
  obtain ⟨a20, T20, h20, k20, b20, kk20, X20, e20, E20, hS, hk, hZ, hown, Ex20, Fc20, Fv20, Av20, la20, lb20, Cp20, Li20, Sa20, st20⟩ := ldcCH X18 hx hZ hown (hw _ (List.mem_of_getElem? (i := 95) rfl)) wS e18 hS hk hEL (List.mem_of_getElem? (i := 1) rfl) CR.1 (vs := [(.int (109 : Int32)), (.int (101 : Int32)), (.int (115 : Int32)), (.int (115 : Int32)), (.int (97 : Int32)), (.int (103 : Int32)), (.int (101 : Int32))]) (z := (7 : Int32)) ⟨by decide, by decide⟩ (by decide) rfl (g := (mkF m 50 #[.val (.ref a), .val (.ref co), .val (.ref me)] [(.ref me), (.ref a)])) rfl (Jvm.hb hby d_prog_61_method_1_50) (n := 28) (by decide) (by decide) (by decide) (by decide)
  have z22 : h18.size ≤ h20.size := E20.1
  have CR := CR.trans Cp20
  have la20 : @LT.lt Nat _ a20 h20.size := la20
  have lb20 : @LT.lt Nat _ b20 h20.size := lb20
  have Zc23 : n0 ≤ h20.size := by omega
  obtain ⟨_, _, ⟨T24, L24, k24, n24⟩, -, X24, ⟨Lc24, hQ24, l24, y24, z24⟩, st24⟩ := Jvm.LawKit.callS X20 hx (y := (⟨"java/util/Objects", "requireNonNull", "(Ljava/lang/Object;Ljava/lang/String;)Ljava/lang/Object;"⟩ : MethodName)) hown (mvT hZ (hw _ (List.mem_of_getElem? (i := 47) rfl))) (mvT hZ (hw _ (List.mem_of_getElem? (i := 48) rfl))) (mvT hZ (hw _ (List.mem_of_getElem? (i := 49) rfl))) (mvT hZ (hw _ (List.mem_of_getElem? (i := 50) rfl))) (by decide) (backOf (W := 1) (rmReq l Z a0 hw [] me a20 h20 n0 Zc23) hZ (hw _ (List.mem_of_getElem? (i := 50) rfl)) (hw _ (List.mem_of_getElem? (i := 49) rfl)) (by decide) (by decide)) (g := (mkF m 52 #[.val (.ref a), .val (.ref co), .val (.ref me)] [(.ref a20), (.ref me), (.ref a)])) rfl (by rw [hml]; rfl) (argsL := [(.ref me), (.ref a20)]) (rest := [(.ref a)]) (lenOf pd__Ljava_lang_Object_Ljava_lang_String__Ljava_lang_Object_ rfl) rfl (by show 2 * 0 + _ ≤ _; exact Nat.le_of_eq rfl) (Jvm.hb hby d_prog_61_method_1_52) (fun _ _ => ⟨rfl, e20, (by decide : 4 + 0 ≤ _), (by decide : 52 + 0 ≤ _)⟩)
  dsimp only [Pt.U, Pt.locs, Pt.cells, Pt.slots] at X24 l24 y24 z24 st24 hQ24
  subst l24 y24 z24
  obtain ⟨rfl, N24q, e24⟩ := hQ24
  have N24 := Fr.app N18 N24q
  have f25 : Exa Z h20 me "java/lang/String" := (((I10.ext E2).wr W18).ext E20)
  obtain ⟨T26, X26, e26, st26⟩ := castY X24 hx hZ hown (hw _ (List.mem_of_getElem? (i := 96) rfl)) e24 (Ins.self f25) (g := (mkF m 55 #[.val (.ref a), .val (.ref co), .val (.ref me)] [(.ref me), (.ref a)])) rfl rfl (Jvm.hb hby d_prog_61_method_1_55)
  have f27 : Exa Z h20 a "com/example/zastupnik/zastupnik/protocol/ServiceError" := ((f16.wr W18).ext E20)
  have f28 : Fld Z h20 a "com/example/zastupnik/zastupnik/protocol/ServiceError" "message" "Ljava/lang/String;" .null := (((I5.ext E2).other W18 (Or.inr (slot_ne (Or.inr (hw _ (List.mem_of_getElem? (i := 98) rfl))) (Or.inr (hw _ (List.mem_of_getElem? (i := 94) rfl))) (by decide) (t := (.object "java/lang/String")) (t' := (.object "java/lang/String")) (by decide) (by decide)))).ext E20)
  obtain ⟨T29, h29, X29, e29, W29, st29⟩ := putF X26 hx hZ hown (host := "") (Or.inl (hw _ (List.mem_of_getElem? (i := 97) rfl))) Via.refl e26 f28 f27 (Or.inr ⟨(hw _ (List.mem_of_getElem? (i := 98) rfl)), rfl, hnm⟩) (hw _ (List.mem_of_getElem? (i := 5) rfl)) (ty := (.object "java/lang/String")) (by decide) rfl rfl (g := (mkF m 58 #[.val (.ref a), .val (.ref co), .val (.ref me)] [(.ref me), (.ref a)])) rfl rfl (Jvm.hb hby d_prog_61_method_1_58)
  have z30 : h20.size ≤ h29.size := Nat.le_of_eq W29.size.symm
  have Cp30 : CHr Z ELs T20.vm h20 T20.vm h29 := CHr.wr W29 (Safe.exa hZ.alike f27 (by decide) (by decide)) CR.1
  have hk := Nat.le_trans hk z30
  have CR := CR.trans Cp30
  have F29 : Fld Z h29 a "com/example/zastupnik/zastupnik/protocol/ServiceError" "message" "Ljava/lang/String;" (.ref me) := f28.same W29
  have N29 := Fr.snoc X29 N24 (show n0 ≤ a by omega)
  have s31 : ∀ t_, Steps p.tables e below (T29.setTop (mkF m 61 #[.val (.ref a), .val (.ref co), .val (.ref me)] [])) t_ → Steps p.tables e below (s₁.setTop (entryFrame m #[(.ref a), (.ref co), (.ref me)] 3)) t_ := fun t_ k_ => s21 t_ (by
    show Steps p.tables e below (T18.setTop (mkF m 50 #[.val (.ref a), .val (.ref co), .val (.ref me)] [(.ref me), (.ref a)])) t_
    refine st20 _ ?_
    show Steps p.tables e below (T20.setTop (mkF m 52 #[.val (.ref a), .val (.ref co), .val (.ref me)] [(.ref a20), (.ref me), (.ref a)])) _
    refine st24 _ ?_
    show Steps p.tables e below (T24.setTop (mkF m 55 #[.val (.ref a), .val (.ref co), .val (.ref me)] [(.ref me), (.ref a)])) _
    refine st26 _ ?_
    show Steps p.tables e below (T26.setTop (mkF m 58 #[.val (.ref a), .val (.ref co), .val (.ref me)] [(.ref me), (.ref a)])) _
    refine st29 _ ?_
    show Steps p.tables e below (T29.setTop (mkF m 61 #[.val (.ref a), .val (.ref co), .val (.ref me)] [])) _
    show Steps p.tables e below (T29.setTop (mkF m 61 #[.val (.ref a), .val (.ref co), .val (.ref me)] [])) t_
    exact k_)
  obtain ⟨fs, hr, hrun, hended, hREW⟩ := X29.leaveW hS (by first | exact Nat.le_refl _ | (rw [e29]; exact hk)) (v := none) (fun _ => rfl)
  have f32 : Exa Z h29 a "com/example/zastupnik/zastupnik/protocol/ServiceError" := (f27.wr W29)
  have f33 : Fld Z h29 a "com/example/zastupnik/zastupnik/protocol/ServiceError" "code" "Ljava/lang/String;" (.ref co) := ((F18.ext E20).other W29 (Or.inr (slot_ne (Or.inr (hw _ (List.mem_of_getElem? (i := 94) rfl))) (Or.inr (hw _ (List.mem_of_getElem? (i := 98) rfl))) (by decide) (t := (.object "java/lang/String")) (t' := (.object "java/lang/String")) (by decide) (by decide))))
  refine ⟨_, _, s31 _ ?_, hrun, hended, _, _, rfl, ?_, (by show CHr Z ELs s.vm s.heap T29.vm T29.heap; rw [hh, e29]; exact CR.trans (CHv.at X29 hZ hEL CR.1)), hREW.1, hREW.2.1, hREW.2.2.1, hREW.2.2.2.mono (by decide) (by decide)⟩
  · show Steps p.tables e below (T29.setTop (mkF m 61 #[.val (.ref a), .val (.ref co), .val (.ref me)] [])) _
    exact X29.returnOut hx Bd.returns (Jvm.hb hby d_prog_61_method_1_61) hr
  · show Q_rmSEi Z _ _ _ _ _ _ _ _ h0 n0 _ T29.heap _
    rw [e29]
    exact ⟨rfl, N29, (((((Keep.refl h0 [a]).ext E2).wr W18 (Or.inl (by simp))).ext E20).wr W29 (Or.inl (by simp))), f32, f33, F29⟩
theorem d_prog_61_method_6_0 : decode prog_61_method_6_code 0 = .ok (.aload_n 1, 1) := by decide +kernel
theorem d_prog_61_method_6_1 : decode prog_61_method_6_code 1 = .ok (.instanceof 21, 3) := by decide +kernel
theorem d_prog_61_method_6_4 : decode prog_61_method_6_code 4 = .ok (.ifCond .eq 40, 3) := by decide +kernel
theorem d_prog_61_method_6_7 : decode prog_61_method_6_code 7 = .ok (.aload_n 1, 1) := by decide +kernel
theorem d_prog_61_method_6_8 : decode prog_61_method_6_code 8 = .ok (.checkcast 21, 3) := by decide +kernel
theorem d_prog_61_method_6_11 : decode prog_61_method_6_code 11 = .ok (.astore_n 2, 1) := by decide +kernel
theorem d_prog_61_method_6_12 : decode prog_61_method_6_code 12 = .ok (.aload_n 0, 1) := by decide +kernel
theorem d_prog_61_method_6_13 : decode prog_61_method_6_code 13 = .ok (.getfield 43, 3) := by decide +kernel
theorem d_prog_61_method_6_16 : decode prog_61_method_6_code 16 = .ok (.aload_n 2, 1) := by decide +kernel
theorem d_prog_61_method_6_17 : decode prog_61_method_6_code 17 = .ok (.getfield 43, 3) := by decide +kernel
theorem pd__Ljava_lang_Object__Z : parseMethodDescriptor "(Ljava/lang/Object;)Z" = some ⟨[(.object "java/lang/Object")], some .boolean⟩ := by decide +kernel
theorem d_prog_61_method_6_20 : decode prog_61_method_6_code 20 = .ok (.invokevirtual 107, 3) := by decide +kernel
theorem d_prog_61_method_6_23 : decode prog_61_method_6_code 23 = .ok (.ifCond .eq 21, 3) := by decide +kernel
theorem d_prog_61_method_6_26 : decode prog_61_method_6_code 26 = .ok (.aload_n 0, 1) := by decide +kernel
theorem d_prog_61_method_6_27 : decode prog_61_method_6_code 27 = .ok (.getfield 48, 3) := by decide +kernel
theorem d_prog_61_method_6_30 : decode prog_61_method_6_code 30 = .ok (.aload_n 2, 1) := by decide +kernel
theorem d_prog_61_method_6_31 : decode prog_61_method_6_code 31 = .ok (.getfield 48, 3) := by decide +kernel
theorem d_prog_61_method_6_34 : decode prog_61_method_6_code 34 = .ok (.invokevirtual 107, 3) := by decide +kernel
theorem d_prog_61_method_6_37 : decode prog_61_method_6_code 37 = .ok (.ifCond .eq 7, 3) := by decide +kernel
theorem d_prog_61_method_6_40 : decode prog_61_method_6_code 40 = .ok (.iconst 1, 1) := by decide +kernel
theorem d_prog_61_method_6_41 : decode prog_61_method_6_code 41 = .ok (.goto 4, 3) := by decide +kernel
theorem d_prog_61_method_6_45 : decode prog_61_method_6_code 45 = .ok (.ireturn, 1) := by decide +kernel
theorem d_prog_61_method_6_44 : decode prog_61_method_6_code 44 = .ok (.iconst 0, 1) := by decide +kernel
theorem ef_rmEqO (m : MethodId) (x0 : Addr) (x1 : Addr) : entryFrame m #[(.ref x0), (.ref x1)] 3 = mkF m 0 #[.val (.ref x0), .val (.ref x1), .unset] [] := by first | (simp [entryFrame, mkF, argsToLocals, Value.category]; done) | rfl
def Q_rmEqO (Z : State) (p_ : Addr) (q_ : Addr) (cst : Int32) (ax : Addr) (bx : Addr) (kx : ClassId) (cs : List Int32) (ay : Addr) (by_ : Addr) (ky : ClassId) (ds : List Int32) (au : Addr) (bu : Addr) (ku : ClassId) (us : List Int32) (av : Addr) (bv : Addr) (kv : ClassId) (vs : List Int32) (h0 : Heap) (n0 : Nat) (v : Option Value) (h : Heap) (L : List Loc) : Prop := (v = some (.int (if cs = ds then (if us = vs then (1 : Int32) else (0 : Int32)) else (0 : Int32)))) ∧ (Fr n0 L) ∧ (h = h0)
set_option maxRecDepth 65536 in
set_option maxHeartbeats 40000000 in
theorem rmEqO (l : Launch) (Z : State) (a0 : Array Value) (hw : ∀ d ∈ tables_1, d.before a0 Z = true) (ws : List Jvm.Cond) (p_ : Addr) (q_ : Addr) (cst : Int32) (ax : Addr) (bx : Addr) (kx : ClassId) (cs : List Int32) (ay : Addr) (by_ : Addr) (ky : ClassId) (ds : List Int32) (au : Addr) (bu : Addr) (ku : ClassId) (us : List Int32) (av : Addr) (bv : Addr) (kv : ClassId) (vs : List Int32) (h0 : Heap) (n0 : Nat) (Z0 : n0 ≤ h0.size) (I1 : Sta Z Z.heap "java/lang/String" "COMPACT_STRINGS" "Z" (.int cst)) (OX : Old Z n0 h0) (hcst : ¬ (cst = (0 : Int32))) (I2 : Exa Z h0 p_ "com/example/zastupnik/zastupnik/protocol/ServiceError") (I3 : Fld Z h0 p_ "com/example/zastupnik/zastupnik/protocol/ServiceError" "code" "Ljava/lang/String;" (.ref ax)) (I4 : Fld Z h0 p_ "com/example/zastupnik/zastupnik/protocol/ServiceError" "message" "Ljava/lang/String;" (.ref au)) (I5 : Exa Z h0 q_ "com/example/zastupnik/zastupnik/protocol/ServiceError") (I6 : Fld Z h0 q_ "com/example/zastupnik/zastupnik/protocol/ServiceError" "code" "Ljava/lang/String;" (.ref ay)) (I7 : Fld Z h0 q_ "com/example/zastupnik/zastupnik/protocol/ServiceError" "message" "Ljava/lang/String;" (.ref av)) (I8 : Exa Z h0 ax "java/lang/String") (I9 : Fld Z h0 ax "java/lang/String" "value" "[B" (.ref bx)) (I10 : Fld Z h0 ax "java/lang/String" "coder" "B" (.int (own_cod cs))) (I11 : Arv Z h0 bx kx .byte (Int32.ofNat (own_enl cs)) (own_enc cs) (.int (0 : Int32))) (I12 : Exa Z h0 ay "java/lang/String") (I13 : Fld Z h0 ay "java/lang/String" "value" "[B" (.ref by_)) (I14 : Fld Z h0 ay "java/lang/String" "coder" "B" (.int (own_cod ds))) (I15 : Arv Z h0 by_ ky .byte (Int32.ofNat (own_enl ds)) (own_enc ds) (.int (0 : Int32))) (I16 : Exa Z h0 au "java/lang/String") (I17 : Fld Z h0 au "java/lang/String" "value" "[B" (.ref bu)) (I18 : Fld Z h0 au "java/lang/String" "coder" "B" (.int (own_cod us))) (I19 : Arv Z h0 bu ku .byte (Int32.ofNat (own_enl us)) (own_enc us) (.int (0 : Int32))) (I20 : Exa Z h0 av "java/lang/String") (I21 : Fld Z h0 av "java/lang/String" "value" "[B" (.ref bv)) (I22 : Fld Z h0 av "java/lang/String" "coder" "B" (.int (own_cod vs))) (I23 : Arv Z h0 bv kv .byte (Int32.ofNat (own_enl vs)) (own_enc vs) (.int (0 : Int32))) (hne : ¬ (ax = ay)) (hnu : ¬ (au = av)) (hchcs : own_chs cs) (hchds : own_chs ds) (hchus : own_chs us) (hchvs : own_chs vs) (hbcs : cs.length ≤ 3) (hbds : ds.length ≤ 3) (hbus : us.length ≤ 3) (hbvs : vs.length ≤ 3) :
    MetFree l (⟨"com/example/zastupnik/zastupnik/protocol/ServiceError", "equals", "(Ljava/lang/Object;)Z"⟩ : MethodName) (head1 (Jvm.Cond.code (⟨"com/example/zastupnik/zastupnik/protocol/ServiceError", "equals", "(Ljava/lang/Object;)Z"⟩ : MethodName) prog_61_method_6_code 3 (some .boolean) :: ws) ({ frames := 2, cells := 0, slots := 0, locals := 28 } : Room)) (fun ar_ U => ar_ = #[(.ref p_), (.ref q_)] ∧ Z.Warmed39 U.vm ∧ U.heap = h0) (fun _ _ _ _ _ => True) (fun _ U o U' => ∃ v L, o = .returned v ∧ Q_rmEqO Z p_ q_ cst ax bx kx cs ay by_ ky ds au bu ku us av bv kv vs h0 n0 v U'.heap L ∧ FrameEnd U o U' L ({ frames := 2, cells := 0, slots := 0, locals := 28 } : Room).cells ({ frames := 2, cells := 0, slots := 0, locals := 28 } : Room).slots) := by
  refine MetFree.of_bodySF (plainFor_of_name pn_com_example_zastupnik_zastupnik_protocol_ServiceError) hisR ?_
  intro p e s m args below meth c s₁ Bd hml0 hP hK
  obtain ⟨rfl, hZ, hh⟩ := hP
  have hx := Bd.exec
  have hby := Bd.bytes
  have hml : c.maxLocals = 3 := hml0
  have hown : s.vm.findClass "com/example/zastupnik/zastupnik/protocol/ServiceError" = some m.cls := findClass_of_methodNamed Bd.named
  have hnm := (name_of_methodNamed Bd.named Bd.method).1
  have X0 : Stand p l e ({ frames := 2, cells := 0, slots := 0, locals := 28 } : Room) s m #[(.ref p_), (.ref q_)] below meth c s₁ [] 0 0 := Stand.of_body Bd
  have e0 : s₁.heap = h0 := by rw [← hh, Bd.state]; rfl
  have N0 := Fr.nil n0
  have pre0 : ∀ t_, Steps p.tables e below (s₁.setTop (mkF m 0 #[.val (.ref p_), .val (.ref q_), .unset] [])) t_ → Steps p.tables e below (s₁.setTop (entryFrame m #[(.ref p_), (.ref q_)] 3)) t_ := fun t_ k_ => castTop (ef_rmEqO m p_ q_) k_
  have lt_I2 : @LT.lt Nat _ p_ h0.size := I2.lt
  have lt_I3 : @LT.lt Nat _ p_ h0.size := I3.lt
  have lt_I4 : @LT.lt Nat _ p_ h0.size := I4.lt
  have lt_I5 : @LT.lt Nat _ q_ h0.size := I5.lt
  have lt_I6 : @LT.lt Nat _ q_ h0.size := I6.lt
  have lt_I7 : @LT.lt Nat _ q_ h0.size := I7.lt
  have lt_I8 : @LT.lt Nat _ ax h0.size := I8.lt
  have lt_I9 : @LT.lt Nat _ ax h0.size := I9.lt
  have lt_I10 : @LT.lt Nat _ ax h0.size := I10.lt
  have lt_I11 : @LT.lt Nat _ bx h0.size := I11.lt
  have lt_I12 : @LT.lt Nat _ ay h0.size := I12.lt
  have lt_I13 : @LT.lt Nat _ ay h0.size := I13.lt
  have lt_I14 : @LT.lt Nat _ ay h0.size := I14.lt
  have lt_I15 : @LT.lt Nat _ by_ h0.size := I15.lt
  have lt_I16 : @LT.lt Nat _ au h0.size := I16.lt
  have lt_I17 : @LT.lt Nat _ au h0.size := I17.lt
  have lt_I18 : @LT.lt Nat _ au h0.size := I18.lt
  have lt_I19 : @LT.lt Nat _ bu h0.size := I19.lt
  have lt_I20 : @LT.lt Nat _ av h0.size := I20.lt
  have lt_I21 : @LT.lt Nat _ av h0.size := I21.lt
  have lt_I22 : @LT.lt Nat _ av h0.size := I22.lt
  have lt_I23 : @LT.lt Nat _ bv h0.size := I23.lt
  obtain ⟨T1, X1, e1, st1⟩ := instY X0 hx hZ hown (hw _ (List.mem_of_getElem? (i := 107) rfl)) e0 (Ins.self I5) (g := (mkF m 1 #[.val (.ref p_), .val (.ref q_), .unset] [(.ref q_)])) rfl rfl (Jvm.hb hby d_prog_61_method_6_1)
  obtain ⟨T2, X2, e2, st2⟩ := castY X1 hx hZ hown (hw _ (List.mem_of_getElem? (i := 107) rfl)) e1 (Ins.self I5) (g := (mkF m 8 #[.val (.ref p_), .val (.ref q_), .unset] [(.ref q_)])) rfl rfl (Jvm.hb hby d_prog_61_method_6_8)
  obtain ⟨T3, X3, e3, st3⟩ := getF X2 hx hZ hown (host := "") (Or.inl (hw _ (List.mem_of_getElem? (i := 93) rfl))) Via.refl e2 I3 (g := (mkF m 13 #[.val (.ref p_), .val (.ref q_), .val (.ref q_)] [(.ref p_)])) rfl rfl (Jvm.hb hby d_prog_61_method_6_13)
  obtain ⟨T4, X4, e4, st4⟩ := getF X3 hx hZ hown (host := "") (Or.inl (hw _ (List.mem_of_getElem? (i := 93) rfl))) Via.refl e3 I6 (g := (mkF m 17 #[.val (.ref p_), .val (.ref q_), .val (.ref q_)] [(.ref q_), (.ref ax)])) rfl rfl (Jvm.hb hby d_prog_61_method_6_17)
  have Zc5 : n0 ≤ h0.size := by omega
  obtain ⟨cq6, kq6, q6a, q6b, q6c⟩ := isOf hZ e4 I8
  obtain ⟨_, _, ⟨T6, L6, k6, n6⟩, -, X6, ⟨Lc6, hQ6, l6, y6, z6⟩, st6⟩ := X4.virtualBack hx (y := (⟨"java/lang/String", "equals", "(Ljava/lang/Object;)Z"⟩ : MethodName)) (z := (⟨"java/lang/String", "equals", "(Ljava/lang/Object;)Z"⟩ : MethodName)) hown (mvT hZ (hw _ (List.mem_of_getElem? (i := 109) rfl))) (mvT hZ (hw _ (List.mem_of_getElem? (i := 110) rfl))) (notFace_of_selects (args := #[]) (mvT hZ (hw _ (List.mem_of_getElem? (i := 112) rfl)))) (mvT hZ (hw _ (List.mem_of_getElem? (i := 112) rfl))) (mvT hZ (hw _ (List.mem_of_getElem? (i := 111) rfl))) (by decide) (backOf (W := 0) (rmSEq l Z a0 hw [] ax ay cst bx kx cs by_ ky ds h0 n0 Zc5 I1 OX (hcst : ¬ (cst = (0 : Int32))) I8 I9 I10 I11 I12 I13 I14 I15 (hne : ¬ (ax = ay)) hchcs hchds hbcs hbds) hZ (hw _ (List.mem_of_getElem? (i := 113) rfl)) (hw _ (List.mem_of_getElem? (i := 12) rfl)) (by decide) (by decide)) q6a q6c (g := (mkF m 20 #[.val (.ref p_), .val (.ref q_), .val (.ref q_)] [(.ref ay), (.ref ax)])) rfl (by rw [hml]; rfl) (Steps.refl _) (argsL := [(.ref ay)]) (rest := []) (lenOf pd__Ljava_lang_Object__Z rfl) rfl (by show 2 * 0 + _ ≤ _; exact Nat.le_of_eq rfl) (Jvm.hb hby d_prog_61_method_6_20) (fun _ _ => ⟨rfl, e4, (by decide : 0 + 0 ≤ _), (by decide : 0 + 0 ≤ _)⟩)
  dsimp only [Pt.U, Pt.locs, Pt.cells, Pt.slots] at X6 l6 y6 z6 st6 hQ6
  subst l6 y6 z6
  obtain ⟨rfl, N6q, e6⟩ := hQ6
  have N6 := Fr.app N0 N6q
  have s7 : ∀ t_, Steps p.tables e below (T6.setTop (mkF m 23 #[.val (.ref p_), .val (.ref q_), .val (.ref q_)] [(.int (if cs = ds then (1 : Int32) else (0 : Int32)))])) t_ → Steps p.tables e below (s₁.setTop (entryFrame m #[(.ref p_), (.ref q_)] 3)) t_ := fun t_ k_ => pre0 t_ (by
    show Steps p.tables e below (s₁.setTop (mkF m 0 #[.val (.ref p_), .val (.ref q_), .unset] [])) t_
    refine XS.aloadN X0.here hx rfl (Jvm.hb hby d_prog_61_method_6_0) rfl rfl ?_
    refine st1 _ ?_
    show Steps p.tables e below (T1.setTop (mkF m 4 #[.val (.ref p_), .val (.ref q_), .unset] [(.int (1 : Int32))])) _
    refine XS.ifNo X1.here hx rfl (Jvm.hb hby d_prog_61_method_6_4) rfl ((if0 _ _).trans (feq (by decide : ¬ ((1 : Int32) = (0 : Int32)))).1) ?_
    show Steps p.tables e below (T1.setTop (mkF m 7 #[.val (.ref p_), .val (.ref q_), .unset] [])) _
    refine XS.aloadN X1.here hx rfl (Jvm.hb hby d_prog_61_method_6_7) rfl rfl ?_
    refine st2 _ ?_
    show Steps p.tables e below (T2.setTop (mkF m 11 #[.val (.ref p_), .val (.ref q_), .unset] [(.ref q_)])) _
    refine XS.astoreN X2.here hx rfl (Jvm.hb hby d_prog_61_method_6_11) rfl rfl (l' := #[.val (.ref p_), .val (.ref q_), .val (.ref q_)]) rfl ?_
    refine XS.aloadN X2.here hx rfl (Jvm.hb hby d_prog_61_method_6_12) rfl rfl ?_
    refine st3 _ ?_
    show Steps p.tables e below (T3.setTop (mkF m 16 #[.val (.ref p_), .val (.ref q_), .val (.ref q_)] [(.ref ax)])) _
    refine XS.aloadN X3.here hx rfl (Jvm.hb hby d_prog_61_method_6_16) rfl rfl ?_
    refine st4 _ ?_
    show Steps p.tables e below (T4.setTop (mkF m 20 #[.val (.ref p_), .val (.ref q_), .val (.ref q_)] [(.ref ay), (.ref ax)])) _
    refine st6.trans ?_
    show Steps p.tables e below (T6.setTop (mkF m 23 #[.val (.ref p_), .val (.ref q_), .val (.ref q_)] [(.int (if cs = ds then (1 : Int32) else (0 : Int32)))])) _
    show Steps p.tables e below (T6.setTop (mkF m 23 #[.val (.ref p_), .val (.ref q_), .val (.ref q_)] [(.int (if cs = ds then (1 : Int32) else (0 : Int32)))])) t_
    exact k_)
  by_cases h8 : cs = ds
  · have s9 : ∀ t_, Steps p.tables e below (T6.setTop (mkF m 23 #[.val (.ref p_), .val (.ref q_), .val (.ref q_)] [(.int (1 : Int32))])) t_ → Steps p.tables e below (s₁.setTop (entryFrame m #[(.ref p_), (.ref q_)] 3)) t_ := fun t_ k_ => s7 t_ (castTop (by simp only [if_pos h8]) k_)
    obtain ⟨T10, X10, e10, st10⟩ := getF X6 hx hZ hown (host := "") (Or.inl (hw _ (List.mem_of_getElem? (i := 97) rfl))) Via.refl e6 I4 (g := (mkF m 27 #[.val (.ref p_), .val (.ref q_), .val (.ref q_)] [(.ref p_)])) rfl rfl (Jvm.hb hby d_prog_61_method_6_27)
    obtain ⟨T11, X11, e11, st11⟩ := getF X10 hx hZ hown (host := "") (Or.inl (hw _ (List.mem_of_getElem? (i := 97) rfl))) Via.refl e10 I7 (g := (mkF m 31 #[.val (.ref p_), .val (.ref q_), .val (.ref q_)] [(.ref q_), (.ref au)])) rfl rfl (Jvm.hb hby d_prog_61_method_6_31)
    have Zc12 : n0 ≤ h0.size := by omega
    obtain ⟨cq13, kq13, q13a, q13b, q13c⟩ := isOf hZ e11 I16
    obtain ⟨_, _, ⟨T13, L13, k13, n13⟩, -, X13, ⟨Lc13, hQ13, l13, y13, z13⟩, st13⟩ := X11.virtualBack hx (y := (⟨"java/lang/String", "equals", "(Ljava/lang/Object;)Z"⟩ : MethodName)) (z := (⟨"java/lang/String", "equals", "(Ljava/lang/Object;)Z"⟩ : MethodName)) hown (mvT hZ (hw _ (List.mem_of_getElem? (i := 109) rfl))) (mvT hZ (hw _ (List.mem_of_getElem? (i := 110) rfl))) (notFace_of_selects (args := #[]) (mvT hZ (hw _ (List.mem_of_getElem? (i := 112) rfl)))) (mvT hZ (hw _ (List.mem_of_getElem? (i := 112) rfl))) (mvT hZ (hw _ (List.mem_of_getElem? (i := 111) rfl))) (by decide) (backOf (W := 0) (rmSEq l Z a0 hw [] au av cst bu ku us bv kv vs h0 n0 Zc12 I1 OX (hcst : ¬ (cst = (0 : Int32))) I16 I17 I18 I19 I20 I21 I22 I23 hnu hchus hchvs hbus hbvs) hZ (hw _ (List.mem_of_getElem? (i := 113) rfl)) (hw _ (List.mem_of_getElem? (i := 12) rfl)) (by decide) (by decide)) q13a q13c (g := (mkF m 34 #[.val (.ref p_), .val (.ref q_), .val (.ref q_)] [(.ref av), (.ref au)])) rfl (by rw [hml]; rfl) (Steps.refl _) (argsL := [(.ref av)]) (rest := []) (lenOf pd__Ljava_lang_Object__Z rfl) rfl (by show 2 * 0 + _ ≤ _; exact Nat.le_of_eq rfl) (Jvm.hb hby d_prog_61_method_6_34) (fun _ _ => ⟨rfl, e11, (by decide : 0 + 0 ≤ _), (by decide : 0 + 0 ≤ _)⟩)
    dsimp only [Pt.U, Pt.locs, Pt.cells, Pt.slots] at X13 l13 y13 z13 st13 hQ13
    subst l13 y13 z13
    obtain ⟨rfl, N13q, e13⟩ := hQ13
    have N13 := Fr.app N6 N13q
    have s14 : ∀ t_, Steps p.tables e below (T13.setTop (mkF m 37 #[.val (.ref p_), .val (.ref q_), .val (.ref q_)] [(.int (if us = vs then (1 : Int32) else (0 : Int32)))])) t_ → Steps p.tables e below (s₁.setTop (entryFrame m #[(.ref p_), (.ref q_)] 3)) t_ := fun t_ k_ => s9 t_ (by
      show Steps p.tables e below (T6.setTop (mkF m 23 #[.val (.ref p_), .val (.ref q_), .val (.ref q_)] [(.int (1 : Int32))])) t_
      refine XS.ifNo X6.here hx rfl (Jvm.hb hby d_prog_61_method_6_23) rfl ((if0 _ _).trans (feq (by decide : ¬ ((1 : Int32) = (0 : Int32)))).1) ?_
      show Steps p.tables e below (T6.setTop (mkF m 26 #[.val (.ref p_), .val (.ref q_), .val (.ref q_)] [])) _
      refine XS.aloadN X6.here hx rfl (Jvm.hb hby d_prog_61_method_6_26) rfl rfl ?_
      refine st10 _ ?_
      show Steps p.tables e below (T10.setTop (mkF m 30 #[.val (.ref p_), .val (.ref q_), .val (.ref q_)] [(.ref au)])) _
      refine XS.aloadN X10.here hx rfl (Jvm.hb hby d_prog_61_method_6_30) rfl rfl ?_
      refine st11 _ ?_
      show Steps p.tables e below (T11.setTop (mkF m 34 #[.val (.ref p_), .val (.ref q_), .val (.ref q_)] [(.ref av), (.ref au)])) _
      refine st13.trans ?_
      show Steps p.tables e below (T13.setTop (mkF m 37 #[.val (.ref p_), .val (.ref q_), .val (.ref q_)] [(.int (if us = vs then (1 : Int32) else (0 : Int32)))])) _
      show Steps p.tables e below (T13.setTop (mkF m 37 #[.val (.ref p_), .val (.ref q_), .val (.ref q_)] [(.int (if us = vs then (1 : Int32) else (0 : Int32)))])) t_
      exact k_)
    by_cases h15 : us = vs
    · have s16 : ∀ t_, Steps p.tables e below (T13.setTop (mkF m 37 #[.val (.ref p_), .val (.ref q_), .val (.ref q_)] [(.int (1 : Int32))])) t_ → Steps p.tables e below (s₁.setTop (entryFrame m #[(.ref p_), (.ref q_)] 3)) t_ := fun t_ k_ => s14 t_ (castTop (by simp only [if_pos h15]) k_)
      have s17 : ∀ t_, Steps p.tables e below (T13.setTop (mkF m 45 #[.val (.ref p_), .val (.ref q_), .val (.ref q_)] [(.int (1 : Int32))])) t_ → Steps p.tables e below (s₁.setTop (entryFrame m #[(.ref p_), (.ref q_)] 3)) t_ := fun t_ k_ => s16 t_ (by
        show Steps p.tables e below (T13.setTop (mkF m 37 #[.val (.ref p_), .val (.ref q_), .val (.ref q_)] [(.int (1 : Int32))])) t_
        refine XS.ifNo X13.here hx rfl (Jvm.hb hby d_prog_61_method_6_37) rfl ((if0 _ _).trans (feq (by decide : ¬ ((1 : Int32) = (0 : Int32)))).1) ?_
        show Steps p.tables e below (T13.setTop (mkF m 40 #[.val (.ref p_), .val (.ref q_), .val (.ref q_)] [])) _
        refine XS.iconst X13.here hx rfl (Jvm.hb hby d_prog_61_method_6_40) ?_
        refine XS.goto X13.here hx rfl (pc0 := 41) (pc' := 45) rfl (Jvm.hb hby d_prog_61_method_6_41) (by decide) (by decide) ?_
        show Steps p.tables e below (T13.setTop (mkF m 45 #[.val (.ref p_), .val (.ref q_), .val (.ref q_)] [(.int (1 : Int32))])) t_
        exact k_)
      obtain ⟨fs, hr, hrun, hended, hW, hsame⟩ := X13.leave (v := some (.int (1 : Int32))) (fun h => by rw [Bd.returns] at h; cases h)
      refine ⟨_, _, s17 _ ?_, hrun, hended, _, _, rfl, ?_, ⟨_, rfl⟩, hW, hsame.mono (by decide) (by decide)⟩
      · show Steps p.tables e below (T13.setTop (mkF m 45 #[.val (.ref p_), .val (.ref q_), .val (.ref q_)] [(.int (1 : Int32))])) _
        exact retN X13 hx (t := .boolean) Bd.returns (by simp) (Jvm.hb hby d_prog_61_method_6_45) hr
      · show Q_rmEqO Z _ _ _ _ _ _ _ _ _ _ _ _ _ _ _ _ _ _ _ h0 n0 _ T13.heap _
        rw [e13]
        exact ⟨(by first | rfl | (simp only [if_pos h8, if_pos h15]; done) | (simp only [if_pos h8, if_pos h15]; rfl) | (simp only [if_pos h8, if_pos h15, own_narb]; done)), N13, rfl⟩
    · have s18 : ∀ t_, Steps p.tables e below (T13.setTop (mkF m 37 #[.val (.ref p_), .val (.ref q_), .val (.ref q_)] [(.int (0 : Int32))])) t_ → Steps p.tables e below (s₁.setTop (entryFrame m #[(.ref p_), (.ref q_)] 3)) t_ := fun t_ k_ => s14 t_ (castTop (by simp only [if_neg h15]) k_)
      have s19 : ∀ t_, Steps p.tables e below (T13.setTop (mkF m 45 #[.val (.ref p_), .val (.ref q_), .val (.ref q_)] [(.int (0 : Int32))])) t_ → Steps p.tables e below (s₁.setTop (entryFrame m #[(.ref p_), (.ref q_)] 3)) t_ := fun t_ k_ => s18 t_ (by
        show Steps p.tables e below (T13.setTop (mkF m 37 #[.val (.ref p_), .val (.ref q_), .val (.ref q_)] [(.int (0 : Int32))])) t_
        refine XS.ifYes X13.here hx rfl (pc0 := 37) (pc' := 44) rfl (Jvm.hb hby d_prog_61_method_6_37) rfl ((if0 _ _).trans (teq (rfl : (0 : Int32) = (0 : Int32))).1) (by decide) (by decide) ?_
        show Steps p.tables e below (T13.setTop (mkF m 44 #[.val (.ref p_), .val (.ref q_), .val (.ref q_)] [])) _
        refine XS.iconst X13.here hx rfl (Jvm.hb hby d_prog_61_method_6_44) ?_
        show Steps p.tables e below (T13.setTop (mkF m 45 #[.val (.ref p_), .val (.ref q_), .val (.ref q_)] [(.int (0 : Int32))])) t_
        exact k_)
      obtain ⟨fs, hr, hrun, hended, hW, hsame⟩ := X13.leave (v := some (.int (0 : Int32))) (fun h => by rw [Bd.returns] at h; cases h)
      refine ⟨_, _, s19 _ ?_, hrun, hended, _, _, rfl, ?_, ⟨_, rfl⟩, hW, hsame.mono (by decide) (by decide)⟩
      · show Steps p.tables e below (T13.setTop (mkF m 45 #[.val (.ref p_), .val (.ref q_), .val (.ref q_)] [(.int (0 : Int32))])) _
        exact retN X13 hx (t := .boolean) Bd.returns (by simp) (Jvm.hb hby d_prog_61_method_6_45) hr
      · show Q_rmEqO Z _ _ _ _ _ _ _ _ _ _ _ _ _ _ _ _ _ _ _ h0 n0 _ T13.heap _
        rw [e13]
        exact ⟨(by first | rfl | (simp only [if_pos h8, if_neg h15]; done) | (simp only [if_pos h8, if_neg h15]; rfl) | (simp only [if_pos h8, if_neg h15, own_narb]; done)), N13, rfl⟩
  · have s20 : ∀ t_, Steps p.tables e below (T6.setTop (mkF m 23 #[.val (.ref p_), .val (.ref q_), .val (.ref q_)] [(.int (0 : Int32))])) t_ → Steps p.tables e below (s₁.setTop (entryFrame m #[(.ref p_), (.ref q_)] 3)) t_ := fun t_ k_ => s7 t_ (castTop (by simp only [if_neg h8]) k_)
    have s21 : ∀ t_, Steps p.tables e below (T6.setTop (mkF m 45 #[.val (.ref p_), .val (.ref q_), .val (.ref q_)] [(.int (0 : Int32))])) t_ → Steps p.tables e below (s₁.setTop (entryFrame m #[(.ref p_), (.ref q_)] 3)) t_ := fun t_ k_ => s20 t_ (by
      show Steps p.tables e below (T6.setTop (mkF m 23 #[.val (.ref p_), .val (.ref q_), .val (.ref q_)] [(.int (0 : Int32))])) t_
      refine XS.ifYes X6.here hx rfl (pc0 := 23) (pc' := 44) rfl (Jvm.hb hby d_prog_61_method_6_23) rfl ((if0 _ _).trans (teq (rfl : (0 : Int32) = (0 : Int32))).1) (by decide) (by decide) ?_
      show Steps p.tables e below (T6.setTop (mkF m 44 #[.val (.ref p_), .val (.ref q_), .val (.ref q_)] [])) _
      refine XS.iconst X6.here hx rfl (Jvm.hb hby d_prog_61_method_6_44) ?_
      show Steps p.tables e below (T6.setTop (mkF m 45 #[.val (.ref p_), .val (.ref q_), .val (.ref q_)] [(.int (0 : Int32))])) t_
      exact k_)
    obtain ⟨fs, hr, hrun, hended, hW, hsame⟩ := X6.leave (v := some (.int (0 : Int32))) (fun h => by rw [Bd.returns] at h; cases h)
    refine ⟨_, _, s21 _ ?_, hrun, hended, _, _, rfl, ?_, ⟨_, rfl⟩, hW, hsame.mono (by decide) (by decide)⟩
    · show Steps p.tables e below (T6.setTop (mkF m 45 #[.val (.ref p_), .val (.ref q_), .val (.ref q_)] [(.int (0 : Int32))])) _
      exact retN X6 hx (t := .boolean) Bd.returns (by simp) (Jvm.hb hby d_prog_61_method_6_45) hr
    · show Q_rmEqO Z _ _ _ _ _ _ _ _ _ _ _ _ _ _ _ _ _ _ _ h0 n0 _ T6.heap _
      rw [e6]
      exact ⟨(by first | rfl | (simp only [if_neg h8]; done) | (simp only [if_neg h8]; rfl) | (simp only [if_neg h8, own_narb]; done)), N6, rfl⟩
theorem ef_rmEqS (m : MethodId) (x0 : Addr) (x1 : Addr) : entryFrame m #[(.ref x0), (.ref x1)] 3 = mkF m 0 #[.val (.ref x0), .val (.ref x1), .unset] [] := by first | (simp [entryFrame, mkF, argsToLocals, Value.category]; done) | rfl
def Q_rmEqS (Z : State) (p_ : Addr) (ax : Addr) (au : Addr) (h0 : Heap) (n0 : Nat) (v : Option Value) (h : Heap) (L : List Loc) : Prop := (v = some (.int (1 : Int32))) ∧ (Fr n0 L) ∧ (h = h0)
set_option maxRecDepth 65536 in
set_option maxHeartbeats 40000000 in
theorem rmEqS (l : Launch) (Z : State) (a0 : Array Value) (hw : ∀ d ∈ tables_1, d.before a0 Z = true) (ws : List Jvm.Cond) (p_ : Addr) (ax : Addr) (au : Addr) (h0 : Heap) (n0 : Nat) (Z0 : n0 ≤ h0.size) (I1 : Exa Z h0 p_ "com/example/zastupnik/zastupnik/protocol/ServiceError") (I2 : Fld Z h0 p_ "com/example/zastupnik/zastupnik/protocol/ServiceError" "code" "Ljava/lang/String;" (.ref ax)) (I3 : Fld Z h0 p_ "com/example/zastupnik/zastupnik/protocol/ServiceError" "message" "Ljava/lang/String;" (.ref au)) (I4 : Exa Z h0 ax "java/lang/String") (I5 : Exa Z h0 au "java/lang/String") :
    MetFree l (⟨"com/example/zastupnik/zastupnik/protocol/ServiceError", "equals", "(Ljava/lang/Object;)Z"⟩ : MethodName) (head1 (Jvm.Cond.code (⟨"com/example/zastupnik/zastupnik/protocol/ServiceError", "equals", "(Ljava/lang/Object;)Z"⟩ : MethodName) prog_61_method_6_code 3 (some .boolean) :: ws) ({ frames := 1, cells := 0, slots := 0, locals := 14 } : Room)) (fun ar_ U => ar_ = #[(.ref p_), (.ref p_)] ∧ Z.Warmed39 U.vm ∧ U.heap = h0) (fun _ _ _ _ _ => True) (fun _ U o U' => ∃ v L, o = .returned v ∧ Q_rmEqS Z p_ ax au h0 n0 v U'.heap L ∧ FrameEnd U o U' L ({ frames := 1, cells := 0, slots := 0, locals := 14 } : Room).cells ({ frames := 1, cells := 0, slots := 0, locals := 14 } : Room).slots) := by
  refine MetFree.of_bodySF (plainFor_of_name pn_com_example_zastupnik_zastupnik_protocol_ServiceError) hisR ?_
  intro p e s m args below meth c s₁ Bd hml0 hP hK
  obtain ⟨rfl, hZ, hh⟩ := hP
  have hx := Bd.exec
  have hby := Bd.bytes
  have hml : c.maxLocals = 3 := hml0
  have hown : s.vm.findClass "com/example/zastupnik/zastupnik/protocol/ServiceError" = some m.cls := findClass_of_methodNamed Bd.named
  have hnm := (name_of_methodNamed Bd.named Bd.method).1
  have X0 : Stand p l e ({ frames := 1, cells := 0, slots := 0, locals := 14 } : Room) s m #[(.ref p_), (.ref p_)] below meth c s₁ [] 0 0 := Stand.of_body Bd
  have e0 : s₁.heap = h0 := by rw [← hh, Bd.state]; rfl
  have N0 := Fr.nil n0
  have pre0 : ∀ t_, Steps p.tables e below (s₁.setTop (mkF m 0 #[.val (.ref p_), .val (.ref p_), .unset] [])) t_ → Steps p.tables e below (s₁.setTop (entryFrame m #[(.ref p_), (.ref p_)] 3)) t_ := fun t_ k_ => castTop (ef_rmEqS m p_ p_) k_
  have lt_I1 : @LT.lt Nat _ p_ h0.size := I1.lt
  have lt_I2 : @LT.lt Nat _ p_ h0.size := I2.lt
  have lt_I3 : @LT.lt Nat _ p_ h0.size := I3.lt
  have lt_I4 : @LT.lt Nat _ ax h0.size := I4.lt
  have lt_I5 : @LT.lt Nat _ au h0.size := I5.lt
  obtain ⟨T1, X1, e1, st1⟩ := instY X0 hx hZ hown (hw _ (List.mem_of_getElem? (i := 107) rfl)) e0 (Ins.self I1) (g := (mkF m 1 #[.val (.ref p_), .val (.ref p_), .unset] [(.ref p_)])) rfl rfl (Jvm.hb hby d_prog_61_method_6_1)
  obtain ⟨T2, X2, e2, st2⟩ := castY X1 hx hZ hown (hw _ (List.mem_of_getElem? (i := 107) rfl)) e1 (Ins.self I1) (g := (mkF m 8 #[.val (.ref p_), .val (.ref p_), .unset] [(.ref p_)])) rfl rfl (Jvm.hb hby d_prog_61_method_6_8)
  obtain ⟨T3, X3, e3, st3⟩ := getF X2 hx hZ hown (host := "") (Or.inl (hw _ (List.mem_of_getElem? (i := 93) rfl))) Via.refl e2 I2 (g := (mkF m 13 #[.val (.ref p_), .val (.ref p_), .val (.ref p_)] [(.ref p_)])) rfl rfl (Jvm.hb hby d_prog_61_method_6_13)
  obtain ⟨T4, X4, e4, st4⟩ := getF X3 hx hZ hown (host := "") (Or.inl (hw _ (List.mem_of_getElem? (i := 93) rfl))) Via.refl e3 I2 (g := (mkF m 17 #[.val (.ref p_), .val (.ref p_), .val (.ref p_)] [(.ref p_), (.ref ax)])) rfl rfl (Jvm.hb hby d_prog_61_method_6_17)
  have Zc5 : n0 ≤ h0.size := by omega
  obtain ⟨cq6, kq6, q6a, q6b, q6c⟩ := isOf hZ e4 I4
  obtain ⟨_, _, ⟨T6, L6, k6, n6⟩, -, X6, ⟨Lc6, hQ6, l6, y6, z6⟩, st6⟩ := X4.virtualBack hx (y := (⟨"java/lang/String", "equals", "(Ljava/lang/Object;)Z"⟩ : MethodName)) (z := (⟨"java/lang/String", "equals", "(Ljava/lang/Object;)Z"⟩ : MethodName)) hown (mvT hZ (hw _ (List.mem_of_getElem? (i := 109) rfl))) (mvT hZ (hw _ (List.mem_of_getElem? (i := 110) rfl))) (notFace_of_selects (args := #[]) (mvT hZ (hw _ (List.mem_of_getElem? (i := 112) rfl)))) (mvT hZ (hw _ (List.mem_of_getElem? (i := 112) rfl))) (mvT hZ (hw _ (List.mem_of_getElem? (i := 111) rfl))) (by decide) (backOf (W := 0) (rmSEqS l Z a0 hw [] ax h0 n0 Zc5) hZ (hw _ (List.mem_of_getElem? (i := 113) rfl)) (hw _ (List.mem_of_getElem? (i := 12) rfl)) (by decide) (by decide)) q6a q6c (g := (mkF m 20 #[.val (.ref p_), .val (.ref p_), .val (.ref p_)] [(.ref ax), (.ref ax)])) rfl (by rw [hml]; rfl) (Steps.refl _) (argsL := [(.ref ax)]) (rest := []) (lenOf pd__Ljava_lang_Object__Z rfl) rfl (by show 2 * 0 + _ ≤ _; exact Nat.le_of_eq rfl) (Jvm.hb hby d_prog_61_method_6_20) (fun _ _ => ⟨rfl, e4, (by decide : 0 + 0 ≤ _), (by decide : 0 + 0 ≤ _)⟩)
  dsimp only [Pt.U, Pt.locs, Pt.cells, Pt.slots] at X6 l6 y6 z6 st6 hQ6
  subst l6 y6 z6
  obtain ⟨rfl, N6q, e6⟩ := hQ6
  have N6 := Fr.app N0 N6q
  obtain ⟨T7, X7, e7, st7⟩ := getF X6 hx hZ hown (host := "") (Or.inl (hw _ (List.mem_of_getElem? (i := 97) rfl))) Via.refl e6 I3 (g := (mkF m 27 #[.val (.ref p_), .val (.ref p_), .val (.ref p_)] [(.ref p_)])) rfl rfl (Jvm.hb hby d_prog_61_method_6_27)
  obtain ⟨T8, X8, e8, st8⟩ := getF X7 hx hZ hown (host := "") (Or.inl (hw _ (List.mem_of_getElem? (i := 97) rfl))) Via.refl e7 I3 (g := (mkF m 31 #[.val (.ref p_), .val (.ref p_), .val (.ref p_)] [(.ref p_), (.ref au)])) rfl rfl (Jvm.hb hby d_prog_61_method_6_31)
  have Zc9 : n0 ≤ h0.size := by omega
  obtain ⟨cq10, kq10, q10a, q10b, q10c⟩ := isOf hZ e8 I5
  obtain ⟨_, _, ⟨T10, L10, k10, n10⟩, -, X10, ⟨Lc10, hQ10, l10, y10, z10⟩, st10⟩ := X8.virtualBack hx (y := (⟨"java/lang/String", "equals", "(Ljava/lang/Object;)Z"⟩ : MethodName)) (z := (⟨"java/lang/String", "equals", "(Ljava/lang/Object;)Z"⟩ : MethodName)) hown (mvT hZ (hw _ (List.mem_of_getElem? (i := 109) rfl))) (mvT hZ (hw _ (List.mem_of_getElem? (i := 110) rfl))) (notFace_of_selects (args := #[]) (mvT hZ (hw _ (List.mem_of_getElem? (i := 112) rfl)))) (mvT hZ (hw _ (List.mem_of_getElem? (i := 112) rfl))) (mvT hZ (hw _ (List.mem_of_getElem? (i := 111) rfl))) (by decide) (backOf (W := 0) (rmSEqS l Z a0 hw [] au h0 n0 Zc9) hZ (hw _ (List.mem_of_getElem? (i := 113) rfl)) (hw _ (List.mem_of_getElem? (i := 12) rfl)) (by decide) (by decide)) q10a q10c (g := (mkF m 34 #[.val (.ref p_), .val (.ref p_), .val (.ref p_)] [(.ref au), (.ref au)])) rfl (by rw [hml]; rfl) (Steps.refl _) (argsL := [(.ref au)]) (rest := []) (lenOf pd__Ljava_lang_Object__Z rfl) rfl (by show 2 * 0 + _ ≤ _; exact Nat.le_of_eq rfl) (Jvm.hb hby d_prog_61_method_6_34) (fun _ _ => ⟨rfl, e8, (by decide : 0 + 0 ≤ _), (by decide : 0 + 0 ≤ _)⟩)
  dsimp only [Pt.U, Pt.locs, Pt.cells, Pt.slots] at X10 l10 y10 z10 st10 hQ10
  subst l10 y10 z10
  obtain ⟨rfl, N10q, e10⟩ := hQ10
  have N10 := Fr.app N6 N10q
  have s11 : ∀ t_, Steps p.tables e below (T10.setTop (mkF m 45 #[.val (.ref p_), .val (.ref p_), .val (.ref p_)] [(.int (1 : Int32))])) t_ → Steps p.tables e below (s₁.setTop (entryFrame m #[(.ref p_), (.ref p_)] 3)) t_ := fun t_ k_ => pre0 t_ (by
    show Steps p.tables e below (s₁.setTop (mkF m 0 #[.val (.ref p_), .val (.ref p_), .unset] [])) t_
    refine XS.aloadN X0.here hx rfl (Jvm.hb hby d_prog_61_method_6_0) rfl rfl ?_
    refine st1 _ ?_
    show Steps p.tables e below (T1.setTop (mkF m 4 #[.val (.ref p_), .val (.ref p_), .unset] [(.int (1 : Int32))])) _
    refine XS.ifNo X1.here hx rfl (Jvm.hb hby d_prog_61_method_6_4) rfl ((if0 _ _).trans (feq (by decide : ¬ ((1 : Int32) = (0 : Int32)))).1) ?_
    show Steps p.tables e below (T1.setTop (mkF m 7 #[.val (.ref p_), .val (.ref p_), .unset] [])) _
    refine XS.aloadN X1.here hx rfl (Jvm.hb hby d_prog_61_method_6_7) rfl rfl ?_
    refine st2 _ ?_
    show Steps p.tables e below (T2.setTop (mkF m 11 #[.val (.ref p_), .val (.ref p_), .unset] [(.ref p_)])) _
    refine XS.astoreN X2.here hx rfl (Jvm.hb hby d_prog_61_method_6_11) rfl rfl (l' := #[.val (.ref p_), .val (.ref p_), .val (.ref p_)]) rfl ?_
    refine XS.aloadN X2.here hx rfl (Jvm.hb hby d_prog_61_method_6_12) rfl rfl ?_
    refine st3 _ ?_
    show Steps p.tables e below (T3.setTop (mkF m 16 #[.val (.ref p_), .val (.ref p_), .val (.ref p_)] [(.ref ax)])) _
    refine XS.aloadN X3.here hx rfl (Jvm.hb hby d_prog_61_method_6_16) rfl rfl ?_
    refine st4 _ ?_
    show Steps p.tables e below (T4.setTop (mkF m 20 #[.val (.ref p_), .val (.ref p_), .val (.ref p_)] [(.ref ax), (.ref ax)])) _
    refine st6.trans ?_
    show Steps p.tables e below (T6.setTop (mkF m 23 #[.val (.ref p_), .val (.ref p_), .val (.ref p_)] [(.int (1 : Int32))])) _
    refine XS.ifNo X6.here hx rfl (Jvm.hb hby d_prog_61_method_6_23) rfl ((if0 _ _).trans (feq (by decide : ¬ ((1 : Int32) = (0 : Int32)))).1) ?_
    show Steps p.tables e below (T6.setTop (mkF m 26 #[.val (.ref p_), .val (.ref p_), .val (.ref p_)] [])) _
    refine XS.aloadN X6.here hx rfl (Jvm.hb hby d_prog_61_method_6_26) rfl rfl ?_
    refine st7 _ ?_
    show Steps p.tables e below (T7.setTop (mkF m 30 #[.val (.ref p_), .val (.ref p_), .val (.ref p_)] [(.ref au)])) _
    refine XS.aloadN X7.here hx rfl (Jvm.hb hby d_prog_61_method_6_30) rfl rfl ?_
    refine st8 _ ?_
    show Steps p.tables e below (T8.setTop (mkF m 34 #[.val (.ref p_), .val (.ref p_), .val (.ref p_)] [(.ref au), (.ref au)])) _
    refine st10.trans ?_
    show Steps p.tables e below (T10.setTop (mkF m 37 #[.val (.ref p_), .val (.ref p_), .val (.ref p_)] [(.int (1 : Int32))])) _
    refine XS.ifNo X10.here hx rfl (Jvm.hb hby d_prog_61_method_6_37) rfl ((if0 _ _).trans (feq (by decide : ¬ ((1 : Int32) = (0 : Int32)))).1) ?_
    show Steps p.tables e below (T10.setTop (mkF m 40 #[.val (.ref p_), .val (.ref p_), .val (.ref p_)] [])) _
    refine XS.iconst X10.here hx rfl (Jvm.hb hby d_prog_61_method_6_40) ?_
    refine XS.goto X10.here hx rfl (pc0 := 41) (pc' := 45) rfl (Jvm.hb hby d_prog_61_method_6_41) (by decide) (by decide) ?_
    show Steps p.tables e below (T10.setTop (mkF m 45 #[.val (.ref p_), .val (.ref p_), .val (.ref p_)] [(.int (1 : Int32))])) t_
    exact k_)
  obtain ⟨fs, hr, hrun, hended, hW, hsame⟩ := X10.leave (v := some (.int (1 : Int32))) (fun h => by rw [Bd.returns] at h; cases h)
  refine ⟨_, _, s11 _ ?_, hrun, hended, _, _, rfl, ?_, ⟨_, rfl⟩, hW, hsame.mono (by decide) (by decide)⟩
  · show Steps p.tables e below (T10.setTop (mkF m 45 #[.val (.ref p_), .val (.ref p_), .val (.ref p_)] [(.int (1 : Int32))])) _
    exact retN X10 hx (t := .boolean) Bd.returns (by simp) (Jvm.hb hby d_prog_61_method_6_45) hr
  · show Q_rmEqS Z _ _ _ h0 n0 _ T10.heap _
    rw [e10]
    exact ⟨rfl, N10, rfl⟩
theorem ef_rmEqN (m : MethodId) (x0 : Addr) : entryFrame m #[(.ref x0), .null] 3 = mkF m 0 #[.val (.ref x0), .val .null, .unset] [] := by first | (simp [entryFrame, mkF, argsToLocals, Value.category]; done) | rfl
def Q_rmEqN (Z : State) (p_ : Addr) (h0 : Heap) (n0 : Nat) (v : Option Value) (h : Heap) (L : List Loc) : Prop := (v = some (.int (0 : Int32))) ∧ (Fr n0 L) ∧ (h = h0)
set_option maxRecDepth 65536 in
set_option maxHeartbeats 40000000 in
theorem rmEqN (l : Launch) (Z : State) (a0 : Array Value) (hw : ∀ d ∈ tables_1, d.before a0 Z = true) (ws : List Jvm.Cond) (p_ : Addr) (h0 : Heap) (n0 : Nat) (Z0 : n0 ≤ h0.size)  :
    MetFree l (⟨"com/example/zastupnik/zastupnik/protocol/ServiceError", "equals", "(Ljava/lang/Object;)Z"⟩ : MethodName) (head1 (Jvm.Cond.code (⟨"com/example/zastupnik/zastupnik/protocol/ServiceError", "equals", "(Ljava/lang/Object;)Z"⟩ : MethodName) prog_61_method_6_code 3 (some .boolean) :: ws) ({ frames := 0, cells := 0, slots := 0, locals := 0 } : Room)) (fun ar_ U => ar_ = #[(.ref p_), .null] ∧ Z.Warmed39 U.vm ∧ U.heap = h0) (fun _ _ _ _ _ => True) (fun _ U o U' => ∃ v L, o = .returned v ∧ Q_rmEqN Z p_ h0 n0 v U'.heap L ∧ FrameEnd U o U' L ({ frames := 0, cells := 0, slots := 0, locals := 0 } : Room).cells ({ frames := 0, cells := 0, slots := 0, locals := 0 } : Room).slots) := by
  refine MetFree.of_bodySF (plainFor_of_name pn_com_example_zastupnik_zastupnik_protocol_ServiceError) hisR ?_
  intro p e s m args below meth c s₁ Bd hml0 hP hK
  obtain ⟨rfl, hZ, hh⟩ := hP
  have hx := Bd.exec
  have hby := Bd.bytes
  have hml : c.maxLocals = 3 := hml0
  have hown : s.vm.findClass "com/example/zastupnik/zastupnik/protocol/ServiceError" = some m.cls := findClass_of_methodNamed Bd.named
  have hnm := (name_of_methodNamed Bd.named Bd.method).1
  have X0 : Stand p l e ({ frames := 0, cells := 0, slots := 0, locals := 0 } : Room) s m #[(.ref p_), .null] below meth c s₁ [] 0 0 := Stand.of_body Bd
  have e0 : s₁.heap = h0 := by rw [← hh, Bd.state]; rfl
  have N0 := Fr.nil n0
  have pre0 : ∀ t_, Steps p.tables e below (s₁.setTop (mkF m 0 #[.val (.ref p_), .val .null, .unset] [])) t_ → Steps p.tables e below (s₁.setTop (entryFrame m #[(.ref p_), .null] 3)) t_ := fun t_ k_ => castTop (ef_rmEqN m p_) k_
  have s1 : ∀ t_, Steps p.tables e below (s₁.setTop (mkF m 45 #[.val (.ref p_), .val .null, .unset] [(.int (0 : Int32))])) t_ → Steps p.tables e below (s₁.setTop (entryFrame m #[(.ref p_), .null] 3)) t_ := fun t_ k_ => pre0 t_ (by
    show Steps p.tables e below (s₁.setTop (mkF m 0 #[.val (.ref p_), .val .null, .unset] [])) t_
    refine XS.aloadN X0.here hx rfl (Jvm.hb hby d_prog_61_method_6_0) rfl rfl ?_
    refine X0.instanceofNull hx (g := (mkF m 1 #[.val (.ref p_), .val .null, .unset] [.null])) rfl rfl (Jvm.hb hby d_prog_61_method_6_1) _ ?_
    show Steps p.tables e below (s₁.setTop (mkF m 4 #[.val (.ref p_), .val .null, .unset] [(.int (0 : Int32))])) _
    refine XS.ifYes X0.here hx rfl (pc0 := 4) (pc' := 44) rfl (Jvm.hb hby d_prog_61_method_6_4) rfl ((if0 _ _).trans (teq (rfl : (0 : Int32) = (0 : Int32))).1) (by decide) (by decide) ?_
    show Steps p.tables e below (s₁.setTop (mkF m 44 #[.val (.ref p_), .val .null, .unset] [])) _
    refine XS.iconst X0.here hx rfl (Jvm.hb hby d_prog_61_method_6_44) ?_
    show Steps p.tables e below (s₁.setTop (mkF m 45 #[.val (.ref p_), .val .null, .unset] [(.int (0 : Int32))])) t_
    exact k_)
  obtain ⟨fs, hr, hrun, hended, hW, hsame⟩ := X0.leave (v := some (.int (0 : Int32))) (fun h => by rw [Bd.returns] at h; cases h)
  refine ⟨_, _, s1 _ ?_, hrun, hended, _, _, rfl, ?_, ⟨_, rfl⟩, hW, hsame.mono (by decide) (by decide)⟩
  · show Steps p.tables e below (s₁.setTop (mkF m 45 #[.val (.ref p_), .val .null, .unset] [(.int (0 : Int32))])) _
    exact retN X0 hx (t := .boolean) Bd.returns (by simp) (Jvm.hb hby d_prog_61_method_6_45) hr
  · show Q_rmEqN Z _ h0 n0 _ s₁.heap _
    rw [e0]
    exact ⟨rfl, N0, rfl⟩
theorem ef_rmEqX (m : MethodId) (x0 : Addr) (x1 : Addr) : entryFrame m #[(.ref x0), (.ref x1)] 3 = mkF m 0 #[.val (.ref x0), .val (.ref x1), .unset] [] := by first | (simp [entryFrame, mkF, argsToLocals, Value.category]; done) | rfl
def Q_rmEqX (Z : State) (p_ : Addr) (q_ : Addr) (h0 : Heap) (n0 : Nat) (v : Option Value) (h : Heap) (L : List Loc) : Prop := (v = some (.int (0 : Int32))) ∧ (Fr n0 L) ∧ (h = h0)
set_option maxRecDepth 65536 in
set_option maxHeartbeats 40000000 in
theorem rmEqX (l : Launch) (Z : State) (a0 : Array Value) (hw : ∀ d ∈ tables_1, d.before a0 Z = true) (ws : List Jvm.Cond) (p_ : Addr) (q_ : Addr) (h0 : Heap) (n0 : Nat) (Z0 : n0 ≤ h0.size) (I1 : Exa Z h0 q_ "java/lang/String") :
    MetFree l (⟨"com/example/zastupnik/zastupnik/protocol/ServiceError", "equals", "(Ljava/lang/Object;)Z"⟩ : MethodName) (head1 (Jvm.Cond.code (⟨"com/example/zastupnik/zastupnik/protocol/ServiceError", "equals", "(Ljava/lang/Object;)Z"⟩ : MethodName) prog_61_method_6_code 3 (some .boolean) :: ws) ({ frames := 0, cells := 0, slots := 0, locals := 0 } : Room)) (fun ar_ U => ar_ = #[(.ref p_), (.ref q_)] ∧ Z.Warmed39 U.vm ∧ U.heap = h0) (fun _ _ _ _ _ => True) (fun _ U o U' => ∃ v L, o = .returned v ∧ Q_rmEqX Z p_ q_ h0 n0 v U'.heap L ∧ FrameEnd U o U' L ({ frames := 0, cells := 0, slots := 0, locals := 0 } : Room).cells ({ frames := 0, cells := 0, slots := 0, locals := 0 } : Room).slots) := by
  refine MetFree.of_bodySF (plainFor_of_name pn_com_example_zastupnik_zastupnik_protocol_ServiceError) hisR ?_
  intro p e s m args below meth c s₁ Bd hml0 hP hK
  obtain ⟨rfl, hZ, hh⟩ := hP
  have hx := Bd.exec
  have hby := Bd.bytes
  have hml : c.maxLocals = 3 := hml0
  have hown : s.vm.findClass "com/example/zastupnik/zastupnik/protocol/ServiceError" = some m.cls := findClass_of_methodNamed Bd.named
  have hnm := (name_of_methodNamed Bd.named Bd.method).1
  have X0 : Stand p l e ({ frames := 0, cells := 0, slots := 0, locals := 0 } : Room) s m #[(.ref p_), (.ref q_)] below meth c s₁ [] 0 0 := Stand.of_body Bd
  have e0 : s₁.heap = h0 := by rw [← hh, Bd.state]; rfl
  have N0 := Fr.nil n0
  have pre0 : ∀ t_, Steps p.tables e below (s₁.setTop (mkF m 0 #[.val (.ref p_), .val (.ref q_), .unset] [])) t_ → Steps p.tables e below (s₁.setTop (entryFrame m #[(.ref p_), (.ref q_)] 3)) t_ := fun t_ k_ => castTop (ef_rmEqX m p_ q_) k_
  have lt_I1 : @LT.lt Nat _ q_ h0.size := I1.lt
  obtain ⟨T1, X1, e1, st1⟩ := instNo X0 hx hZ hown (hw _ (List.mem_of_getElem? (i := 107) rfl)) e0 I1 (own_NSno (hw _ (List.mem_of_getElem? (i := 119) rfl)) (hw _ (List.mem_of_getElem? (i := 5) rfl)) (NS.step (hw _ (List.mem_of_getElem? (i := 119) rfl)) (own_NSroot (hw _ (List.mem_of_getElem? (i := 120) rfl)) (hw _ (List.mem_of_getElem? (i := 5) rfl)) (by decide)) (by decide)) (by decide)) (g := (mkF m 1 #[.val (.ref p_), .val (.ref q_), .unset] [(.ref q_)])) rfl rfl (Jvm.hb hby d_prog_61_method_6_1)
  have s2 : ∀ t_, Steps p.tables e below (T1.setTop (mkF m 45 #[.val (.ref p_), .val (.ref q_), .unset] [(.int (0 : Int32))])) t_ → Steps p.tables e below (s₁.setTop (entryFrame m #[(.ref p_), (.ref q_)] 3)) t_ := fun t_ k_ => pre0 t_ (by
    show Steps p.tables e below (s₁.setTop (mkF m 0 #[.val (.ref p_), .val (.ref q_), .unset] [])) t_
    refine XS.aloadN X0.here hx rfl (Jvm.hb hby d_prog_61_method_6_0) rfl rfl ?_
    refine st1 _ ?_
    show Steps p.tables e below (T1.setTop (mkF m 4 #[.val (.ref p_), .val (.ref q_), .unset] [(.int (0 : Int32))])) _
    refine XS.ifYes X1.here hx rfl (pc0 := 4) (pc' := 44) rfl (Jvm.hb hby d_prog_61_method_6_4) rfl ((if0 _ _).trans (teq (rfl : (0 : Int32) = (0 : Int32))).1) (by decide) (by decide) ?_
    show Steps p.tables e below (T1.setTop (mkF m 44 #[.val (.ref p_), .val (.ref q_), .unset] [])) _
    refine XS.iconst X1.here hx rfl (Jvm.hb hby d_prog_61_method_6_44) ?_
    show Steps p.tables e below (T1.setTop (mkF m 45 #[.val (.ref p_), .val (.ref q_), .unset] [(.int (0 : Int32))])) t_
    exact k_)
  obtain ⟨fs, hr, hrun, hended, hW, hsame⟩ := X1.leave (v := some (.int (0 : Int32))) (fun h => by rw [Bd.returns] at h; cases h)
  refine ⟨_, _, s2 _ ?_, hrun, hended, _, _, rfl, ?_, ⟨_, rfl⟩, hW, hsame.mono (by decide) (by decide)⟩
  · show Steps p.tables e below (T1.setTop (mkF m 45 #[.val (.ref p_), .val (.ref q_), .unset] [(.int (0 : Int32))])) _
    exact retN X1 hx (t := .boolean) Bd.returns (by simp) (Jvm.hb hby d_prog_61_method_6_45) hr
  · show Q_rmEqX Z _ _ h0 n0 _ T1.heap _
    rw [e1]
    exact ⟨rfl, N0, rfl⟩
theorem d_method_3_0 : decode method_3_code 0 = .ok (.bipush 48, 2) := by decide +kernel
theorem d_method_3_2 : decode method_3_code 2 = .ok (.iload_n 0, 1) := by decide +kernel
theorem d_method_3_3 : decode method_3_code 3 = .ok (.bipush 15, 2) := by decide +kernel
theorem d_method_3_5 : decode method_3_code 5 = .ok (.iand, 1) := by decide +kernel
theorem d_method_3_6 : decode method_3_code 6 = .ok (.bipush 10, 2) := by decide +kernel
theorem d_method_3_8 : decode method_3_code 8 = .ok (.irem, 1) := by decide +kernel
theorem d_method_3_9 : decode method_3_code 9 = .ok (.iadd, 1) := by decide +kernel
theorem d_method_3_10 : decode method_3_code 10 = .ok (.i2c, 1) := by decide +kernel
theorem d_method_3_11 : decode method_3_code 11 = .ok (.ireturn, 1) := by decide +kernel
theorem ef_rmDig (m : MethodId) (x0 : Int32) : entryFrame m #[(.int x0)] 1 = mkF m 0 #[.val (.int x0)] [] := by first | (simp [entryFrame, mkF, argsToLocals, Value.category]; done) | rfl
def Q_rmDig (Z : State) (bi : Int32) (h0 : Heap) (n0 : Nat) (v : Option Value) (h : Heap) (L : List Loc) : Prop := (v = some (.int (own_digit_of bi))) ∧ (Fr n0 L) ∧ (h = h0)
set_option maxRecDepth 65536 in
set_option maxHeartbeats 40000000 in
theorem rmDig (l : Launch) (Z : State) (a0 : Array Value) (hw : ∀ d ∈ tables_1, d.before a0 Z = true) (ws : List Jvm.Cond) (bi : Int32) (h0 : Heap) (n0 : Nat) (Z0 : n0 ≤ h0.size)  :
    MetFree l (⟨"com/example/zastupnik/zastupnik/protocol/ServiceErrorEqualsPinLaw", "digit", "(I)C"⟩ : MethodName) (head1 (Jvm.Cond.code (⟨"com/example/zastupnik/zastupnik/protocol/ServiceErrorEqualsPinLaw", "digit", "(I)C"⟩ : MethodName) method_3_code 1 (some .char) :: ws) ({ frames := 0, cells := 0, slots := 0, locals := 0 } : Room)) (fun ar_ U => ar_ = #[(.int bi)] ∧ Z.Warmed39 U.vm ∧ U.heap = h0) (fun _ _ _ _ _ => True) (fun _ U o U' => ∃ v L, o = .returned v ∧ Q_rmDig Z bi h0 n0 v U'.heap L ∧ FrameEnd U o U' L ({ frames := 0, cells := 0, slots := 0, locals := 0 } : Room).cells ({ frames := 0, cells := 0, slots := 0, locals := 0 } : Room).slots) := by
  refine MetFree.of_bodySF (plainFor_of_name pn_com_example_zastupnik_zastupnik_protocol_ServiceErrorEqualsPinLaw) hisR ?_
  intro p e s m args below meth c s₁ Bd hml0 hP hK
  obtain ⟨rfl, hZ, hh⟩ := hP
  have hx := Bd.exec
  have hby := Bd.bytes
  have hml : c.maxLocals = 1 := hml0
  have hown : s.vm.findClass "com/example/zastupnik/zastupnik/protocol/ServiceErrorEqualsPinLaw" = some m.cls := findClass_of_methodNamed Bd.named
  have hnm := (name_of_methodNamed Bd.named Bd.method).1
  have X0 : Stand p l e ({ frames := 0, cells := 0, slots := 0, locals := 0 } : Room) s m #[(.int bi)] below meth c s₁ [] 0 0 := Stand.of_body Bd
  have e0 : s₁.heap = h0 := by rw [← hh, Bd.state]; rfl
  have N0 := Fr.nil n0
  have pre0 : ∀ t_, Steps p.tables e below (s₁.setTop (mkF m 0 #[.val (.int bi)] [])) t_ → Steps p.tables e below (s₁.setTop (entryFrame m #[(.int bi)] 1)) t_ := fun t_ k_ => castTop (ef_rmDig m bi) k_
  have s1 : ∀ t_, Steps p.tables e below (s₁.setTop (mkF m 11 #[.val (.int bi)] [(.int (i2c ((48 : Int32) + ((bi &&& (15 : Int32)) % (10 : Int32)))))])) t_ → Steps p.tables e below (s₁.setTop (entryFrame m #[(.int bi)] 1)) t_ := fun t_ k_ => pre0 t_ (by
    show Steps p.tables e below (s₁.setTop (mkF m 0 #[.val (.int bi)] [])) t_
    refine XS.bipush X0.here hx rfl (Jvm.hb hby d_method_3_0) ?_
    refine XS.iloadN X0.here hx rfl (Jvm.hb hby d_method_3_2) rfl ?_
    refine XS.bipush X0.here hx rfl (Jvm.hb hby d_method_3_3) ?_
    refine XS.iand X0.here hx rfl (Jvm.hb hby d_method_3_5) rfl ?_
    refine XS.bipush X0.here hx rfl (Jvm.hb hby d_method_3_6) ?_
    refine iremM (g := (mkF m 8 #[.val (.int bi)] [(.int (10 : Int32)), (.int (bi &&& (15 : Int32))), (.int (48 : Int32))])) X0 hx rfl (Jvm.hb hby d_method_3_8) rfl (by decide) ?_
    show Steps p.tables e below (s₁.setTop (mkF m 9 #[.val (.int bi)] [(.int ((bi &&& (15 : Int32)) % (10 : Int32))), (.int (48 : Int32))])) _
    refine XS.iadd X0.here hx rfl (Jvm.hb hby d_method_3_9) rfl ?_
    refine XS.i2c X0.here hx rfl (Jvm.hb hby d_method_3_10) rfl ?_
    show Steps p.tables e below (s₁.setTop (mkF m 11 #[.val (.int bi)] [(.int (i2c ((48 : Int32) + ((bi &&& (15 : Int32)) % (10 : Int32)))))])) t_
    exact k_)
  obtain ⟨fs, hr, hrun, hended, hW, hsame⟩ := X0.leave (v := some (.int (nar .char (i2c ((48 : Int32) + ((bi &&& (15 : Int32)) % (10 : Int32))))))) (fun h => by rw [Bd.returns] at h; cases h)
  refine ⟨_, _, s1 _ ?_, hrun, hended, _, _, rfl, ?_, ⟨_, rfl⟩, hW, hsame.mono (by decide) (by decide)⟩
  · show Steps p.tables e below (s₁.setTop (mkF m 11 #[.val (.int bi)] [(.int (i2c ((48 : Int32) + ((bi &&& (15 : Int32)) % (10 : Int32)))))])) _
    exact retN X0 hx (t := .char) Bd.returns (by simp) (Jvm.hb hby d_method_3_11) hr
  · show Q_rmDig Z _ h0 n0 _ s₁.heap _
    rw [e0]
    exact ⟨(by rw [own_nari2c]; rfl), N0, rfl⟩
theorem d_method_5_0 : decode method_5_code 0 = .ok (.iload_n 0, 1) := by decide +kernel
theorem d_method_5_1 : decode method_5_code 1 = .ok (.iload 4, 2) := by decide +kernel
theorem d_method_5_3 : decode method_5_code 3 = .ok (.if_icmp .eq 5, 3) := by decide +kernel
theorem d_method_5_8 : decode method_5_code 8 = .ok (.iload_n 0, 1) := by decide +kernel
theorem d_method_5_9 : decode method_5_code 9 = .ok (.iconst 1, 1) := by decide +kernel
theorem d_method_5_10 : decode method_5_code 10 = .ok (.if_icmp .lt 11, 3) := by decide +kernel
theorem d_method_5_21 : decode method_5_code 21 = .ok (.iload_n 0, 1) := by decide +kernel
theorem d_method_5_22 : decode method_5_code 22 = .ok (.iconst 2, 1) := by decide +kernel
theorem d_method_5_23 : decode method_5_code 23 = .ok (.if_icmp .lt 11, 3) := by decide +kernel
theorem d_method_5_34 : decode method_5_code 34 = .ok (.iload_n 0, 1) := by decide +kernel
theorem d_method_5_35 : decode method_5_code 35 = .ok (.iconst 3, 1) := by decide +kernel
theorem d_method_5_36 : decode method_5_code 36 = .ok (.if_icmp .lt 11, 3) := by decide +kernel
theorem d_method_5_47 : decode method_5_code 47 = .ok (.iconst 1, 1) := by decide +kernel
theorem d_method_5_48 : decode method_5_code 48 = .ok (.ireturn, 1) := by decide +kernel
theorem d_method_5_39 : decode method_5_code 39 = .ok (.iload_n 3, 1) := by decide +kernel
theorem d_method_5_40 : decode method_5_code 40 = .ok (.iload 7, 2) := by decide +kernel
theorem d_method_5_42 : decode method_5_code 42 = .ok (.if_icmp .eq 5, 3) := by decide +kernel
theorem d_method_5_45 : decode method_5_code 45 = .ok (.iconst 0, 1) := by decide +kernel
theorem d_method_5_46 : decode method_5_code 46 = .ok (.ireturn, 1) := by decide +kernel
theorem d_method_5_26 : decode method_5_code 26 = .ok (.iload_n 2, 1) := by decide +kernel
theorem d_method_5_27 : decode method_5_code 27 = .ok (.iload 6, 2) := by decide +kernel
theorem d_method_5_29 : decode method_5_code 29 = .ok (.if_icmp .eq 5, 3) := by decide +kernel
theorem d_method_5_32 : decode method_5_code 32 = .ok (.iconst 0, 1) := by decide +kernel
theorem d_method_5_33 : decode method_5_code 33 = .ok (.ireturn, 1) := by decide +kernel
theorem d_method_5_13 : decode method_5_code 13 = .ok (.iload_n 1, 1) := by decide +kernel
theorem d_method_5_14 : decode method_5_code 14 = .ok (.iload 5, 2) := by decide +kernel
theorem d_method_5_16 : decode method_5_code 16 = .ok (.if_icmp .eq 5, 3) := by decide +kernel
theorem d_method_5_19 : decode method_5_code 19 = .ok (.iconst 0, 1) := by decide +kernel
theorem d_method_5_20 : decode method_5_code 20 = .ok (.ireturn, 1) := by decide +kernel
theorem d_method_5_6 : decode method_5_code 6 = .ok (.iconst 0, 1) := by decide +kernel
theorem d_method_5_7 : decode method_5_code 7 = .ok (.ireturn, 1) := by decide +kernel
theorem ef_rmSame (m : MethodId) (x0 : Int32) (x1 : Int32) (x2 : Int32) (x3 : Int32) (x4 : Int32) (x5 : Int32) (x6 : Int32) (x7 : Int32) : entryFrame m #[(.int x0), (.int x1), (.int x2), (.int x3), (.int x4), (.int x5), (.int x6), (.int x7)] 8 = mkF m 0 #[.val (.int x0), .val (.int x1), .val (.int x2), .val (.int x3), .val (.int x4), .val (.int x5), .val (.int x6), .val (.int x7)] [] := by first | (simp [entryFrame, mkF, argsToLocals, Value.category]; done) | rfl
def Q_rmSame (Z : State) (ix : Int32) (iy : Int32) (iz : Int32) (jx : Int32) (jy : Int32) (jz : Int32) (n : Nat) (k : Nat) (h0 : Heap) (n0 : Nat) (v : Option Value) (h : Heap) (L : List Loc) : Prop := (v = some (.int (if (own_mk n ix iy iz) = (own_mk k jx jy jz) then (1 : Int32) else (0 : Int32)))) ∧ (Fr n0 L) ∧ (h = h0)
set_option maxRecDepth 65536 in
set_option maxHeartbeats 40000000 in
theorem rmSame (l : Launch) (Z : State) (a0 : Array Value) (hw : ∀ d ∈ tables_1, d.before a0 Z = true) (ws : List Jvm.Cond) (ix : Int32) (iy : Int32) (iz : Int32) (jx : Int32) (jy : Int32) (jz : Int32) (n : Nat) (k : Nat) (h0 : Heap) (n0 : Nat) (Z0 : n0 ≤ h0.size) (hn4 : n < 4) (hk4 : k < 4) :
    MetFree l (⟨"com/example/zastupnik/zastupnik/protocol/ServiceErrorEqualsPinLaw", "same", "(ICCCICCC)Z"⟩ : MethodName) (head1 (Jvm.Cond.code (⟨"com/example/zastupnik/zastupnik/protocol/ServiceErrorEqualsPinLaw", "same", "(ICCCICCC)Z"⟩ : MethodName) method_5_code 8 (some .boolean) :: ws) ({ frames := 0, cells := 0, slots := 0, locals := 0 } : Room)) (fun ar_ U => ar_ = #[(.int (Int32.ofNat n)), (.int ix), (.int iy), (.int iz), (.int (Int32.ofNat k)), (.int jx), (.int jy), (.int jz)] ∧ Z.Warmed39 U.vm ∧ U.heap = h0) (fun _ _ _ _ _ => True) (fun _ U o U' => ∃ v L, o = .returned v ∧ Q_rmSame Z ix iy iz jx jy jz n k h0 n0 v U'.heap L ∧ FrameEnd U o U' L ({ frames := 0, cells := 0, slots := 0, locals := 0 } : Room).cells ({ frames := 0, cells := 0, slots := 0, locals := 0 } : Room).slots) := by
  refine MetFree.of_bodySF (plainFor_of_name pn_com_example_zastupnik_zastupnik_protocol_ServiceErrorEqualsPinLaw) hisR ?_
  intro p e s m args below meth c s₁ Bd hml0 hP hK
  obtain ⟨rfl, hZ, hh⟩ := hP
  have hx := Bd.exec
  have hby := Bd.bytes
  have hml : c.maxLocals = 8 := hml0
  have hown : s.vm.findClass "com/example/zastupnik/zastupnik/protocol/ServiceErrorEqualsPinLaw" = some m.cls := findClass_of_methodNamed Bd.named
  have hnm := (name_of_methodNamed Bd.named Bd.method).1
  have X0 : Stand p l e ({ frames := 0, cells := 0, slots := 0, locals := 0 } : Room) s m #[(.int (Int32.ofNat n)), (.int ix), (.int iy), (.int iz), (.int (Int32.ofNat k)), (.int jx), (.int jy), (.int jz)] below meth c s₁ [] 0 0 := Stand.of_body Bd
  have e0 : s₁.heap = h0 := by rw [← hh, Bd.state]; rfl
  have N0 := Fr.nil n0
  have pre0 : ∀ t_, Steps p.tables e below (s₁.setTop (mkF m 0 #[.val (.int (Int32.ofNat n)), .val (.int ix), .val (.int iy), .val (.int iz), .val (.int (Int32.ofNat k)), .val (.int jx), .val (.int jy), .val (.int jz)] [])) t_ → Steps p.tables e below (s₁.setTop (entryFrame m #[(.int (Int32.ofNat n)), (.int ix), (.int iy), (.int iz), (.int (Int32.ofNat k)), (.int jx), (.int jy), (.int jz)] 8)) t_ := fun t_ k_ => castTop (ef_rmSame m (Int32.ofNat n) ix iy iz (Int32.ofNat k) jx jy jz) k_
  have s1 : ∀ t_, Steps p.tables e below (s₁.setTop (mkF m 3 #[.val (.int (Int32.ofNat n)), .val (.int ix), .val (.int iy), .val (.int iz), .val (.int (Int32.ofNat k)), .val (.int jx), .val (.int jy), .val (.int jz)] [(.int (Int32.ofNat k)), (.int (Int32.ofNat n))])) t_ → Steps p.tables e below (s₁.setTop (entryFrame m #[(.int (Int32.ofNat n)), (.int ix), (.int iy), (.int iz), (.int (Int32.ofNat k)), (.int jx), (.int jy), (.int jz)] 8)) t_ := fun t_ k_ => pre0 t_ (by
    show Steps p.tables e below (s₁.setTop (mkF m 0 #[.val (.int (Int32.ofNat n)), .val (.int ix), .val (.int iy), .val (.int iz), .val (.int (Int32.ofNat k)), .val (.int jx), .val (.int jy), .val (.int jz)] [])) t_
    refine XS.iloadN X0.here hx rfl (Jvm.hb hby d_method_5_0) rfl ?_
    refine XS.iload X0.here hx rfl (Jvm.hb hby d_method_5_1) rfl ?_
    show Steps p.tables e below (s₁.setTop (mkF m 3 #[.val (.int (Int32.ofNat n)), .val (.int ix), .val (.int iy), .val (.int iz), .val (.int (Int32.ofNat k)), .val (.int jx), .val (.int jy), .val (.int jz)] [(.int (Int32.ofNat k)), (.int (Int32.ofNat n))])) t_
    exact k_)
  by_cases h2 : (Int32.ofNat n) = (Int32.ofNat k)
  · have s3 : ∀ t_, Steps p.tables e below (s₁.setTop (mkF m 10 #[.val (.int (Int32.ofNat n)), .val (.int ix), .val (.int iy), .val (.int iz), .val (.int (Int32.ofNat k)), .val (.int jx), .val (.int jy), .val (.int jz)] [(.int (1 : Int32)), (.int (Int32.ofNat n))])) t_ → Steps p.tables e below (s₁.setTop (entryFrame m #[(.int (Int32.ofNat n)), (.int ix), (.int iy), (.int iz), (.int (Int32.ofNat k)), (.int jx), (.int jy), (.int jz)] 8)) t_ := fun t_ k_ => s1 t_ (by
      show Steps p.tables e below (s₁.setTop (mkF m 3 #[.val (.int (Int32.ofNat n)), .val (.int ix), .val (.int iy), .val (.int iz), .val (.int (Int32.ofNat k)), .val (.int jx), .val (.int jy), .val (.int jz)] [(.int (Int32.ofNat k)), (.int (Int32.ofNat n))])) t_
      refine XS.icmpYes X0.here hx rfl (pc0 := 3) (pc' := 8) rfl (Jvm.hb hby d_method_5_3) rfl (teq h2).1 (by decide) (by decide) ?_
      show Steps p.tables e below (s₁.setTop (mkF m 8 #[.val (.int (Int32.ofNat n)), .val (.int ix), .val (.int iy), .val (.int iz), .val (.int (Int32.ofNat k)), .val (.int jx), .val (.int jy), .val (.int jz)] [])) _
      refine XS.iloadN X0.here hx rfl (Jvm.hb hby d_method_5_8) rfl ?_
      refine XS.iconst X0.here hx rfl (Jvm.hb hby d_method_5_9) ?_
      show Steps p.tables e below (s₁.setTop (mkF m 10 #[.val (.int (Int32.ofNat n)), .val (.int ix), .val (.int iy), .val (.int iz), .val (.int (Int32.ofNat k)), .val (.int jx), .val (.int jy), .val (.int jz)] [(.int (1 : Int32)), (.int (Int32.ofNat n))])) t_
      exact k_)
    by_cases h4 : (Int32.ofNat n) < (1 : Int32)
    · have s5 : ∀ t_, Steps p.tables e below (s₁.setTop (mkF m 23 #[.val (.int (Int32.ofNat n)), .val (.int ix), .val (.int iy), .val (.int iz), .val (.int (Int32.ofNat k)), .val (.int jx), .val (.int jy), .val (.int jz)] [(.int (2 : Int32)), (.int (Int32.ofNat n))])) t_ → Steps p.tables e below (s₁.setTop (entryFrame m #[(.int (Int32.ofNat n)), (.int ix), (.int iy), (.int iz), (.int (Int32.ofNat k)), (.int jx), (.int jy), (.int jz)] 8)) t_ := fun t_ k_ => s3 t_ (by
        show Steps p.tables e below (s₁.setTop (mkF m 10 #[.val (.int (Int32.ofNat n)), .val (.int ix), .val (.int iy), .val (.int iz), .val (.int (Int32.ofNat k)), .val (.int jx), .val (.int jy), .val (.int jz)] [(.int (1 : Int32)), (.int (Int32.ofNat n))])) t_
        refine XS.icmpYes X0.here hx rfl (pc0 := 10) (pc' := 21) rfl (Jvm.hb hby d_method_5_10) rfl (tlt h4).1 (by decide) (by decide) ?_
        show Steps p.tables e below (s₁.setTop (mkF m 21 #[.val (.int (Int32.ofNat n)), .val (.int ix), .val (.int iy), .val (.int iz), .val (.int (Int32.ofNat k)), .val (.int jx), .val (.int jy), .val (.int jz)] [])) _
        refine XS.iloadN X0.here hx rfl (Jvm.hb hby d_method_5_21) rfl ?_
        refine XS.iconst X0.here hx rfl (Jvm.hb hby d_method_5_22) ?_
        show Steps p.tables e below (s₁.setTop (mkF m 23 #[.val (.int (Int32.ofNat n)), .val (.int ix), .val (.int iy), .val (.int iz), .val (.int (Int32.ofNat k)), .val (.int jx), .val (.int jy), .val (.int jz)] [(.int (2 : Int32)), (.int (Int32.ofNat n))])) t_
        exact k_)
      by_cases h6 : (Int32.ofNat n) < (2 : Int32)
      · have s7 : ∀ t_, Steps p.tables e below (s₁.setTop (mkF m 36 #[.val (.int (Int32.ofNat n)), .val (.int ix), .val (.int iy), .val (.int iz), .val (.int (Int32.ofNat k)), .val (.int jx), .val (.int jy), .val (.int jz)] [(.int (3 : Int32)), (.int (Int32.ofNat n))])) t_ → Steps p.tables e below (s₁.setTop (entryFrame m #[(.int (Int32.ofNat n)), (.int ix), (.int iy), (.int iz), (.int (Int32.ofNat k)), (.int jx), (.int jy), (.int jz)] 8)) t_ := fun t_ k_ => s5 t_ (by
          show Steps p.tables e below (s₁.setTop (mkF m 23 #[.val (.int (Int32.ofNat n)), .val (.int ix), .val (.int iy), .val (.int iz), .val (.int (Int32.ofNat k)), .val (.int jx), .val (.int jy), .val (.int jz)] [(.int (2 : Int32)), (.int (Int32.ofNat n))])) t_
          refine XS.icmpYes X0.here hx rfl (pc0 := 23) (pc' := 34) rfl (Jvm.hb hby d_method_5_23) rfl (tlt h6).1 (by decide) (by decide) ?_
          show Steps p.tables e below (s₁.setTop (mkF m 34 #[.val (.int (Int32.ofNat n)), .val (.int ix), .val (.int iy), .val (.int iz), .val (.int (Int32.ofNat k)), .val (.int jx), .val (.int jy), .val (.int jz)] [])) _
          refine XS.iloadN X0.here hx rfl (Jvm.hb hby d_method_5_34) rfl ?_
          refine XS.iconst X0.here hx rfl (Jvm.hb hby d_method_5_35) ?_
          show Steps p.tables e below (s₁.setTop (mkF m 36 #[.val (.int (Int32.ofNat n)), .val (.int ix), .val (.int iy), .val (.int iz), .val (.int (Int32.ofNat k)), .val (.int jx), .val (.int jy), .val (.int jz)] [(.int (3 : Int32)), (.int (Int32.ofNat n))])) t_
          exact k_)
        by_cases h8 : (Int32.ofNat n) < (3 : Int32)
        · have s9 : ∀ t_, Steps p.tables e below (s₁.setTop (mkF m 48 #[.val (.int (Int32.ofNat n)), .val (.int ix), .val (.int iy), .val (.int iz), .val (.int (Int32.ofNat k)), .val (.int jx), .val (.int jy), .val (.int jz)] [(.int (1 : Int32))])) t_ → Steps p.tables e below (s₁.setTop (entryFrame m #[(.int (Int32.ofNat n)), (.int ix), (.int iy), (.int iz), (.int (Int32.ofNat k)), (.int jx), (.int jy), (.int jz)] 8)) t_ := fun t_ k_ => s7 t_ (by
            show Steps p.tables e below (s₁.setTop (mkF m 36 #[.val (.int (Int32.ofNat n)), .val (.int ix), .val (.int iy), .val (.int iz), .val (.int (Int32.ofNat k)), .val (.int jx), .val (.int jy), .val (.int jz)] [(.int (3 : Int32)), (.int (Int32.ofNat n))])) t_
            refine XS.icmpYes X0.here hx rfl (pc0 := 36) (pc' := 47) rfl (Jvm.hb hby d_method_5_36) rfl (tlt h8).1 (by decide) (by decide) ?_
            show Steps p.tables e below (s₁.setTop (mkF m 47 #[.val (.int (Int32.ofNat n)), .val (.int ix), .val (.int iy), .val (.int iz), .val (.int (Int32.ofNat k)), .val (.int jx), .val (.int jy), .val (.int jz)] [])) _
            refine XS.iconst X0.here hx rfl (Jvm.hb hby d_method_5_47) ?_
            show Steps p.tables e below (s₁.setTop (mkF m 48 #[.val (.int (Int32.ofNat n)), .val (.int ix), .val (.int iy), .val (.int iz), .val (.int (Int32.ofNat k)), .val (.int jx), .val (.int jy), .val (.int jz)] [(.int (1 : Int32))])) t_
            exact k_)
          obtain ⟨fs, hr, hrun, hended, hW, hsame⟩ := X0.leave (v := some (.int (1 : Int32))) (fun h => by rw [Bd.returns] at h; cases h)
          refine ⟨_, _, s9 _ ?_, hrun, hended, _, _, rfl, ?_, ⟨_, rfl⟩, hW, hsame.mono (by decide) (by decide)⟩
          · show Steps p.tables e below (s₁.setTop (mkF m 48 #[.val (.int (Int32.ofNat n)), .val (.int ix), .val (.int iy), .val (.int iz), .val (.int (Int32.ofNat k)), .val (.int jx), .val (.int jy), .val (.int jz)] [(.int (1 : Int32))])) _
            exact retN X0 hx (t := .boolean) Bd.returns (by simp) (Jvm.hb hby d_method_5_48) hr
          · show Q_rmSame Z _ _ _ _ _ _ _ _ h0 n0 _ s₁.heap _
            rw [e0]
            exact ⟨(by rw [← own_streq n k ix iy iz jx jy jz hn4 hk4, if_pos h2, if_pos h4, if_pos h6, if_pos h8]), N0, rfl⟩
        · have s10 : ∀ t_, Steps p.tables e below (s₁.setTop (mkF m 42 #[.val (.int (Int32.ofNat n)), .val (.int ix), .val (.int iy), .val (.int iz), .val (.int (Int32.ofNat k)), .val (.int jx), .val (.int jy), .val (.int jz)] [(.int jz), (.int iz)])) t_ → Steps p.tables e below (s₁.setTop (entryFrame m #[(.int (Int32.ofNat n)), (.int ix), (.int iy), (.int iz), (.int (Int32.ofNat k)), (.int jx), (.int jy), (.int jz)] 8)) t_ := fun t_ k_ => s7 t_ (by
            show Steps p.tables e below (s₁.setTop (mkF m 36 #[.val (.int (Int32.ofNat n)), .val (.int ix), .val (.int iy), .val (.int iz), .val (.int (Int32.ofNat k)), .val (.int jx), .val (.int jy), .val (.int jz)] [(.int (3 : Int32)), (.int (Int32.ofNat n))])) t_
            refine XS.icmpNo X0.here hx rfl (Jvm.hb hby d_method_5_36) rfl (flt h8).1 ?_
            show Steps p.tables e below (s₁.setTop (mkF m 39 #[.val (.int (Int32.ofNat n)), .val (.int ix), .val (.int iy), .val (.int iz), .val (.int (Int32.ofNat k)), .val (.int jx), .val (.int jy), .val (.int jz)] [])) _
            refine XS.iloadN X0.here hx rfl (Jvm.hb hby d_method_5_39) rfl ?_
            refine XS.iload X0.here hx rfl (Jvm.hb hby d_method_5_40) rfl ?_
            show Steps p.tables e below (s₁.setTop (mkF m 42 #[.val (.int (Int32.ofNat n)), .val (.int ix), .val (.int iy), .val (.int iz), .val (.int (Int32.ofNat k)), .val (.int jx), .val (.int jy), .val (.int jz)] [(.int jz), (.int iz)])) t_
            exact k_)
          by_cases h11 : iz = jz
          · have s12 : ∀ t_, Steps p.tables e below (s₁.setTop (mkF m 48 #[.val (.int (Int32.ofNat n)), .val (.int ix), .val (.int iy), .val (.int iz), .val (.int (Int32.ofNat k)), .val (.int jx), .val (.int jy), .val (.int jz)] [(.int (1 : Int32))])) t_ → Steps p.tables e below (s₁.setTop (entryFrame m #[(.int (Int32.ofNat n)), (.int ix), (.int iy), (.int iz), (.int (Int32.ofNat k)), (.int jx), (.int jy), (.int jz)] 8)) t_ := fun t_ k_ => s10 t_ (by
              show Steps p.tables e below (s₁.setTop (mkF m 42 #[.val (.int (Int32.ofNat n)), .val (.int ix), .val (.int iy), .val (.int iz), .val (.int (Int32.ofNat k)), .val (.int jx), .val (.int jy), .val (.int jz)] [(.int jz), (.int iz)])) t_
              refine XS.icmpYes X0.here hx rfl (pc0 := 42) (pc' := 47) rfl (Jvm.hb hby d_method_5_42) rfl (teq h11).1 (by decide) (by decide) ?_
              show Steps p.tables e below (s₁.setTop (mkF m 47 #[.val (.int (Int32.ofNat n)), .val (.int ix), .val (.int iy), .val (.int iz), .val (.int (Int32.ofNat k)), .val (.int jx), .val (.int jy), .val (.int jz)] [])) _
              refine XS.iconst X0.here hx rfl (Jvm.hb hby d_method_5_47) ?_
              show Steps p.tables e below (s₁.setTop (mkF m 48 #[.val (.int (Int32.ofNat n)), .val (.int ix), .val (.int iy), .val (.int iz), .val (.int (Int32.ofNat k)), .val (.int jx), .val (.int jy), .val (.int jz)] [(.int (1 : Int32))])) t_
              exact k_)
            obtain ⟨fs, hr, hrun, hended, hW, hsame⟩ := X0.leave (v := some (.int (1 : Int32))) (fun h => by rw [Bd.returns] at h; cases h)
            refine ⟨_, _, s12 _ ?_, hrun, hended, _, _, rfl, ?_, ⟨_, rfl⟩, hW, hsame.mono (by decide) (by decide)⟩
            · show Steps p.tables e below (s₁.setTop (mkF m 48 #[.val (.int (Int32.ofNat n)), .val (.int ix), .val (.int iy), .val (.int iz), .val (.int (Int32.ofNat k)), .val (.int jx), .val (.int jy), .val (.int jz)] [(.int (1 : Int32))])) _
              exact retN X0 hx (t := .boolean) Bd.returns (by simp) (Jvm.hb hby d_method_5_48) hr
            · show Q_rmSame Z _ _ _ _ _ _ _ _ h0 n0 _ s₁.heap _
              rw [e0]
              exact ⟨(by rw [← own_streq n k ix iy iz jx jy jz hn4 hk4, if_pos h2, if_pos h4, if_pos h6, if_neg h8, if_pos h11]), N0, rfl⟩
          · have s13 : ∀ t_, Steps p.tables e below (s₁.setTop (mkF m 46 #[.val (.int (Int32.ofNat n)), .val (.int ix), .val (.int iy), .val (.int iz), .val (.int (Int32.ofNat k)), .val (.int jx), .val (.int jy), .val (.int jz)] [(.int (0 : Int32))])) t_ → Steps p.tables e below (s₁.setTop (entryFrame m #[(.int (Int32.ofNat n)), (.int ix), (.int iy), (.int iz), (.int (Int32.ofNat k)), (.int jx), (.int jy), (.int jz)] 8)) t_ := fun t_ k_ => s10 t_ (by
              show Steps p.tables e below (s₁.setTop (mkF m 42 #[.val (.int (Int32.ofNat n)), .val (.int ix), .val (.int iy), .val (.int iz), .val (.int (Int32.ofNat k)), .val (.int jx), .val (.int jy), .val (.int jz)] [(.int jz), (.int iz)])) t_
              refine XS.icmpNo X0.here hx rfl (Jvm.hb hby d_method_5_42) rfl (feq h11).1 ?_
              show Steps p.tables e below (s₁.setTop (mkF m 45 #[.val (.int (Int32.ofNat n)), .val (.int ix), .val (.int iy), .val (.int iz), .val (.int (Int32.ofNat k)), .val (.int jx), .val (.int jy), .val (.int jz)] [])) _
              refine XS.iconst X0.here hx rfl (Jvm.hb hby d_method_5_45) ?_
              show Steps p.tables e below (s₁.setTop (mkF m 46 #[.val (.int (Int32.ofNat n)), .val (.int ix), .val (.int iy), .val (.int iz), .val (.int (Int32.ofNat k)), .val (.int jx), .val (.int jy), .val (.int jz)] [(.int (0 : Int32))])) t_
              exact k_)
            obtain ⟨fs, hr, hrun, hended, hW, hsame⟩ := X0.leave (v := some (.int (0 : Int32))) (fun h => by rw [Bd.returns] at h; cases h)
            refine ⟨_, _, s13 _ ?_, hrun, hended, _, _, rfl, ?_, ⟨_, rfl⟩, hW, hsame.mono (by decide) (by decide)⟩
            · show Steps p.tables e below (s₁.setTop (mkF m 46 #[.val (.int (Int32.ofNat n)), .val (.int ix), .val (.int iy), .val (.int iz), .val (.int (Int32.ofNat k)), .val (.int jx), .val (.int jy), .val (.int jz)] [(.int (0 : Int32))])) _
              exact retN X0 hx (t := .boolean) Bd.returns (by simp) (Jvm.hb hby d_method_5_46) hr
            · show Q_rmSame Z _ _ _ _ _ _ _ _ h0 n0 _ s₁.heap _
              rw [e0]
              exact ⟨(by rw [← own_streq n k ix iy iz jx jy jz hn4 hk4, if_pos h2, if_pos h4, if_pos h6, if_neg h8, if_neg h11]), N0, rfl⟩
      · have s14 : ∀ t_, Steps p.tables e below (s₁.setTop (mkF m 29 #[.val (.int (Int32.ofNat n)), .val (.int ix), .val (.int iy), .val (.int iz), .val (.int (Int32.ofNat k)), .val (.int jx), .val (.int jy), .val (.int jz)] [(.int jy), (.int iy)])) t_ → Steps p.tables e below (s₁.setTop (entryFrame m #[(.int (Int32.ofNat n)), (.int ix), (.int iy), (.int iz), (.int (Int32.ofNat k)), (.int jx), (.int jy), (.int jz)] 8)) t_ := fun t_ k_ => s5 t_ (by
          show Steps p.tables e below (s₁.setTop (mkF m 23 #[.val (.int (Int32.ofNat n)), .val (.int ix), .val (.int iy), .val (.int iz), .val (.int (Int32.ofNat k)), .val (.int jx), .val (.int jy), .val (.int jz)] [(.int (2 : Int32)), (.int (Int32.ofNat n))])) t_
          refine XS.icmpNo X0.here hx rfl (Jvm.hb hby d_method_5_23) rfl (flt h6).1 ?_
          show Steps p.tables e below (s₁.setTop (mkF m 26 #[.val (.int (Int32.ofNat n)), .val (.int ix), .val (.int iy), .val (.int iz), .val (.int (Int32.ofNat k)), .val (.int jx), .val (.int jy), .val (.int jz)] [])) _
          refine XS.iloadN X0.here hx rfl (Jvm.hb hby d_method_5_26) rfl ?_
          refine XS.iload X0.here hx rfl (Jvm.hb hby d_method_5_27) rfl ?_
          show Steps p.tables e below (s₁.setTop (mkF m 29 #[.val (.int (Int32.ofNat n)), .val (.int ix), .val (.int iy), .val (.int iz), .val (.int (Int32.ofNat k)), .val (.int jx), .val (.int jy), .val (.int jz)] [(.int jy), (.int iy)])) t_
          exact k_)
        by_cases h15 : iy = jy
        · have s16 : ∀ t_, Steps p.tables e below (s₁.setTop (mkF m 36 #[.val (.int (Int32.ofNat n)), .val (.int ix), .val (.int iy), .val (.int iz), .val (.int (Int32.ofNat k)), .val (.int jx), .val (.int jy), .val (.int jz)] [(.int (3 : Int32)), (.int (Int32.ofNat n))])) t_ → Steps p.tables e below (s₁.setTop (entryFrame m #[(.int (Int32.ofNat n)), (.int ix), (.int iy), (.int iz), (.int (Int32.ofNat k)), (.int jx), (.int jy), (.int jz)] 8)) t_ := fun t_ k_ => s14 t_ (by
            show Steps p.tables e below (s₁.setTop (mkF m 29 #[.val (.int (Int32.ofNat n)), .val (.int ix), .val (.int iy), .val (.int iz), .val (.int (Int32.ofNat k)), .val (.int jx), .val (.int jy), .val (.int jz)] [(.int jy), (.int iy)])) t_
            refine XS.icmpYes X0.here hx rfl (pc0 := 29) (pc' := 34) rfl (Jvm.hb hby d_method_5_29) rfl (teq h15).1 (by decide) (by decide) ?_
            show Steps p.tables e below (s₁.setTop (mkF m 34 #[.val (.int (Int32.ofNat n)), .val (.int ix), .val (.int iy), .val (.int iz), .val (.int (Int32.ofNat k)), .val (.int jx), .val (.int jy), .val (.int jz)] [])) _
            refine XS.iloadN X0.here hx rfl (Jvm.hb hby d_method_5_34) rfl ?_
            refine XS.iconst X0.here hx rfl (Jvm.hb hby d_method_5_35) ?_
            show Steps p.tables e below (s₁.setTop (mkF m 36 #[.val (.int (Int32.ofNat n)), .val (.int ix), .val (.int iy), .val (.int iz), .val (.int (Int32.ofNat k)), .val (.int jx), .val (.int jy), .val (.int jz)] [(.int (3 : Int32)), (.int (Int32.ofNat n))])) t_
            exact k_)
          by_cases h17 : (Int32.ofNat n) < (3 : Int32)
          · have s18 : ∀ t_, Steps p.tables e below (s₁.setTop (mkF m 48 #[.val (.int (Int32.ofNat n)), .val (.int ix), .val (.int iy), .val (.int iz), .val (.int (Int32.ofNat k)), .val (.int jx), .val (.int jy), .val (.int jz)] [(.int (1 : Int32))])) t_ → Steps p.tables e below (s₁.setTop (entryFrame m #[(.int (Int32.ofNat n)), (.int ix), (.int iy), (.int iz), (.int (Int32.ofNat k)), (.int jx), (.int jy), (.int jz)] 8)) t_ := fun t_ k_ => s16 t_ (by
              show Steps p.tables e below (s₁.setTop (mkF m 36 #[.val (.int (Int32.ofNat n)), .val (.int ix), .val (.int iy), .val (.int iz), .val (.int (Int32.ofNat k)), .val (.int jx), .val (.int jy), .val (.int jz)] [(.int (3 : Int32)), (.int (Int32.ofNat n))])) t_
              refine XS.icmpYes X0.here hx rfl (pc0 := 36) (pc' := 47) rfl (Jvm.hb hby d_method_5_36) rfl (tlt h17).1 (by decide) (by decide) ?_
              show Steps p.tables e below (s₁.setTop (mkF m 47 #[.val (.int (Int32.ofNat n)), .val (.int ix), .val (.int iy), .val (.int iz), .val (.int (Int32.ofNat k)), .val (.int jx), .val (.int jy), .val (.int jz)] [])) _
              refine XS.iconst X0.here hx rfl (Jvm.hb hby d_method_5_47) ?_
              show Steps p.tables e below (s₁.setTop (mkF m 48 #[.val (.int (Int32.ofNat n)), .val (.int ix), .val (.int iy), .val (.int iz), .val (.int (Int32.ofNat k)), .val (.int jx), .val (.int jy), .val (.int jz)] [(.int (1 : Int32))])) t_
              exact k_)
            obtain ⟨fs, hr, hrun, hended, hW, hsame⟩ := X0.leave (v := some (.int (1 : Int32))) (fun h => by rw [Bd.returns] at h; cases h)
            refine ⟨_, _, s18 _ ?_, hrun, hended, _, _, rfl, ?_, ⟨_, rfl⟩, hW, hsame.mono (by decide) (by decide)⟩
            · show Steps p.tables e below (s₁.setTop (mkF m 48 #[.val (.int (Int32.ofNat n)), .val (.int ix), .val (.int iy), .val (.int iz), .val (.int (Int32.ofNat k)), .val (.int jx), .val (.int jy), .val (.int jz)] [(.int (1 : Int32))])) _
              exact retN X0 hx (t := .boolean) Bd.returns (by simp) (Jvm.hb hby d_method_5_48) hr
            · show Q_rmSame Z _ _ _ _ _ _ _ _ h0 n0 _ s₁.heap _
              rw [e0]
              exact ⟨(by rw [← own_streq n k ix iy iz jx jy jz hn4 hk4, if_pos h2, if_pos h4, if_neg h6, if_pos h15, if_pos h17]), N0, rfl⟩
          · have s19 : ∀ t_, Steps p.tables e below (s₁.setTop (mkF m 42 #[.val (.int (Int32.ofNat n)), .val (.int ix), .val (.int iy), .val (.int iz), .val (.int (Int32.ofNat k)), .val (.int jx), .val (.int jy), .val (.int jz)] [(.int jz), (.int iz)])) t_ → Steps p.tables e below (s₁.setTop (entryFrame m #[(.int (Int32.ofNat n)), (.int ix), (.int iy), (.int iz), (.int (Int32.ofNat k)), (.int jx), (.int jy), (.int jz)] 8)) t_ := fun t_ k_ => s16 t_ (by
              show Steps p.tables e below (s₁.setTop (mkF m 36 #[.val (.int (Int32.ofNat n)), .val (.int ix), .val (.int iy), .val (.int iz), .val (.int (Int32.ofNat k)), .val (.int jx), .val (.int jy), .val (.int jz)] [(.int (3 : Int32)), (.int (Int32.ofNat n))])) t_
              refine XS.icmpNo X0.here hx rfl (Jvm.hb hby d_method_5_36) rfl (flt h17).1 ?_
              show Steps p.tables e below (s₁.setTop (mkF m 39 #[.val (.int (Int32.ofNat n)), .val (.int ix), .val (.int iy), .val (.int iz), .val (.int (Int32.ofNat k)), .val (.int jx), .val (.int jy), .val (.int jz)] [])) _
              refine XS.iloadN X0.here hx rfl (Jvm.hb hby d_method_5_39) rfl ?_
              refine XS.iload X0.here hx rfl (Jvm.hb hby d_method_5_40) rfl ?_
              show Steps p.tables e below (s₁.setTop (mkF m 42 #[.val (.int (Int32.ofNat n)), .val (.int ix), .val (.int iy), .val (.int iz), .val (.int (Int32.ofNat k)), .val (.int jx), .val (.int jy), .val (.int jz)] [(.int jz), (.int iz)])) t_
              exact k_)
            by_cases h20 : iz = jz
            · have s21 : ∀ t_, Steps p.tables e below (s₁.setTop (mkF m 48 #[.val (.int (Int32.ofNat n)), .val (.int ix), .val (.int iy), .val (.int iz), .val (.int (Int32.ofNat k)), .val (.int jx), .val (.int jy), .val (.int jz)] [(.int (1 : Int32))])) t_ → Steps p.tables e below (s₁.setTop (entryFrame m #[(.int (Int32.ofNat n)), (.int ix), (.int iy), (.int iz), (.int (Int32.ofNat k)), (.int jx), (.int jy), (.int jz)] 8)) t_ := fun t_ k_ => s19 t_ (by
                show Steps p.tables e below (s₁.setTop (mkF m 42 #[.val (.int (Int32.ofNat n)), .val (.int ix), .val (.int iy), .val (.int iz), .val (.int (Int32.ofNat k)), .val (.int jx), .val (.int jy), .val (.int jz)] [(.int jz), (.int iz)])) t_
                refine XS.icmpYes X0.here hx rfl (pc0 := 42) (pc' := 47) rfl (Jvm.hb hby d_method_5_42) rfl (teq h20).1 (by decide) (by decide) ?_
                show Steps p.tables e below (s₁.setTop (mkF m 47 #[.val (.int (Int32.ofNat n)), .val (.int ix), .val (.int iy), .val (.int iz), .val (.int (Int32.ofNat k)), .val (.int jx), .val (.int jy), .val (.int jz)] [])) _
                refine XS.iconst X0.here hx rfl (Jvm.hb hby d_method_5_47) ?_
                show Steps p.tables e below (s₁.setTop (mkF m 48 #[.val (.int (Int32.ofNat n)), .val (.int ix), .val (.int iy), .val (.int iz), .val (.int (Int32.ofNat k)), .val (.int jx), .val (.int jy), .val (.int jz)] [(.int (1 : Int32))])) t_
                exact k_)
              obtain ⟨fs, hr, hrun, hended, hW, hsame⟩ := X0.leave (v := some (.int (1 : Int32))) (fun h => by rw [Bd.returns] at h; cases h)
              refine ⟨_, _, s21 _ ?_, hrun, hended, _, _, rfl, ?_, ⟨_, rfl⟩, hW, hsame.mono (by decide) (by decide)⟩
              · show Steps p.tables e below (s₁.setTop (mkF m 48 #[.val (.int (Int32.ofNat n)), .val (.int ix), .val (.int iy), .val (.int iz), .val (.int (Int32.ofNat k)), .val (.int jx), .val (.int jy), .val (.int jz)] [(.int (1 : Int32))])) _
                exact retN X0 hx (t := .boolean) Bd.returns (by simp) (Jvm.hb hby d_method_5_48) hr
              · show Q_rmSame Z _ _ _ _ _ _ _ _ h0 n0 _ s₁.heap _
                rw [e0]
                exact ⟨(by rw [← own_streq n k ix iy iz jx jy jz hn4 hk4, if_pos h2, if_pos h4, if_neg h6, if_pos h15, if_neg h17, if_pos h20]), N0, rfl⟩
            · have s22 : ∀ t_, Steps p.tables e below (s₁.setTop (mkF m 46 #[.val (.int (Int32.ofNat n)), .val (.int ix), .val (.int iy), .val (.int iz), .val (.int (Int32.ofNat k)), .val (.int jx), .val (.int jy), .val (.int jz)] [(.int (0 : Int32))])) t_ → Steps p.tables e below (s₁.setTop (entryFrame m #[(.int (Int32.ofNat n)), (.int ix), (.int iy), (.int iz), (.int (Int32.ofNat k)), (.int jx), (.int jy), (.int jz)] 8)) t_ := fun t_ k_ => s19 t_ (by
                show Steps p.tables e below (s₁.setTop (mkF m 42 #[.val (.int (Int32.ofNat n)), .val (.int ix), .val (.int iy), .val (.int iz), .val (.int (Int32.ofNat k)), .val (.int jx), .val (.int jy), .val (.int jz)] [(.int jz), (.int iz)])) t_
                refine XS.icmpNo X0.here hx rfl (Jvm.hb hby d_method_5_42) rfl (feq h20).1 ?_
                show Steps p.tables e below (s₁.setTop (mkF m 45 #[.val (.int (Int32.ofNat n)), .val (.int ix), .val (.int iy), .val (.int iz), .val (.int (Int32.ofNat k)), .val (.int jx), .val (.int jy), .val (.int jz)] [])) _
                refine XS.iconst X0.here hx rfl (Jvm.hb hby d_method_5_45) ?_
                show Steps p.tables e below (s₁.setTop (mkF m 46 #[.val (.int (Int32.ofNat n)), .val (.int ix), .val (.int iy), .val (.int iz), .val (.int (Int32.ofNat k)), .val (.int jx), .val (.int jy), .val (.int jz)] [(.int (0 : Int32))])) t_
                exact k_)
              obtain ⟨fs, hr, hrun, hended, hW, hsame⟩ := X0.leave (v := some (.int (0 : Int32))) (fun h => by rw [Bd.returns] at h; cases h)
              refine ⟨_, _, s22 _ ?_, hrun, hended, _, _, rfl, ?_, ⟨_, rfl⟩, hW, hsame.mono (by decide) (by decide)⟩
              · show Steps p.tables e below (s₁.setTop (mkF m 46 #[.val (.int (Int32.ofNat n)), .val (.int ix), .val (.int iy), .val (.int iz), .val (.int (Int32.ofNat k)), .val (.int jx), .val (.int jy), .val (.int jz)] [(.int (0 : Int32))])) _
                exact retN X0 hx (t := .boolean) Bd.returns (by simp) (Jvm.hb hby d_method_5_46) hr
              · show Q_rmSame Z _ _ _ _ _ _ _ _ h0 n0 _ s₁.heap _
                rw [e0]
                exact ⟨(by rw [← own_streq n k ix iy iz jx jy jz hn4 hk4, if_pos h2, if_pos h4, if_neg h6, if_pos h15, if_neg h17, if_neg h20]), N0, rfl⟩
        · have s23 : ∀ t_, Steps p.tables e below (s₁.setTop (mkF m 33 #[.val (.int (Int32.ofNat n)), .val (.int ix), .val (.int iy), .val (.int iz), .val (.int (Int32.ofNat k)), .val (.int jx), .val (.int jy), .val (.int jz)] [(.int (0 : Int32))])) t_ → Steps p.tables e below (s₁.setTop (entryFrame m #[(.int (Int32.ofNat n)), (.int ix), (.int iy), (.int iz), (.int (Int32.ofNat k)), (.int jx), (.int jy), (.int jz)] 8)) t_ := fun t_ k_ => s14 t_ (by
            show Steps p.tables e below (s₁.setTop (mkF m 29 #[.val (.int (Int32.ofNat n)), .val (.int ix), .val (.int iy), .val (.int iz), .val (.int (Int32.ofNat k)), .val (.int jx), .val (.int jy), .val (.int jz)] [(.int jy), (.int iy)])) t_
            refine XS.icmpNo X0.here hx rfl (Jvm.hb hby d_method_5_29) rfl (feq h15).1 ?_
            show Steps p.tables e below (s₁.setTop (mkF m 32 #[.val (.int (Int32.ofNat n)), .val (.int ix), .val (.int iy), .val (.int iz), .val (.int (Int32.ofNat k)), .val (.int jx), .val (.int jy), .val (.int jz)] [])) _
            refine XS.iconst X0.here hx rfl (Jvm.hb hby d_method_5_32) ?_
            show Steps p.tables e below (s₁.setTop (mkF m 33 #[.val (.int (Int32.ofNat n)), .val (.int ix), .val (.int iy), .val (.int iz), .val (.int (Int32.ofNat k)), .val (.int jx), .val (.int jy), .val (.int jz)] [(.int (0 : Int32))])) t_
            exact k_)
          obtain ⟨fs, hr, hrun, hended, hW, hsame⟩ := X0.leave (v := some (.int (0 : Int32))) (fun h => by rw [Bd.returns] at h; cases h)
          refine ⟨_, _, s23 _ ?_, hrun, hended, _, _, rfl, ?_, ⟨_, rfl⟩, hW, hsame.mono (by decide) (by decide)⟩
          · show Steps p.tables e below (s₁.setTop (mkF m 33 #[.val (.int (Int32.ofNat n)), .val (.int ix), .val (.int iy), .val (.int iz), .val (.int (Int32.ofNat k)), .val (.int jx), .val (.int jy), .val (.int jz)] [(.int (0 : Int32))])) _
            exact retN X0 hx (t := .boolean) Bd.returns (by simp) (Jvm.hb hby d_method_5_33) hr
          · show Q_rmSame Z _ _ _ _ _ _ _ _ h0 n0 _ s₁.heap _
            rw [e0]
            exact ⟨(by rw [← own_streq n k ix iy iz jx jy jz hn4 hk4, if_pos h2, if_pos h4, if_neg h6, if_neg h15]), N0, rfl⟩
    · have s24 : ∀ t_, Steps p.tables e below (s₁.setTop (mkF m 16 #[.val (.int (Int32.ofNat n)), .val (.int ix), .val (.int iy), .val (.int iz), .val (.int (Int32.ofNat k)), .val (.int jx), .val (.int jy), .val (.int jz)] [(.int jx), (.int ix)])) t_ → Steps p.tables e below (s₁.setTop (entryFrame m #[(.int (Int32.ofNat n)), (.int ix), (.int iy), (.int iz), (.int (Int32.ofNat k)), (.int jx), (.int jy), (.int jz)] 8)) t_ := fun t_ k_ => s3 t_ (by
        show Steps p.tables e below (s₁.setTop (mkF m 10 #[.val (.int (Int32.ofNat n)), .val (.int ix), .val (.int iy), .val (.int iz), .val (.int (Int32.ofNat k)), .val (.int jx), .val (.int jy), .val (.int jz)] [(.int (1 : Int32)), (.int (Int32.ofNat n))])) t_
        refine XS.icmpNo X0.here hx rfl (Jvm.hb hby d_method_5_10) rfl (flt h4).1 ?_
        show Steps p.tables e below (s₁.setTop (mkF m 13 #[.val (.int (Int32.ofNat n)), .val (.int ix), .val (.int iy), .val (.int iz), .val (.int (Int32.ofNat k)), .val (.int jx), .val (.int jy), .val (.int jz)] [])) _
        refine XS.iloadN X0.here hx rfl (Jvm.hb hby d_method_5_13) rfl ?_
        refine XS.iload X0.here hx rfl (Jvm.hb hby d_method_5_14) rfl ?_
        show Steps p.tables e below (s₁.setTop (mkF m 16 #[.val (.int (Int32.ofNat n)), .val (.int ix), .val (.int iy), .val (.int iz), .val (.int (Int32.ofNat k)), .val (.int jx), .val (.int jy), .val (.int jz)] [(.int jx), (.int ix)])) t_
        exact k_)
      by_cases h25 : ix = jx
      · have s26 : ∀ t_, Steps p.tables e below (s₁.setTop (mkF m 23 #[.val (.int (Int32.ofNat n)), .val (.int ix), .val (.int iy), .val (.int iz), .val (.int (Int32.ofNat k)), .val (.int jx), .val (.int jy), .val (.int jz)] [(.int (2 : Int32)), (.int (Int32.ofNat n))])) t_ → Steps p.tables e below (s₁.setTop (entryFrame m #[(.int (Int32.ofNat n)), (.int ix), (.int iy), (.int iz), (.int (Int32.ofNat k)), (.int jx), (.int jy), (.int jz)] 8)) t_ := fun t_ k_ => s24 t_ (by
          show Steps p.tables e below (s₁.setTop (mkF m 16 #[.val (.int (Int32.ofNat n)), .val (.int ix), .val (.int iy), .val (.int iz), .val (.int (Int32.ofNat k)), .val (.int jx), .val (.int jy), .val (.int jz)] [(.int jx), (.int ix)])) t_
          refine XS.icmpYes X0.here hx rfl (pc0 := 16) (pc' := 21) rfl (Jvm.hb hby d_method_5_16) rfl (teq h25).1 (by decide) (by decide) ?_
          show Steps p.tables e below (s₁.setTop (mkF m 21 #[.val (.int (Int32.ofNat n)), .val (.int ix), .val (.int iy), .val (.int iz), .val (.int (Int32.ofNat k)), .val (.int jx), .val (.int jy), .val (.int jz)] [])) _
          refine XS.iloadN X0.here hx rfl (Jvm.hb hby d_method_5_21) rfl ?_
          refine XS.iconst X0.here hx rfl (Jvm.hb hby d_method_5_22) ?_
          show Steps p.tables e below (s₁.setTop (mkF m 23 #[.val (.int (Int32.ofNat n)), .val (.int ix), .val (.int iy), .val (.int iz), .val (.int (Int32.ofNat k)), .val (.int jx), .val (.int jy), .val (.int jz)] [(.int (2 : Int32)), (.int (Int32.ofNat n))])) t_
          exact k_)
        by_cases h27 : (Int32.ofNat n) < (2 : Int32)
        · have s28 : ∀ t_, Steps p.tables e below (s₁.setTop (mkF m 36 #[.val (.int (Int32.ofNat n)), .val (.int ix), .val (.int iy), .val (.int iz), .val (.int (Int32.ofNat k)), .val (.int jx), .val (.int jy), .val (.int jz)] [(.int (3 : Int32)), (.int (Int32.ofNat n))])) t_ → Steps p.tables e below (s₁.setTop (entryFrame m #[(.int (Int32.ofNat n)), (.int ix), (.int iy), (.int iz), (.int (Int32.ofNat k)), (.int jx), (.int jy), (.int jz)] 8)) t_ := fun t_ k_ => s26 t_ (by
            show Steps p.tables e below (s₁.setTop (mkF m 23 #[.val (.int (Int32.ofNat n)), .val (.int ix), .val (.int iy), .val (.int iz), .val (.int (Int32.ofNat k)), .val (.int jx), .val (.int jy), .val (.int jz)] [(.int (2 : Int32)), (.int (Int32.ofNat n))])) t_
            refine XS.icmpYes X0.here hx rfl (pc0 := 23) (pc' := 34) rfl (Jvm.hb hby d_method_5_23) rfl (tlt h27).1 (by decide) (by decide) ?_
            show Steps p.tables e below (s₁.setTop (mkF m 34 #[.val (.int (Int32.ofNat n)), .val (.int ix), .val (.int iy), .val (.int iz), .val (.int (Int32.ofNat k)), .val (.int jx), .val (.int jy), .val (.int jz)] [])) _
            refine XS.iloadN X0.here hx rfl (Jvm.hb hby d_method_5_34) rfl ?_
            refine XS.iconst X0.here hx rfl (Jvm.hb hby d_method_5_35) ?_
            show Steps p.tables e below (s₁.setTop (mkF m 36 #[.val (.int (Int32.ofNat n)), .val (.int ix), .val (.int iy), .val (.int iz), .val (.int (Int32.ofNat k)), .val (.int jx), .val (.int jy), .val (.int jz)] [(.int (3 : Int32)), (.int (Int32.ofNat n))])) t_
            exact k_)
          by_cases h29 : (Int32.ofNat n) < (3 : Int32)
          · have s30 : ∀ t_, Steps p.tables e below (s₁.setTop (mkF m 48 #[.val (.int (Int32.ofNat n)), .val (.int ix), .val (.int iy), .val (.int iz), .val (.int (Int32.ofNat k)), .val (.int jx), .val (.int jy), .val (.int jz)] [(.int (1 : Int32))])) t_ → Steps p.tables e below (s₁.setTop (entryFrame m #[(.int (Int32.ofNat n)), (.int ix), (.int iy), (.int iz), (.int (Int32.ofNat k)), (.int jx), (.int jy), (.int jz)] 8)) t_ := fun t_ k_ => s28 t_ (by
              show Steps p.tables e below (s₁.setTop (mkF m 36 #[.val (.int (Int32.ofNat n)), .val (.int ix), .val (.int iy), .val (.int iz), .val (.int (Int32.ofNat k)), .val (.int jx), .val (.int jy), .val (.int jz)] [(.int (3 : Int32)), (.int (Int32.ofNat n))])) t_
              refine XS.icmpYes X0.here hx rfl (pc0 := 36) (pc' := 47) rfl (Jvm.hb hby d_method_5_36) rfl (tlt h29).1 (by decide) (by decide) ?_
              show Steps p.tables e below (s₁.setTop (mkF m 47 #[.val (.int (Int32.ofNat n)), .val (.int ix), .val (.int iy), .val (.int iz), .val (.int (Int32.ofNat k)), .val (.int jx), .val (.int jy), .val (.int jz)] [])) _
              refine XS.iconst X0.here hx rfl (Jvm.hb hby d_method_5_47) ?_
              show Steps p.tables e below (s₁.setTop (mkF m 48 #[.val (.int (Int32.ofNat n)), .val (.int ix), .val (.int iy), .val (.int iz), .val (.int (Int32.ofNat k)), .val (.int jx), .val (.int jy), .val (.int jz)] [(.int (1 : Int32))])) t_
              exact k_)
            obtain ⟨fs, hr, hrun, hended, hW, hsame⟩ := X0.leave (v := some (.int (1 : Int32))) (fun h => by rw [Bd.returns] at h; cases h)
            refine ⟨_, _, s30 _ ?_, hrun, hended, _, _, rfl, ?_, ⟨_, rfl⟩, hW, hsame.mono (by decide) (by decide)⟩
            · show Steps p.tables e below (s₁.setTop (mkF m 48 #[.val (.int (Int32.ofNat n)), .val (.int ix), .val (.int iy), .val (.int iz), .val (.int (Int32.ofNat k)), .val (.int jx), .val (.int jy), .val (.int jz)] [(.int (1 : Int32))])) _
              exact retN X0 hx (t := .boolean) Bd.returns (by simp) (Jvm.hb hby d_method_5_48) hr
            · show Q_rmSame Z _ _ _ _ _ _ _ _ h0 n0 _ s₁.heap _
              rw [e0]
              exact ⟨(by rw [← own_streq n k ix iy iz jx jy jz hn4 hk4, if_pos h2, if_neg h4, if_pos h25, if_pos h27, if_pos h29]), N0, rfl⟩
          · have s31 : ∀ t_, Steps p.tables e below (s₁.setTop (mkF m 42 #[.val (.int (Int32.ofNat n)), .val (.int ix), .val (.int iy), .val (.int iz), .val (.int (Int32.ofNat k)), .val (.int jx), .val (.int jy), .val (.int jz)] [(.int jz), (.int iz)])) t_ → Steps p.tables e below (s₁.setTop (entryFrame m #[(.int (Int32.ofNat n)), (.int ix), (.int iy), (.int iz), (.int (Int32.ofNat k)), (.int jx), (.int jy), (.int jz)] 8)) t_ := fun t_ k_ => s28 t_ (by
              show Steps p.tables e below (s₁.setTop (mkF m 36 #[.val (.int (Int32.ofNat n)), .val (.int ix), .val (.int iy), .val (.int iz), .val (.int (Int32.ofNat k)), .val (.int jx), .val (.int jy), .val (.int jz)] [(.int (3 : Int32)), (.int (Int32.ofNat n))])) t_
              refine XS.icmpNo X0.here hx rfl (Jvm.hb hby d_method_5_36) rfl (flt h29).1 ?_
              show Steps p.tables e below (s₁.setTop (mkF m 39 #[.val (.int (Int32.ofNat n)), .val (.int ix), .val (.int iy), .val (.int iz), .val (.int (Int32.ofNat k)), .val (.int jx), .val (.int jy), .val (.int jz)] [])) _
              refine XS.iloadN X0.here hx rfl (Jvm.hb hby d_method_5_39) rfl ?_
              refine XS.iload X0.here hx rfl (Jvm.hb hby d_method_5_40) rfl ?_
              show Steps p.tables e below (s₁.setTop (mkF m 42 #[.val (.int (Int32.ofNat n)), .val (.int ix), .val (.int iy), .val (.int iz), .val (.int (Int32.ofNat k)), .val (.int jx), .val (.int jy), .val (.int jz)] [(.int jz), (.int iz)])) t_
              exact k_)
            by_cases h32 : iz = jz
            · have s33 : ∀ t_, Steps p.tables e below (s₁.setTop (mkF m 48 #[.val (.int (Int32.ofNat n)), .val (.int ix), .val (.int iy), .val (.int iz), .val (.int (Int32.ofNat k)), .val (.int jx), .val (.int jy), .val (.int jz)] [(.int (1 : Int32))])) t_ → Steps p.tables e below (s₁.setTop (entryFrame m #[(.int (Int32.ofNat n)), (.int ix), (.int iy), (.int iz), (.int (Int32.ofNat k)), (.int jx), (.int jy), (.int jz)] 8)) t_ := fun t_ k_ => s31 t_ (by
                show Steps p.tables e below (s₁.setTop (mkF m 42 #[.val (.int (Int32.ofNat n)), .val (.int ix), .val (.int iy), .val (.int iz), .val (.int (Int32.ofNat k)), .val (.int jx), .val (.int jy), .val (.int jz)] [(.int jz), (.int iz)])) t_
                refine XS.icmpYes X0.here hx rfl (pc0 := 42) (pc' := 47) rfl (Jvm.hb hby d_method_5_42) rfl (teq h32).1 (by decide) (by decide) ?_
                show Steps p.tables e below (s₁.setTop (mkF m 47 #[.val (.int (Int32.ofNat n)), .val (.int ix), .val (.int iy), .val (.int iz), .val (.int (Int32.ofNat k)), .val (.int jx), .val (.int jy), .val (.int jz)] [])) _
                refine XS.iconst X0.here hx rfl (Jvm.hb hby d_method_5_47) ?_
                show Steps p.tables e below (s₁.setTop (mkF m 48 #[.val (.int (Int32.ofNat n)), .val (.int ix), .val (.int iy), .val (.int iz), .val (.int (Int32.ofNat k)), .val (.int jx), .val (.int jy), .val (.int jz)] [(.int (1 : Int32))])) t_
                exact k_)
              obtain ⟨fs, hr, hrun, hended, hW, hsame⟩ := X0.leave (v := some (.int (1 : Int32))) (fun h => by rw [Bd.returns] at h; cases h)
              refine ⟨_, _, s33 _ ?_, hrun, hended, _, _, rfl, ?_, ⟨_, rfl⟩, hW, hsame.mono (by decide) (by decide)⟩
              · show Steps p.tables e below (s₁.setTop (mkF m 48 #[.val (.int (Int32.ofNat n)), .val (.int ix), .val (.int iy), .val (.int iz), .val (.int (Int32.ofNat k)), .val (.int jx), .val (.int jy), .val (.int jz)] [(.int (1 : Int32))])) _
                exact retN X0 hx (t := .boolean) Bd.returns (by simp) (Jvm.hb hby d_method_5_48) hr
              · show Q_rmSame Z _ _ _ _ _ _ _ _ h0 n0 _ s₁.heap _
                rw [e0]
                exact ⟨(by rw [← own_streq n k ix iy iz jx jy jz hn4 hk4, if_pos h2, if_neg h4, if_pos h25, if_pos h27, if_neg h29, if_pos h32]), N0, rfl⟩
            · have s34 : ∀ t_, Steps p.tables e below (s₁.setTop (mkF m 46 #[.val (.int (Int32.ofNat n)), .val (.int ix), .val (.int iy), .val (.int iz), .val (.int (Int32.ofNat k)), .val (.int jx), .val (.int jy), .val (.int jz)] [(.int (0 : Int32))])) t_ → Steps p.tables e below (s₁.setTop (entryFrame m #[(.int (Int32.ofNat n)), (.int ix), (.int iy), (.int iz), (.int (Int32.ofNat k)), (.int jx), (.int jy), (.int jz)] 8)) t_ := fun t_ k_ => s31 t_ (by
                show Steps p.tables e below (s₁.setTop (mkF m 42 #[.val (.int (Int32.ofNat n)), .val (.int ix), .val (.int iy), .val (.int iz), .val (.int (Int32.ofNat k)), .val (.int jx), .val (.int jy), .val (.int jz)] [(.int jz), (.int iz)])) t_
                refine XS.icmpNo X0.here hx rfl (Jvm.hb hby d_method_5_42) rfl (feq h32).1 ?_
                show Steps p.tables e below (s₁.setTop (mkF m 45 #[.val (.int (Int32.ofNat n)), .val (.int ix), .val (.int iy), .val (.int iz), .val (.int (Int32.ofNat k)), .val (.int jx), .val (.int jy), .val (.int jz)] [])) _
                refine XS.iconst X0.here hx rfl (Jvm.hb hby d_method_5_45) ?_
                show Steps p.tables e below (s₁.setTop (mkF m 46 #[.val (.int (Int32.ofNat n)), .val (.int ix), .val (.int iy), .val (.int iz), .val (.int (Int32.ofNat k)), .val (.int jx), .val (.int jy), .val (.int jz)] [(.int (0 : Int32))])) t_
                exact k_)
              obtain ⟨fs, hr, hrun, hended, hW, hsame⟩ := X0.leave (v := some (.int (0 : Int32))) (fun h => by rw [Bd.returns] at h; cases h)
              refine ⟨_, _, s34 _ ?_, hrun, hended, _, _, rfl, ?_, ⟨_, rfl⟩, hW, hsame.mono (by decide) (by decide)⟩
              · show Steps p.tables e below (s₁.setTop (mkF m 46 #[.val (.int (Int32.ofNat n)), .val (.int ix), .val (.int iy), .val (.int iz), .val (.int (Int32.ofNat k)), .val (.int jx), .val (.int jy), .val (.int jz)] [(.int (0 : Int32))])) _
                exact retN X0 hx (t := .boolean) Bd.returns (by simp) (Jvm.hb hby d_method_5_46) hr
              · show Q_rmSame Z _ _ _ _ _ _ _ _ h0 n0 _ s₁.heap _
                rw [e0]
                exact ⟨(by rw [← own_streq n k ix iy iz jx jy jz hn4 hk4, if_pos h2, if_neg h4, if_pos h25, if_pos h27, if_neg h29, if_neg h32]), N0, rfl⟩
        · have s35 : ∀ t_, Steps p.tables e below (s₁.setTop (mkF m 29 #[.val (.int (Int32.ofNat n)), .val (.int ix), .val (.int iy), .val (.int iz), .val (.int (Int32.ofNat k)), .val (.int jx), .val (.int jy), .val (.int jz)] [(.int jy), (.int iy)])) t_ → Steps p.tables e below (s₁.setTop (entryFrame m #[(.int (Int32.ofNat n)), (.int ix), (.int iy), (.int iz), (.int (Int32.ofNat k)), (.int jx), (.int jy), (.int jz)] 8)) t_ := fun t_ k_ => s26 t_ (by
            show Steps p.tables e below (s₁.setTop (mkF m 23 #[.val (.int (Int32.ofNat n)), .val (.int ix), .val (.int iy), .val (.int iz), .val (.int (Int32.ofNat k)), .val (.int jx), .val (.int jy), .val (.int jz)] [(.int (2 : Int32)), (.int (Int32.ofNat n))])) t_
            refine XS.icmpNo X0.here hx rfl (Jvm.hb hby d_method_5_23) rfl (flt h27).1 ?_
            show Steps p.tables e below (s₁.setTop (mkF m 26 #[.val (.int (Int32.ofNat n)), .val (.int ix), .val (.int iy), .val (.int iz), .val (.int (Int32.ofNat k)), .val (.int jx), .val (.int jy), .val (.int jz)] [])) _
            refine XS.iloadN X0.here hx rfl (Jvm.hb hby d_method_5_26) rfl ?_
            refine XS.iload X0.here hx rfl (Jvm.hb hby d_method_5_27) rfl ?_
            show Steps p.tables e below (s₁.setTop (mkF m 29 #[.val (.int (Int32.ofNat n)), .val (.int ix), .val (.int iy), .val (.int iz), .val (.int (Int32.ofNat k)), .val (.int jx), .val (.int jy), .val (.int jz)] [(.int jy), (.int iy)])) t_
            exact k_)
          by_cases h36 : iy = jy
          · have s37 : ∀ t_, Steps p.tables e below (s₁.setTop (mkF m 36 #[.val (.int (Int32.ofNat n)), .val (.int ix), .val (.int iy), .val (.int iz), .val (.int (Int32.ofNat k)), .val (.int jx), .val (.int jy), .val (.int jz)] [(.int (3 : Int32)), (.int (Int32.ofNat n))])) t_ → Steps p.tables e below (s₁.setTop (entryFrame m #[(.int (Int32.ofNat n)), (.int ix), (.int iy), (.int iz), (.int (Int32.ofNat k)), (.int jx), (.int jy), (.int jz)] 8)) t_ := fun t_ k_ => s35 t_ (by
              show Steps p.tables e below (s₁.setTop (mkF m 29 #[.val (.int (Int32.ofNat n)), .val (.int ix), .val (.int iy), .val (.int iz), .val (.int (Int32.ofNat k)), .val (.int jx), .val (.int jy), .val (.int jz)] [(.int jy), (.int iy)])) t_
              refine XS.icmpYes X0.here hx rfl (pc0 := 29) (pc' := 34) rfl (Jvm.hb hby d_method_5_29) rfl (teq h36).1 (by decide) (by decide) ?_
              show Steps p.tables e below (s₁.setTop (mkF m 34 #[.val (.int (Int32.ofNat n)), .val (.int ix), .val (.int iy), .val (.int iz), .val (.int (Int32.ofNat k)), .val (.int jx), .val (.int jy), .val (.int jz)] [])) _
              refine XS.iloadN X0.here hx rfl (Jvm.hb hby d_method_5_34) rfl ?_
              refine XS.iconst X0.here hx rfl (Jvm.hb hby d_method_5_35) ?_
              show Steps p.tables e below (s₁.setTop (mkF m 36 #[.val (.int (Int32.ofNat n)), .val (.int ix), .val (.int iy), .val (.int iz), .val (.int (Int32.ofNat k)), .val (.int jx), .val (.int jy), .val (.int jz)] [(.int (3 : Int32)), (.int (Int32.ofNat n))])) t_
              exact k_)
            by_cases h38 : (Int32.ofNat n) < (3 : Int32)
            · have s39 : ∀ t_, Steps p.tables e below (s₁.setTop (mkF m 48 #[.val (.int (Int32.ofNat n)), .val (.int ix), .val (.int iy), .val (.int iz), .val (.int (Int32.ofNat k)), .val (.int jx), .val (.int jy), .val (.int jz)] [(.int (1 : Int32))])) t_ → Steps p.tables e below (s₁.setTop (entryFrame m #[(.int (Int32.ofNat n)), (.int ix), (.int iy), (.int iz), (.int (Int32.ofNat k)), (.int jx), (.int jy), (.int jz)] 8)) t_ := fun t_ k_ => s37 t_ (by
                show Steps p.tables e below (s₁.setTop (mkF m 36 #[.val (.int (Int32.ofNat n)), .val (.int ix), .val (.int iy), .val (.int iz), .val (.int (Int32.ofNat k)), .val (.int jx), .val (.int jy), .val (.int jz)] [(.int (3 : Int32)), (.int (Int32.ofNat n))])) t_
                refine XS.icmpYes X0.here hx rfl (pc0 := 36) (pc' := 47) rfl (Jvm.hb hby d_method_5_36) rfl (tlt h38).1 (by decide) (by decide) ?_
                show Steps p.tables e below (s₁.setTop (mkF m 47 #[.val (.int (Int32.ofNat n)), .val (.int ix), .val (.int iy), .val (.int iz), .val (.int (Int32.ofNat k)), .val (.int jx), .val (.int jy), .val (.int jz)] [])) _
                refine XS.iconst X0.here hx rfl (Jvm.hb hby d_method_5_47) ?_
                show Steps p.tables e below (s₁.setTop (mkF m 48 #[.val (.int (Int32.ofNat n)), .val (.int ix), .val (.int iy), .val (.int iz), .val (.int (Int32.ofNat k)), .val (.int jx), .val (.int jy), .val (.int jz)] [(.int (1 : Int32))])) t_
                exact k_)
              obtain ⟨fs, hr, hrun, hended, hW, hsame⟩ := X0.leave (v := some (.int (1 : Int32))) (fun h => by rw [Bd.returns] at h; cases h)
              refine ⟨_, _, s39 _ ?_, hrun, hended, _, _, rfl, ?_, ⟨_, rfl⟩, hW, hsame.mono (by decide) (by decide)⟩
              · show Steps p.tables e below (s₁.setTop (mkF m 48 #[.val (.int (Int32.ofNat n)), .val (.int ix), .val (.int iy), .val (.int iz), .val (.int (Int32.ofNat k)), .val (.int jx), .val (.int jy), .val (.int jz)] [(.int (1 : Int32))])) _
                exact retN X0 hx (t := .boolean) Bd.returns (by simp) (Jvm.hb hby d_method_5_48) hr
              · show Q_rmSame Z _ _ _ _ _ _ _ _ h0 n0 _ s₁.heap _
                rw [e0]
                exact ⟨(by rw [← own_streq n k ix iy iz jx jy jz hn4 hk4, if_pos h2, if_neg h4, if_pos h25, if_neg h27, if_pos h36, if_pos h38]), N0, rfl⟩
            · have s40 : ∀ t_, Steps p.tables e below (s₁.setTop (mkF m 42 #[.val (.int (Int32.ofNat n)), .val (.int ix), .val (.int iy), .val (.int iz), .val (.int (Int32.ofNat k)), .val (.int jx), .val (.int jy), .val (.int jz)] [(.int jz), (.int iz)])) t_ → Steps p.tables e below (s₁.setTop (entryFrame m #[(.int (Int32.ofNat n)), (.int ix), (.int iy), (.int iz), (.int (Int32.ofNat k)), (.int jx), (.int jy), (.int jz)] 8)) t_ := fun t_ k_ => s37 t_ (by
                show Steps p.tables e below (s₁.setTop (mkF m 36 #[.val (.int (Int32.ofNat n)), .val (.int ix), .val (.int iy), .val (.int iz), .val (.int (Int32.ofNat k)), .val (.int jx), .val (.int jy), .val (.int jz)] [(.int (3 : Int32)), (.int (Int32.ofNat n))])) t_
                refine XS.icmpNo X0.here hx rfl (Jvm.hb hby d_method_5_36) rfl (flt h38).1 ?_
                show Steps p.tables e below (s₁.setTop (mkF m 39 #[.val (.int (Int32.ofNat n)), .val (.int ix), .val (.int iy), .val (.int iz), .val (.int (Int32.ofNat k)), .val (.int jx), .val (.int jy), .val (.int jz)] [])) _
                refine XS.iloadN X0.here hx rfl (Jvm.hb hby d_method_5_39) rfl ?_
                refine XS.iload X0.here hx rfl (Jvm.hb hby d_method_5_40) rfl ?_
                show Steps p.tables e below (s₁.setTop (mkF m 42 #[.val (.int (Int32.ofNat n)), .val (.int ix), .val (.int iy), .val (.int iz), .val (.int (Int32.ofNat k)), .val (.int jx), .val (.int jy), .val (.int jz)] [(.int jz), (.int iz)])) t_
                exact k_)
              by_cases h41 : iz = jz
              · have s42 : ∀ t_, Steps p.tables e below (s₁.setTop (mkF m 48 #[.val (.int (Int32.ofNat n)), .val (.int ix), .val (.int iy), .val (.int iz), .val (.int (Int32.ofNat k)), .val (.int jx), .val (.int jy), .val (.int jz)] [(.int (1 : Int32))])) t_ → Steps p.tables e below (s₁.setTop (entryFrame m #[(.int (Int32.ofNat n)), (.int ix), (.int iy), (.int iz), (.int (Int32.ofNat k)), (.int jx), (.int jy), (.int jz)] 8)) t_ := fun t_ k_ => s40 t_ (by
                  show Steps p.tables e below (s₁.setTop (mkF m 42 #[.val (.int (Int32.ofNat n)), .val (.int ix), .val (.int iy), .val (.int iz), .val (.int (Int32.ofNat k)), .val (.int jx), .val (.int jy), .val (.int jz)] [(.int jz), (.int iz)])) t_
                  refine XS.icmpYes X0.here hx rfl (pc0 := 42) (pc' := 47) rfl (Jvm.hb hby d_method_5_42) rfl (teq h41).1 (by decide) (by decide) ?_
                  show Steps p.tables e below (s₁.setTop (mkF m 47 #[.val (.int (Int32.ofNat n)), .val (.int ix), .val (.int iy), .val (.int iz), .val (.int (Int32.ofNat k)), .val (.int jx), .val (.int jy), .val (.int jz)] [])) _
                  refine XS.iconst X0.here hx rfl (Jvm.hb hby d_method_5_47) ?_
                  show Steps p.tables e below (s₁.setTop (mkF m 48 #[.val (.int (Int32.ofNat n)), .val (.int ix), .val (.int iy), .val (.int iz), .val (.int (Int32.ofNat k)), .val (.int jx), .val (.int jy), .val (.int jz)] [(.int (1 : Int32))])) t_
                  exact k_)
                obtain ⟨fs, hr, hrun, hended, hW, hsame⟩ := X0.leave (v := some (.int (1 : Int32))) (fun h => by rw [Bd.returns] at h; cases h)
                refine ⟨_, _, s42 _ ?_, hrun, hended, _, _, rfl, ?_, ⟨_, rfl⟩, hW, hsame.mono (by decide) (by decide)⟩
                · show Steps p.tables e below (s₁.setTop (mkF m 48 #[.val (.int (Int32.ofNat n)), .val (.int ix), .val (.int iy), .val (.int iz), .val (.int (Int32.ofNat k)), .val (.int jx), .val (.int jy), .val (.int jz)] [(.int (1 : Int32))])) _
                  exact retN X0 hx (t := .boolean) Bd.returns (by simp) (Jvm.hb hby d_method_5_48) hr
                · show Q_rmSame Z _ _ _ _ _ _ _ _ h0 n0 _ s₁.heap _
                  rw [e0]
                  exact ⟨(by rw [← own_streq n k ix iy iz jx jy jz hn4 hk4, if_pos h2, if_neg h4, if_pos h25, if_neg h27, if_pos h36, if_neg h38, if_pos h41]), N0, rfl⟩
              · have s43 : ∀ t_, Steps p.tables e below (s₁.setTop (mkF m 46 #[.val (.int (Int32.ofNat n)), .val (.int ix), .val (.int iy), .val (.int iz), .val (.int (Int32.ofNat k)), .val (.int jx), .val (.int jy), .val (.int jz)] [(.int (0 : Int32))])) t_ → Steps p.tables e below (s₁.setTop (entryFrame m #[(.int (Int32.ofNat n)), (.int ix), (.int iy), (.int iz), (.int (Int32.ofNat k)), (.int jx), (.int jy), (.int jz)] 8)) t_ := fun t_ k_ => s40 t_ (by
                  show Steps p.tables e below (s₁.setTop (mkF m 42 #[.val (.int (Int32.ofNat n)), .val (.int ix), .val (.int iy), .val (.int iz), .val (.int (Int32.ofNat k)), .val (.int jx), .val (.int jy), .val (.int jz)] [(.int jz), (.int iz)])) t_
                  refine XS.icmpNo X0.here hx rfl (Jvm.hb hby d_method_5_42) rfl (feq h41).1 ?_
                  show Steps p.tables e below (s₁.setTop (mkF m 45 #[.val (.int (Int32.ofNat n)), .val (.int ix), .val (.int iy), .val (.int iz), .val (.int (Int32.ofNat k)), .val (.int jx), .val (.int jy), .val (.int jz)] [])) _
                  refine XS.iconst X0.here hx rfl (Jvm.hb hby d_method_5_45) ?_
                  show Steps p.tables e below (s₁.setTop (mkF m 46 #[.val (.int (Int32.ofNat n)), .val (.int ix), .val (.int iy), .val (.int iz), .val (.int (Int32.ofNat k)), .val (.int jx), .val (.int jy), .val (.int jz)] [(.int (0 : Int32))])) t_
                  exact k_)
                obtain ⟨fs, hr, hrun, hended, hW, hsame⟩ := X0.leave (v := some (.int (0 : Int32))) (fun h => by rw [Bd.returns] at h; cases h)
                refine ⟨_, _, s43 _ ?_, hrun, hended, _, _, rfl, ?_, ⟨_, rfl⟩, hW, hsame.mono (by decide) (by decide)⟩
                · show Steps p.tables e below (s₁.setTop (mkF m 46 #[.val (.int (Int32.ofNat n)), .val (.int ix), .val (.int iy), .val (.int iz), .val (.int (Int32.ofNat k)), .val (.int jx), .val (.int jy), .val (.int jz)] [(.int (0 : Int32))])) _
                  exact retN X0 hx (t := .boolean) Bd.returns (by simp) (Jvm.hb hby d_method_5_46) hr
                · show Q_rmSame Z _ _ _ _ _ _ _ _ h0 n0 _ s₁.heap _
                  rw [e0]
                  exact ⟨(by rw [← own_streq n k ix iy iz jx jy jz hn4 hk4, if_pos h2, if_neg h4, if_pos h25, if_neg h27, if_pos h36, if_neg h38, if_neg h41]), N0, rfl⟩
          · have s44 : ∀ t_, Steps p.tables e below (s₁.setTop (mkF m 33 #[.val (.int (Int32.ofNat n)), .val (.int ix), .val (.int iy), .val (.int iz), .val (.int (Int32.ofNat k)), .val (.int jx), .val (.int jy), .val (.int jz)] [(.int (0 : Int32))])) t_ → Steps p.tables e below (s₁.setTop (entryFrame m #[(.int (Int32.ofNat n)), (.int ix), (.int iy), (.int iz), (.int (Int32.ofNat k)), (.int jx), (.int jy), (.int jz)] 8)) t_ := fun t_ k_ => s35 t_ (by
              show Steps p.tables e below (s₁.setTop (mkF m 29 #[.val (.int (Int32.ofNat n)), .val (.int ix), .val (.int iy), .val (.int iz), .val (.int (Int32.ofNat k)), .val (.int jx), .val (.int jy), .val (.int jz)] [(.int jy), (.int iy)])) t_
              refine XS.icmpNo X0.here hx rfl (Jvm.hb hby d_method_5_29) rfl (feq h36).1 ?_
              show Steps p.tables e below (s₁.setTop (mkF m 32 #[.val (.int (Int32.ofNat n)), .val (.int ix), .val (.int iy), .val (.int iz), .val (.int (Int32.ofNat k)), .val (.int jx), .val (.int jy), .val (.int jz)] [])) _
              refine XS.iconst X0.here hx rfl (Jvm.hb hby d_method_5_32) ?_
              show Steps p.tables e below (s₁.setTop (mkF m 33 #[.val (.int (Int32.ofNat n)), .val (.int ix), .val (.int iy), .val (.int iz), .val (.int (Int32.ofNat k)), .val (.int jx), .val (.int jy), .val (.int jz)] [(.int (0 : Int32))])) t_
              exact k_)
            obtain ⟨fs, hr, hrun, hended, hW, hsame⟩ := X0.leave (v := some (.int (0 : Int32))) (fun h => by rw [Bd.returns] at h; cases h)
            refine ⟨_, _, s44 _ ?_, hrun, hended, _, _, rfl, ?_, ⟨_, rfl⟩, hW, hsame.mono (by decide) (by decide)⟩
            · show Steps p.tables e below (s₁.setTop (mkF m 33 #[.val (.int (Int32.ofNat n)), .val (.int ix), .val (.int iy), .val (.int iz), .val (.int (Int32.ofNat k)), .val (.int jx), .val (.int jy), .val (.int jz)] [(.int (0 : Int32))])) _
              exact retN X0 hx (t := .boolean) Bd.returns (by simp) (Jvm.hb hby d_method_5_33) hr
            · show Q_rmSame Z _ _ _ _ _ _ _ _ h0 n0 _ s₁.heap _
              rw [e0]
              exact ⟨(by rw [← own_streq n k ix iy iz jx jy jz hn4 hk4, if_pos h2, if_neg h4, if_pos h25, if_neg h27, if_neg h36]), N0, rfl⟩
      · have s45 : ∀ t_, Steps p.tables e below (s₁.setTop (mkF m 20 #[.val (.int (Int32.ofNat n)), .val (.int ix), .val (.int iy), .val (.int iz), .val (.int (Int32.ofNat k)), .val (.int jx), .val (.int jy), .val (.int jz)] [(.int (0 : Int32))])) t_ → Steps p.tables e below (s₁.setTop (entryFrame m #[(.int (Int32.ofNat n)), (.int ix), (.int iy), (.int iz), (.int (Int32.ofNat k)), (.int jx), (.int jy), (.int jz)] 8)) t_ := fun t_ k_ => s24 t_ (by
          show Steps p.tables e below (s₁.setTop (mkF m 16 #[.val (.int (Int32.ofNat n)), .val (.int ix), .val (.int iy), .val (.int iz), .val (.int (Int32.ofNat k)), .val (.int jx), .val (.int jy), .val (.int jz)] [(.int jx), (.int ix)])) t_
          refine XS.icmpNo X0.here hx rfl (Jvm.hb hby d_method_5_16) rfl (feq h25).1 ?_
          show Steps p.tables e below (s₁.setTop (mkF m 19 #[.val (.int (Int32.ofNat n)), .val (.int ix), .val (.int iy), .val (.int iz), .val (.int (Int32.ofNat k)), .val (.int jx), .val (.int jy), .val (.int jz)] [])) _
          refine XS.iconst X0.here hx rfl (Jvm.hb hby d_method_5_19) ?_
          show Steps p.tables e below (s₁.setTop (mkF m 20 #[.val (.int (Int32.ofNat n)), .val (.int ix), .val (.int iy), .val (.int iz), .val (.int (Int32.ofNat k)), .val (.int jx), .val (.int jy), .val (.int jz)] [(.int (0 : Int32))])) t_
          exact k_)
        obtain ⟨fs, hr, hrun, hended, hW, hsame⟩ := X0.leave (v := some (.int (0 : Int32))) (fun h => by rw [Bd.returns] at h; cases h)
        refine ⟨_, _, s45 _ ?_, hrun, hended, _, _, rfl, ?_, ⟨_, rfl⟩, hW, hsame.mono (by decide) (by decide)⟩
        · show Steps p.tables e below (s₁.setTop (mkF m 20 #[.val (.int (Int32.ofNat n)), .val (.int ix), .val (.int iy), .val (.int iz), .val (.int (Int32.ofNat k)), .val (.int jx), .val (.int jy), .val (.int jz)] [(.int (0 : Int32))])) _
          exact retN X0 hx (t := .boolean) Bd.returns (by simp) (Jvm.hb hby d_method_5_20) hr
        · show Q_rmSame Z _ _ _ _ _ _ _ _ h0 n0 _ s₁.heap _
          rw [e0]
          exact ⟨(by rw [← own_streq n k ix iy iz jx jy jz hn4 hk4, if_pos h2, if_neg h4, if_neg h25]), N0, rfl⟩
  · have s46 : ∀ t_, Steps p.tables e below (s₁.setTop (mkF m 7 #[.val (.int (Int32.ofNat n)), .val (.int ix), .val (.int iy), .val (.int iz), .val (.int (Int32.ofNat k)), .val (.int jx), .val (.int jy), .val (.int jz)] [(.int (0 : Int32))])) t_ → Steps p.tables e below (s₁.setTop (entryFrame m #[(.int (Int32.ofNat n)), (.int ix), (.int iy), (.int iz), (.int (Int32.ofNat k)), (.int jx), (.int jy), (.int jz)] 8)) t_ := fun t_ k_ => s1 t_ (by
      show Steps p.tables e below (s₁.setTop (mkF m 3 #[.val (.int (Int32.ofNat n)), .val (.int ix), .val (.int iy), .val (.int iz), .val (.int (Int32.ofNat k)), .val (.int jx), .val (.int jy), .val (.int jz)] [(.int (Int32.ofNat k)), (.int (Int32.ofNat n))])) t_
      refine XS.icmpNo X0.here hx rfl (Jvm.hb hby d_method_5_3) rfl (feq h2).1 ?_
      show Steps p.tables e below (s₁.setTop (mkF m 6 #[.val (.int (Int32.ofNat n)), .val (.int ix), .val (.int iy), .val (.int iz), .val (.int (Int32.ofNat k)), .val (.int jx), .val (.int jy), .val (.int jz)] [])) _
      refine XS.iconst X0.here hx rfl (Jvm.hb hby d_method_5_6) ?_
      show Steps p.tables e below (s₁.setTop (mkF m 7 #[.val (.int (Int32.ofNat n)), .val (.int ix), .val (.int iy), .val (.int iz), .val (.int (Int32.ofNat k)), .val (.int jx), .val (.int jy), .val (.int jz)] [(.int (0 : Int32))])) t_
      exact k_)
    obtain ⟨fs, hr, hrun, hended, hW, hsame⟩ := X0.leave (v := some (.int (0 : Int32))) (fun h => by rw [Bd.returns] at h; cases h)
    refine ⟨_, _, s46 _ ?_, hrun, hended, _, _, rfl, ?_, ⟨_, rfl⟩, hW, hsame.mono (by decide) (by decide)⟩
    · show Steps p.tables e below (s₁.setTop (mkF m 7 #[.val (.int (Int32.ofNat n)), .val (.int ix), .val (.int iy), .val (.int iz), .val (.int (Int32.ofNat k)), .val (.int jx), .val (.int jy), .val (.int jz)] [(.int (0 : Int32))])) _
      exact retN X0 hx (t := .boolean) Bd.returns (by simp) (Jvm.hb hby d_method_5_7) hr
    · show Q_rmSame Z _ _ _ _ _ _ _ _ h0 n0 _ s₁.heap _
      rw [e0]
      exact ⟨(by rw [← own_streq n k ix iy iz jx jy jz hn4 hk4, if_neg h2]), N0, rfl⟩
theorem pd__ICCC_Ljava_lang_String_ : parseMethodDescriptor "(ICCC)Ljava/lang/String;" = some ⟨[.int, .char, .char, .char], some (.object "java/lang/String")⟩ := by decide +kernel
theorem pd__Ljava_lang_String_Ljava_lang_String__V : parseMethodDescriptor "(Ljava/lang/String;Ljava/lang/String;)V" = some ⟨[(.object "java/lang/String"), (.object "java/lang/String")], none⟩ := by decide +kernel
theorem pd__ICCCICCC_Z : parseMethodDescriptor "(ICCCICCC)Z" = some ⟨[.int, .char, .char, .char, .int, .char, .char, .char], some .boolean⟩ := by decide +kernel
theorem ef_rmLaw (m : MethodId) (x0 : Int32) (x1 : Int32) (x2 : Int32) (x3 : Int32) (x4 : Int32) : entryFrame m #[(.int x0), (.int x1), (.int x2), (.int x3), (.int x4)] maxLocals = mkF m 0 #[.val (.int x0), .val (.int x1), .val (.int x2), .val (.int x3), .val (.int x4), .unset, .unset, .unset, .unset, .unset, .unset, .unset, .unset, .unset, .unset, .unset, .unset, .unset, .unset, .unset, .unset, .unset, .unset, .unset, .unset, .unset, .unset] [] := by first | (simp [entryFrame, mkF, argsToLocals, Value.category, maxLocals]; done) | rfl
def Q_rmLaw (Z : State) (codeA : Int32) (codeB : Int32) (msgA : Int32) (msgB : Int32) (mode : Int32) (cst : Int32) (fmt : Value) (h0 : Heap) (n0 : Nat) (v : Option Value) (h : Heap) (L : List Loc) : Prop := v = some (.int 1) ∧ Fr n0 L
set_option maxRecDepth 65536 in
set_option maxHeartbeats 40000000 in
theorem rmLaw (l : Launch) (Z : State) (a0 : Array Value) (hw : ∀ d ∈ tables_1, d.before a0 Z = true) (ws : List Jvm.Cond) (codeA : Int32) (codeB : Int32) (msgA : Int32) (msgB : Int32) (mode : Int32) (cst : Int32) (fmt : Value) (h0 : Heap) (n0 : Nat) (Z0 : n0 ≤ h0.size) (I1 : Sta Z Z.heap "java/lang/String" "COMPACT_STRINGS" "Z" (.int cst)) (hfmt : fmt.isRef = true) (I2 : Sta Z Z.heap "jdk/internal/util/Preconditions" "SIOOBE_FORMATTER" "Ljava/util/function/BiFunction;" fmt) (OX : Old Z n0 h0) (hcst : ¬ (cst = (0 : Int32))) :
    MetFree l x (head1 (Jvm.Cond.code x code maxLocals ret :: ws) room_1) (fun ar_ U => ar_ = #[(.int codeA), (.int codeB), (.int msgA), (.int msgB), (.int mode)] ∧ Z.Warmed39 U.vm ∧ U.heap = h0 ∧ CHv Z ELs U.vm h0) (fun _ _ _ _ _ => True) (fun _ U o U' => ∃ v L, o = .returned v ∧ Q_rmLaw Z codeA codeB msgA msgB mode cst fmt h0 n0 v U'.heap L ∧ CHr Z ELs U.vm U.heap U'.vm U'.heap ∧ ReturnedEndW U o U' L room_1.cells room_1.slots) := by
  refine MetFree.of_bodySF (plainFor_of_name pn_com_example_zastupnik_zastupnik_protocol_ServiceErrorEqualsPinLaw) hisR ?_
  intro p e s m args below meth c s₁ Bd hml0 hP hK
  obtain ⟨rfl, hZ, hh, hCH⟩ := hP
  have hx := Bd.exec
  have hby := Bd.bytes
  have hml : c.maxLocals = 27 := hml0
  have hown : s.vm.findClass "com/example/zastupnik/zastupnik/protocol/ServiceErrorEqualsPinLaw" = some m.cls := findClass_of_methodNamed Bd.named
  have hnm := (name_of_methodNamed Bd.named Bd.method).1
  have X0 : Stand p l e room_1 (s.setVm s.vm) m #[(.int codeA), (.int codeB), (.int msgA), (.int msgB), (.int mode)] below meth c s₁ [] 0 0 := Stand.of_body Bd
  have e0 : s₁.heap = h0 := by rw [← hh, Bd.state]; rfl
  have N0 := Fr.nil n0
  have pre0 : ∀ t_, Steps p.tables e below (s₁.setTop (mkF m 0 #[.val (.int codeA), .val (.int codeB), .val (.int msgA), .val (.int msgB), .val (.int mode), .unset, .unset, .unset, .unset, .unset, .unset, .unset, .unset, .unset, .unset, .unset, .unset, .unset, .unset, .unset, .unset, .unset, .unset, .unset, .unset, .unset, .unset] [])) t_ → Steps p.tables e below (s₁.setTop (entryFrame m #[(.int codeA), (.int codeB), (.int msgA), (.int msgB), (.int mode)] maxLocals)) t_ := fun t_ k_ => castTop (ef_rmLaw m codeA codeB msgA msgB mode) k_
  have hEL : EW Z a0 ELs := own_EW hw
  have wS : ∀ a ∈ Bundle.stringAtoms, a.before a0 Z = true := own_wS hw
  have hS : s.Since s.vm s.heap.size := (State.WarmedH.refl s).since _
  have hk : s.heap.size ≤ h0.size := by rw [hh]; exact Nat.le_refl _
  have CR : CHr Z ELs s.vm h0 s.vm h0 := CHr.refl hCH
  obtain ⟨q1, hq1⟩ : ∃ z : Int32, z = (mode &&& (3 : Int32)) := ⟨_, rfl⟩
  obtain ⟨q2, hq2⟩ : ∃ z : Int32, z = (mode &&& (4 : Int32)) := ⟨_, rfl⟩
  have s3 : ∀ t_, Steps p.tables e below (s₁.setTop (mkF m 10 #[.val (.int codeA), .val (.int codeB), .val (.int msgA), .val (.int msgB), .val (.int mode), .val (.int q1), .unset, .unset, .unset, .unset, .unset, .unset, .unset, .unset, .unset, .unset, .unset, .unset, .unset, .unset, .unset, .unset, .unset, .unset, .unset, .unset, .unset] [(.int q2)])) t_ → Steps p.tables e below (s₁.setTop (entryFrame m #[(.int codeA), (.int codeB), (.int msgA), (.int msgB), (.int mode)] maxLocals)) t_ := fun t_ k_ => pre0 t_ (by
    show Steps p.tables e below (s₁.setTop (mkF m 0 #[.val (.int codeA), .val (.int codeB), .val (.int msgA), .val (.int msgB), .val (.int mode), .unset, .unset, .unset, .unset, .unset, .unset, .unset, .unset, .unset, .unset, .unset, .unset, .unset, .unset, .unset, .unset, .unset, .unset, .unset, .unset, .unset, .unset] [])) t_
    refine XS.iload X0.here hx rfl (Jvm.hb hby at_0) rfl ?_
    refine XS.iconst X0.here hx rfl (Jvm.hb hby at_2) ?_
    refine XS.iand X0.here hx rfl (Jvm.hb hby at_3) rfl ?_
    refine XS.istore X0.here hx rfl (Jvm.hb hby at_4) rfl (l' := #[.val (.int codeA), .val (.int codeB), .val (.int msgA), .val (.int msgB), .val (.int mode), .val (.int (mode &&& (3 : Int32))), .unset, .unset, .unset, .unset, .unset, .unset, .unset, .unset, .unset, .unset, .unset, .unset, .unset, .unset, .unset, .unset, .unset, .unset, .unset, .unset, .unset]) rfl ?_
    refine XS.iload X0.here hx rfl (Jvm.hb hby at_6) rfl ?_
    refine XS.iconst X0.here hx rfl (Jvm.hb hby at_8) ?_
    show Steps p.tables e below (s₁.setTop (mkF m 9 #[.val (.int codeA), .val (.int codeB), .val (.int msgA), .val (.int msgB), .val (.int mode), .val (.int (mode &&& (3 : Int32))), .unset, .unset, .unset, .unset, .unset, .unset, .unset, .unset, .unset, .unset, .unset, .unset, .unset, .unset, .unset, .unset, .unset, .unset, .unset, .unset, .unset] [(.int (4 : Int32)), (.int mode)])) _
    refine XS.iand X0.here hx rfl (Jvm.hb hby at_9) rfl ?_
    show Steps p.tables e below (s₁.setTop (mkF m 10 #[.val (.int codeA), .val (.int codeB), .val (.int msgA), .val (.int msgB), .val (.int mode), .val (.int (mode &&& (3 : Int32))), .unset, .unset, .unset, .unset, .unset, .unset, .unset, .unset, .unset, .unset, .unset, .unset, .unset, .unset, .unset, .unset, .unset, .unset, .unset, .unset, .unset] [(.int (mode &&& (4 : Int32)))])) t_
    exact castTop (by simp only [hq1, hq2]) k_)
  obtain ⟨q4, hq4⟩ : ∃ z : Int32, z = (if q2 = (0 : Int32) then (0 : Int32) else (1 : Int32)) := ⟨_, rfl⟩
  obtain ⟨T5, X5, e5, s5⟩ := seg X0 (fun T' => T'.heap = h0 ∧ ∀ t_, Steps p.tables e below (T'.setTop (mkF m 18 #[.val (.int codeA), .val (.int codeB), .val (.int msgA), .val (.int msgB), .val (.int mode), .val (.int q1), .unset, .unset, .unset, .unset, .unset, .unset, .unset, .unset, .unset, .unset, .unset, .unset, .unset, .unset, .unset, .unset, .unset, .unset, .unset, .unset, .unset] [(.int q4)])) t_ → Steps p.tables e below (s₁.setTop (entryFrame m #[(.int codeA), (.int codeB), (.int msgA), (.int msgB), (.int mode)] maxLocals)) t_) (by
    by_cases h6 : q2 = (0 : Int32)
    · have s7 : ∀ t_, Steps p.tables e below (s₁.setTop (mkF m 18 #[.val (.int codeA), .val (.int codeB), .val (.int msgA), .val (.int msgB), .val (.int mode), .val (.int q1), .unset, .unset, .unset, .unset, .unset, .unset, .unset, .unset, .unset, .unset, .unset, .unset, .unset, .unset, .unset, .unset, .unset, .unset, .unset, .unset, .unset] [(.int (0 : Int32))])) t_ → Steps p.tables e below (s₁.setTop (entryFrame m #[(.int codeA), (.int codeB), (.int msgA), (.int msgB), (.int mode)] maxLocals)) t_ := fun t_ k_ => s3 t_ (by
        show Steps p.tables e below (s₁.setTop (mkF m 10 #[.val (.int codeA), .val (.int codeB), .val (.int msgA), .val (.int msgB), .val (.int mode), .val (.int q1), .unset, .unset, .unset, .unset, .unset, .unset, .unset, .unset, .unset, .unset, .unset, .unset, .unset, .unset, .unset, .unset, .unset, .unset, .unset, .unset, .unset] [(.int q2)])) t_
        refine XS.ifYes X0.here hx rfl (pc0 := 10) (pc' := 17) rfl (Jvm.hb hby at_10) rfl ((if0 _ _).trans (teq h6).1) (by decide) (by decide) ?_
        show Steps p.tables e below (s₁.setTop (mkF m 17 #[.val (.int codeA), .val (.int codeB), .val (.int msgA), .val (.int msgB), .val (.int mode), .val (.int q1), .unset, .unset, .unset, .unset, .unset, .unset, .unset, .unset, .unset, .unset, .unset, .unset, .unset, .unset, .unset, .unset, .unset, .unset, .unset, .unset, .unset] [])) _
        refine XS.iconst X0.here hx rfl (Jvm.hb hby at_17) ?_
        show Steps p.tables e below (s₁.setTop (mkF m 18 #[.val (.int codeA), .val (.int codeB), .val (.int msgA), .val (.int msgB), .val (.int mode), .val (.int q1), .unset, .unset, .unset, .unset, .unset, .unset, .unset, .unset, .unset, .unset, .unset, .unset, .unset, .unset, .unset, .unset, .unset, .unset, .unset, .unset, .unset] [(.int (0 : Int32))])) t_
        exact k_)
      exact ⟨s₁, X0, e0, fun t_ k_ => s7 t_ (castTop (by simp only [hq4, if_pos h6]) k_)⟩
    · have s8 : ∀ t_, Steps p.tables e below (s₁.setTop (mkF m 18 #[.val (.int codeA), .val (.int codeB), .val (.int msgA), .val (.int msgB), .val (.int mode), .val (.int q1), .unset, .unset, .unset, .unset, .unset, .unset, .unset, .unset, .unset, .unset, .unset, .unset, .unset, .unset, .unset, .unset, .unset, .unset, .unset, .unset, .unset] [(.int (1 : Int32))])) t_ → Steps p.tables e below (s₁.setTop (entryFrame m #[(.int codeA), (.int codeB), (.int msgA), (.int msgB), (.int mode)] maxLocals)) t_ := fun t_ k_ => s3 t_ (by
        show Steps p.tables e below (s₁.setTop (mkF m 10 #[.val (.int codeA), .val (.int codeB), .val (.int msgA), .val (.int msgB), .val (.int mode), .val (.int q1), .unset, .unset, .unset, .unset, .unset, .unset, .unset, .unset, .unset, .unset, .unset, .unset, .unset, .unset, .unset, .unset, .unset, .unset, .unset, .unset, .unset] [(.int q2)])) t_
        refine XS.ifNo X0.here hx rfl (Jvm.hb hby at_10) rfl ((if0 _ _).trans (feq h6).1) ?_
        show Steps p.tables e below (s₁.setTop (mkF m 13 #[.val (.int codeA), .val (.int codeB), .val (.int msgA), .val (.int msgB), .val (.int mode), .val (.int q1), .unset, .unset, .unset, .unset, .unset, .unset, .unset, .unset, .unset, .unset, .unset, .unset, .unset, .unset, .unset, .unset, .unset, .unset, .unset, .unset, .unset] [])) _
        refine XS.iconst X0.here hx rfl (Jvm.hb hby at_13) ?_
        refine XS.goto X0.here hx rfl (pc0 := 14) (pc' := 18) rfl (Jvm.hb hby at_14) (by decide) (by decide) ?_
        show Steps p.tables e below (s₁.setTop (mkF m 18 #[.val (.int codeA), .val (.int codeB), .val (.int msgA), .val (.int msgB), .val (.int mode), .val (.int q1), .unset, .unset, .unset, .unset, .unset, .unset, .unset, .unset, .unset, .unset, .unset, .unset, .unset, .unset, .unset, .unset, .unset, .unset, .unset, .unset, .unset] [(.int (1 : Int32))])) t_
        exact k_)
      exact ⟨s₁, X0, e0, fun t_ k_ => s8 t_ (castTop (by simp only [hq4, if_neg h6]) k_)⟩)
  obtain ⟨q9, hq9⟩ : ∃ z : Int32, z = (mode &&& (8 : Int32)) := ⟨_, rfl⟩
  have s10 : ∀ t_, Steps p.tables e below (T5.setTop (mkF m 25 #[.val (.int codeA), .val (.int codeB), .val (.int msgA), .val (.int msgB), .val (.int mode), .val (.int q1), .val (.int q4), .unset, .unset, .unset, .unset, .unset, .unset, .unset, .unset, .unset, .unset, .unset, .unset, .unset, .unset, .unset, .unset, .unset, .unset, .unset, .unset] [(.int q9)])) t_ → Steps p.tables e below (s₁.setTop (entryFrame m #[(.int codeA), (.int codeB), (.int msgA), (.int msgB), (.int mode)] maxLocals)) t_ := fun t_ k_ => s5 t_ (by
    show Steps p.tables e below (T5.setTop (mkF m 18 #[.val (.int codeA), .val (.int codeB), .val (.int msgA), .val (.int msgB), .val (.int mode), .val (.int q1), .unset, .unset, .unset, .unset, .unset, .unset, .unset, .unset, .unset, .unset, .unset, .unset, .unset, .unset, .unset, .unset, .unset, .unset, .unset, .unset, .unset] [(.int q4)])) t_
    refine XS.istore X5.here hx rfl (Jvm.hb hby at_18) rfl (l' := #[.val (.int codeA), .val (.int codeB), .val (.int msgA), .val (.int msgB), .val (.int mode), .val (.int q1), .val (.int q4), .unset, .unset, .unset, .unset, .unset, .unset, .unset, .unset, .unset, .unset, .unset, .unset, .unset, .unset, .unset, .unset, .unset, .unset, .unset, .unset]) rfl ?_
    refine XS.iload X5.here hx rfl (Jvm.hb hby at_20) rfl ?_
    refine XS.bipush X5.here hx rfl (Jvm.hb hby at_22) ?_
    refine XS.iand X5.here hx rfl (Jvm.hb hby at_24) rfl ?_
    show Steps p.tables e below (T5.setTop (mkF m 25 #[.val (.int codeA), .val (.int codeB), .val (.int msgA), .val (.int msgB), .val (.int mode), .val (.int q1), .val (.int q4), .unset, .unset, .unset, .unset, .unset, .unset, .unset, .unset, .unset, .unset, .unset, .unset, .unset, .unset, .unset, .unset, .unset, .unset, .unset, .unset] [(.int (mode &&& (8 : Int32)))])) t_
    exact castTop (by simp only [hq9]) k_)
  obtain ⟨q11, hq11⟩ : ∃ z : Int32, z = (if q9 = (0 : Int32) then (0 : Int32) else (1 : Int32)) := ⟨_, rfl⟩
  obtain ⟨T12, X12, e12, s12⟩ := seg X5 (fun T' => T'.heap = h0 ∧ ∀ t_, Steps p.tables e below (T'.setTop (mkF m 33 #[.val (.int codeA), .val (.int codeB), .val (.int msgA), .val (.int msgB), .val (.int mode), .val (.int q1), .val (.int q4), .unset, .unset, .unset, .unset, .unset, .unset, .unset, .unset, .unset, .unset, .unset, .unset, .unset, .unset, .unset, .unset, .unset, .unset, .unset, .unset] [(.int q11)])) t_ → Steps p.tables e below (s₁.setTop (entryFrame m #[(.int codeA), (.int codeB), (.int msgA), (.int msgB), (.int mode)] maxLocals)) t_) (by
    by_cases h13 : q9 = (0 : Int32)
    · have s14 : ∀ t_, Steps p.tables e below (T5.setTop (mkF m 33 #[.val (.int codeA), .val (.int codeB), .val (.int msgA), .val (.int msgB), .val (.int mode), .val (.int q1), .val (.int q4), .unset, .unset, .unset, .unset, .unset, .unset, .unset, .unset, .unset, .unset, .unset, .unset, .unset, .unset, .unset, .unset, .unset, .unset, .unset, .unset] [(.int (0 : Int32))])) t_ → Steps p.tables e below (s₁.setTop (entryFrame m #[(.int codeA), (.int codeB), (.int msgA), (.int msgB), (.int mode)] maxLocals)) t_ := fun t_ k_ => s10 t_ (by
        show Steps p.tables e below (T5.setTop (mkF m 25 #[.val (.int codeA), .val (.int codeB), .val (.int msgA), .val (.int msgB), .val (.int mode), .val (.int q1), .val (.int q4), .unset, .unset, .unset, .unset, .unset, .unset, .unset, .unset, .unset, .unset, .unset, .unset, .unset, .unset, .unset, .unset, .unset, .unset, .unset, .unset] [(.int q9)])) t_
        refine XS.ifYes X5.here hx rfl (pc0 := 25) (pc' := 32) rfl (Jvm.hb hby at_25) rfl ((if0 _ _).trans (teq h13).1) (by decide) (by decide) ?_
        show Steps p.tables e below (T5.setTop (mkF m 32 #[.val (.int codeA), .val (.int codeB), .val (.int msgA), .val (.int msgB), .val (.int mode), .val (.int q1), .val (.int q4), .unset, .unset, .unset, .unset, .unset, .unset, .unset, .unset, .unset, .unset, .unset, .unset, .unset, .unset, .unset, .unset, .unset, .unset, .unset, .unset] [])) _
        refine XS.iconst X5.here hx rfl (Jvm.hb hby at_32) ?_
        show Steps p.tables e below (T5.setTop (mkF m 33 #[.val (.int codeA), .val (.int codeB), .val (.int msgA), .val (.int msgB), .val (.int mode), .val (.int q1), .val (.int q4), .unset, .unset, .unset, .unset, .unset, .unset, .unset, .unset, .unset, .unset, .unset, .unset, .unset, .unset, .unset, .unset, .unset, .unset, .unset, .unset] [(.int (0 : Int32))])) t_
        exact k_)
      exact ⟨T5, X5, e5, fun t_ k_ => s14 t_ (castTop (by simp only [hq11, if_pos h13]) k_)⟩
    · have s15 : ∀ t_, Steps p.tables e below (T5.setTop (mkF m 33 #[.val (.int codeA), .val (.int codeB), .val (.int msgA), .val (.int msgB), .val (.int mode), .val (.int q1), .val (.int q4), .unset, .unset, .unset, .unset, .unset, .unset, .unset, .unset, .unset, .unset, .unset, .unset, .unset, .unset, .unset, .unset, .unset, .unset, .unset, .unset] [(.int (1 : Int32))])) t_ → Steps p.tables e below (s₁.setTop (entryFrame m #[(.int codeA), (.int codeB), (.int msgA), (.int msgB), (.int mode)] maxLocals)) t_ := fun t_ k_ => s10 t_ (by
        show Steps p.tables e below (T5.setTop (mkF m 25 #[.val (.int codeA), .val (.int codeB), .val (.int msgA), .val (.int msgB), .val (.int mode), .val (.int q1), .val (.int q4), .unset, .unset, .unset, .unset, .unset, .unset, .unset, .unset, .unset, .unset, .unset, .unset, .unset, .unset, .unset, .unset, .unset, .unset, .unset, .unset] [(.int q9)])) t_
        refine XS.ifNo X5.here hx rfl (Jvm.hb hby at_25) rfl ((if0 _ _).trans (feq h13).1) ?_
        show Steps p.tables e below (T5.setTop (mkF m 28 #[.val (.int codeA), .val (.int codeB), .val (.int msgA), .val (.int msgB), .val (.int mode), .val (.int q1), .val (.int q4), .unset, .unset, .unset, .unset, .unset, .unset, .unset, .unset, .unset, .unset, .unset, .unset, .unset, .unset, .unset, .unset, .unset, .unset, .unset, .unset] [])) _
        refine XS.iconst X5.here hx rfl (Jvm.hb hby at_28) ?_
        refine XS.goto X5.here hx rfl (pc0 := 29) (pc' := 33) rfl (Jvm.hb hby at_29) (by decide) (by decide) ?_
        show Steps p.tables e below (T5.setTop (mkF m 33 #[.val (.int codeA), .val (.int codeB), .val (.int msgA), .val (.int msgB), .val (.int mode), .val (.int q1), .val (.int q4), .unset, .unset, .unset, .unset, .unset, .unset, .unset, .unset, .unset, .unset, .unset, .unset, .unset, .unset, .unset, .unset, .unset, .unset, .unset, .unset] [(.int (1 : Int32))])) t_
        exact k_)
      exact ⟨T5, X5, e5, fun t_ k_ => s15 t_ (castTop (by simp only [hq11, if_neg h13]) k_)⟩)
  obtain ⟨m16, hq16, hl16, hg16⟩ := own_len3 codeA
  obtain ⟨q17, hq17⟩ : ∃ z : Int32, z = (ushr codeA (4 : Int32)) := ⟨_, rfl⟩
  have s18 : ∀ t_, Steps p.tables e below (T12.setTop (mkF m 47 #[.val (.int codeA), .val (.int codeB), .val (.int msgA), .val (.int msgB), .val (.int mode), .val (.int q1), .val (.int q4), .val (.int q11), .val (.int (Int32.ofNat m16)), .unset, .unset, .unset, .unset, .unset, .unset, .unset, .unset, .unset, .unset, .unset, .unset, .unset, .unset, .unset, .unset, .unset, .unset] [(.int q17)])) t_ → Steps p.tables e below (s₁.setTop (entryFrame m #[(.int codeA), (.int codeB), (.int msgA), (.int msgB), (.int mode)] maxLocals)) t_ := fun t_ k_ => s12 t_ (by
    show Steps p.tables e below (T12.setTop (mkF m 33 #[.val (.int codeA), .val (.int codeB), .val (.int msgA), .val (.int msgB), .val (.int mode), .val (.int q1), .val (.int q4), .unset, .unset, .unset, .unset, .unset, .unset, .unset, .unset, .unset, .unset, .unset, .unset, .unset, .unset, .unset, .unset, .unset, .unset, .unset, .unset] [(.int q11)])) t_
    refine XS.istore X12.here hx rfl (Jvm.hb hby at_33) rfl (l' := #[.val (.int codeA), .val (.int codeB), .val (.int msgA), .val (.int msgB), .val (.int mode), .val (.int q1), .val (.int q4), .val (.int q11), .unset, .unset, .unset, .unset, .unset, .unset, .unset, .unset, .unset, .unset, .unset, .unset, .unset, .unset, .unset, .unset, .unset, .unset, .unset]) rfl ?_
    show Steps p.tables e below (T12.setTop (mkF m 35 #[.val (.int codeA), .val (.int codeB), .val (.int msgA), .val (.int msgB), .val (.int mode), .val (.int q1), .val (.int q4), .val (.int q11), .unset, .unset, .unset, .unset, .unset, .unset, .unset, .unset, .unset, .unset, .unset, .unset, .unset, .unset, .unset, .unset, .unset, .unset, .unset] [])) _
    refine XS.iloadN X12.here hx rfl (Jvm.hb hby at_35) rfl ?_
    refine XS.iconst X12.here hx rfl (Jvm.hb hby at_36) ?_
    refine XS.iand X12.here hx rfl (Jvm.hb hby at_37) rfl ?_
    refine XS.iconst X12.here hx rfl (Jvm.hb hby at_38) ?_
    refine iremM (g := (mkF m 39 #[.val (.int codeA), .val (.int codeB), .val (.int msgA), .val (.int msgB), .val (.int mode), .val (.int q1), .val (.int q4), .val (.int q11), .unset, .unset, .unset, .unset, .unset, .unset, .unset, .unset, .unset, .unset, .unset, .unset, .unset, .unset, .unset, .unset, .unset, .unset, .unset] [(.int (3 : Int32)), (.int (codeA &&& (3 : Int32)))])) X12 hx rfl (Jvm.hb hby at_39) rfl (by decide) ?_
    show Steps p.tables e below (T12.setTop (mkF m 40 #[.val (.int codeA), .val (.int codeB), .val (.int msgA), .val (.int msgB), .val (.int mode), .val (.int q1), .val (.int q4), .val (.int q11), .unset, .unset, .unset, .unset, .unset, .unset, .unset, .unset, .unset, .unset, .unset, .unset, .unset, .unset, .unset, .unset, .unset, .unset, .unset] [(.int ((codeA &&& (3 : Int32)) % (3 : Int32)))])) _
    refine XS.iconst X12.here hx rfl (Jvm.hb hby at_40) ?_
    refine XS.iadd X12.here hx rfl (Jvm.hb hby at_41) rfl ?_
    refine XS.istore X12.here hx rfl (Jvm.hb hby at_42) rfl (l' := #[.val (.int codeA), .val (.int codeB), .val (.int msgA), .val (.int msgB), .val (.int mode), .val (.int q1), .val (.int q4), .val (.int q11), .val (.int (((codeA &&& (3 : Int32)) % (3 : Int32)) + (1 : Int32))), .unset, .unset, .unset, .unset, .unset, .unset, .unset, .unset, .unset, .unset, .unset, .unset, .unset, .unset, .unset, .unset, .unset, .unset]) rfl ?_
    refine XS.iloadN X12.here hx rfl (Jvm.hb hby at_44) rfl ?_
    refine XS.iconst X12.here hx rfl (Jvm.hb hby at_45) ?_
    refine XS.iushr X12.here hx rfl (Jvm.hb hby at_46) rfl ?_
    show Steps p.tables e below (T12.setTop (mkF m 47 #[.val (.int codeA), .val (.int codeB), .val (.int msgA), .val (.int msgB), .val (.int mode), .val (.int q1), .val (.int q4), .val (.int q11), .val (.int (((codeA &&& (3 : Int32)) % (3 : Int32)) + (1 : Int32))), .unset, .unset, .unset, .unset, .unset, .unset, .unset, .unset, .unset, .unset, .unset, .unset, .unset, .unset, .unset, .unset, .unset, .unset] [(.int (ushr codeA (4 : Int32)))])) _
    exact castTop (by simp only [hq16, hq17]) k_)
  have Zc19 : n0 ≤ h0.size := by omega
  obtain ⟨_, _, ⟨T20, L20, k20, n20⟩, -, X20, ⟨Lc20, hQ20, l20, y20, z20⟩, st20⟩ := Jvm.LawKit.callS X12 hx (y := (⟨"com/example/zastupnik/zastupnik/protocol/ServiceErrorEqualsPinLaw", "digit", "(I)C"⟩ : MethodName)) hown (mvT hZ (hw _ (List.mem_of_getElem? (i := 0) rfl))) (mvT hZ (hw _ (List.mem_of_getElem? (i := 1) rfl))) (mvT hZ (hw _ (List.mem_of_getElem? (i := 2) rfl))) (mvT hZ (hw _ (List.mem_of_getElem? (i := 3) rfl))) (by decide) (backOf (W := 0) (rmDig l Z a0 hw [] q17 h0 n0 Zc19) hZ (hw _ (List.mem_of_getElem? (i := 3) rfl)) (hw _ (List.mem_of_getElem? (i := 2) rfl)) (by decide) (by decide)) (g := (mkF m 47 #[.val (.int codeA), .val (.int codeB), .val (.int msgA), .val (.int msgB), .val (.int mode), .val (.int q1), .val (.int q4), .val (.int q11), .val (.int (Int32.ofNat m16)), .unset, .unset, .unset, .unset, .unset, .unset, .unset, .unset, .unset, .unset, .unset, .unset, .unset, .unset, .unset, .unset, .unset, .unset] [(.int q17)])) rfl (by rw [hml]; rfl) (argsL := [(.int q17)]) (rest := []) (lenOf pd__I_C rfl) rfl (by show 2 * 0 + _ ≤ _; exact Nat.le_of_eq rfl) (Jvm.hb hby at_47) (fun _ _ => ⟨rfl, e12, (by decide : 0 + 0 ≤ _), (by decide : 0 + 0 ≤ _)⟩)
  dsimp only [Pt.U, Pt.locs, Pt.cells, Pt.slots] at X20 l20 y20 z20 st20 hQ20
  subst l20 y20 z20
  obtain ⟨rfl, N20q, e20⟩ := hQ20
  have N20 := Fr.app N0 N20q
  obtain ⟨q21, hq21⟩ : ∃ z : Int32, z = (own_digit_of q17) := ⟨_, rfl⟩
  rw [← hq21] at st20
  obtain ⟨q22, hq22⟩ : ∃ z : Int32, z = (ushr codeA (8 : Int32)) := ⟨_, rfl⟩
  have s23 : ∀ t_, Steps p.tables e below (T20.setTop (mkF m 56 #[.val (.int codeA), .val (.int codeB), .val (.int msgA), .val (.int msgB), .val (.int mode), .val (.int q1), .val (.int q4), .val (.int q11), .val (.int (Int32.ofNat m16)), .val (.int q21), .unset, .unset, .unset, .unset, .unset, .unset, .unset, .unset, .unset, .unset, .unset, .unset, .unset, .unset, .unset, .unset, .unset] [(.int q22)])) t_ → Steps p.tables e below (s₁.setTop (entryFrame m #[(.int codeA), (.int codeB), (.int msgA), (.int msgB), (.int mode)] maxLocals)) t_ := fun t_ k_ => s18 t_ (by
    show Steps p.tables e below (T12.setTop (mkF m 47 #[.val (.int codeA), .val (.int codeB), .val (.int msgA), .val (.int msgB), .val (.int mode), .val (.int q1), .val (.int q4), .val (.int q11), .val (.int (Int32.ofNat m16)), .unset, .unset, .unset, .unset, .unset, .unset, .unset, .unset, .unset, .unset, .unset, .unset, .unset, .unset, .unset, .unset, .unset, .unset] [(.int q17)])) t_
    refine st20 _ ?_
    show Steps p.tables e below (T20.setTop (mkF m 50 #[.val (.int codeA), .val (.int codeB), .val (.int msgA), .val (.int msgB), .val (.int mode), .val (.int q1), .val (.int q4), .val (.int q11), .val (.int (Int32.ofNat m16)), .unset, .unset, .unset, .unset, .unset, .unset, .unset, .unset, .unset, .unset, .unset, .unset, .unset, .unset, .unset, .unset, .unset, .unset] [(.int q21)])) _
    refine XS.istore X20.here hx rfl (Jvm.hb hby at_50) rfl (l' := #[.val (.int codeA), .val (.int codeB), .val (.int msgA), .val (.int msgB), .val (.int mode), .val (.int q1), .val (.int q4), .val (.int q11), .val (.int (Int32.ofNat m16)), .val (.int q21), .unset, .unset, .unset, .unset, .unset, .unset, .unset, .unset, .unset, .unset, .unset, .unset, .unset, .unset, .unset, .unset, .unset]) rfl ?_
    refine XS.iloadN X20.here hx rfl (Jvm.hb hby at_52) rfl ?_
    refine XS.bipush X20.here hx rfl (Jvm.hb hby at_53) ?_
    refine XS.iushr X20.here hx rfl (Jvm.hb hby at_55) rfl ?_
    show Steps p.tables e below (T20.setTop (mkF m 56 #[.val (.int codeA), .val (.int codeB), .val (.int msgA), .val (.int msgB), .val (.int mode), .val (.int q1), .val (.int q4), .val (.int q11), .val (.int (Int32.ofNat m16)), .val (.int q21), .unset, .unset, .unset, .unset, .unset, .unset, .unset, .unset, .unset, .unset, .unset, .unset, .unset, .unset, .unset, .unset, .unset] [(.int (ushr codeA (8 : Int32)))])) t_
    exact castTop (by simp only [hq22]) k_)
  have Zc24 : n0 ≤ h0.size := by omega
  obtain ⟨_, _, ⟨T25, L25, k25, n25⟩, -, X25, ⟨Lc25, hQ25, l25, y25, z25⟩, st25⟩ := Jvm.LawKit.callS X20 hx (y := (⟨"com/example/zastupnik/zastupnik/protocol/ServiceErrorEqualsPinLaw", "digit", "(I)C"⟩ : MethodName)) hown (mvT hZ (hw _ (List.mem_of_getElem? (i := 0) rfl))) (mvT hZ (hw _ (List.mem_of_getElem? (i := 1) rfl))) (mvT hZ (hw _ (List.mem_of_getElem? (i := 2) rfl))) (mvT hZ (hw _ (List.mem_of_getElem? (i := 3) rfl))) (by decide) (backOf (W := 0) (rmDig l Z a0 hw [] q22 h0 n0 Zc24) hZ (hw _ (List.mem_of_getElem? (i := 3) rfl)) (hw _ (List.mem_of_getElem? (i := 2) rfl)) (by decide) (by decide)) (g := (mkF m 56 #[.val (.int codeA), .val (.int codeB), .val (.int msgA), .val (.int msgB), .val (.int mode), .val (.int q1), .val (.int q4), .val (.int q11), .val (.int (Int32.ofNat m16)), .val (.int q21), .unset, .unset, .unset, .unset, .unset, .unset, .unset, .unset, .unset, .unset, .unset, .unset, .unset, .unset, .unset, .unset, .unset] [(.int q22)])) rfl (by rw [hml]; rfl) (argsL := [(.int q22)]) (rest := []) (lenOf pd__I_C rfl) rfl (by show 2 * 0 + _ ≤ _; exact Nat.le_of_eq rfl) (Jvm.hb hby at_56) (fun _ _ => ⟨rfl, e20, (by decide : 0 + 0 ≤ _), (by decide : 0 + 0 ≤ _)⟩)
  dsimp only [Pt.U, Pt.locs, Pt.cells, Pt.slots] at X25 l25 y25 z25 st25 hQ25
  subst l25 y25 z25
  obtain ⟨rfl, N25q, e25⟩ := hQ25
  have N25 := Fr.app N20 N25q
  obtain ⟨q26, hq26⟩ : ∃ z : Int32, z = (own_digit_of q22) := ⟨_, rfl⟩
  rw [← hq26] at st25
  obtain ⟨q27, hq27⟩ : ∃ z : Int32, z = (ushr codeA (12 : Int32)) := ⟨_, rfl⟩
  have s28 : ∀ t_, Steps p.tables e below (T25.setTop (mkF m 65 #[.val (.int codeA), .val (.int codeB), .val (.int msgA), .val (.int msgB), .val (.int mode), .val (.int q1), .val (.int q4), .val (.int q11), .val (.int (Int32.ofNat m16)), .val (.int q21), .val (.int q26), .unset, .unset, .unset, .unset, .unset, .unset, .unset, .unset, .unset, .unset, .unset, .unset, .unset, .unset, .unset, .unset] [(.int q27)])) t_ → Steps p.tables e below (s₁.setTop (entryFrame m #[(.int codeA), (.int codeB), (.int msgA), (.int msgB), (.int mode)] maxLocals)) t_ := fun t_ k_ => s23 t_ (by
    show Steps p.tables e below (T20.setTop (mkF m 56 #[.val (.int codeA), .val (.int codeB), .val (.int msgA), .val (.int msgB), .val (.int mode), .val (.int q1), .val (.int q4), .val (.int q11), .val (.int (Int32.ofNat m16)), .val (.int q21), .unset, .unset, .unset, .unset, .unset, .unset, .unset, .unset, .unset, .unset, .unset, .unset, .unset, .unset, .unset, .unset, .unset] [(.int q22)])) t_
    refine st25 _ ?_
    show Steps p.tables e below (T25.setTop (mkF m 59 #[.val (.int codeA), .val (.int codeB), .val (.int msgA), .val (.int msgB), .val (.int mode), .val (.int q1), .val (.int q4), .val (.int q11), .val (.int (Int32.ofNat m16)), .val (.int q21), .unset, .unset, .unset, .unset, .unset, .unset, .unset, .unset, .unset, .unset, .unset, .unset, .unset, .unset, .unset, .unset, .unset] [(.int q26)])) _
    refine XS.istore X25.here hx rfl (Jvm.hb hby at_59) rfl (l' := #[.val (.int codeA), .val (.int codeB), .val (.int msgA), .val (.int msgB), .val (.int mode), .val (.int q1), .val (.int q4), .val (.int q11), .val (.int (Int32.ofNat m16)), .val (.int q21), .val (.int q26), .unset, .unset, .unset, .unset, .unset, .unset, .unset, .unset, .unset, .unset, .unset, .unset, .unset, .unset, .unset, .unset]) rfl ?_
    refine XS.iloadN X25.here hx rfl (Jvm.hb hby at_61) rfl ?_
    refine XS.bipush X25.here hx rfl (Jvm.hb hby at_62) ?_
    refine XS.iushr X25.here hx rfl (Jvm.hb hby at_64) rfl ?_
    show Steps p.tables e below (T25.setTop (mkF m 65 #[.val (.int codeA), .val (.int codeB), .val (.int msgA), .val (.int msgB), .val (.int mode), .val (.int q1), .val (.int q4), .val (.int q11), .val (.int (Int32.ofNat m16)), .val (.int q21), .val (.int q26), .unset, .unset, .unset, .unset, .unset, .unset, .unset, .unset, .unset, .unset, .unset, .unset, .unset, .unset, .unset, .unset] [(.int (ushr codeA (12 : Int32)))])) t_
    exact castTop (by simp only [hq27]) k_)
  have Zc29 : n0 ≤ h0.size := by omega
  obtain ⟨_, _, ⟨T30, L30, k30, n30⟩, -, X30, ⟨Lc30, hQ30, l30, y30, z30⟩, st30⟩ := Jvm.LawKit.callS X25 hx (y := (⟨"com/example/zastupnik/zastupnik/protocol/ServiceErrorEqualsPinLaw", "digit", "(I)C"⟩ : MethodName)) hown (mvT hZ (hw _ (List.mem_of_getElem? (i := 0) rfl))) (mvT hZ (hw _ (List.mem_of_getElem? (i := 1) rfl))) (mvT hZ (hw _ (List.mem_of_getElem? (i := 2) rfl))) (mvT hZ (hw _ (List.mem_of_getElem? (i := 3) rfl))) (by decide) (backOf (W := 0) (rmDig l Z a0 hw [] q27 h0 n0 Zc29) hZ (hw _ (List.mem_of_getElem? (i := 3) rfl)) (hw _ (List.mem_of_getElem? (i := 2) rfl)) (by decide) (by decide)) (g := (mkF m 65 #[.val (.int codeA), .val (.int codeB), .val (.int msgA), .val (.int msgB), .val (.int mode), .val (.int q1), .val (.int q4), .val (.int q11), .val (.int (Int32.ofNat m16)), .val (.int q21), .val (.int q26), .unset, .unset, .unset, .unset, .unset, .unset, .unset, .unset, .unset, .unset, .unset, .unset, .unset, .unset, .unset, .unset] [(.int q27)])) rfl (by rw [hml]; rfl) (argsL := [(.int q27)]) (rest := []) (lenOf pd__I_C rfl) rfl (by show 2 * 0 + _ ≤ _; exact Nat.le_of_eq rfl) (Jvm.hb hby at_65) (fun _ _ => ⟨rfl, e25, (by decide : 0 + 0 ≤ _), (by decide : 0 + 0 ≤ _)⟩)
  dsimp only [Pt.U, Pt.locs, Pt.cells, Pt.slots] at X30 l30 y30 z30 st30 hQ30
  subst l30 y30 z30
  obtain ⟨rfl, N30q, e30⟩ := hQ30
  have N30 := Fr.app N25 N30q
  obtain ⟨q31, hq31⟩ : ∃ z : Int32, z = (own_digit_of q27) := ⟨_, rfl⟩
  rw [← hq31] at st30
  obtain ⟨m32, hq32, hl32, hg32⟩ := own_len3 codeB
  obtain ⟨q33, hq33⟩ : ∃ z : Int32, z = (ushr codeB (4 : Int32)) := ⟨_, rfl⟩
  have s34 : ∀ t_, Steps p.tables e below (T30.setTop (mkF m 82 #[.val (.int codeA), .val (.int codeB), .val (.int msgA), .val (.int msgB), .val (.int mode), .val (.int q1), .val (.int q4), .val (.int q11), .val (.int (Int32.ofNat m16)), .val (.int q21), .val (.int q26), .val (.int q31), .val (.int (Int32.ofNat m32)), .unset, .unset, .unset, .unset, .unset, .unset, .unset, .unset, .unset, .unset, .unset, .unset, .unset, .unset] [(.int q33)])) t_ → Steps p.tables e below (s₁.setTop (entryFrame m #[(.int codeA), (.int codeB), (.int msgA), (.int msgB), (.int mode)] maxLocals)) t_ := fun t_ k_ => s28 t_ (by
    show Steps p.tables e below (T25.setTop (mkF m 65 #[.val (.int codeA), .val (.int codeB), .val (.int msgA), .val (.int msgB), .val (.int mode), .val (.int q1), .val (.int q4), .val (.int q11), .val (.int (Int32.ofNat m16)), .val (.int q21), .val (.int q26), .unset, .unset, .unset, .unset, .unset, .unset, .unset, .unset, .unset, .unset, .unset, .unset, .unset, .unset, .unset, .unset] [(.int q27)])) t_
    refine st30 _ ?_
    show Steps p.tables e below (T30.setTop (mkF m 68 #[.val (.int codeA), .val (.int codeB), .val (.int msgA), .val (.int msgB), .val (.int mode), .val (.int q1), .val (.int q4), .val (.int q11), .val (.int (Int32.ofNat m16)), .val (.int q21), .val (.int q26), .unset, .unset, .unset, .unset, .unset, .unset, .unset, .unset, .unset, .unset, .unset, .unset, .unset, .unset, .unset, .unset] [(.int q31)])) _
    refine XS.istore X30.here hx rfl (Jvm.hb hby at_68) rfl (l' := #[.val (.int codeA), .val (.int codeB), .val (.int msgA), .val (.int msgB), .val (.int mode), .val (.int q1), .val (.int q4), .val (.int q11), .val (.int (Int32.ofNat m16)), .val (.int q21), .val (.int q26), .val (.int q31), .unset, .unset, .unset, .unset, .unset, .unset, .unset, .unset, .unset, .unset, .unset, .unset, .unset, .unset, .unset]) rfl ?_
    refine XS.iloadN X30.here hx rfl (Jvm.hb hby at_70) rfl ?_
    refine XS.iconst X30.here hx rfl (Jvm.hb hby at_71) ?_
    refine XS.iand X30.here hx rfl (Jvm.hb hby at_72) rfl ?_
    refine XS.iconst X30.here hx rfl (Jvm.hb hby at_73) ?_
    refine iremM (g := (mkF m 74 #[.val (.int codeA), .val (.int codeB), .val (.int msgA), .val (.int msgB), .val (.int mode), .val (.int q1), .val (.int q4), .val (.int q11), .val (.int (Int32.ofNat m16)), .val (.int q21), .val (.int q26), .val (.int q31), .unset, .unset, .unset, .unset, .unset, .unset, .unset, .unset, .unset, .unset, .unset, .unset, .unset, .unset, .unset] [(.int (3 : Int32)), (.int (codeB &&& (3 : Int32)))])) X30 hx rfl (Jvm.hb hby at_74) rfl (by decide) ?_
    show Steps p.tables e below (T30.setTop (mkF m 75 #[.val (.int codeA), .val (.int codeB), .val (.int msgA), .val (.int msgB), .val (.int mode), .val (.int q1), .val (.int q4), .val (.int q11), .val (.int (Int32.ofNat m16)), .val (.int q21), .val (.int q26), .val (.int q31), .unset, .unset, .unset, .unset, .unset, .unset, .unset, .unset, .unset, .unset, .unset, .unset, .unset, .unset, .unset] [(.int ((codeB &&& (3 : Int32)) % (3 : Int32)))])) _
    refine XS.iconst X30.here hx rfl (Jvm.hb hby at_75) ?_
    refine XS.iadd X30.here hx rfl (Jvm.hb hby at_76) rfl ?_
    refine XS.istore X30.here hx rfl (Jvm.hb hby at_77) rfl (l' := #[.val (.int codeA), .val (.int codeB), .val (.int msgA), .val (.int msgB), .val (.int mode), .val (.int q1), .val (.int q4), .val (.int q11), .val (.int (Int32.ofNat m16)), .val (.int q21), .val (.int q26), .val (.int q31), .val (.int (((codeB &&& (3 : Int32)) % (3 : Int32)) + (1 : Int32))), .unset, .unset, .unset, .unset, .unset, .unset, .unset, .unset, .unset, .unset, .unset, .unset, .unset, .unset]) rfl ?_
    refine XS.iloadN X30.here hx rfl (Jvm.hb hby at_79) rfl ?_
    refine XS.iconst X30.here hx rfl (Jvm.hb hby at_80) ?_
    refine XS.iushr X30.here hx rfl (Jvm.hb hby at_81) rfl ?_
    show Steps p.tables e below (T30.setTop (mkF m 82 #[.val (.int codeA), .val (.int codeB), .val (.int msgA), .val (.int msgB), .val (.int mode), .val (.int q1), .val (.int q4), .val (.int q11), .val (.int (Int32.ofNat m16)), .val (.int q21), .val (.int q26), .val (.int q31), .val (.int (((codeB &&& (3 : Int32)) % (3 : Int32)) + (1 : Int32))), .unset, .unset, .unset, .unset, .unset, .unset, .unset, .unset, .unset, .unset, .unset, .unset, .unset, .unset] [(.int (ushr codeB (4 : Int32)))])) _
    exact castTop (by simp only [hq32, hq33]) k_)
  have Zc35 : n0 ≤ h0.size := by omega
  obtain ⟨_, _, ⟨T36, L36, k36, n36⟩, -, X36, ⟨Lc36, hQ36, l36, y36, z36⟩, st36⟩ := Jvm.LawKit.callS X30 hx (y := (⟨"com/example/zastupnik/zastupnik/protocol/ServiceErrorEqualsPinLaw", "digit", "(I)C"⟩ : MethodName)) hown (mvT hZ (hw _ (List.mem_of_getElem? (i := 0) rfl))) (mvT hZ (hw _ (List.mem_of_getElem? (i := 1) rfl))) (mvT hZ (hw _ (List.mem_of_getElem? (i := 2) rfl))) (mvT hZ (hw _ (List.mem_of_getElem? (i := 3) rfl))) (by decide) (backOf (W := 0) (rmDig l Z a0 hw [] q33 h0 n0 Zc35) hZ (hw _ (List.mem_of_getElem? (i := 3) rfl)) (hw _ (List.mem_of_getElem? (i := 2) rfl)) (by decide) (by decide)) (g := (mkF m 82 #[.val (.int codeA), .val (.int codeB), .val (.int msgA), .val (.int msgB), .val (.int mode), .val (.int q1), .val (.int q4), .val (.int q11), .val (.int (Int32.ofNat m16)), .val (.int q21), .val (.int q26), .val (.int q31), .val (.int (Int32.ofNat m32)), .unset, .unset, .unset, .unset, .unset, .unset, .unset, .unset, .unset, .unset, .unset, .unset, .unset, .unset] [(.int q33)])) rfl (by rw [hml]; rfl) (argsL := [(.int q33)]) (rest := []) (lenOf pd__I_C rfl) rfl (by show 2 * 0 + _ ≤ _; exact Nat.le_of_eq rfl) (Jvm.hb hby at_82) (fun _ _ => ⟨rfl, e30, (by decide : 0 + 0 ≤ _), (by decide : 0 + 0 ≤ _)⟩)
  dsimp only [Pt.U, Pt.locs, Pt.cells, Pt.slots] at X36 l36 y36 z36 st36 hQ36
  subst l36 y36 z36
  obtain ⟨rfl, N36q, e36⟩ := hQ36
  have N36 := Fr.app N30 N36q
  obtain ⟨q37, hq37⟩ : ∃ z : Int32, z = (own_digit_of q33) := ⟨_, rfl⟩
  rw [← hq37] at st36
  obtain ⟨q38, hq38⟩ : ∃ z : Int32, z = (ushr codeB (8 : Int32)) := ⟨_, rfl⟩
  have s39 : ∀ t_, Steps p.tables e below (T36.setTop (mkF m 91 #[.val (.int codeA), .val (.int codeB), .val (.int msgA), .val (.int msgB), .val (.int mode), .val (.int q1), .val (.int q4), .val (.int q11), .val (.int (Int32.ofNat m16)), .val (.int q21), .val (.int q26), .val (.int q31), .val (.int (Int32.ofNat m32)), .val (.int q37), .unset, .unset, .unset, .unset, .unset, .unset, .unset, .unset, .unset, .unset, .unset, .unset, .unset] [(.int q38)])) t_ → Steps p.tables e below (s₁.setTop (entryFrame m #[(.int codeA), (.int codeB), (.int msgA), (.int msgB), (.int mode)] maxLocals)) t_ := fun t_ k_ => s34 t_ (by
    show Steps p.tables e below (T30.setTop (mkF m 82 #[.val (.int codeA), .val (.int codeB), .val (.int msgA), .val (.int msgB), .val (.int mode), .val (.int q1), .val (.int q4), .val (.int q11), .val (.int (Int32.ofNat m16)), .val (.int q21), .val (.int q26), .val (.int q31), .val (.int (Int32.ofNat m32)), .unset, .unset, .unset, .unset, .unset, .unset, .unset, .unset, .unset, .unset, .unset, .unset, .unset, .unset] [(.int q33)])) t_
    refine st36 _ ?_
    show Steps p.tables e below (T36.setTop (mkF m 85 #[.val (.int codeA), .val (.int codeB), .val (.int msgA), .val (.int msgB), .val (.int mode), .val (.int q1), .val (.int q4), .val (.int q11), .val (.int (Int32.ofNat m16)), .val (.int q21), .val (.int q26), .val (.int q31), .val (.int (Int32.ofNat m32)), .unset, .unset, .unset, .unset, .unset, .unset, .unset, .unset, .unset, .unset, .unset, .unset, .unset, .unset] [(.int q37)])) _
    refine XS.istore X36.here hx rfl (Jvm.hb hby at_85) rfl (l' := #[.val (.int codeA), .val (.int codeB), .val (.int msgA), .val (.int msgB), .val (.int mode), .val (.int q1), .val (.int q4), .val (.int q11), .val (.int (Int32.ofNat m16)), .val (.int q21), .val (.int q26), .val (.int q31), .val (.int (Int32.ofNat m32)), .val (.int q37), .unset, .unset, .unset, .unset, .unset, .unset, .unset, .unset, .unset, .unset, .unset, .unset, .unset]) rfl ?_
    refine XS.iloadN X36.here hx rfl (Jvm.hb hby at_87) rfl ?_
    refine XS.bipush X36.here hx rfl (Jvm.hb hby at_88) ?_
    refine XS.iushr X36.here hx rfl (Jvm.hb hby at_90) rfl ?_
    show Steps p.tables e below (T36.setTop (mkF m 91 #[.val (.int codeA), .val (.int codeB), .val (.int msgA), .val (.int msgB), .val (.int mode), .val (.int q1), .val (.int q4), .val (.int q11), .val (.int (Int32.ofNat m16)), .val (.int q21), .val (.int q26), .val (.int q31), .val (.int (Int32.ofNat m32)), .val (.int q37), .unset, .unset, .unset, .unset, .unset, .unset, .unset, .unset, .unset, .unset, .unset, .unset, .unset] [(.int (ushr codeB (8 : Int32)))])) t_
    exact castTop (by simp only [hq38]) k_)
  have Zc40 : n0 ≤ h0.size := by omega
  obtain ⟨_, _, ⟨T41, L41, k41, n41⟩, -, X41, ⟨Lc41, hQ41, l41, y41, z41⟩, st41⟩ := Jvm.LawKit.callS X36 hx (y := (⟨"com/example/zastupnik/zastupnik/protocol/ServiceErrorEqualsPinLaw", "digit", "(I)C"⟩ : MethodName)) hown (mvT hZ (hw _ (List.mem_of_getElem? (i := 0) rfl))) (mvT hZ (hw _ (List.mem_of_getElem? (i := 1) rfl))) (mvT hZ (hw _ (List.mem_of_getElem? (i := 2) rfl))) (mvT hZ (hw _ (List.mem_of_getElem? (i := 3) rfl))) (by decide) (backOf (W := 0) (rmDig l Z a0 hw [] q38 h0 n0 Zc40) hZ (hw _ (List.mem_of_getElem? (i := 3) rfl)) (hw _ (List.mem_of_getElem? (i := 2) rfl)) (by decide) (by decide)) (g := (mkF m 91 #[.val (.int codeA), .val (.int codeB), .val (.int msgA), .val (.int msgB), .val (.int mode), .val (.int q1), .val (.int q4), .val (.int q11), .val (.int (Int32.ofNat m16)), .val (.int q21), .val (.int q26), .val (.int q31), .val (.int (Int32.ofNat m32)), .val (.int q37), .unset, .unset, .unset, .unset, .unset, .unset, .unset, .unset, .unset, .unset, .unset, .unset, .unset] [(.int q38)])) rfl (by rw [hml]; rfl) (argsL := [(.int q38)]) (rest := []) (lenOf pd__I_C rfl) rfl (by show 2 * 0 + _ ≤ _; exact Nat.le_of_eq rfl) (Jvm.hb hby at_91) (fun _ _ => ⟨rfl, e36, (by decide : 0 + 0 ≤ _), (by decide : 0 + 0 ≤ _)⟩)
  dsimp only [Pt.U, Pt.locs, Pt.cells, Pt.slots] at X41 l41 y41 z41 st41 hQ41
  subst l41 y41 z41
  obtain ⟨rfl, N41q, e41⟩ := hQ41
  have N41 := Fr.app N36 N41q
  obtain ⟨q42, hq42⟩ : ∃ z : Int32, z = (own_digit_of q38) := ⟨_, rfl⟩
  rw [← hq42] at st41
  obtain ⟨q43, hq43⟩ : ∃ z : Int32, z = (ushr codeB (12 : Int32)) := ⟨_, rfl⟩
  have s44 : ∀ t_, Steps p.tables e below (T41.setTop (mkF m 100 #[.val (.int codeA), .val (.int codeB), .val (.int msgA), .val (.int msgB), .val (.int mode), .val (.int q1), .val (.int q4), .val (.int q11), .val (.int (Int32.ofNat m16)), .val (.int q21), .val (.int q26), .val (.int q31), .val (.int (Int32.ofNat m32)), .val (.int q37), .val (.int q42), .unset, .unset, .unset, .unset, .unset, .unset, .unset, .unset, .unset, .unset, .unset, .unset] [(.int q43)])) t_ → Steps p.tables e below (s₁.setTop (entryFrame m #[(.int codeA), (.int codeB), (.int msgA), (.int msgB), (.int mode)] maxLocals)) t_ := fun t_ k_ => s39 t_ (by
    show Steps p.tables e below (T36.setTop (mkF m 91 #[.val (.int codeA), .val (.int codeB), .val (.int msgA), .val (.int msgB), .val (.int mode), .val (.int q1), .val (.int q4), .val (.int q11), .val (.int (Int32.ofNat m16)), .val (.int q21), .val (.int q26), .val (.int q31), .val (.int (Int32.ofNat m32)), .val (.int q37), .unset, .unset, .unset, .unset, .unset, .unset, .unset, .unset, .unset, .unset, .unset, .unset, .unset] [(.int q38)])) t_
    refine st41 _ ?_
    show Steps p.tables e below (T41.setTop (mkF m 94 #[.val (.int codeA), .val (.int codeB), .val (.int msgA), .val (.int msgB), .val (.int mode), .val (.int q1), .val (.int q4), .val (.int q11), .val (.int (Int32.ofNat m16)), .val (.int q21), .val (.int q26), .val (.int q31), .val (.int (Int32.ofNat m32)), .val (.int q37), .unset, .unset, .unset, .unset, .unset, .unset, .unset, .unset, .unset, .unset, .unset, .unset, .unset] [(.int q42)])) _
    refine XS.istore X41.here hx rfl (Jvm.hb hby at_94) rfl (l' := #[.val (.int codeA), .val (.int codeB), .val (.int msgA), .val (.int msgB), .val (.int mode), .val (.int q1), .val (.int q4), .val (.int q11), .val (.int (Int32.ofNat m16)), .val (.int q21), .val (.int q26), .val (.int q31), .val (.int (Int32.ofNat m32)), .val (.int q37), .val (.int q42), .unset, .unset, .unset, .unset, .unset, .unset, .unset, .unset, .unset, .unset, .unset, .unset]) rfl ?_
    refine XS.iloadN X41.here hx rfl (Jvm.hb hby at_96) rfl ?_
    refine XS.bipush X41.here hx rfl (Jvm.hb hby at_97) ?_
    refine XS.iushr X41.here hx rfl (Jvm.hb hby at_99) rfl ?_
    show Steps p.tables e below (T41.setTop (mkF m 100 #[.val (.int codeA), .val (.int codeB), .val (.int msgA), .val (.int msgB), .val (.int mode), .val (.int q1), .val (.int q4), .val (.int q11), .val (.int (Int32.ofNat m16)), .val (.int q21), .val (.int q26), .val (.int q31), .val (.int (Int32.ofNat m32)), .val (.int q37), .val (.int q42), .unset, .unset, .unset, .unset, .unset, .unset, .unset, .unset, .unset, .unset, .unset, .unset] [(.int (ushr codeB (12 : Int32)))])) t_
    exact castTop (by simp only [hq43]) k_)
  have Zc45 : n0 ≤ h0.size := by omega
  obtain ⟨_, _, ⟨T46, L46, k46, n46⟩, -, X46, ⟨Lc46, hQ46, l46, y46, z46⟩, st46⟩ := Jvm.LawKit.callS X41 hx (y := (⟨"com/example/zastupnik/zastupnik/protocol/ServiceErrorEqualsPinLaw", "digit", "(I)C"⟩ : MethodName)) hown (mvT hZ (hw _ (List.mem_of_getElem? (i := 0) rfl))) (mvT hZ (hw _ (List.mem_of_getElem? (i := 1) rfl))) (mvT hZ (hw _ (List.mem_of_getElem? (i := 2) rfl))) (mvT hZ (hw _ (List.mem_of_getElem? (i := 3) rfl))) (by decide) (backOf (W := 0) (rmDig l Z a0 hw [] q43 h0 n0 Zc45) hZ (hw _ (List.mem_of_getElem? (i := 3) rfl)) (hw _ (List.mem_of_getElem? (i := 2) rfl)) (by decide) (by decide)) (g := (mkF m 100 #[.val (.int codeA), .val (.int codeB), .val (.int msgA), .val (.int msgB), .val (.int mode), .val (.int q1), .val (.int q4), .val (.int q11), .val (.int (Int32.ofNat m16)), .val (.int q21), .val (.int q26), .val (.int q31), .val (.int (Int32.ofNat m32)), .val (.int q37), .val (.int q42), .unset, .unset, .unset, .unset, .unset, .unset, .unset, .unset, .unset, .unset, .unset, .unset] [(.int q43)])) rfl (by rw [hml]; rfl) (argsL := [(.int q43)]) (rest := []) (lenOf pd__I_C rfl) rfl (by show 2 * 0 + _ ≤ _; exact Nat.le_of_eq rfl) (Jvm.hb hby at_100) (fun _ _ => ⟨rfl, e41, (by decide : 0 + 0 ≤ _), (by decide : 0 + 0 ≤ _)⟩)
  dsimp only [Pt.U, Pt.locs, Pt.cells, Pt.slots] at X46 l46 y46 z46 st46 hQ46
  subst l46 y46 z46
  obtain ⟨rfl, N46q, e46⟩ := hQ46
  have N46 := Fr.app N41 N46q
  obtain ⟨q47, hq47⟩ : ∃ z : Int32, z = (own_digit_of q43) := ⟨_, rfl⟩
  rw [← hq47] at st46
  have s48 : ∀ t_, Steps p.tables e below (T46.setTop (mkF m 107 #[.val (.int codeA), .val (.int codeB), .val (.int msgA), .val (.int msgB), .val (.int mode), .val (.int q1), .val (.int q4), .val (.int q11), .val (.int (Int32.ofNat m16)), .val (.int q21), .val (.int q26), .val (.int q31), .val (.int (Int32.ofNat m32)), .val (.int q37), .val (.int q42), .val (.int q47), .unset, .unset, .unset, .unset, .unset, .unset, .unset, .unset, .unset, .unset, .unset] [(.int q4)])) t_ → Steps p.tables e below (s₁.setTop (entryFrame m #[(.int codeA), (.int codeB), (.int msgA), (.int msgB), (.int mode)] maxLocals)) t_ := fun t_ k_ => s44 t_ (by
    show Steps p.tables e below (T41.setTop (mkF m 100 #[.val (.int codeA), .val (.int codeB), .val (.int msgA), .val (.int msgB), .val (.int mode), .val (.int q1), .val (.int q4), .val (.int q11), .val (.int (Int32.ofNat m16)), .val (.int q21), .val (.int q26), .val (.int q31), .val (.int (Int32.ofNat m32)), .val (.int q37), .val (.int q42), .unset, .unset, .unset, .unset, .unset, .unset, .unset, .unset, .unset, .unset, .unset, .unset] [(.int q43)])) t_
    refine st46 _ ?_
    show Steps p.tables e below (T46.setTop (mkF m 103 #[.val (.int codeA), .val (.int codeB), .val (.int msgA), .val (.int msgB), .val (.int mode), .val (.int q1), .val (.int q4), .val (.int q11), .val (.int (Int32.ofNat m16)), .val (.int q21), .val (.int q26), .val (.int q31), .val (.int (Int32.ofNat m32)), .val (.int q37), .val (.int q42), .unset, .unset, .unset, .unset, .unset, .unset, .unset, .unset, .unset, .unset, .unset, .unset] [(.int q47)])) _
    refine XS.istore X46.here hx rfl (Jvm.hb hby at_103) rfl (l' := #[.val (.int codeA), .val (.int codeB), .val (.int msgA), .val (.int msgB), .val (.int mode), .val (.int q1), .val (.int q4), .val (.int q11), .val (.int (Int32.ofNat m16)), .val (.int q21), .val (.int q26), .val (.int q31), .val (.int (Int32.ofNat m32)), .val (.int q37), .val (.int q42), .val (.int q47), .unset, .unset, .unset, .unset, .unset, .unset, .unset, .unset, .unset, .unset, .unset]) rfl ?_
    refine XS.iload X46.here hx rfl (Jvm.hb hby at_105) rfl ?_
    show Steps p.tables e below (T46.setTop (mkF m 107 #[.val (.int codeA), .val (.int codeB), .val (.int msgA), .val (.int msgB), .val (.int mode), .val (.int q1), .val (.int q4), .val (.int q11), .val (.int (Int32.ofNat m16)), .val (.int q21), .val (.int q26), .val (.int q31), .val (.int (Int32.ofNat m32)), .val (.int q37), .val (.int q42), .val (.int q47), .unset, .unset, .unset, .unset, .unset, .unset, .unset, .unset, .unset, .unset, .unset] [(.int q4)])) t_
    exact k_)
  obtain ⟨q49, hq49⟩ : ∃ z : Int32, z = (if q4 = (0 : Int32) then (Int32.ofNat m32) else (Int32.ofNat m16)) := ⟨_, rfl⟩
  obtain ⟨q50, hq50⟩ : ∃ z : Int32, z = (if q4 = (0 : Int32) then q37 else q21) := ⟨_, rfl⟩
  obtain ⟨q51, hq51⟩ : ∃ z : Int32, z = (if q4 = (0 : Int32) then q42 else q26) := ⟨_, rfl⟩
  obtain ⟨q52, hq52⟩ : ∃ z : Int32, z = (if q4 = (0 : Int32) then q47 else q31) := ⟨_, rfl⟩
  obtain ⟨T53, X53, e53, s53⟩ := seg X46 (fun T' => T'.heap = h0 ∧ ∀ t_, Steps p.tables e below (T'.setTop (mkF m 126 #[.val (.int codeA), .val (.int codeB), .val (.int msgA), .val (.int msgB), .val (.int mode), .val (.int q1), .val (.int q4), .val (.int q11), .val (.int (Int32.ofNat m16)), .val (.int q21), .val (.int q26), .val (.int q31), .val (.int q49), .val (.int q50), .val (.int q51), .val (.int q52), .unset, .unset, .unset, .unset, .unset, .unset, .unset, .unset, .unset, .unset, .unset] [])) t_ → Steps p.tables e below (s₁.setTop (entryFrame m #[(.int codeA), (.int codeB), (.int msgA), (.int msgB), (.int mode)] maxLocals)) t_) (by
    by_cases h54 : q4 = (0 : Int32)
    · have s55 : ∀ t_, Steps p.tables e below (T46.setTop (mkF m 126 #[.val (.int codeA), .val (.int codeB), .val (.int msgA), .val (.int msgB), .val (.int mode), .val (.int q1), .val (.int q4), .val (.int q11), .val (.int (Int32.ofNat m16)), .val (.int q21), .val (.int q26), .val (.int q31), .val (.int (Int32.ofNat m32)), .val (.int q37), .val (.int q42), .val (.int q47), .unset, .unset, .unset, .unset, .unset, .unset, .unset, .unset, .unset, .unset, .unset] [])) t_ → Steps p.tables e below (s₁.setTop (entryFrame m #[(.int codeA), (.int codeB), (.int msgA), (.int msgB), (.int mode)] maxLocals)) t_ := fun t_ k_ => s48 t_ (by
        show Steps p.tables e below (T46.setTop (mkF m 107 #[.val (.int codeA), .val (.int codeB), .val (.int msgA), .val (.int msgB), .val (.int mode), .val (.int q1), .val (.int q4), .val (.int q11), .val (.int (Int32.ofNat m16)), .val (.int q21), .val (.int q26), .val (.int q31), .val (.int (Int32.ofNat m32)), .val (.int q37), .val (.int q42), .val (.int q47), .unset, .unset, .unset, .unset, .unset, .unset, .unset, .unset, .unset, .unset, .unset] [(.int q4)])) t_
        refine XS.ifYes X46.here hx rfl (pc0 := 107) (pc' := 126) rfl (Jvm.hb hby at_107) rfl ((if0 _ _).trans (teq h54).1) (by decide) (by decide) ?_
        show Steps p.tables e below (T46.setTop (mkF m 126 #[.val (.int codeA), .val (.int codeB), .val (.int msgA), .val (.int msgB), .val (.int mode), .val (.int q1), .val (.int q4), .val (.int q11), .val (.int (Int32.ofNat m16)), .val (.int q21), .val (.int q26), .val (.int q31), .val (.int (Int32.ofNat m32)), .val (.int q37), .val (.int q42), .val (.int q47), .unset, .unset, .unset, .unset, .unset, .unset, .unset, .unset, .unset, .unset, .unset] [])) _
        show Steps p.tables e below (T46.setTop (mkF m 126 #[.val (.int codeA), .val (.int codeB), .val (.int msgA), .val (.int msgB), .val (.int mode), .val (.int q1), .val (.int q4), .val (.int q11), .val (.int (Int32.ofNat m16)), .val (.int q21), .val (.int q26), .val (.int q31), .val (.int (Int32.ofNat m32)), .val (.int q37), .val (.int q42), .val (.int q47), .unset, .unset, .unset, .unset, .unset, .unset, .unset, .unset, .unset, .unset, .unset] [])) t_
        exact k_)
      exact ⟨T46, X46, e46, fun t_ k_ => s55 t_ (castTop (by simp only [hq49, hq50, hq51, hq52, if_pos h54]) k_)⟩
    · have s56 : ∀ t_, Steps p.tables e below (T46.setTop (mkF m 126 #[.val (.int codeA), .val (.int codeB), .val (.int msgA), .val (.int msgB), .val (.int mode), .val (.int q1), .val (.int q4), .val (.int q11), .val (.int (Int32.ofNat m16)), .val (.int q21), .val (.int q26), .val (.int q31), .val (.int (Int32.ofNat m16)), .val (.int q21), .val (.int q26), .val (.int q31), .unset, .unset, .unset, .unset, .unset, .unset, .unset, .unset, .unset, .unset, .unset] [])) t_ → Steps p.tables e below (s₁.setTop (entryFrame m #[(.int codeA), (.int codeB), (.int msgA), (.int msgB), (.int mode)] maxLocals)) t_ := fun t_ k_ => s48 t_ (by
        show Steps p.tables e below (T46.setTop (mkF m 107 #[.val (.int codeA), .val (.int codeB), .val (.int msgA), .val (.int msgB), .val (.int mode), .val (.int q1), .val (.int q4), .val (.int q11), .val (.int (Int32.ofNat m16)), .val (.int q21), .val (.int q26), .val (.int q31), .val (.int (Int32.ofNat m32)), .val (.int q37), .val (.int q42), .val (.int q47), .unset, .unset, .unset, .unset, .unset, .unset, .unset, .unset, .unset, .unset, .unset] [(.int q4)])) t_
        refine XS.ifNo X46.here hx rfl (Jvm.hb hby at_107) rfl ((if0 _ _).trans (feq h54).1) ?_
        show Steps p.tables e below (T46.setTop (mkF m 110 #[.val (.int codeA), .val (.int codeB), .val (.int msgA), .val (.int msgB), .val (.int mode), .val (.int q1), .val (.int q4), .val (.int q11), .val (.int (Int32.ofNat m16)), .val (.int q21), .val (.int q26), .val (.int q31), .val (.int (Int32.ofNat m32)), .val (.int q37), .val (.int q42), .val (.int q47), .unset, .unset, .unset, .unset, .unset, .unset, .unset, .unset, .unset, .unset, .unset] [])) _
        refine XS.iload X46.here hx rfl (Jvm.hb hby at_110) rfl ?_
        refine XS.istore X46.here hx rfl (Jvm.hb hby at_112) rfl (l' := #[.val (.int codeA), .val (.int codeB), .val (.int msgA), .val (.int msgB), .val (.int mode), .val (.int q1), .val (.int q4), .val (.int q11), .val (.int (Int32.ofNat m16)), .val (.int q21), .val (.int q26), .val (.int q31), .val (.int (Int32.ofNat m16)), .val (.int q37), .val (.int q42), .val (.int q47), .unset, .unset, .unset, .unset, .unset, .unset, .unset, .unset, .unset, .unset, .unset]) rfl ?_
        refine XS.iload X46.here hx rfl (Jvm.hb hby at_114) rfl ?_
        refine XS.istore X46.here hx rfl (Jvm.hb hby at_116) rfl (l' := #[.val (.int codeA), .val (.int codeB), .val (.int msgA), .val (.int msgB), .val (.int mode), .val (.int q1), .val (.int q4), .val (.int q11), .val (.int (Int32.ofNat m16)), .val (.int q21), .val (.int q26), .val (.int q31), .val (.int (Int32.ofNat m16)), .val (.int q21), .val (.int q42), .val (.int q47), .unset, .unset, .unset, .unset, .unset, .unset, .unset, .unset, .unset, .unset, .unset]) rfl ?_
        refine XS.iload X46.here hx rfl (Jvm.hb hby at_118) rfl ?_
        refine XS.istore X46.here hx rfl (Jvm.hb hby at_120) rfl (l' := #[.val (.int codeA), .val (.int codeB), .val (.int msgA), .val (.int msgB), .val (.int mode), .val (.int q1), .val (.int q4), .val (.int q11), .val (.int (Int32.ofNat m16)), .val (.int q21), .val (.int q26), .val (.int q31), .val (.int (Int32.ofNat m16)), .val (.int q21), .val (.int q26), .val (.int q47), .unset, .unset, .unset, .unset, .unset, .unset, .unset, .unset, .unset, .unset, .unset]) rfl ?_
        show Steps p.tables e below (T46.setTop (mkF m 122 #[.val (.int codeA), .val (.int codeB), .val (.int msgA), .val (.int msgB), .val (.int mode), .val (.int q1), .val (.int q4), .val (.int q11), .val (.int (Int32.ofNat m16)), .val (.int q21), .val (.int q26), .val (.int q31), .val (.int (Int32.ofNat m16)), .val (.int q21), .val (.int q26), .val (.int q47), .unset, .unset, .unset, .unset, .unset, .unset, .unset, .unset, .unset, .unset, .unset] [])) _
        refine XS.iload X46.here hx rfl (Jvm.hb hby at_122) rfl ?_
        refine XS.istore X46.here hx rfl (Jvm.hb hby at_124) rfl (l' := #[.val (.int codeA), .val (.int codeB), .val (.int msgA), .val (.int msgB), .val (.int mode), .val (.int q1), .val (.int q4), .val (.int q11), .val (.int (Int32.ofNat m16)), .val (.int q21), .val (.int q26), .val (.int q31), .val (.int (Int32.ofNat m16)), .val (.int q21), .val (.int q26), .val (.int q31), .unset, .unset, .unset, .unset, .unset, .unset, .unset, .unset, .unset, .unset, .unset]) rfl ?_
        show Steps p.tables e below (T46.setTop (mkF m 126 #[.val (.int codeA), .val (.int codeB), .val (.int msgA), .val (.int msgB), .val (.int mode), .val (.int q1), .val (.int q4), .val (.int q11), .val (.int (Int32.ofNat m16)), .val (.int q21), .val (.int q26), .val (.int q31), .val (.int (Int32.ofNat m16)), .val (.int q21), .val (.int q26), .val (.int q31), .unset, .unset, .unset, .unset, .unset, .unset, .unset, .unset, .unset, .unset, .unset] [])) t_
        exact k_)
      exact ⟨T46, X46, e46, fun t_ k_ => s56 t_ (castTop (by simp only [hq49, hq50, hq51, hq52, if_neg h54]) k_)⟩)
  obtain ⟨m57, hq57, hl57⟩ := own_and3 msgA
  obtain ⟨q58, hq58⟩ : ∃ z : Int32, z = (i2c ((ushr msgA (8 : Int32)) &&& (255 : Int32))) := ⟨_, rfl⟩
  obtain ⟨q59, hq59⟩ : ∃ z : Int32, z = (i2c ((ushr msgA (16 : Int32)) &&& (255 : Int32))) := ⟨_, rfl⟩
  obtain ⟨q60, hq60⟩ : ∃ z : Int32, z = (i2c ((ushr msgA (24 : Int32)) &&& (255 : Int32))) := ⟨_, rfl⟩
  obtain ⟨m61, hq61, hl61⟩ := own_and3 msgB
  obtain ⟨q62, hq62⟩ : ∃ z : Int32, z = (i2c ((ushr msgB (8 : Int32)) &&& (255 : Int32))) := ⟨_, rfl⟩
  obtain ⟨q63, hq63⟩ : ∃ z : Int32, z = (i2c ((ushr msgB (16 : Int32)) &&& (255 : Int32))) := ⟨_, rfl⟩
  obtain ⟨q64, hq64⟩ : ∃ z : Int32, z = (i2c ((ushr msgB (24 : Int32)) &&& (255 : Int32))) := ⟨_, rfl⟩
  have s65 : ∀ t_, Steps p.tables e below (T53.setTop (mkF m 204 #[.val (.int codeA), .val (.int codeB), .val (.int msgA), .val (.int msgB), .val (.int mode), .val (.int q1), .val (.int q4), .val (.int q11), .val (.int (Int32.ofNat m16)), .val (.int q21), .val (.int q26), .val (.int q31), .val (.int q49), .val (.int q50), .val (.int q51), .val (.int q52), .val (.int (Int32.ofNat m57)), .val (.int q58), .val (.int q59), .val (.int q60), .val (.int (Int32.ofNat m61)), .val (.int q62), .val (.int q63), .val (.int q64), .unset, .unset, .unset] [(.int q11)])) t_ → Steps p.tables e below (s₁.setTop (entryFrame m #[(.int codeA), (.int codeB), (.int msgA), (.int msgB), (.int mode)] maxLocals)) t_ := fun t_ k_ => s53 t_ (by
    show Steps p.tables e below (T53.setTop (mkF m 126 #[.val (.int codeA), .val (.int codeB), .val (.int msgA), .val (.int msgB), .val (.int mode), .val (.int q1), .val (.int q4), .val (.int q11), .val (.int (Int32.ofNat m16)), .val (.int q21), .val (.int q26), .val (.int q31), .val (.int q49), .val (.int q50), .val (.int q51), .val (.int q52), .unset, .unset, .unset, .unset, .unset, .unset, .unset, .unset, .unset, .unset, .unset] [])) t_
    refine XS.iloadN X53.here hx rfl (Jvm.hb hby at_126) rfl ?_
    refine XS.iconst X53.here hx rfl (Jvm.hb hby at_127) ?_
    refine XS.iand X53.here hx rfl (Jvm.hb hby at_128) rfl ?_
    refine XS.istore X53.here hx rfl (Jvm.hb hby at_129) rfl (l' := #[.val (.int codeA), .val (.int codeB), .val (.int msgA), .val (.int msgB), .val (.int mode), .val (.int q1), .val (.int q4), .val (.int q11), .val (.int (Int32.ofNat m16)), .val (.int q21), .val (.int q26), .val (.int q31), .val (.int q49), .val (.int q50), .val (.int q51), .val (.int q52), .val (.int (msgA &&& (3 : Int32))), .unset, .unset, .unset, .unset, .unset, .unset, .unset, .unset, .unset, .unset]) rfl ?_
    show Steps p.tables e below (T53.setTop (mkF m 131 #[.val (.int codeA), .val (.int codeB), .val (.int msgA), .val (.int msgB), .val (.int mode), .val (.int q1), .val (.int q4), .val (.int q11), .val (.int (Int32.ofNat m16)), .val (.int q21), .val (.int q26), .val (.int q31), .val (.int q49), .val (.int q50), .val (.int q51), .val (.int q52), .val (.int (msgA &&& (3 : Int32))), .unset, .unset, .unset, .unset, .unset, .unset, .unset, .unset, .unset, .unset] [])) _
    refine XS.iloadN X53.here hx rfl (Jvm.hb hby at_131) rfl ?_
    refine XS.bipush X53.here hx rfl (Jvm.hb hby at_132) ?_
    refine XS.iushr X53.here hx rfl (Jvm.hb hby at_134) rfl ?_
    refine XS.sipush X53.here hx rfl (Jvm.hb hby at_135) ?_
    refine XS.iand X53.here hx rfl (Jvm.hb hby at_138) rfl ?_
    refine XS.i2c X53.here hx rfl (Jvm.hb hby at_139) rfl ?_
    show Steps p.tables e below (T53.setTop (mkF m 140 #[.val (.int codeA), .val (.int codeB), .val (.int msgA), .val (.int msgB), .val (.int mode), .val (.int q1), .val (.int q4), .val (.int q11), .val (.int (Int32.ofNat m16)), .val (.int q21), .val (.int q26), .val (.int q31), .val (.int q49), .val (.int q50), .val (.int q51), .val (.int q52), .val (.int (msgA &&& (3 : Int32))), .unset, .unset, .unset, .unset, .unset, .unset, .unset, .unset, .unset, .unset] [(.int (i2c ((ushr msgA (8 : Int32)) &&& (255 : Int32))))])) _
    refine XS.istore X53.here hx rfl (Jvm.hb hby at_140) rfl (l' := #[.val (.int codeA), .val (.int codeB), .val (.int msgA), .val (.int msgB), .val (.int mode), .val (.int q1), .val (.int q4), .val (.int q11), .val (.int (Int32.ofNat m16)), .val (.int q21), .val (.int q26), .val (.int q31), .val (.int q49), .val (.int q50), .val (.int q51), .val (.int q52), .val (.int (msgA &&& (3 : Int32))), .val (.int (i2c ((ushr msgA (8 : Int32)) &&& (255 : Int32)))), .unset, .unset, .unset, .unset, .unset, .unset, .unset, .unset, .unset]) rfl ?_
    refine XS.iloadN X53.here hx rfl (Jvm.hb hby at_142) rfl ?_
    refine XS.bipush X53.here hx rfl (Jvm.hb hby at_143) ?_
    refine XS.iushr X53.here hx rfl (Jvm.hb hby at_145) rfl ?_
    refine XS.sipush X53.here hx rfl (Jvm.hb hby at_146) ?_
    refine XS.iand X53.here hx rfl (Jvm.hb hby at_149) rfl ?_
    show Steps p.tables e below (T53.setTop (mkF m 150 #[.val (.int codeA), .val (.int codeB), .val (.int msgA), .val (.int msgB), .val (.int mode), .val (.int q1), .val (.int q4), .val (.int q11), .val (.int (Int32.ofNat m16)), .val (.int q21), .val (.int q26), .val (.int q31), .val (.int q49), .val (.int q50), .val (.int q51), .val (.int q52), .val (.int (msgA &&& (3 : Int32))), .val (.int (i2c ((ushr msgA (8 : Int32)) &&& (255 : Int32)))), .unset, .unset, .unset, .unset, .unset, .unset, .unset, .unset, .unset] [(.int ((ushr msgA (16 : Int32)) &&& (255 : Int32)))])) _
    refine XS.i2c X53.here hx rfl (Jvm.hb hby at_150) rfl ?_
    refine XS.istore X53.here hx rfl (Jvm.hb hby at_151) rfl (l' := #[.val (.int codeA), .val (.int codeB), .val (.int msgA), .val (.int msgB), .val (.int mode), .val (.int q1), .val (.int q4), .val (.int q11), .val (.int (Int32.ofNat m16)), .val (.int q21), .val (.int q26), .val (.int q31), .val (.int q49), .val (.int q50), .val (.int q51), .val (.int q52), .val (.int (msgA &&& (3 : Int32))), .val (.int (i2c ((ushr msgA (8 : Int32)) &&& (255 : Int32)))), .val (.int (i2c ((ushr msgA (16 : Int32)) &&& (255 : Int32)))), .unset, .unset, .unset, .unset, .unset, .unset, .unset, .unset]) rfl ?_
    refine XS.iloadN X53.here hx rfl (Jvm.hb hby at_153) rfl ?_
    refine XS.bipush X53.here hx rfl (Jvm.hb hby at_154) ?_
    refine XS.iushr X53.here hx rfl (Jvm.hb hby at_156) rfl ?_
    refine XS.sipush X53.here hx rfl (Jvm.hb hby at_157) ?_
    show Steps p.tables e below (T53.setTop (mkF m 160 #[.val (.int codeA), .val (.int codeB), .val (.int msgA), .val (.int msgB), .val (.int mode), .val (.int q1), .val (.int q4), .val (.int q11), .val (.int (Int32.ofNat m16)), .val (.int q21), .val (.int q26), .val (.int q31), .val (.int q49), .val (.int q50), .val (.int q51), .val (.int q52), .val (.int (msgA &&& (3 : Int32))), .val (.int (i2c ((ushr msgA (8 : Int32)) &&& (255 : Int32)))), .val (.int (i2c ((ushr msgA (16 : Int32)) &&& (255 : Int32)))), .unset, .unset, .unset, .unset, .unset, .unset, .unset, .unset] [(.int (255 : Int32)), (.int (ushr msgA (24 : Int32)))])) _
    refine XS.iand X53.here hx rfl (Jvm.hb hby at_160) rfl ?_
    refine XS.i2c X53.here hx rfl (Jvm.hb hby at_161) rfl ?_
    refine XS.istore X53.here hx rfl (Jvm.hb hby at_162) rfl (l' := #[.val (.int codeA), .val (.int codeB), .val (.int msgA), .val (.int msgB), .val (.int mode), .val (.int q1), .val (.int q4), .val (.int q11), .val (.int (Int32.ofNat m16)), .val (.int q21), .val (.int q26), .val (.int q31), .val (.int q49), .val (.int q50), .val (.int q51), .val (.int q52), .val (.int (msgA &&& (3 : Int32))), .val (.int (i2c ((ushr msgA (8 : Int32)) &&& (255 : Int32)))), .val (.int (i2c ((ushr msgA (16 : Int32)) &&& (255 : Int32)))), .val (.int (i2c ((ushr msgA (24 : Int32)) &&& (255 : Int32)))), .unset, .unset, .unset, .unset, .unset, .unset, .unset]) rfl ?_
    refine XS.iloadN X53.here hx rfl (Jvm.hb hby at_164) rfl ?_
    refine XS.iconst X53.here hx rfl (Jvm.hb hby at_165) ?_
    refine XS.iand X53.here hx rfl (Jvm.hb hby at_166) rfl ?_
    show Steps p.tables e below (T53.setTop (mkF m 167 #[.val (.int codeA), .val (.int codeB), .val (.int msgA), .val (.int msgB), .val (.int mode), .val (.int q1), .val (.int q4), .val (.int q11), .val (.int (Int32.ofNat m16)), .val (.int q21), .val (.int q26), .val (.int q31), .val (.int q49), .val (.int q50), .val (.int q51), .val (.int q52), .val (.int (msgA &&& (3 : Int32))), .val (.int (i2c ((ushr msgA (8 : Int32)) &&& (255 : Int32)))), .val (.int (i2c ((ushr msgA (16 : Int32)) &&& (255 : Int32)))), .val (.int (i2c ((ushr msgA (24 : Int32)) &&& (255 : Int32)))), .unset, .unset, .unset, .unset, .unset, .unset, .unset] [(.int (msgB &&& (3 : Int32)))])) _
    refine XS.istore X53.here hx rfl (Jvm.hb hby at_167) rfl (l' := #[.val (.int codeA), .val (.int codeB), .val (.int msgA), .val (.int msgB), .val (.int mode), .val (.int q1), .val (.int q4), .val (.int q11), .val (.int (Int32.ofNat m16)), .val (.int q21), .val (.int q26), .val (.int q31), .val (.int q49), .val (.int q50), .val (.int q51), .val (.int q52), .val (.int (msgA &&& (3 : Int32))), .val (.int (i2c ((ushr msgA (8 : Int32)) &&& (255 : Int32)))), .val (.int (i2c ((ushr msgA (16 : Int32)) &&& (255 : Int32)))), .val (.int (i2c ((ushr msgA (24 : Int32)) &&& (255 : Int32)))), .val (.int (msgB &&& (3 : Int32))), .unset, .unset, .unset, .unset, .unset, .unset]) rfl ?_
    refine XS.iloadN X53.here hx rfl (Jvm.hb hby at_169) rfl ?_
    refine XS.bipush X53.here hx rfl (Jvm.hb hby at_170) ?_
    refine XS.iushr X53.here hx rfl (Jvm.hb hby at_172) rfl ?_
    refine XS.sipush X53.here hx rfl (Jvm.hb hby at_173) ?_
    refine XS.iand X53.here hx rfl (Jvm.hb hby at_176) rfl ?_
    show Steps p.tables e below (T53.setTop (mkF m 177 #[.val (.int codeA), .val (.int codeB), .val (.int msgA), .val (.int msgB), .val (.int mode), .val (.int q1), .val (.int q4), .val (.int q11), .val (.int (Int32.ofNat m16)), .val (.int q21), .val (.int q26), .val (.int q31), .val (.int q49), .val (.int q50), .val (.int q51), .val (.int q52), .val (.int (msgA &&& (3 : Int32))), .val (.int (i2c ((ushr msgA (8 : Int32)) &&& (255 : Int32)))), .val (.int (i2c ((ushr msgA (16 : Int32)) &&& (255 : Int32)))), .val (.int (i2c ((ushr msgA (24 : Int32)) &&& (255 : Int32)))), .val (.int (msgB &&& (3 : Int32))), .unset, .unset, .unset, .unset, .unset, .unset] [(.int ((ushr msgB (8 : Int32)) &&& (255 : Int32)))])) _
    refine XS.i2c X53.here hx rfl (Jvm.hb hby at_177) rfl ?_
    refine XS.istore X53.here hx rfl (Jvm.hb hby at_178) rfl (l' := #[.val (.int codeA), .val (.int codeB), .val (.int msgA), .val (.int msgB), .val (.int mode), .val (.int q1), .val (.int q4), .val (.int q11), .val (.int (Int32.ofNat m16)), .val (.int q21), .val (.int q26), .val (.int q31), .val (.int q49), .val (.int q50), .val (.int q51), .val (.int q52), .val (.int (msgA &&& (3 : Int32))), .val (.int (i2c ((ushr msgA (8 : Int32)) &&& (255 : Int32)))), .val (.int (i2c ((ushr msgA (16 : Int32)) &&& (255 : Int32)))), .val (.int (i2c ((ushr msgA (24 : Int32)) &&& (255 : Int32)))), .val (.int (msgB &&& (3 : Int32))), .val (.int (i2c ((ushr msgB (8 : Int32)) &&& (255 : Int32)))), .unset, .unset, .unset, .unset, .unset]) rfl ?_
    refine XS.iloadN X53.here hx rfl (Jvm.hb hby at_180) rfl ?_
    refine XS.bipush X53.here hx rfl (Jvm.hb hby at_181) ?_
    refine XS.iushr X53.here hx rfl (Jvm.hb hby at_183) rfl ?_
    refine XS.sipush X53.here hx rfl (Jvm.hb hby at_184) ?_
    show Steps p.tables e below (T53.setTop (mkF m 187 #[.val (.int codeA), .val (.int codeB), .val (.int msgA), .val (.int msgB), .val (.int mode), .val (.int q1), .val (.int q4), .val (.int q11), .val (.int (Int32.ofNat m16)), .val (.int q21), .val (.int q26), .val (.int q31), .val (.int q49), .val (.int q50), .val (.int q51), .val (.int q52), .val (.int (msgA &&& (3 : Int32))), .val (.int (i2c ((ushr msgA (8 : Int32)) &&& (255 : Int32)))), .val (.int (i2c ((ushr msgA (16 : Int32)) &&& (255 : Int32)))), .val (.int (i2c ((ushr msgA (24 : Int32)) &&& (255 : Int32)))), .val (.int (msgB &&& (3 : Int32))), .val (.int (i2c ((ushr msgB (8 : Int32)) &&& (255 : Int32)))), .unset, .unset, .unset, .unset, .unset] [(.int (255 : Int32)), (.int (ushr msgB (16 : Int32)))])) _
    refine XS.iand X53.here hx rfl (Jvm.hb hby at_187) rfl ?_
    refine XS.i2c X53.here hx rfl (Jvm.hb hby at_188) rfl ?_
    refine XS.istore X53.here hx rfl (Jvm.hb hby at_189) rfl (l' := #[.val (.int codeA), .val (.int codeB), .val (.int msgA), .val (.int msgB), .val (.int mode), .val (.int q1), .val (.int q4), .val (.int q11), .val (.int (Int32.ofNat m16)), .val (.int q21), .val (.int q26), .val (.int q31), .val (.int q49), .val (.int q50), .val (.int q51), .val (.int q52), .val (.int (msgA &&& (3 : Int32))), .val (.int (i2c ((ushr msgA (8 : Int32)) &&& (255 : Int32)))), .val (.int (i2c ((ushr msgA (16 : Int32)) &&& (255 : Int32)))), .val (.int (i2c ((ushr msgA (24 : Int32)) &&& (255 : Int32)))), .val (.int (msgB &&& (3 : Int32))), .val (.int (i2c ((ushr msgB (8 : Int32)) &&& (255 : Int32)))), .val (.int (i2c ((ushr msgB (16 : Int32)) &&& (255 : Int32)))), .unset, .unset, .unset, .unset]) rfl ?_
    refine XS.iloadN X53.here hx rfl (Jvm.hb hby at_191) rfl ?_
    refine XS.bipush X53.here hx rfl (Jvm.hb hby at_192) ?_
    refine XS.iushr X53.here hx rfl (Jvm.hb hby at_194) rfl ?_
    show Steps p.tables e below (T53.setTop (mkF m 195 #[.val (.int codeA), .val (.int codeB), .val (.int msgA), .val (.int msgB), .val (.int mode), .val (.int q1), .val (.int q4), .val (.int q11), .val (.int (Int32.ofNat m16)), .val (.int q21), .val (.int q26), .val (.int q31), .val (.int q49), .val (.int q50), .val (.int q51), .val (.int q52), .val (.int (msgA &&& (3 : Int32))), .val (.int (i2c ((ushr msgA (8 : Int32)) &&& (255 : Int32)))), .val (.int (i2c ((ushr msgA (16 : Int32)) &&& (255 : Int32)))), .val (.int (i2c ((ushr msgA (24 : Int32)) &&& (255 : Int32)))), .val (.int (msgB &&& (3 : Int32))), .val (.int (i2c ((ushr msgB (8 : Int32)) &&& (255 : Int32)))), .val (.int (i2c ((ushr msgB (16 : Int32)) &&& (255 : Int32)))), .unset, .unset, .unset, .unset] [(.int (ushr msgB (24 : Int32)))])) _
    refine XS.sipush X53.here hx rfl (Jvm.hb hby at_195) ?_
    refine XS.iand X53.here hx rfl (Jvm.hb hby at_198) rfl ?_
    refine XS.i2c X53.here hx rfl (Jvm.hb hby at_199) rfl ?_
    refine XS.istore X53.here hx rfl (Jvm.hb hby at_200) rfl (l' := #[.val (.int codeA), .val (.int codeB), .val (.int msgA), .val (.int msgB), .val (.int mode), .val (.int q1), .val (.int q4), .val (.int q11), .val (.int (Int32.ofNat m16)), .val (.int q21), .val (.int q26), .val (.int q31), .val (.int q49), .val (.int q50), .val (.int q51), .val (.int q52), .val (.int (msgA &&& (3 : Int32))), .val (.int (i2c ((ushr msgA (8 : Int32)) &&& (255 : Int32)))), .val (.int (i2c ((ushr msgA (16 : Int32)) &&& (255 : Int32)))), .val (.int (i2c ((ushr msgA (24 : Int32)) &&& (255 : Int32)))), .val (.int (msgB &&& (3 : Int32))), .val (.int (i2c ((ushr msgB (8 : Int32)) &&& (255 : Int32)))), .val (.int (i2c ((ushr msgB (16 : Int32)) &&& (255 : Int32)))), .val (.int (i2c ((ushr msgB (24 : Int32)) &&& (255 : Int32)))), .unset, .unset, .unset]) rfl ?_
    refine XS.iload X53.here hx rfl (Jvm.hb hby at_202) rfl ?_
    show Steps p.tables e below (T53.setTop (mkF m 204 #[.val (.int codeA), .val (.int codeB), .val (.int msgA), .val (.int msgB), .val (.int mode), .val (.int q1), .val (.int q4), .val (.int q11), .val (.int (Int32.ofNat m16)), .val (.int q21), .val (.int q26), .val (.int q31), .val (.int q49), .val (.int q50), .val (.int q51), .val (.int q52), .val (.int (msgA &&& (3 : Int32))), .val (.int (i2c ((ushr msgA (8 : Int32)) &&& (255 : Int32)))), .val (.int (i2c ((ushr msgA (16 : Int32)) &&& (255 : Int32)))), .val (.int (i2c ((ushr msgA (24 : Int32)) &&& (255 : Int32)))), .val (.int (msgB &&& (3 : Int32))), .val (.int (i2c ((ushr msgB (8 : Int32)) &&& (255 : Int32)))), .val (.int (i2c ((ushr msgB (16 : Int32)) &&& (255 : Int32)))), .val (.int (i2c ((ushr msgB (24 : Int32)) &&& (255 : Int32)))), .unset, .unset, .unset] [(.int q11)])) t_
    exact castTop (by simp only [hq57, hq58, hq59, hq60, hq61, hq62, hq63, hq64]) k_)
  obtain ⟨q66, hq66⟩ : ∃ z : Int32, z = (if q11 = (0 : Int32) then (Int32.ofNat m61) else (Int32.ofNat m57)) := ⟨_, rfl⟩
  obtain ⟨q67, hq67⟩ : ∃ z : Int32, z = (if q11 = (0 : Int32) then q62 else q58) := ⟨_, rfl⟩
  obtain ⟨q68, hq68⟩ : ∃ z : Int32, z = (if q11 = (0 : Int32) then q63 else q59) := ⟨_, rfl⟩
  obtain ⟨q69, hq69⟩ : ∃ z : Int32, z = (if q11 = (0 : Int32) then q64 else q60) := ⟨_, rfl⟩
  obtain ⟨T70, X70, e70, s70⟩ := seg X53 (fun T' => T'.heap = h0 ∧ ∀ t_, Steps p.tables e below (T'.setTop (mkF m 223 #[.val (.int codeA), .val (.int codeB), .val (.int msgA), .val (.int msgB), .val (.int mode), .val (.int q1), .val (.int q4), .val (.int q11), .val (.int (Int32.ofNat m16)), .val (.int q21), .val (.int q26), .val (.int q31), .val (.int q49), .val (.int q50), .val (.int q51), .val (.int q52), .val (.int (Int32.ofNat m57)), .val (.int q58), .val (.int q59), .val (.int q60), .val (.int q66), .val (.int q67), .val (.int q68), .val (.int q69), .unset, .unset, .unset] [])) t_ → Steps p.tables e below (s₁.setTop (entryFrame m #[(.int codeA), (.int codeB), (.int msgA), (.int msgB), (.int mode)] maxLocals)) t_) (by
    by_cases h71 : q11 = (0 : Int32)
    · have s72 : ∀ t_, Steps p.tables e below (T53.setTop (mkF m 223 #[.val (.int codeA), .val (.int codeB), .val (.int msgA), .val (.int msgB), .val (.int mode), .val (.int q1), .val (.int q4), .val (.int q11), .val (.int (Int32.ofNat m16)), .val (.int q21), .val (.int q26), .val (.int q31), .val (.int q49), .val (.int q50), .val (.int q51), .val (.int q52), .val (.int (Int32.ofNat m57)), .val (.int q58), .val (.int q59), .val (.int q60), .val (.int (Int32.ofNat m61)), .val (.int q62), .val (.int q63), .val (.int q64), .unset, .unset, .unset] [])) t_ → Steps p.tables e below (s₁.setTop (entryFrame m #[(.int codeA), (.int codeB), (.int msgA), (.int msgB), (.int mode)] maxLocals)) t_ := fun t_ k_ => s65 t_ (by
        show Steps p.tables e below (T53.setTop (mkF m 204 #[.val (.int codeA), .val (.int codeB), .val (.int msgA), .val (.int msgB), .val (.int mode), .val (.int q1), .val (.int q4), .val (.int q11), .val (.int (Int32.ofNat m16)), .val (.int q21), .val (.int q26), .val (.int q31), .val (.int q49), .val (.int q50), .val (.int q51), .val (.int q52), .val (.int (Int32.ofNat m57)), .val (.int q58), .val (.int q59), .val (.int q60), .val (.int (Int32.ofNat m61)), .val (.int q62), .val (.int q63), .val (.int q64), .unset, .unset, .unset] [(.int q11)])) t_
        refine XS.ifYes X53.here hx rfl (pc0 := 204) (pc' := 223) rfl (Jvm.hb hby at_204) rfl ((if0 _ _).trans (teq h71).1) (by decide) (by decide) ?_
        show Steps p.tables e below (T53.setTop (mkF m 223 #[.val (.int codeA), .val (.int codeB), .val (.int msgA), .val (.int msgB), .val (.int mode), .val (.int q1), .val (.int q4), .val (.int q11), .val (.int (Int32.ofNat m16)), .val (.int q21), .val (.int q26), .val (.int q31), .val (.int q49), .val (.int q50), .val (.int q51), .val (.int q52), .val (.int (Int32.ofNat m57)), .val (.int q58), .val (.int q59), .val (.int q60), .val (.int (Int32.ofNat m61)), .val (.int q62), .val (.int q63), .val (.int q64), .unset, .unset, .unset] [])) _
        show Steps p.tables e below (T53.setTop (mkF m 223 #[.val (.int codeA), .val (.int codeB), .val (.int msgA), .val (.int msgB), .val (.int mode), .val (.int q1), .val (.int q4), .val (.int q11), .val (.int (Int32.ofNat m16)), .val (.int q21), .val (.int q26), .val (.int q31), .val (.int q49), .val (.int q50), .val (.int q51), .val (.int q52), .val (.int (Int32.ofNat m57)), .val (.int q58), .val (.int q59), .val (.int q60), .val (.int (Int32.ofNat m61)), .val (.int q62), .val (.int q63), .val (.int q64), .unset, .unset, .unset] [])) t_
        exact k_)
      exact ⟨T53, X53, e53, fun t_ k_ => s72 t_ (castTop (by simp only [hq66, hq67, hq68, hq69, if_pos h71]) k_)⟩
    · have s73 : ∀ t_, Steps p.tables e below (T53.setTop (mkF m 223 #[.val (.int codeA), .val (.int codeB), .val (.int msgA), .val (.int msgB), .val (.int mode), .val (.int q1), .val (.int q4), .val (.int q11), .val (.int (Int32.ofNat m16)), .val (.int q21), .val (.int q26), .val (.int q31), .val (.int q49), .val (.int q50), .val (.int q51), .val (.int q52), .val (.int (Int32.ofNat m57)), .val (.int q58), .val (.int q59), .val (.int q60), .val (.int (Int32.ofNat m57)), .val (.int q58), .val (.int q59), .val (.int q60), .unset, .unset, .unset] [])) t_ → Steps p.tables e below (s₁.setTop (entryFrame m #[(.int codeA), (.int codeB), (.int msgA), (.int msgB), (.int mode)] maxLocals)) t_ := fun t_ k_ => s65 t_ (by
        show Steps p.tables e below (T53.setTop (mkF m 204 #[.val (.int codeA), .val (.int codeB), .val (.int msgA), .val (.int msgB), .val (.int mode), .val (.int q1), .val (.int q4), .val (.int q11), .val (.int (Int32.ofNat m16)), .val (.int q21), .val (.int q26), .val (.int q31), .val (.int q49), .val (.int q50), .val (.int q51), .val (.int q52), .val (.int (Int32.ofNat m57)), .val (.int q58), .val (.int q59), .val (.int q60), .val (.int (Int32.ofNat m61)), .val (.int q62), .val (.int q63), .val (.int q64), .unset, .unset, .unset] [(.int q11)])) t_
        refine XS.ifNo X53.here hx rfl (Jvm.hb hby at_204) rfl ((if0 _ _).trans (feq h71).1) ?_
        show Steps p.tables e below (T53.setTop (mkF m 207 #[.val (.int codeA), .val (.int codeB), .val (.int msgA), .val (.int msgB), .val (.int mode), .val (.int q1), .val (.int q4), .val (.int q11), .val (.int (Int32.ofNat m16)), .val (.int q21), .val (.int q26), .val (.int q31), .val (.int q49), .val (.int q50), .val (.int q51), .val (.int q52), .val (.int (Int32.ofNat m57)), .val (.int q58), .val (.int q59), .val (.int q60), .val (.int (Int32.ofNat m61)), .val (.int q62), .val (.int q63), .val (.int q64), .unset, .unset, .unset] [])) _
        refine XS.iload X53.here hx rfl (Jvm.hb hby at_207) rfl ?_
        refine XS.istore X53.here hx rfl (Jvm.hb hby at_209) rfl (l' := #[.val (.int codeA), .val (.int codeB), .val (.int msgA), .val (.int msgB), .val (.int mode), .val (.int q1), .val (.int q4), .val (.int q11), .val (.int (Int32.ofNat m16)), .val (.int q21), .val (.int q26), .val (.int q31), .val (.int q49), .val (.int q50), .val (.int q51), .val (.int q52), .val (.int (Int32.ofNat m57)), .val (.int q58), .val (.int q59), .val (.int q60), .val (.int (Int32.ofNat m57)), .val (.int q62), .val (.int q63), .val (.int q64), .unset, .unset, .unset]) rfl ?_
        refine XS.iload X53.here hx rfl (Jvm.hb hby at_211) rfl ?_
        refine XS.istore X53.here hx rfl (Jvm.hb hby at_213) rfl (l' := #[.val (.int codeA), .val (.int codeB), .val (.int msgA), .val (.int msgB), .val (.int mode), .val (.int q1), .val (.int q4), .val (.int q11), .val (.int (Int32.ofNat m16)), .val (.int q21), .val (.int q26), .val (.int q31), .val (.int q49), .val (.int q50), .val (.int q51), .val (.int q52), .val (.int (Int32.ofNat m57)), .val (.int q58), .val (.int q59), .val (.int q60), .val (.int (Int32.ofNat m57)), .val (.int q58), .val (.int q63), .val (.int q64), .unset, .unset, .unset]) rfl ?_
        refine XS.iload X53.here hx rfl (Jvm.hb hby at_215) rfl ?_
        refine XS.istore X53.here hx rfl (Jvm.hb hby at_217) rfl (l' := #[.val (.int codeA), .val (.int codeB), .val (.int msgA), .val (.int msgB), .val (.int mode), .val (.int q1), .val (.int q4), .val (.int q11), .val (.int (Int32.ofNat m16)), .val (.int q21), .val (.int q26), .val (.int q31), .val (.int q49), .val (.int q50), .val (.int q51), .val (.int q52), .val (.int (Int32.ofNat m57)), .val (.int q58), .val (.int q59), .val (.int q60), .val (.int (Int32.ofNat m57)), .val (.int q58), .val (.int q59), .val (.int q64), .unset, .unset, .unset]) rfl ?_
        show Steps p.tables e below (T53.setTop (mkF m 219 #[.val (.int codeA), .val (.int codeB), .val (.int msgA), .val (.int msgB), .val (.int mode), .val (.int q1), .val (.int q4), .val (.int q11), .val (.int (Int32.ofNat m16)), .val (.int q21), .val (.int q26), .val (.int q31), .val (.int q49), .val (.int q50), .val (.int q51), .val (.int q52), .val (.int (Int32.ofNat m57)), .val (.int q58), .val (.int q59), .val (.int q60), .val (.int (Int32.ofNat m57)), .val (.int q58), .val (.int q59), .val (.int q64), .unset, .unset, .unset] [])) _
        refine XS.iload X53.here hx rfl (Jvm.hb hby at_219) rfl ?_
        refine XS.istore X53.here hx rfl (Jvm.hb hby at_221) rfl (l' := #[.val (.int codeA), .val (.int codeB), .val (.int msgA), .val (.int msgB), .val (.int mode), .val (.int q1), .val (.int q4), .val (.int q11), .val (.int (Int32.ofNat m16)), .val (.int q21), .val (.int q26), .val (.int q31), .val (.int q49), .val (.int q50), .val (.int q51), .val (.int q52), .val (.int (Int32.ofNat m57)), .val (.int q58), .val (.int q59), .val (.int q60), .val (.int (Int32.ofNat m57)), .val (.int q58), .val (.int q59), .val (.int q60), .unset, .unset, .unset]) rfl ?_
        show Steps p.tables e below (T53.setTop (mkF m 223 #[.val (.int codeA), .val (.int codeB), .val (.int msgA), .val (.int msgB), .val (.int mode), .val (.int q1), .val (.int q4), .val (.int q11), .val (.int (Int32.ofNat m16)), .val (.int q21), .val (.int q26), .val (.int q31), .val (.int q49), .val (.int q50), .val (.int q51), .val (.int q52), .val (.int (Int32.ofNat m57)), .val (.int q58), .val (.int q59), .val (.int q60), .val (.int (Int32.ofNat m57)), .val (.int q58), .val (.int q59), .val (.int q60), .unset, .unset, .unset] [])) t_
        exact k_)
      exact ⟨T53, X53, e53, fun t_ k_ => s73 t_ (castTop (by simp only [hq66, hq67, hq68, hq69, if_neg h71]) k_)⟩)
  have dg74 : own_dig q21 := by
    rw [hq21]; exact own_dgd _
  have dg75 : own_dig q26 := by
    rw [hq26]; exact own_dgd _
  have dg76 : own_dig q31 := by
    rw [hq31]; exact own_dgd _
  have rg77 : ¬ (q21 < (0 : Int32)) ∧ ¬ ((255 : Int32) < q21) := by
    rw [hq21]; exact own_dgr _
  have rg78 : ¬ (q26 < (0 : Int32)) ∧ ¬ ((255 : Int32) < q26) := by
    rw [hq26]; exact own_dgr _
  have rg79 : ¬ (q31 < (0 : Int32)) ∧ ¬ ((255 : Int32) < q31) := by
    rw [hq31]; exact own_dgr _
  have rg80 : ¬ (q58 < (0 : Int32)) ∧ ¬ ((255 : Int32) < q58) := by
    rw [hq58]; exact own_b255 _
  have rg81 : ¬ (q59 < (0 : Int32)) ∧ ¬ ((255 : Int32) < q59) := by
    rw [hq59]; exact own_b255 _
  have rg82 : ¬ (q60 < (0 : Int32)) ∧ ¬ ((255 : Int32) < q60) := by
    rw [hq60]; exact own_b255 _
  have hdd : True := trivial
  have dx83 : own_dig q37 := by rw [hq37]; exact own_dgd _
  have rx83 : ¬ (q37 < (0 : Int32)) ∧ ¬ ((255 : Int32) < q37) := by rw [hq37]; exact own_dgr _
  have dg84 : own_dig q50 := by
    rw [hq50]
    split
    · exact dx83
    · exact dg74
  have rg85 : ¬ (q50 < (0 : Int32)) ∧ ¬ ((255 : Int32) < q50) := by
    rw [hq50]
    split
    · exact rx83
    · exact rg77
  have dx86 : own_dig q42 := by rw [hq42]; exact own_dgd _
  have rx86 : ¬ (q42 < (0 : Int32)) ∧ ¬ ((255 : Int32) < q42) := by rw [hq42]; exact own_dgr _
  have dg87 : own_dig q51 := by
    rw [hq51]
    split
    · exact dx86
    · exact dg75
  have rg88 : ¬ (q51 < (0 : Int32)) ∧ ¬ ((255 : Int32) < q51) := by
    rw [hq51]
    split
    · exact rx86
    · exact rg78
  have dx89 : own_dig q47 := by rw [hq47]; exact own_dgd _
  have rx89 : ¬ (q47 < (0 : Int32)) ∧ ¬ ((255 : Int32) < q47) := by rw [hq47]; exact own_dgr _
  have dg90 : own_dig q52 := by
    rw [hq52]
    split
    · exact dx89
    · exact dg76
  have rg91 : ¬ (q52 < (0 : Int32)) ∧ ¬ ((255 : Int32) < q52) := by
    rw [hq52]
    split
    · exact rx89
    · exact rg79
  have rg92 : ¬ (q67 < (0 : Int32)) ∧ ¬ ((255 : Int32) < q67) := by
    rw [hq67]
    split
    · first | with_reducible exact own_b255 _ | (rw [hq62]; with_reducible exact own_b255 _)
    · exact rg80
  have rg93 : ¬ (q68 < (0 : Int32)) ∧ ¬ ((255 : Int32) < q68) := by
    rw [hq68]
    split
    · first | with_reducible exact own_b255 _ | (rw [hq63]; with_reducible exact own_b255 _)
    · exact rg81
  have rg94 : ¬ (q69 < (0 : Int32)) ∧ ¬ ((255 : Int32) < q69) := by
    rw [hq69]
    split
    · first | with_reducible exact own_b255 _ | (rw [hq64]; with_reducible exact own_b255 _)
    · exact rg82
  obtain ⟨nD, hnD, nDl, nDg⟩ : ∃ n : Nat, q49 = Int32.ofNat n ∧ n < 4 ∧ 1 ≤ n := by
    rw [hq49]
    split
    · exact ⟨_, rfl, by omega, by omega⟩
    · exact ⟨_, rfl, by omega, by omega⟩
  obtain ⟨nK, hnK, nKl, nKg⟩ : ∃ n : Nat, q66 = Int32.ofNat n ∧ n < 4 ∧ 0 ≤ n := by
    rw [hq66]
    split
    · exact ⟨_, rfl, by omega, by omega⟩
    · exact ⟨_, rfl, by omega, by omega⟩
  obtain ⟨T95, h95, X95, e95, E95, A95, D95, -, st95⟩ := newO X70 hx hZ hown (hw _ (List.mem_of_getElem? (i := 4) rfl)) (hw _ (List.mem_of_getElem? (i := 5) rfl)) (hw _ (List.mem_of_getElem? (i := 6) rfl)) e70 (g := (mkF m 223 #[.val (.int codeA), .val (.int codeB), .val (.int msgA), .val (.int msgB), .val (.int mode), .val (.int q1), .val (.int q4), .val (.int q11), .val (.int (Int32.ofNat m16)), .val (.int q21), .val (.int q26), .val (.int q31), .val (.int q49), .val (.int q50), .val (.int q51), .val (.int q52), .val (.int (Int32.ofNat m57)), .val (.int q58), .val (.int q59), .val (.int q60), .val (.int q66), .val (.int q67), .val (.int q68), .val (.int q69), .unset, .unset, .unset] [])) rfl (Jvm.hb hby at_223) (by decide) (by decide)
  obtain ⟨b95, g95⟩ : ∃ z, z = h0.size := ⟨_, rfl⟩
  rw [← g95] at A95 D95 st95
  have z96 : h0.size ≤ h95.size := E95.1
  have Cp96 : CHr Z ELs s.vm h0 s.vm h95 := CHr.ext E95 CR.1
  have hk := Nat.le_trans hk z96
  have CR := CR.trans Cp96
  have l95 : b95 < h95.size := A95.lt
  have F97 : Fld Z h95 b95 "com/example/zastupnik/zastupnik/protocol/ServiceError" "code" "Ljava/lang/String;" .null := D95 (Or.inr (hw _ (List.mem_of_getElem? (i := 94) rfl))) (ty := (.object "java/lang/String")) (by decide)
  have F98 : Fld Z h95 b95 "com/example/zastupnik/zastupnik/protocol/ServiceError" "message" "Ljava/lang/String;" .null := D95 (Or.inr (hw _ (List.mem_of_getElem? (i := 98) rfl))) (ty := (.object "java/lang/String")) (by decide)
  have s99 : ∀ t_, Steps p.tables e below (T95.setTop (mkF m 235 #[.val (.int codeA), .val (.int codeB), .val (.int msgA), .val (.int msgB), .val (.int mode), .val (.int q1), .val (.int q4), .val (.int q11), .val (.int (Int32.ofNat m16)), .val (.int q21), .val (.int q26), .val (.int q31), .val (.int q49), .val (.int q50), .val (.int q51), .val (.int q52), .val (.int (Int32.ofNat m57)), .val (.int q58), .val (.int q59), .val (.int q60), .val (.int q66), .val (.int q67), .val (.int q68), .val (.int q69), .unset, .unset, .unset] [(.int q31), (.int q26), (.int q21), (.int (Int32.ofNat m16)), (.ref b95), (.ref b95)])) t_ → Steps p.tables e below (s₁.setTop (entryFrame m #[(.int codeA), (.int codeB), (.int msgA), (.int msgB), (.int mode)] maxLocals)) t_ := fun t_ k_ => s70 t_ (by
    show Steps p.tables e below (T70.setTop (mkF m 223 #[.val (.int codeA), .val (.int codeB), .val (.int msgA), .val (.int msgB), .val (.int mode), .val (.int q1), .val (.int q4), .val (.int q11), .val (.int (Int32.ofNat m16)), .val (.int q21), .val (.int q26), .val (.int q31), .val (.int q49), .val (.int q50), .val (.int q51), .val (.int q52), .val (.int (Int32.ofNat m57)), .val (.int q58), .val (.int q59), .val (.int q60), .val (.int q66), .val (.int q67), .val (.int q68), .val (.int q69), .unset, .unset, .unset] [])) t_
    refine st95 _ ?_
    show Steps p.tables e below (T95.setTop (mkF m 226 #[.val (.int codeA), .val (.int codeB), .val (.int msgA), .val (.int msgB), .val (.int mode), .val (.int q1), .val (.int q4), .val (.int q11), .val (.int (Int32.ofNat m16)), .val (.int q21), .val (.int q26), .val (.int q31), .val (.int q49), .val (.int q50), .val (.int q51), .val (.int q52), .val (.int (Int32.ofNat m57)), .val (.int q58), .val (.int q59), .val (.int q60), .val (.int q66), .val (.int q67), .val (.int q68), .val (.int q69), .unset, .unset, .unset] [(.ref b95)])) _
    refine XS.dup X95.here hx rfl (Jvm.hb hby at_226) rfl rfl ?_
    refine XS.iload X95.here hx rfl (Jvm.hb hby at_227) rfl ?_
    refine XS.iload X95.here hx rfl (Jvm.hb hby at_229) rfl ?_
    refine XS.iload X95.here hx rfl (Jvm.hb hby at_231) rfl ?_
    refine XS.iload X95.here hx rfl (Jvm.hb hby at_233) rfl ?_
    show Steps p.tables e below (T95.setTop (mkF m 235 #[.val (.int codeA), .val (.int codeB), .val (.int msgA), .val (.int msgB), .val (.int mode), .val (.int q1), .val (.int q4), .val (.int q11), .val (.int (Int32.ofNat m16)), .val (.int q21), .val (.int q26), .val (.int q31), .val (.int q49), .val (.int q50), .val (.int q51), .val (.int q52), .val (.int (Int32.ofNat m57)), .val (.int q58), .val (.int q59), .val (.int q60), .val (.int q66), .val (.int q67), .val (.int q68), .val (.int q69), .unset, .unset, .unset] [(.int q31), (.int q26), (.int q21), (.int (Int32.ofNat m16)), (.ref b95), (.ref b95)])) t_
    exact k_)
  have O100 : Old Z n0 h95 := (OX.ext E95)
  have Zc101 : n0 ≤ h95.size := by omega
  obtain ⟨_, _, ⟨T102, L102, k102, n102⟩, -, Xr102, hSr102, hg102, ⟨Lc102, hQ102, l102, y102, z102, Cp102⟩, st102⟩ := callSS X95 hx (y := (⟨"com/example/zastupnik/zastupnik/protocol/ServiceErrorEqualsPinLaw", "mk", "(ICCC)Ljava/lang/String;"⟩ : MethodName)) hown (mvT hZ (hw _ (List.mem_of_getElem? (i := 7) rfl))) (mvT hZ (hw _ (List.mem_of_getElem? (i := 8) rfl))) (mvT hZ (hw _ (List.mem_of_getElem? (i := 2) rfl))) (mvT hZ (hw _ (List.mem_of_getElem? (i := 9) rfl))) (by decide) (backOfSH (s := s) (vm0 := s.vm) (W := 2) (rmMk l Z a0 hw [] q21 q26 q31 cst m16 h95 n0 Zc101 I1 O100 (hcst : ¬ (cst = (0 : Int32))) (by first | assumption | omega | rfl | decide : m16 < 4) (rg77.1 : ¬ (q21 < (0 : Int32))) (rg78.1 : ¬ (q26 < (0 : Int32))) (rg79.1 : ¬ (q31 < (0 : Int32))) (rg77.2 : ¬ ((255 : Int32) < q21)) (rg78.2 : ¬ ((255 : Int32) < q26)) (rg79.2 : ¬ ((255 : Int32) < q31))) hZ (hw _ (List.mem_of_getElem? (i := 9) rfl)) (hw _ (List.mem_of_getElem? (i := 2) rfl)) (by decide) (by decide) hEL CR.1) (g := (mkF m 235 #[.val (.int codeA), .val (.int codeB), .val (.int msgA), .val (.int msgB), .val (.int mode), .val (.int q1), .val (.int q4), .val (.int q11), .val (.int (Int32.ofNat m16)), .val (.int q21), .val (.int q26), .val (.int q31), .val (.int q49), .val (.int q50), .val (.int q51), .val (.int q52), .val (.int (Int32.ofNat m57)), .val (.int q58), .val (.int q59), .val (.int q60), .val (.int q66), .val (.int q67), .val (.int q68), .val (.int q69), .unset, .unset, .unset] [(.int q31), (.int q26), (.int q21), (.int (Int32.ofNat m16)), (.ref b95), (.ref b95)])) rfl (by rw [hml]; rfl) (argsL := [(.int (Int32.ofNat m16)), (.int q21), (.int q26), (.int q31)]) (rest := [(.ref b95), (.ref b95)]) (lenOf pd__ICCC_Ljava_lang_String_ rfl) rfl (by show 2 * 0 + _ ≤ _; exact Nat.le_of_eq rfl) (Jvm.hb hby at_235) (fun _ _ => ⟨rfl, e95, (by decide : 1 + 6 ≤ _), (by decide : 2 + 15 ≤ _)⟩)
  dsimp only [Pt.U, Pt.locs, Pt.cells, Pt.slots] at Xr102 hSr102 hg102 l102 y102 z102 st102 hQ102 Cp102
  subst l102 y102 z102
  obtain ⟨X102, hS, hZ, hown⟩ := rebS (own := "com/example/zastupnik/zastupnik/protocol/ServiceErrorEqualsPinLaw") hS (by first | exact Nat.le_refl _ | (rw [e95]; exact hk)) Xr102 hSr102 hg102 hZ hown
  obtain ⟨a_102, b_102, kb_102, rfl, N102q, K102, Fq102_0, Fq102_1, Fq102_2, Fq102_3, P102_0⟩ := hQ102
  have N102 := Fr.app N46 N102q
  obtain ⟨h102, e102⟩ : ∃ z, T102.heap = z := ⟨_, rfl⟩
  rw [e102] at K102 Fq102_0 Fq102_1 Fq102_2 Fq102_3 Cp102
  have hk : T102.heap.size ≤ h102.size := Nat.le_of_eq (congrArg Array.size e102)
  have z103 : h95.size ≤ h102.size := K102.1
  have CR := CR.trans Cp102
  have lt102_0 : @LT.lt Nat _ a_102 h102.size := Fq102_0.lt
  have lt102_3 : @LT.lt Nat _ b_102 h102.size := Fq102_3.lt
  have s104 : ∀ t_, Steps p.tables e below (T102.setTop (mkF m 246 #[.val (.int codeA), .val (.int codeB), .val (.int msgA), .val (.int msgB), .val (.int mode), .val (.int q1), .val (.int q4), .val (.int q11), .val (.int (Int32.ofNat m16)), .val (.int q21), .val (.int q26), .val (.int q31), .val (.int q49), .val (.int q50), .val (.int q51), .val (.int q52), .val (.int (Int32.ofNat m57)), .val (.int q58), .val (.int q59), .val (.int q60), .val (.int q66), .val (.int q67), .val (.int q68), .val (.int q69), .unset, .unset, .unset] [(.int q60), (.int q59), (.int q58), (.int (Int32.ofNat m57)), (.ref a_102), (.ref b95), (.ref b95)])) t_ → Steps p.tables e below (s₁.setTop (entryFrame m #[(.int codeA), (.int codeB), (.int msgA), (.int msgB), (.int mode)] maxLocals)) t_ := fun t_ k_ => s99 t_ (by
    show Steps p.tables e below (T95.setTop (mkF m 235 #[.val (.int codeA), .val (.int codeB), .val (.int msgA), .val (.int msgB), .val (.int mode), .val (.int q1), .val (.int q4), .val (.int q11), .val (.int (Int32.ofNat m16)), .val (.int q21), .val (.int q26), .val (.int q31), .val (.int q49), .val (.int q50), .val (.int q51), .val (.int q52), .val (.int (Int32.ofNat m57)), .val (.int q58), .val (.int q59), .val (.int q60), .val (.int q66), .val (.int q67), .val (.int q68), .val (.int q69), .unset, .unset, .unset] [(.int q31), (.int q26), (.int q21), (.int (Int32.ofNat m16)), (.ref b95), (.ref b95)])) t_
    refine st102.trans ?_
    show Steps p.tables e below (T102.setTop (mkF m 238 #[.val (.int codeA), .val (.int codeB), .val (.int msgA), .val (.int msgB), .val (.int mode), .val (.int q1), .val (.int q4), .val (.int q11), .val (.int (Int32.ofNat m16)), .val (.int q21), .val (.int q26), .val (.int q31), .val (.int q49), .val (.int q50), .val (.int q51), .val (.int q52), .val (.int (Int32.ofNat m57)), .val (.int q58), .val (.int q59), .val (.int q60), .val (.int q66), .val (.int q67), .val (.int q68), .val (.int q69), .unset, .unset, .unset] [(.ref a_102), (.ref b95), (.ref b95)])) _
    refine XS.iload X102.here hx rfl (Jvm.hb hby at_238) rfl ?_
    refine XS.iload X102.here hx rfl (Jvm.hb hby at_240) rfl ?_
    refine XS.iload X102.here hx rfl (Jvm.hb hby at_242) rfl ?_
    refine XS.iload X102.here hx rfl (Jvm.hb hby at_244) rfl ?_
    show Steps p.tables e below (T102.setTop (mkF m 246 #[.val (.int codeA), .val (.int codeB), .val (.int msgA), .val (.int msgB), .val (.int mode), .val (.int q1), .val (.int q4), .val (.int q11), .val (.int (Int32.ofNat m16)), .val (.int q21), .val (.int q26), .val (.int q31), .val (.int q49), .val (.int q50), .val (.int q51), .val (.int q52), .val (.int (Int32.ofNat m57)), .val (.int q58), .val (.int q59), .val (.int q60), .val (.int q66), .val (.int q67), .val (.int q68), .val (.int q69), .unset, .unset, .unset] [(.int q60), (.int q59), (.int q58), (.int (Int32.ofNat m57)), (.ref a_102), (.ref b95), (.ref b95)])) t_
    exact k_)
  have O105 : Old Z n0 h102 := (O100.keep K102 all0)
  have Zc106 : n0 ≤ h102.size := by omega
  obtain ⟨_, _, ⟨T107, L107, k107, n107⟩, -, Xr107, hSr107, hg107, ⟨Lc107, hQ107, l107, y107, z107, Cp107⟩, st107⟩ := callSS X102 hx (y := (⟨"com/example/zastupnik/zastupnik/protocol/ServiceErrorEqualsPinLaw", "mk", "(ICCC)Ljava/lang/String;"⟩ : MethodName)) hown (mvT hZ (hw _ (List.mem_of_getElem? (i := 7) rfl))) (mvT hZ (hw _ (List.mem_of_getElem? (i := 8) rfl))) (mvT hZ (hw _ (List.mem_of_getElem? (i := 2) rfl))) (mvT hZ (hw _ (List.mem_of_getElem? (i := 9) rfl))) (by decide) (backOfSH (s := s) (vm0 := T102.vm) (W := 3) (rmMk l Z a0 hw [] q58 q59 q60 cst m57 h102 n0 Zc106 I1 O105 (hcst : ¬ (cst = (0 : Int32))) (by first | assumption | omega | rfl | decide : m57 < 4) (rg80.1 : ¬ (q58 < (0 : Int32))) (rg81.1 : ¬ (q59 < (0 : Int32))) (rg82.1 : ¬ (q60 < (0 : Int32))) (rg80.2 : ¬ ((255 : Int32) < q58)) (rg81.2 : ¬ ((255 : Int32) < q59)) (rg82.2 : ¬ ((255 : Int32) < q60))) hZ (hw _ (List.mem_of_getElem? (i := 9) rfl)) (hw _ (List.mem_of_getElem? (i := 2) rfl)) (by decide) (by decide) hEL CR.1) (g := (mkF m 246 #[.val (.int codeA), .val (.int codeB), .val (.int msgA), .val (.int msgB), .val (.int mode), .val (.int q1), .val (.int q4), .val (.int q11), .val (.int (Int32.ofNat m16)), .val (.int q21), .val (.int q26), .val (.int q31), .val (.int q49), .val (.int q50), .val (.int q51), .val (.int q52), .val (.int (Int32.ofNat m57)), .val (.int q58), .val (.int q59), .val (.int q60), .val (.int q66), .val (.int q67), .val (.int q68), .val (.int q69), .unset, .unset, .unset] [(.int q60), (.int q59), (.int q58), (.int (Int32.ofNat m57)), (.ref a_102), (.ref b95), (.ref b95)])) rfl (by rw [hml]; rfl) (argsL := [(.int (Int32.ofNat m57)), (.int q58), (.int q59), (.int q60)]) (rest := [(.ref a_102), (.ref b95), (.ref b95)]) (lenOf pd__ICCC_Ljava_lang_String_ rfl) rfl (by show 2 * 0 + _ ≤ _; exact Nat.le_of_eq rfl) (Jvm.hb hby at_246) (fun _ _ => ⟨rfl, e102, (by decide : 7 + 6 ≤ _), (by decide : 17 + 15 ≤ _)⟩)
  dsimp only [Pt.U, Pt.locs, Pt.cells, Pt.slots] at Xr107 hSr107 hg107 l107 y107 z107 st107 hQ107 Cp107
  subst l107 y107 z107
  obtain ⟨X107, hS, hZ, hown⟩ := rebS (own := "com/example/zastupnik/zastupnik/protocol/ServiceErrorEqualsPinLaw") hS (by first | exact Nat.le_refl _ | (rw [e102]; exact hk)) Xr107 hSr107 hg107 hZ hown
  obtain ⟨a_107, b_107, kb_107, rfl, N107q, K107, Fq107_0, Fq107_1, Fq107_2, Fq107_3, P107_0⟩ := hQ107
  have N107 := Fr.app N102 N107q
  obtain ⟨h107, e107⟩ : ∃ z, T107.heap = z := ⟨_, rfl⟩
  rw [e107] at K107 Fq107_0 Fq107_1 Fq107_2 Fq107_3 Cp107
  have hk : T107.heap.size ≤ h107.size := Nat.le_of_eq (congrArg Array.size e107)
  have z108 : h102.size ≤ h107.size := K107.1
  have CR := CR.trans Cp107
  have lt107_0 : @LT.lt Nat _ a_107 h107.size := Fq107_0.lt
  have lt107_3 : @LT.lt Nat _ b_107 h107.size := Fq107_3.lt
  have s109 : ∀ t_, Steps p.tables e below (T107.setTop (mkF m 249 #[.val (.int codeA), .val (.int codeB), .val (.int msgA), .val (.int msgB), .val (.int mode), .val (.int q1), .val (.int q4), .val (.int q11), .val (.int (Int32.ofNat m16)), .val (.int q21), .val (.int q26), .val (.int q31), .val (.int q49), .val (.int q50), .val (.int q51), .val (.int q52), .val (.int (Int32.ofNat m57)), .val (.int q58), .val (.int q59), .val (.int q60), .val (.int q66), .val (.int q67), .val (.int q68), .val (.int q69), .unset, .unset, .unset] [(.ref a_107), (.ref a_102), (.ref b95), (.ref b95)])) t_ → Steps p.tables e below (s₁.setTop (entryFrame m #[(.int codeA), (.int codeB), (.int msgA), (.int msgB), (.int mode)] maxLocals)) t_ := fun t_ k_ => s104 t_ (by
    show Steps p.tables e below (T102.setTop (mkF m 246 #[.val (.int codeA), .val (.int codeB), .val (.int msgA), .val (.int msgB), .val (.int mode), .val (.int q1), .val (.int q4), .val (.int q11), .val (.int (Int32.ofNat m16)), .val (.int q21), .val (.int q26), .val (.int q31), .val (.int q49), .val (.int q50), .val (.int q51), .val (.int q52), .val (.int (Int32.ofNat m57)), .val (.int q58), .val (.int q59), .val (.int q60), .val (.int q66), .val (.int q67), .val (.int q68), .val (.int q69), .unset, .unset, .unset] [(.int q60), (.int q59), (.int q58), (.int (Int32.ofNat m57)), (.ref a_102), (.ref b95), (.ref b95)])) t_
    refine st107.trans ?_
    show Steps p.tables e below (T107.setTop (mkF m 249 #[.val (.int codeA), .val (.int codeB), .val (.int msgA), .val (.int msgB), .val (.int mode), .val (.int q1), .val (.int q4), .val (.int q11), .val (.int (Int32.ofNat m16)), .val (.int q21), .val (.int q26), .val (.int q31), .val (.int q49), .val (.int q50), .val (.int q51), .val (.int q52), .val (.int (Int32.ofNat m57)), .val (.int q58), .val (.int q59), .val (.int q60), .val (.int q66), .val (.int q67), .val (.int q68), .val (.int q69), .unset, .unset, .unset] [(.ref a_107), (.ref a_102), (.ref b95), (.ref b95)])) _
    show Steps p.tables e below (T107.setTop (mkF m 249 #[.val (.int codeA), .val (.int codeB), .val (.int msgA), .val (.int msgB), .val (.int mode), .val (.int q1), .val (.int q4), .val (.int q11), .val (.int (Int32.ofNat m16)), .val (.int q21), .val (.int q26), .val (.int q31), .val (.int q49), .val (.int q50), .val (.int q51), .val (.int q52), .val (.int (Int32.ofNat m57)), .val (.int q58), .val (.int q59), .val (.int q60), .val (.int q66), .val (.int q67), .val (.int q68), .val (.int q69), .unset, .unset, .unset] [(.ref a_107), (.ref a_102), (.ref b95), (.ref b95)])) t_
    exact k_)
  have O110 : Old Z n0 h107 := (O105.keep K107 all0)
  have f111 : Exa Z h107 b95 "com/example/zastupnik/zastupnik/protocol/ServiceError" := ((A95.keep K102).keep K107)
  have f112 : Fld Z h107 b95 "com/example/zastupnik/zastupnik/protocol/ServiceError" "code" "Ljava/lang/String;" .null := ((F97.keep K102 nin0).keep K107 nin0)
  have f113 : Fld Z h107 b95 "com/example/zastupnik/zastupnik/protocol/ServiceError" "message" "Ljava/lang/String;" .null := ((F98.keep K102 nin0).keep K107 nin0)
  have f114 : Exa Z h107 a_102 "java/lang/String" := (Fq102_0.keep K107)
  have f115 : Fld Z h107 a_102 "java/lang/String" "value" "[B" (.ref b_102) := (Fq102_1.keep K107 nin0)
  have f116 : Fld Z h107 a_102 "java/lang/String" "coder" "B" (.int (own_cod (own_mk m16 q21 q26 q31))) := (Fq102_2.keep K107 nin0)
  have f117 : Arv Z h107 b_102 kb_102 .byte (Int32.ofNat (own_enl (own_mk m16 q21 q26 q31))) (own_enc (own_mk m16 q21 q26 q31)) (.int (0 : Int32)) := (Fq102_3.keep K107 nin0)
  have Zc118 : n0 ≤ h107.size := by omega
  obtain ⟨_, _, ⟨T119, L119, k119, n119⟩, -, Xr119, hSr119, hg119, ⟨Lc119, hQ119, l119, y119, z119, Cp119⟩, st119⟩ := X107.specialBackS hx (y := (⟨"com/example/zastupnik/zastupnik/protocol/ServiceError", "<init>", "(Ljava/lang/String;Ljava/lang/String;)V"⟩ : MethodName)) rfl hown (mvT hZ (hw _ (List.mem_of_getElem? (i := 40) rfl))) (mvT hZ (hw _ (List.mem_of_getElem? (i := 41) rfl))) (mvT hZ (hw _ (List.mem_of_getElem? (i := 42) rfl))) (by decide) (backOfSH (s := s) (vm0 := T107.vm) (W := 1) (rmSEi l Z a0 hw [] b95 a_102 a_107 cst b_102 kb_102 (own_mk m16 q21 q26 q31) fmt h107 n0 Zc118 I1 (hfmt : fmt.isRef = true) I2 O110 (hcst : ¬ (cst = (0 : Int32))) f111 f112 f113 f114 f115 f116 f117 Fq107_0 (own_mkl _ _ _ _) (own_mkchs (by omega) ⟨rg77.1, own_le64k rg77.2⟩ ⟨rg78.1, own_le64k rg78.2⟩ ⟨rg79.1, own_le64k rg79.2⟩) (own_mklat (by omega) rg77.2 rg78.2 rg79.2) (own_mkonly (by omega) (by omega) dg74 dg75 dg76) (by first | assumption | omega | rfl | decide : n0 ≤ b95)) hZ (hw _ (List.mem_of_getElem? (i := 42) rfl)) (hw _ (List.mem_of_getElem? (i := 6) rfl)) (by decide) (by decide) hEL CR.1) (g := (mkF m 249 #[.val (.int codeA), .val (.int codeB), .val (.int msgA), .val (.int msgB), .val (.int mode), .val (.int q1), .val (.int q4), .val (.int q11), .val (.int (Int32.ofNat m16)), .val (.int q21), .val (.int q26), .val (.int q31), .val (.int q49), .val (.int q50), .val (.int q51), .val (.int q52), .val (.int (Int32.ofNat m57)), .val (.int q58), .val (.int q59), .val (.int q60), .val (.int q66), .val (.int q67), .val (.int q68), .val (.int q69), .unset, .unset, .unset] [(.ref a_107), (.ref a_102), (.ref b95), (.ref b95)])) rfl (by rw [hml]; rfl) (Steps.refl _) (a := b95) (argsL := [(.ref a_102), (.ref a_107)]) (rest := [(.ref b95)]) (lenOf pd__Ljava_lang_String_Ljava_lang_String__V rfl) rfl (by show 2 * 0 + _ ≤ _; exact Nat.le_of_eq rfl) (Jvm.hb hby at_249) (fun _ _ => ⟨rfl, e107, (by decide : 13 + 4 ≤ _), (by decide : 32 + 52 ≤ _)⟩)
  dsimp only [Pt.U, Pt.locs, Pt.cells, Pt.slots] at Xr119 hSr119 hg119 l119 y119 z119 st119 hQ119 Cp119
  subst l119 y119 z119
  obtain ⟨X119, hS, hZ, hown⟩ := rebS (own := "com/example/zastupnik/zastupnik/protocol/ServiceErrorEqualsPinLaw") hS (by first | exact Nat.le_refl _ | (rw [e107]; exact hk)) Xr119 hSr119 hg119 hZ hown
  obtain ⟨rfl, N119q, K119, Fq119_0, Fq119_1, Fq119_2⟩ := hQ119
  have N119 := Fr.app N107 N119q
  obtain ⟨h119, e119⟩ : ∃ z, T119.heap = z := ⟨_, rfl⟩
  rw [e119] at K119 Fq119_0 Fq119_1 Fq119_2 Cp119
  have hk : T119.heap.size ≤ h119.size := Nat.le_of_eq (congrArg Array.size e119)
  have z120 : h107.size ≤ h119.size := K119.1
  have CR := CR.trans Cp119
  have lt119_0 : @LT.lt Nat _ b95 h119.size := Fq119_0.lt
  have s121 : ∀ t_, Steps p.tables e below (T119.setTop (mkF m 257 #[.val (.int codeA), .val (.int codeB), .val (.int msgA), .val (.int msgB), .val (.int mode), .val (.int q1), .val (.int q4), .val (.int q11), .val (.int (Int32.ofNat m16)), .val (.int q21), .val (.int q26), .val (.int q31), .val (.int q49), .val (.int q50), .val (.int q51), .val (.int q52), .val (.int (Int32.ofNat m57)), .val (.int q58), .val (.int q59), .val (.int q60), .val (.int q66), .val (.int q67), .val (.int q68), .val (.int q69), .val (.ref b95), .unset, .unset] [(.int (1 : Int32)), (.int q1)])) t_ → Steps p.tables e below (s₁.setTop (entryFrame m #[(.int codeA), (.int codeB), (.int msgA), (.int msgB), (.int mode)] maxLocals)) t_ := fun t_ k_ => s109 t_ (by
    show Steps p.tables e below (T107.setTop (mkF m 249 #[.val (.int codeA), .val (.int codeB), .val (.int msgA), .val (.int msgB), .val (.int mode), .val (.int q1), .val (.int q4), .val (.int q11), .val (.int (Int32.ofNat m16)), .val (.int q21), .val (.int q26), .val (.int q31), .val (.int q49), .val (.int q50), .val (.int q51), .val (.int q52), .val (.int (Int32.ofNat m57)), .val (.int q58), .val (.int q59), .val (.int q60), .val (.int q66), .val (.int q67), .val (.int q68), .val (.int q69), .unset, .unset, .unset] [(.ref a_107), (.ref a_102), (.ref b95), (.ref b95)])) t_
    refine st119.trans ?_
    show Steps p.tables e below (T119.setTop (mkF m 252 #[.val (.int codeA), .val (.int codeB), .val (.int msgA), .val (.int msgB), .val (.int mode), .val (.int q1), .val (.int q4), .val (.int q11), .val (.int (Int32.ofNat m16)), .val (.int q21), .val (.int q26), .val (.int q31), .val (.int q49), .val (.int q50), .val (.int q51), .val (.int q52), .val (.int (Int32.ofNat m57)), .val (.int q58), .val (.int q59), .val (.int q60), .val (.int q66), .val (.int q67), .val (.int q68), .val (.int q69), .unset, .unset, .unset] [(.ref b95)])) _
    refine XS.astore X119.here hx rfl (Jvm.hb hby at_252) rfl rfl (l' := #[.val (.int codeA), .val (.int codeB), .val (.int msgA), .val (.int msgB), .val (.int mode), .val (.int q1), .val (.int q4), .val (.int q11), .val (.int (Int32.ofNat m16)), .val (.int q21), .val (.int q26), .val (.int q31), .val (.int q49), .val (.int q50), .val (.int q51), .val (.int q52), .val (.int (Int32.ofNat m57)), .val (.int q58), .val (.int q59), .val (.int q60), .val (.int q66), .val (.int q67), .val (.int q68), .val (.int q69), .val (.ref b95), .unset, .unset]) rfl ?_
    refine XS.iload X119.here hx rfl (Jvm.hb hby at_254) rfl ?_
    refine XS.iconst X119.here hx rfl (Jvm.hb hby at_256) ?_
    show Steps p.tables e below (T119.setTop (mkF m 257 #[.val (.int codeA), .val (.int codeB), .val (.int msgA), .val (.int msgB), .val (.int mode), .val (.int q1), .val (.int q4), .val (.int q11), .val (.int (Int32.ofNat m16)), .val (.int q21), .val (.int q26), .val (.int q31), .val (.int q49), .val (.int q50), .val (.int q51), .val (.int q52), .val (.int (Int32.ofNat m57)), .val (.int q58), .val (.int q59), .val (.int q60), .val (.int q66), .val (.int q67), .val (.int q68), .val (.int q69), .val (.ref b95), .unset, .unset] [(.int (1 : Int32)), (.int q1)])) t_
    exact k_)
  by_cases h122 : q1 = (1 : Int32)
  · have s123 : ∀ t_, Steps p.tables e below (T119.setTop (mkF m 263 #[.val (.int codeA), .val (.int codeB), .val (.int msgA), .val (.int msgB), .val (.int mode), .val (.int q1), .val (.int q4), .val (.int q11), .val (.int (Int32.ofNat m16)), .val (.int q21), .val (.int q26), .val (.int q31), .val (.int q49), .val (.int q50), .val (.int q51), .val (.int q52), .val (.int (Int32.ofNat m57)), .val (.int q58), .val (.int q59), .val (.int q60), .val (.int q66), .val (.int q67), .val (.int q68), .val (.int q69), .val (.ref b95), .unset, .unset] [.null, (.ref b95)])) t_ → Steps p.tables e below (s₁.setTop (entryFrame m #[(.int codeA), (.int codeB), (.int msgA), (.int msgB), (.int mode)] maxLocals)) t_ := fun t_ k_ => s121 t_ (by
      show Steps p.tables e below (T119.setTop (mkF m 257 #[.val (.int codeA), .val (.int codeB), .val (.int msgA), .val (.int msgB), .val (.int mode), .val (.int q1), .val (.int q4), .val (.int q11), .val (.int (Int32.ofNat m16)), .val (.int q21), .val (.int q26), .val (.int q31), .val (.int q49), .val (.int q50), .val (.int q51), .val (.int q52), .val (.int (Int32.ofNat m57)), .val (.int q58), .val (.int q59), .val (.int q60), .val (.int q66), .val (.int q67), .val (.int q68), .val (.int q69), .val (.ref b95), .unset, .unset] [(.int (1 : Int32)), (.int q1)])) t_
      refine XS.icmpNo X119.here hx rfl (Jvm.hb hby at_257) rfl (teq h122).2 ?_
      show Steps p.tables e below (T119.setTop (mkF m 260 #[.val (.int codeA), .val (.int codeB), .val (.int msgA), .val (.int msgB), .val (.int mode), .val (.int q1), .val (.int q4), .val (.int q11), .val (.int (Int32.ofNat m16)), .val (.int q21), .val (.int q26), .val (.int q31), .val (.int q49), .val (.int q50), .val (.int q51), .val (.int q52), .val (.int (Int32.ofNat m57)), .val (.int q58), .val (.int q59), .val (.int q60), .val (.int q66), .val (.int q67), .val (.int q68), .val (.int q69), .val (.ref b95), .unset, .unset] [])) _
      refine XS.aload X119.here hx rfl (Jvm.hb hby at_260) rfl rfl ?_
      refine XS.aconstNull X119.here hx rfl (Jvm.hb hby at_262) ?_
      show Steps p.tables e below (T119.setTop (mkF m 263 #[.val (.int codeA), .val (.int codeB), .val (.int msgA), .val (.int msgB), .val (.int mode), .val (.int q1), .val (.int q4), .val (.int q11), .val (.int (Int32.ofNat m16)), .val (.int q21), .val (.int q26), .val (.int q31), .val (.int q49), .val (.int q50), .val (.int q51), .val (.int q52), .val (.int (Int32.ofNat m57)), .val (.int q58), .val (.int q59), .val (.int q60), .val (.int q66), .val (.int q67), .val (.int q68), .val (.int q69), .val (.ref b95), .unset, .unset] [.null, (.ref b95)])) t_
      exact k_)
    have Zc124 : n0 ≤ h119.size := by omega
    obtain ⟨cq125, kq125, q125a, q125b, q125c⟩ := isOf hZ e119 Fq119_0
    obtain ⟨_, _, ⟨T125, L125, k125, n125⟩, -, X125, ⟨Lc125, hQ125, l125, y125, z125⟩, st125⟩ := X119.virtualBack hx (y := (⟨"com/example/zastupnik/zastupnik/protocol/ServiceError", "equals", "(Ljava/lang/Object;)Z"⟩ : MethodName)) (z := (⟨"com/example/zastupnik/zastupnik/protocol/ServiceError", "equals", "(Ljava/lang/Object;)Z"⟩ : MethodName)) hown (mvT hZ (hw _ (List.mem_of_getElem? (i := 102) rfl))) (mvT hZ (hw _ (List.mem_of_getElem? (i := 103) rfl))) (notFace_of_selects (args := #[]) (mvT hZ (hw _ (List.mem_of_getElem? (i := 105) rfl)))) (mvT hZ (hw _ (List.mem_of_getElem? (i := 105) rfl))) (mvT hZ (hw _ (List.mem_of_getElem? (i := 104) rfl))) (by decide) (backOf (W := 0) (rmEqN l Z a0 hw [] b95 h119 n0 Zc124) hZ (hw _ (List.mem_of_getElem? (i := 106) rfl)) (hw _ (List.mem_of_getElem? (i := 6) rfl)) (by decide) (by decide)) q125a q125c (g := (mkF m 263 #[.val (.int codeA), .val (.int codeB), .val (.int msgA), .val (.int msgB), .val (.int mode), .val (.int q1), .val (.int q4), .val (.int q11), .val (.int (Int32.ofNat m16)), .val (.int q21), .val (.int q26), .val (.int q31), .val (.int q49), .val (.int q50), .val (.int q51), .val (.int q52), .val (.int (Int32.ofNat m57)), .val (.int q58), .val (.int q59), .val (.int q60), .val (.int q66), .val (.int q67), .val (.int q68), .val (.int q69), .val (.ref b95), .unset, .unset] [.null, (.ref b95)])) rfl (by rw [hml]; rfl) (Steps.refl _) (argsL := [.null]) (rest := []) (lenOf pd__Ljava_lang_Object__Z rfl) rfl (by show 2 * 0 + _ ≤ _; exact Nat.le_of_eq rfl) (Jvm.hb hby at_263) (fun _ _ => ⟨rfl, e119, (by decide : 17 + 0 ≤ _), (by decide : 84 + 0 ≤ _)⟩)
    dsimp only [Pt.U, Pt.locs, Pt.cells, Pt.slots] at X125 l125 y125 z125 st125 hQ125
    subst l125 y125 z125
    obtain ⟨rfl, N125q, e125⟩ := hQ125
    have N125 := Fr.app N119 N125q
    have s126 : ∀ t_, Steps p.tables e below (T125.setTop (mkF m 274 #[.val (.int codeA), .val (.int codeB), .val (.int msgA), .val (.int msgB), .val (.int mode), .val (.int q1), .val (.int q4), .val (.int q11), .val (.int (Int32.ofNat m16)), .val (.int q21), .val (.int q26), .val (.int q31), .val (.int q49), .val (.int q50), .val (.int q51), .val (.int q52), .val (.int (Int32.ofNat m57)), .val (.int q58), .val (.int q59), .val (.int q60), .val (.int q66), .val (.int q67), .val (.int q68), .val (.int q69), .val (.ref b95), .unset, .unset] [(.int (1 : Int32))])) t_ → Steps p.tables e below (s₁.setTop (entryFrame m #[(.int codeA), (.int codeB), (.int msgA), (.int msgB), (.int mode)] maxLocals)) t_ := fun t_ k_ => s123 t_ (by
      show Steps p.tables e below (T119.setTop (mkF m 263 #[.val (.int codeA), .val (.int codeB), .val (.int msgA), .val (.int msgB), .val (.int mode), .val (.int q1), .val (.int q4), .val (.int q11), .val (.int (Int32.ofNat m16)), .val (.int q21), .val (.int q26), .val (.int q31), .val (.int q49), .val (.int q50), .val (.int q51), .val (.int q52), .val (.int (Int32.ofNat m57)), .val (.int q58), .val (.int q59), .val (.int q60), .val (.int q66), .val (.int q67), .val (.int q68), .val (.int q69), .val (.ref b95), .unset, .unset] [.null, (.ref b95)])) t_
      refine st125.trans ?_
      show Steps p.tables e below (T125.setTop (mkF m 266 #[.val (.int codeA), .val (.int codeB), .val (.int msgA), .val (.int msgB), .val (.int mode), .val (.int q1), .val (.int q4), .val (.int q11), .val (.int (Int32.ofNat m16)), .val (.int q21), .val (.int q26), .val (.int q31), .val (.int q49), .val (.int q50), .val (.int q51), .val (.int q52), .val (.int (Int32.ofNat m57)), .val (.int q58), .val (.int q59), .val (.int q60), .val (.int q66), .val (.int q67), .val (.int q68), .val (.int q69), .val (.ref b95), .unset, .unset] [(.int (0 : Int32))])) _
      refine XS.ifNo X125.here hx rfl (Jvm.hb hby at_266) rfl ((if0 _ _).trans (teq (rfl : (0 : Int32) = (0 : Int32))).2) ?_
      show Steps p.tables e below (T125.setTop (mkF m 269 #[.val (.int codeA), .val (.int codeB), .val (.int msgA), .val (.int msgB), .val (.int mode), .val (.int q1), .val (.int q4), .val (.int q11), .val (.int (Int32.ofNat m16)), .val (.int q21), .val (.int q26), .val (.int q31), .val (.int q49), .val (.int q50), .val (.int q51), .val (.int q52), .val (.int (Int32.ofNat m57)), .val (.int q58), .val (.int q59), .val (.int q60), .val (.int q66), .val (.int q67), .val (.int q68), .val (.int q69), .val (.ref b95), .unset, .unset] [])) _
      refine XS.iconst X125.here hx rfl (Jvm.hb hby at_269) ?_
      refine XS.goto X125.here hx rfl (pc0 := 270) (pc' := 274) rfl (Jvm.hb hby at_270) (by decide) (by decide) ?_
      show Steps p.tables e below (T125.setTop (mkF m 274 #[.val (.int codeA), .val (.int codeB), .val (.int msgA), .val (.int msgB), .val (.int mode), .val (.int q1), .val (.int q4), .val (.int q11), .val (.int (Int32.ofNat m16)), .val (.int q21), .val (.int q26), .val (.int q31), .val (.int q49), .val (.int q50), .val (.int q51), .val (.int q52), .val (.int (Int32.ofNat m57)), .val (.int q58), .val (.int q59), .val (.int q60), .val (.int q66), .val (.int q67), .val (.int q68), .val (.int q69), .val (.ref b95), .unset, .unset] [(.int (1 : Int32))])) t_
      exact k_)
    obtain ⟨fs, hr, hrun, hended, hREW⟩ := X125.leaveW hS (by first | exact Nat.le_refl _ | (rw [e125]; exact hk)) (v := some (.int (1 : Int32))) (fun h => by rw [Bd.returns] at h; cases h)
    refine ⟨_, _, s126 _ ?_, hrun, hended, _, _, rfl, ?_, (by show CHr Z ELs s.vm s.heap T125.vm T125.heap; rw [hh, e125]; exact CR.trans (CHv.at X125 hZ hEL CR.1)), hREW.1, hREW.2.1, hREW.2.2.1, hREW.2.2.2.mono (by decide) (by decide)⟩
    · show Steps p.tables e below (T125.setTop (mkF m 274 #[.val (.int codeA), .val (.int codeB), .val (.int msgA), .val (.int msgB), .val (.int mode), .val (.int q1), .val (.int q4), .val (.int q11), .val (.int (Int32.ofNat m16)), .val (.int q21), .val (.int q26), .val (.int q31), .val (.int q49), .val (.int q50), .val (.int q51), .val (.int q52), .val (.int (Int32.ofNat m57)), .val (.int q58), .val (.int q59), .val (.int q60), .val (.int q66), .val (.int q67), .val (.int q68), .val (.int q69), .val (.ref b95), .unset, .unset] [(.int (1 : Int32))])) _
      exact retN X125 hx (t := .boolean) Bd.returns (by simp) (Jvm.hb hby at_274) hr
    · show Q_rmLaw Z _ _ _ _ _ _ _ h0 n0 _ T125.heap _
      rw [e125]
      exact ⟨rfl, N125⟩
  · have s127 : ∀ t_, Steps p.tables e below (T119.setTop (mkF m 278 #[.val (.int codeA), .val (.int codeB), .val (.int msgA), .val (.int msgB), .val (.int mode), .val (.int q1), .val (.int q4), .val (.int q11), .val (.int (Int32.ofNat m16)), .val (.int q21), .val (.int q26), .val (.int q31), .val (.int q49), .val (.int q50), .val (.int q51), .val (.int q52), .val (.int (Int32.ofNat m57)), .val (.int q58), .val (.int q59), .val (.int q60), .val (.int q66), .val (.int q67), .val (.int q68), .val (.int q69), .val (.ref b95), .unset, .unset] [(.int (2 : Int32)), (.int q1)])) t_ → Steps p.tables e below (s₁.setTop (entryFrame m #[(.int codeA), (.int codeB), (.int msgA), (.int msgB), (.int mode)] maxLocals)) t_ := fun t_ k_ => s121 t_ (by
      show Steps p.tables e below (T119.setTop (mkF m 257 #[.val (.int codeA), .val (.int codeB), .val (.int msgA), .val (.int msgB), .val (.int mode), .val (.int q1), .val (.int q4), .val (.int q11), .val (.int (Int32.ofNat m16)), .val (.int q21), .val (.int q26), .val (.int q31), .val (.int q49), .val (.int q50), .val (.int q51), .val (.int q52), .val (.int (Int32.ofNat m57)), .val (.int q58), .val (.int q59), .val (.int q60), .val (.int q66), .val (.int q67), .val (.int q68), .val (.int q69), .val (.ref b95), .unset, .unset] [(.int (1 : Int32)), (.int q1)])) t_
      refine XS.icmpYes X119.here hx rfl (pc0 := 257) (pc' := 275) rfl (Jvm.hb hby at_257) rfl (feq h122).2 (by decide) (by decide) ?_
      show Steps p.tables e below (T119.setTop (mkF m 275 #[.val (.int codeA), .val (.int codeB), .val (.int msgA), .val (.int msgB), .val (.int mode), .val (.int q1), .val (.int q4), .val (.int q11), .val (.int (Int32.ofNat m16)), .val (.int q21), .val (.int q26), .val (.int q31), .val (.int q49), .val (.int q50), .val (.int q51), .val (.int q52), .val (.int (Int32.ofNat m57)), .val (.int q58), .val (.int q59), .val (.int q60), .val (.int q66), .val (.int q67), .val (.int q68), .val (.int q69), .val (.ref b95), .unset, .unset] [])) _
      refine XS.iload X119.here hx rfl (Jvm.hb hby at_275) rfl ?_
      refine XS.iconst X119.here hx rfl (Jvm.hb hby at_277) ?_
      show Steps p.tables e below (T119.setTop (mkF m 278 #[.val (.int codeA), .val (.int codeB), .val (.int msgA), .val (.int msgB), .val (.int mode), .val (.int q1), .val (.int q4), .val (.int q11), .val (.int (Int32.ofNat m16)), .val (.int q21), .val (.int q26), .val (.int q31), .val (.int q49), .val (.int q50), .val (.int q51), .val (.int q52), .val (.int (Int32.ofNat m57)), .val (.int q58), .val (.int q59), .val (.int q60), .val (.int q66), .val (.int q67), .val (.int q68), .val (.int q69), .val (.ref b95), .unset, .unset] [(.int (2 : Int32)), (.int q1)])) t_
      exact k_)
    by_cases h128 : q1 = (2 : Int32)
    · have s129 : ∀ t_, Steps p.tables e below (T119.setTop (mkF m 289 #[.val (.int codeA), .val (.int codeB), .val (.int msgA), .val (.int msgB), .val (.int mode), .val (.int q1), .val (.int q4), .val (.int q11), .val (.int (Int32.ofNat m16)), .val (.int q21), .val (.int q26), .val (.int q31), .val (.int q49), .val (.int q50), .val (.int q51), .val (.int q52), .val (.int (Int32.ofNat m57)), .val (.int q58), .val (.int q59), .val (.int q60), .val (.int q66), .val (.int q67), .val (.int q68), .val (.int q69), .val (.ref b95), .unset, .unset] [(.int q31), (.int q26), (.int q21), (.int (Int32.ofNat m16))])) t_ → Steps p.tables e below (s₁.setTop (entryFrame m #[(.int codeA), (.int codeB), (.int msgA), (.int msgB), (.int mode)] maxLocals)) t_ := fun t_ k_ => s127 t_ (by
        show Steps p.tables e below (T119.setTop (mkF m 278 #[.val (.int codeA), .val (.int codeB), .val (.int msgA), .val (.int msgB), .val (.int mode), .val (.int q1), .val (.int q4), .val (.int q11), .val (.int (Int32.ofNat m16)), .val (.int q21), .val (.int q26), .val (.int q31), .val (.int q49), .val (.int q50), .val (.int q51), .val (.int q52), .val (.int (Int32.ofNat m57)), .val (.int q58), .val (.int q59), .val (.int q60), .val (.int q66), .val (.int q67), .val (.int q68), .val (.int q69), .val (.ref b95), .unset, .unset] [(.int (2 : Int32)), (.int q1)])) t_
        refine XS.icmpNo X119.here hx rfl (Jvm.hb hby at_278) rfl (teq h128).2 ?_
        show Steps p.tables e below (T119.setTop (mkF m 281 #[.val (.int codeA), .val (.int codeB), .val (.int msgA), .val (.int msgB), .val (.int mode), .val (.int q1), .val (.int q4), .val (.int q11), .val (.int (Int32.ofNat m16)), .val (.int q21), .val (.int q26), .val (.int q31), .val (.int q49), .val (.int q50), .val (.int q51), .val (.int q52), .val (.int (Int32.ofNat m57)), .val (.int q58), .val (.int q59), .val (.int q60), .val (.int q66), .val (.int q67), .val (.int q68), .val (.int q69), .val (.ref b95), .unset, .unset] [])) _
        refine XS.iload X119.here hx rfl (Jvm.hb hby at_281) rfl ?_
        refine XS.iload X119.here hx rfl (Jvm.hb hby at_283) rfl ?_
        refine XS.iload X119.here hx rfl (Jvm.hb hby at_285) rfl ?_
        refine XS.iload X119.here hx rfl (Jvm.hb hby at_287) rfl ?_
        show Steps p.tables e below (T119.setTop (mkF m 289 #[.val (.int codeA), .val (.int codeB), .val (.int msgA), .val (.int msgB), .val (.int mode), .val (.int q1), .val (.int q4), .val (.int q11), .val (.int (Int32.ofNat m16)), .val (.int q21), .val (.int q26), .val (.int q31), .val (.int q49), .val (.int q50), .val (.int q51), .val (.int q52), .val (.int (Int32.ofNat m57)), .val (.int q58), .val (.int q59), .val (.int q60), .val (.int q66), .val (.int q67), .val (.int q68), .val (.int q69), .val (.ref b95), .unset, .unset] [(.int q31), (.int q26), (.int q21), (.int (Int32.ofNat m16))])) t_
        exact k_)
      have O130 : Old Z n0 h119 := (O110.keep K119 (allS (show n0 ≤ b95 by omega) all0))
      have Zc131 : n0 ≤ h119.size := by omega
      obtain ⟨_, _, ⟨T132, L132, k132, n132⟩, -, Xr132, hSr132, hg132, ⟨Lc132, hQ132, l132, y132, z132, Cp132⟩, st132⟩ := callSS X119 hx (y := (⟨"com/example/zastupnik/zastupnik/protocol/ServiceErrorEqualsPinLaw", "mk", "(ICCC)Ljava/lang/String;"⟩ : MethodName)) hown (mvT hZ (hw _ (List.mem_of_getElem? (i := 7) rfl))) (mvT hZ (hw _ (List.mem_of_getElem? (i := 8) rfl))) (mvT hZ (hw _ (List.mem_of_getElem? (i := 2) rfl))) (mvT hZ (hw _ (List.mem_of_getElem? (i := 9) rfl))) (by decide) (backOfSH (s := s) (vm0 := T119.vm) (W := 0) (rmMk l Z a0 hw [] q21 q26 q31 cst m16 h119 n0 Zc131 I1 O130 (hcst : ¬ (cst = (0 : Int32))) (by first | assumption | omega | rfl | decide : m16 < 4) (rg77.1 : ¬ (q21 < (0 : Int32))) (rg78.1 : ¬ (q26 < (0 : Int32))) (rg79.1 : ¬ (q31 < (0 : Int32))) (rg77.2 : ¬ ((255 : Int32) < q21)) (rg78.2 : ¬ ((255 : Int32) < q26)) (rg79.2 : ¬ ((255 : Int32) < q31))) hZ (hw _ (List.mem_of_getElem? (i := 9) rfl)) (hw _ (List.mem_of_getElem? (i := 2) rfl)) (by decide) (by decide) hEL CR.1) (g := (mkF m 289 #[.val (.int codeA), .val (.int codeB), .val (.int msgA), .val (.int msgB), .val (.int mode), .val (.int q1), .val (.int q4), .val (.int q11), .val (.int (Int32.ofNat m16)), .val (.int q21), .val (.int q26), .val (.int q31), .val (.int q49), .val (.int q50), .val (.int q51), .val (.int q52), .val (.int (Int32.ofNat m57)), .val (.int q58), .val (.int q59), .val (.int q60), .val (.int q66), .val (.int q67), .val (.int q68), .val (.int q69), .val (.ref b95), .unset, .unset] [(.int q31), (.int q26), (.int q21), (.int (Int32.ofNat m16))])) rfl (by rw [hml]; rfl) (argsL := [(.int (Int32.ofNat m16)), (.int q21), (.int q26), (.int q31)]) (rest := []) (lenOf pd__ICCC_Ljava_lang_String_ rfl) rfl (by show 2 * 0 + _ ≤ _; exact Nat.le_of_eq rfl) (Jvm.hb hby at_289) (fun _ _ => ⟨rfl, e119, (by decide : 17 + 6 ≤ _), (by decide : 84 + 15 ≤ _)⟩)
      dsimp only [Pt.U, Pt.locs, Pt.cells, Pt.slots] at Xr132 hSr132 hg132 l132 y132 z132 st132 hQ132 Cp132
      subst l132 y132 z132
      obtain ⟨X132, hS, hZ, hown⟩ := rebS (own := "com/example/zastupnik/zastupnik/protocol/ServiceErrorEqualsPinLaw") hS (by first | exact Nat.le_refl _ | (rw [e119]; exact hk)) Xr132 hSr132 hg132 hZ hown
      obtain ⟨a_132, b_132, kb_132, rfl, N132q, K132, Fq132_0, Fq132_1, Fq132_2, Fq132_3, P132_0⟩ := hQ132
      have N132 := Fr.app N119 N132q
      obtain ⟨h132, e132⟩ : ∃ z, T132.heap = z := ⟨_, rfl⟩
      rw [e132] at K132 Fq132_0 Fq132_1 Fq132_2 Fq132_3 Cp132
      have hk : T132.heap.size ≤ h132.size := Nat.le_of_eq (congrArg Array.size e132)
      have z133 : h119.size ≤ h132.size := K132.1
      have CR := CR.trans Cp132
      have lt132_0 : @LT.lt Nat _ a_132 h132.size := Fq132_0.lt
      have lt132_3 : @LT.lt Nat _ b_132 h132.size := Fq132_3.lt
      have s134 : ∀ t_, Steps p.tables e below (T132.setTop (mkF m 298 #[.val (.int codeA), .val (.int codeB), .val (.int msgA), .val (.int msgB), .val (.int mode), .val (.int q1), .val (.int q4), .val (.int q11), .val (.int (Int32.ofNat m16)), .val (.int q21), .val (.int q26), .val (.int q31), .val (.int q49), .val (.int q50), .val (.int q51), .val (.int q52), .val (.int (Int32.ofNat m57)), .val (.int q58), .val (.int q59), .val (.int q60), .val (.int q66), .val (.int q67), .val (.int q68), .val (.int q69), .val (.ref b95), .val (.ref a_132), .unset] [(.ref a_132), (.ref b95)])) t_ → Steps p.tables e below (s₁.setTop (entryFrame m #[(.int codeA), (.int codeB), (.int msgA), (.int msgB), (.int mode)] maxLocals)) t_ := fun t_ k_ => s129 t_ (by
        show Steps p.tables e below (T119.setTop (mkF m 289 #[.val (.int codeA), .val (.int codeB), .val (.int msgA), .val (.int msgB), .val (.int mode), .val (.int q1), .val (.int q4), .val (.int q11), .val (.int (Int32.ofNat m16)), .val (.int q21), .val (.int q26), .val (.int q31), .val (.int q49), .val (.int q50), .val (.int q51), .val (.int q52), .val (.int (Int32.ofNat m57)), .val (.int q58), .val (.int q59), .val (.int q60), .val (.int q66), .val (.int q67), .val (.int q68), .val (.int q69), .val (.ref b95), .unset, .unset] [(.int q31), (.int q26), (.int q21), (.int (Int32.ofNat m16))])) t_
        refine st132.trans ?_
        show Steps p.tables e below (T132.setTop (mkF m 292 #[.val (.int codeA), .val (.int codeB), .val (.int msgA), .val (.int msgB), .val (.int mode), .val (.int q1), .val (.int q4), .val (.int q11), .val (.int (Int32.ofNat m16)), .val (.int q21), .val (.int q26), .val (.int q31), .val (.int q49), .val (.int q50), .val (.int q51), .val (.int q52), .val (.int (Int32.ofNat m57)), .val (.int q58), .val (.int q59), .val (.int q60), .val (.int q66), .val (.int q67), .val (.int q68), .val (.int q69), .val (.ref b95), .unset, .unset] [(.ref a_132)])) _
        refine XS.astore X132.here hx rfl (Jvm.hb hby at_292) rfl rfl (l' := #[.val (.int codeA), .val (.int codeB), .val (.int msgA), .val (.int msgB), .val (.int mode), .val (.int q1), .val (.int q4), .val (.int q11), .val (.int (Int32.ofNat m16)), .val (.int q21), .val (.int q26), .val (.int q31), .val (.int q49), .val (.int q50), .val (.int q51), .val (.int q52), .val (.int (Int32.ofNat m57)), .val (.int q58), .val (.int q59), .val (.int q60), .val (.int q66), .val (.int q67), .val (.int q68), .val (.int q69), .val (.ref b95), .val (.ref a_132), .unset]) rfl ?_
        refine XS.aload X132.here hx rfl (Jvm.hb hby at_294) rfl rfl ?_
        refine XS.aload X132.here hx rfl (Jvm.hb hby at_296) rfl rfl ?_
        show Steps p.tables e below (T132.setTop (mkF m 298 #[.val (.int codeA), .val (.int codeB), .val (.int msgA), .val (.int msgB), .val (.int mode), .val (.int q1), .val (.int q4), .val (.int q11), .val (.int (Int32.ofNat m16)), .val (.int q21), .val (.int q26), .val (.int q31), .val (.int q49), .val (.int q50), .val (.int q51), .val (.int q52), .val (.int (Int32.ofNat m57)), .val (.int q58), .val (.int q59), .val (.int q60), .val (.int q66), .val (.int q67), .val (.int q68), .val (.int q69), .val (.ref b95), .val (.ref a_132), .unset] [(.ref a_132), (.ref b95)])) t_
        exact k_)
      have Zc135 : n0 ≤ h132.size := by omega
      have f137 : Exa Z h132 b95 "com/example/zastupnik/zastupnik/protocol/ServiceError" := (Fq119_0.keep K132)
      obtain ⟨cq136, kq136, q136a, q136b, q136c⟩ := isOf hZ e132 f137
      obtain ⟨_, _, ⟨T136, L136, k136, n136⟩, -, X136, ⟨Lc136, hQ136, l136, y136, z136⟩, st136⟩ := X132.virtualBack hx (y := (⟨"com/example/zastupnik/zastupnik/protocol/ServiceError", "equals", "(Ljava/lang/Object;)Z"⟩ : MethodName)) (z := (⟨"com/example/zastupnik/zastupnik/protocol/ServiceError", "equals", "(Ljava/lang/Object;)Z"⟩ : MethodName)) hown (mvT hZ (hw _ (List.mem_of_getElem? (i := 102) rfl))) (mvT hZ (hw _ (List.mem_of_getElem? (i := 103) rfl))) (notFace_of_selects (args := #[]) (mvT hZ (hw _ (List.mem_of_getElem? (i := 105) rfl)))) (mvT hZ (hw _ (List.mem_of_getElem? (i := 105) rfl))) (mvT hZ (hw _ (List.mem_of_getElem? (i := 104) rfl))) (by decide) (backOf (W := 0) (rmEqX l Z a0 hw [] b95 a_132 h132 n0 Zc135 Fq132_0) hZ (hw _ (List.mem_of_getElem? (i := 106) rfl)) (hw _ (List.mem_of_getElem? (i := 6) rfl)) (by decide) (by decide)) q136a q136c (g := (mkF m 298 #[.val (.int codeA), .val (.int codeB), .val (.int msgA), .val (.int msgB), .val (.int mode), .val (.int q1), .val (.int q4), .val (.int q11), .val (.int (Int32.ofNat m16)), .val (.int q21), .val (.int q26), .val (.int q31), .val (.int q49), .val (.int q50), .val (.int q51), .val (.int q52), .val (.int (Int32.ofNat m57)), .val (.int q58), .val (.int q59), .val (.int q60), .val (.int q66), .val (.int q67), .val (.int q68), .val (.int q69), .val (.ref b95), .val (.ref a_132), .unset] [(.ref a_132), (.ref b95)])) rfl (by rw [hml]; rfl) (Steps.refl _) (argsL := [(.ref a_132)]) (rest := []) (lenOf pd__Ljava_lang_Object__Z rfl) rfl (by show 2 * 0 + _ ≤ _; exact Nat.le_of_eq rfl) (Jvm.hb hby at_298) (fun _ _ => ⟨rfl, e132, (by decide : 23 + 0 ≤ _), (by decide : 99 + 0 ≤ _)⟩)
      dsimp only [Pt.U, Pt.locs, Pt.cells, Pt.slots] at X136 l136 y136 z136 st136 hQ136
      subst l136 y136 z136
      obtain ⟨rfl, N136q, e136⟩ := hQ136
      have N136 := Fr.app N132 N136q
      have s138 : ∀ t_, Steps p.tables e below (T136.setTop (mkF m 309 #[.val (.int codeA), .val (.int codeB), .val (.int msgA), .val (.int msgB), .val (.int mode), .val (.int q1), .val (.int q4), .val (.int q11), .val (.int (Int32.ofNat m16)), .val (.int q21), .val (.int q26), .val (.int q31), .val (.int q49), .val (.int q50), .val (.int q51), .val (.int q52), .val (.int (Int32.ofNat m57)), .val (.int q58), .val (.int q59), .val (.int q60), .val (.int q66), .val (.int q67), .val (.int q68), .val (.int q69), .val (.ref b95), .val (.ref a_132), .unset] [(.int (1 : Int32))])) t_ → Steps p.tables e below (s₁.setTop (entryFrame m #[(.int codeA), (.int codeB), (.int msgA), (.int msgB), (.int mode)] maxLocals)) t_ := fun t_ k_ => s134 t_ (by
        show Steps p.tables e below (T132.setTop (mkF m 298 #[.val (.int codeA), .val (.int codeB), .val (.int msgA), .val (.int msgB), .val (.int mode), .val (.int q1), .val (.int q4), .val (.int q11), .val (.int (Int32.ofNat m16)), .val (.int q21), .val (.int q26), .val (.int q31), .val (.int q49), .val (.int q50), .val (.int q51), .val (.int q52), .val (.int (Int32.ofNat m57)), .val (.int q58), .val (.int q59), .val (.int q60), .val (.int q66), .val (.int q67), .val (.int q68), .val (.int q69), .val (.ref b95), .val (.ref a_132), .unset] [(.ref a_132), (.ref b95)])) t_
        refine st136.trans ?_
        show Steps p.tables e below (T136.setTop (mkF m 301 #[.val (.int codeA), .val (.int codeB), .val (.int msgA), .val (.int msgB), .val (.int mode), .val (.int q1), .val (.int q4), .val (.int q11), .val (.int (Int32.ofNat m16)), .val (.int q21), .val (.int q26), .val (.int q31), .val (.int q49), .val (.int q50), .val (.int q51), .val (.int q52), .val (.int (Int32.ofNat m57)), .val (.int q58), .val (.int q59), .val (.int q60), .val (.int q66), .val (.int q67), .val (.int q68), .val (.int q69), .val (.ref b95), .val (.ref a_132), .unset] [(.int (0 : Int32))])) _
        refine XS.ifNo X136.here hx rfl (Jvm.hb hby at_301) rfl ((if0 _ _).trans (teq (rfl : (0 : Int32) = (0 : Int32))).2) ?_
        show Steps p.tables e below (T136.setTop (mkF m 304 #[.val (.int codeA), .val (.int codeB), .val (.int msgA), .val (.int msgB), .val (.int mode), .val (.int q1), .val (.int q4), .val (.int q11), .val (.int (Int32.ofNat m16)), .val (.int q21), .val (.int q26), .val (.int q31), .val (.int q49), .val (.int q50), .val (.int q51), .val (.int q52), .val (.int (Int32.ofNat m57)), .val (.int q58), .val (.int q59), .val (.int q60), .val (.int q66), .val (.int q67), .val (.int q68), .val (.int q69), .val (.ref b95), .val (.ref a_132), .unset] [])) _
        refine XS.iconst X136.here hx rfl (Jvm.hb hby at_304) ?_
        refine XS.goto X136.here hx rfl (pc0 := 305) (pc' := 309) rfl (Jvm.hb hby at_305) (by decide) (by decide) ?_
        show Steps p.tables e below (T136.setTop (mkF m 309 #[.val (.int codeA), .val (.int codeB), .val (.int msgA), .val (.int msgB), .val (.int mode), .val (.int q1), .val (.int q4), .val (.int q11), .val (.int (Int32.ofNat m16)), .val (.int q21), .val (.int q26), .val (.int q31), .val (.int q49), .val (.int q50), .val (.int q51), .val (.int q52), .val (.int (Int32.ofNat m57)), .val (.int q58), .val (.int q59), .val (.int q60), .val (.int q66), .val (.int q67), .val (.int q68), .val (.int q69), .val (.ref b95), .val (.ref a_132), .unset] [(.int (1 : Int32))])) t_
        exact k_)
      obtain ⟨fs, hr, hrun, hended, hREW⟩ := X136.leaveW hS (by first | exact Nat.le_refl _ | (rw [e136]; exact hk)) (v := some (.int (1 : Int32))) (fun h => by rw [Bd.returns] at h; cases h)
      refine ⟨_, _, s138 _ ?_, hrun, hended, _, _, rfl, ?_, (by show CHr Z ELs s.vm s.heap T136.vm T136.heap; rw [hh, e136]; exact CR.trans (CHv.at X136 hZ hEL CR.1)), hREW.1, hREW.2.1, hREW.2.2.1, hREW.2.2.2.mono (by decide) (by decide)⟩
      · show Steps p.tables e below (T136.setTop (mkF m 309 #[.val (.int codeA), .val (.int codeB), .val (.int msgA), .val (.int msgB), .val (.int mode), .val (.int q1), .val (.int q4), .val (.int q11), .val (.int (Int32.ofNat m16)), .val (.int q21), .val (.int q26), .val (.int q31), .val (.int q49), .val (.int q50), .val (.int q51), .val (.int q52), .val (.int (Int32.ofNat m57)), .val (.int q58), .val (.int q59), .val (.int q60), .val (.int q66), .val (.int q67), .val (.int q68), .val (.int q69), .val (.ref b95), .val (.ref a_132), .unset] [(.int (1 : Int32))])) _
        exact retN X136 hx (t := .boolean) Bd.returns (by simp) (Jvm.hb hby at_309) hr
      · show Q_rmLaw Z _ _ _ _ _ _ _ h0 n0 _ T136.heap _
        rw [e136]
        exact ⟨rfl, N136⟩
    · have s139 : ∀ t_, Steps p.tables e below (T119.setTop (mkF m 313 #[.val (.int codeA), .val (.int codeB), .val (.int msgA), .val (.int msgB), .val (.int mode), .val (.int q1), .val (.int q4), .val (.int q11), .val (.int (Int32.ofNat m16)), .val (.int q21), .val (.int q26), .val (.int q31), .val (.int q49), .val (.int q50), .val (.int q51), .val (.int q52), .val (.int (Int32.ofNat m57)), .val (.int q58), .val (.int q59), .val (.int q60), .val (.int q66), .val (.int q67), .val (.int q68), .val (.int q69), .val (.ref b95), .unset, .unset] [(.int (3 : Int32)), (.int q1)])) t_ → Steps p.tables e below (s₁.setTop (entryFrame m #[(.int codeA), (.int codeB), (.int msgA), (.int msgB), (.int mode)] maxLocals)) t_ := fun t_ k_ => s127 t_ (by
        show Steps p.tables e below (T119.setTop (mkF m 278 #[.val (.int codeA), .val (.int codeB), .val (.int msgA), .val (.int msgB), .val (.int mode), .val (.int q1), .val (.int q4), .val (.int q11), .val (.int (Int32.ofNat m16)), .val (.int q21), .val (.int q26), .val (.int q31), .val (.int q49), .val (.int q50), .val (.int q51), .val (.int q52), .val (.int (Int32.ofNat m57)), .val (.int q58), .val (.int q59), .val (.int q60), .val (.int q66), .val (.int q67), .val (.int q68), .val (.int q69), .val (.ref b95), .unset, .unset] [(.int (2 : Int32)), (.int q1)])) t_
        refine XS.icmpYes X119.here hx rfl (pc0 := 278) (pc' := 310) rfl (Jvm.hb hby at_278) rfl (feq h128).2 (by decide) (by decide) ?_
        show Steps p.tables e below (T119.setTop (mkF m 310 #[.val (.int codeA), .val (.int codeB), .val (.int msgA), .val (.int msgB), .val (.int mode), .val (.int q1), .val (.int q4), .val (.int q11), .val (.int (Int32.ofNat m16)), .val (.int q21), .val (.int q26), .val (.int q31), .val (.int q49), .val (.int q50), .val (.int q51), .val (.int q52), .val (.int (Int32.ofNat m57)), .val (.int q58), .val (.int q59), .val (.int q60), .val (.int q66), .val (.int q67), .val (.int q68), .val (.int q69), .val (.ref b95), .unset, .unset] [])) _
        refine XS.iload X119.here hx rfl (Jvm.hb hby at_310) rfl ?_
        refine XS.iconst X119.here hx rfl (Jvm.hb hby at_312) ?_
        show Steps p.tables e below (T119.setTop (mkF m 313 #[.val (.int codeA), .val (.int codeB), .val (.int msgA), .val (.int msgB), .val (.int mode), .val (.int q1), .val (.int q4), .val (.int q11), .val (.int (Int32.ofNat m16)), .val (.int q21), .val (.int q26), .val (.int q31), .val (.int q49), .val (.int q50), .val (.int q51), .val (.int q52), .val (.int (Int32.ofNat m57)), .val (.int q58), .val (.int q59), .val (.int q60), .val (.int q66), .val (.int q67), .val (.int q68), .val (.int q69), .val (.ref b95), .unset, .unset] [(.int (3 : Int32)), (.int q1)])) t_
        exact k_)
      by_cases h140 : q1 = (3 : Int32)
      · have s141 : ∀ t_, Steps p.tables e below (T119.setTop (mkF m 320 #[.val (.int codeA), .val (.int codeB), .val (.int msgA), .val (.int msgB), .val (.int mode), .val (.int q1), .val (.int q4), .val (.int q11), .val (.int (Int32.ofNat m16)), .val (.int q21), .val (.int q26), .val (.int q31), .val (.int q49), .val (.int q50), .val (.int q51), .val (.int q52), .val (.int (Int32.ofNat m57)), .val (.int q58), .val (.int q59), .val (.int q60), .val (.int q66), .val (.int q67), .val (.int q68), .val (.int q69), .val (.ref b95), .unset, .unset] [(.ref b95), (.ref b95)])) t_ → Steps p.tables e below (s₁.setTop (entryFrame m #[(.int codeA), (.int codeB), (.int msgA), (.int msgB), (.int mode)] maxLocals)) t_ := fun t_ k_ => s139 t_ (by
          show Steps p.tables e below (T119.setTop (mkF m 313 #[.val (.int codeA), .val (.int codeB), .val (.int msgA), .val (.int msgB), .val (.int mode), .val (.int q1), .val (.int q4), .val (.int q11), .val (.int (Int32.ofNat m16)), .val (.int q21), .val (.int q26), .val (.int q31), .val (.int q49), .val (.int q50), .val (.int q51), .val (.int q52), .val (.int (Int32.ofNat m57)), .val (.int q58), .val (.int q59), .val (.int q60), .val (.int q66), .val (.int q67), .val (.int q68), .val (.int q69), .val (.ref b95), .unset, .unset] [(.int (3 : Int32)), (.int q1)])) t_
          refine XS.icmpNo X119.here hx rfl (Jvm.hb hby at_313) rfl (teq h140).2 ?_
          show Steps p.tables e below (T119.setTop (mkF m 316 #[.val (.int codeA), .val (.int codeB), .val (.int msgA), .val (.int msgB), .val (.int mode), .val (.int q1), .val (.int q4), .val (.int q11), .val (.int (Int32.ofNat m16)), .val (.int q21), .val (.int q26), .val (.int q31), .val (.int q49), .val (.int q50), .val (.int q51), .val (.int q52), .val (.int (Int32.ofNat m57)), .val (.int q58), .val (.int q59), .val (.int q60), .val (.int q66), .val (.int q67), .val (.int q68), .val (.int q69), .val (.ref b95), .unset, .unset] [])) _
          refine XS.aload X119.here hx rfl (Jvm.hb hby at_316) rfl rfl ?_
          refine XS.aload X119.here hx rfl (Jvm.hb hby at_318) rfl rfl ?_
          show Steps p.tables e below (T119.setTop (mkF m 320 #[.val (.int codeA), .val (.int codeB), .val (.int msgA), .val (.int msgB), .val (.int mode), .val (.int q1), .val (.int q4), .val (.int q11), .val (.int (Int32.ofNat m16)), .val (.int q21), .val (.int q26), .val (.int q31), .val (.int q49), .val (.int q50), .val (.int q51), .val (.int q52), .val (.int (Int32.ofNat m57)), .val (.int q58), .val (.int q59), .val (.int q60), .val (.int q66), .val (.int q67), .val (.int q68), .val (.int q69), .val (.ref b95), .unset, .unset] [(.ref b95), (.ref b95)])) t_
          exact k_)
        have f142 : Exa Z h119 a_102 "java/lang/String" := (f114.keep K119)
        have f143 : Exa Z h119 a_107 "java/lang/String" := (Fq107_0.keep K119)
        have Zc144 : n0 ≤ h119.size := by omega
        obtain ⟨cq145, kq145, q145a, q145b, q145c⟩ := isOf hZ e119 Fq119_0
        obtain ⟨_, _, ⟨T145, L145, k145, n145⟩, -, X145, ⟨Lc145, hQ145, l145, y145, z145⟩, st145⟩ := X119.virtualBack hx (y := (⟨"com/example/zastupnik/zastupnik/protocol/ServiceError", "equals", "(Ljava/lang/Object;)Z"⟩ : MethodName)) (z := (⟨"com/example/zastupnik/zastupnik/protocol/ServiceError", "equals", "(Ljava/lang/Object;)Z"⟩ : MethodName)) hown (mvT hZ (hw _ (List.mem_of_getElem? (i := 102) rfl))) (mvT hZ (hw _ (List.mem_of_getElem? (i := 103) rfl))) (notFace_of_selects (args := #[]) (mvT hZ (hw _ (List.mem_of_getElem? (i := 105) rfl)))) (mvT hZ (hw _ (List.mem_of_getElem? (i := 105) rfl))) (mvT hZ (hw _ (List.mem_of_getElem? (i := 104) rfl))) (by decide) (backOf (W := 0) (rmEqS l Z a0 hw [] b95 a_102 a_107 h119 n0 Zc144 Fq119_0 Fq119_1 Fq119_2 f142 f143) hZ (hw _ (List.mem_of_getElem? (i := 106) rfl)) (hw _ (List.mem_of_getElem? (i := 6) rfl)) (by decide) (by decide)) q145a q145c (g := (mkF m 320 #[.val (.int codeA), .val (.int codeB), .val (.int msgA), .val (.int msgB), .val (.int mode), .val (.int q1), .val (.int q4), .val (.int q11), .val (.int (Int32.ofNat m16)), .val (.int q21), .val (.int q26), .val (.int q31), .val (.int q49), .val (.int q50), .val (.int q51), .val (.int q52), .val (.int (Int32.ofNat m57)), .val (.int q58), .val (.int q59), .val (.int q60), .val (.int q66), .val (.int q67), .val (.int q68), .val (.int q69), .val (.ref b95), .unset, .unset] [(.ref b95), (.ref b95)])) rfl (by rw [hml]; rfl) (Steps.refl _) (argsL := [(.ref b95)]) (rest := []) (lenOf pd__Ljava_lang_Object__Z rfl) rfl (by show 2 * 0 + _ ≤ _; exact Nat.le_of_eq rfl) (Jvm.hb hby at_320) (fun _ _ => ⟨rfl, e119, (by decide : 17 + 0 ≤ _), (by decide : 84 + 0 ≤ _)⟩)
        dsimp only [Pt.U, Pt.locs, Pt.cells, Pt.slots] at X145 l145 y145 z145 st145 hQ145
        subst l145 y145 z145
        obtain ⟨rfl, N145q, e145⟩ := hQ145
        have N145 := Fr.app N119 N145q
        have s146 : ∀ t_, Steps p.tables e below (T145.setTop (mkF m 323 #[.val (.int codeA), .val (.int codeB), .val (.int msgA), .val (.int msgB), .val (.int mode), .val (.int q1), .val (.int q4), .val (.int q11), .val (.int (Int32.ofNat m16)), .val (.int q21), .val (.int q26), .val (.int q31), .val (.int q49), .val (.int q50), .val (.int q51), .val (.int q52), .val (.int (Int32.ofNat m57)), .val (.int q58), .val (.int q59), .val (.int q60), .val (.int q66), .val (.int q67), .val (.int q68), .val (.int q69), .val (.ref b95), .unset, .unset] [(.int (1 : Int32))])) t_ → Steps p.tables e below (s₁.setTop (entryFrame m #[(.int codeA), (.int codeB), (.int msgA), (.int msgB), (.int mode)] maxLocals)) t_ := fun t_ k_ => s141 t_ (by
          show Steps p.tables e below (T119.setTop (mkF m 320 #[.val (.int codeA), .val (.int codeB), .val (.int msgA), .val (.int msgB), .val (.int mode), .val (.int q1), .val (.int q4), .val (.int q11), .val (.int (Int32.ofNat m16)), .val (.int q21), .val (.int q26), .val (.int q31), .val (.int q49), .val (.int q50), .val (.int q51), .val (.int q52), .val (.int (Int32.ofNat m57)), .val (.int q58), .val (.int q59), .val (.int q60), .val (.int q66), .val (.int q67), .val (.int q68), .val (.int q69), .val (.ref b95), .unset, .unset] [(.ref b95), (.ref b95)])) t_
          refine st145.trans ?_
          show Steps p.tables e below (T145.setTop (mkF m 323 #[.val (.int codeA), .val (.int codeB), .val (.int msgA), .val (.int msgB), .val (.int mode), .val (.int q1), .val (.int q4), .val (.int q11), .val (.int (Int32.ofNat m16)), .val (.int q21), .val (.int q26), .val (.int q31), .val (.int q49), .val (.int q50), .val (.int q51), .val (.int q52), .val (.int (Int32.ofNat m57)), .val (.int q58), .val (.int q59), .val (.int q60), .val (.int q66), .val (.int q67), .val (.int q68), .val (.int q69), .val (.ref b95), .unset, .unset] [(.int (1 : Int32))])) _
          show Steps p.tables e below (T145.setTop (mkF m 323 #[.val (.int codeA), .val (.int codeB), .val (.int msgA), .val (.int msgB), .val (.int mode), .val (.int q1), .val (.int q4), .val (.int q11), .val (.int (Int32.ofNat m16)), .val (.int q21), .val (.int q26), .val (.int q31), .val (.int q49), .val (.int q50), .val (.int q51), .val (.int q52), .val (.int (Int32.ofNat m57)), .val (.int q58), .val (.int q59), .val (.int q60), .val (.int q66), .val (.int q67), .val (.int q68), .val (.int q69), .val (.ref b95), .unset, .unset] [(.int (1 : Int32))])) t_
          exact k_)
        obtain ⟨fs, hr, hrun, hended, hREW⟩ := X145.leaveW hS (by first | exact Nat.le_refl _ | (rw [e145]; exact hk)) (v := some (.int (1 : Int32))) (fun h => by rw [Bd.returns] at h; cases h)
        refine ⟨_, _, s146 _ ?_, hrun, hended, _, _, rfl, ?_, (by show CHr Z ELs s.vm s.heap T145.vm T145.heap; rw [hh, e145]; exact CR.trans (CHv.at X145 hZ hEL CR.1)), hREW.1, hREW.2.1, hREW.2.2.1, hREW.2.2.2.mono (by decide) (by decide)⟩
        · show Steps p.tables e below (T145.setTop (mkF m 323 #[.val (.int codeA), .val (.int codeB), .val (.int msgA), .val (.int msgB), .val (.int mode), .val (.int q1), .val (.int q4), .val (.int q11), .val (.int (Int32.ofNat m16)), .val (.int q21), .val (.int q26), .val (.int q31), .val (.int q49), .val (.int q50), .val (.int q51), .val (.int q52), .val (.int (Int32.ofNat m57)), .val (.int q58), .val (.int q59), .val (.int q60), .val (.int q66), .val (.int q67), .val (.int q68), .val (.int q69), .val (.ref b95), .unset, .unset] [(.int (1 : Int32))])) _
          exact retN X145 hx (t := .boolean) Bd.returns (by simp) (Jvm.hb hby at_323) hr
        · show Q_rmLaw Z _ _ _ _ _ _ _ h0 n0 _ T145.heap _
          rw [e145]
          exact ⟨rfl, N145⟩
      · obtain ⟨T147, h147, X147, e147, E147, A147, D147, -, st147⟩ := newO X119 hx hZ hown (hw _ (List.mem_of_getElem? (i := 4) rfl)) (hw _ (List.mem_of_getElem? (i := 5) rfl)) (hw _ (List.mem_of_getElem? (i := 6) rfl)) e119 (g := (mkF m 324 #[.val (.int codeA), .val (.int codeB), .val (.int msgA), .val (.int msgB), .val (.int mode), .val (.int q1), .val (.int q4), .val (.int q11), .val (.int (Int32.ofNat m16)), .val (.int q21), .val (.int q26), .val (.int q31), .val (.int q49), .val (.int q50), .val (.int q51), .val (.int q52), .val (.int (Int32.ofNat m57)), .val (.int q58), .val (.int q59), .val (.int q60), .val (.int q66), .val (.int q67), .val (.int q68), .val (.int q69), .val (.ref b95), .unset, .unset] [])) rfl (Jvm.hb hby at_324) (by decide) (by decide)
        obtain ⟨b147, g147⟩ : ∃ z, z = h119.size := ⟨_, rfl⟩
        rw [← g147] at A147 D147 st147
        have z148 : h119.size ≤ h147.size := E147.1
        have Cp148 : CHr Z ELs T119.vm h119 T119.vm h147 := CHr.ext E147 CR.1
        have hk := Nat.le_trans hk z148
        have CR := CR.trans Cp148
        have l147 : b147 < h147.size := A147.lt
        have F149 : Fld Z h147 b147 "com/example/zastupnik/zastupnik/protocol/ServiceError" "code" "Ljava/lang/String;" .null := D147 (Or.inr (hw _ (List.mem_of_getElem? (i := 94) rfl))) (ty := (.object "java/lang/String")) (by decide)
        have F150 : Fld Z h147 b147 "com/example/zastupnik/zastupnik/protocol/ServiceError" "message" "Ljava/lang/String;" .null := D147 (Or.inr (hw _ (List.mem_of_getElem? (i := 98) rfl))) (ty := (.object "java/lang/String")) (by decide)
        have s151 : ∀ t_, Steps p.tables e below (T147.setTop (mkF m 336 #[.val (.int codeA), .val (.int codeB), .val (.int msgA), .val (.int msgB), .val (.int mode), .val (.int q1), .val (.int q4), .val (.int q11), .val (.int (Int32.ofNat m16)), .val (.int q21), .val (.int q26), .val (.int q31), .val (.int (Int32.ofNat nD)), .val (.int q50), .val (.int q51), .val (.int q52), .val (.int (Int32.ofNat m57)), .val (.int q58), .val (.int q59), .val (.int q60), .val (.int q66), .val (.int q67), .val (.int q68), .val (.int q69), .val (.ref b95), .unset, .unset] [(.int q52), (.int q51), (.int q50), (.int (Int32.ofNat nD)), (.ref b147), (.ref b147)])) t_ → Steps p.tables e below (s₁.setTop (entryFrame m #[(.int codeA), (.int codeB), (.int msgA), (.int msgB), (.int mode)] maxLocals)) t_ := fun t_ k_ => s139 t_ (by
          show Steps p.tables e below (T119.setTop (mkF m 313 #[.val (.int codeA), .val (.int codeB), .val (.int msgA), .val (.int msgB), .val (.int mode), .val (.int q1), .val (.int q4), .val (.int q11), .val (.int (Int32.ofNat m16)), .val (.int q21), .val (.int q26), .val (.int q31), .val (.int q49), .val (.int q50), .val (.int q51), .val (.int q52), .val (.int (Int32.ofNat m57)), .val (.int q58), .val (.int q59), .val (.int q60), .val (.int q66), .val (.int q67), .val (.int q68), .val (.int q69), .val (.ref b95), .unset, .unset] [(.int (3 : Int32)), (.int q1)])) t_
          refine XS.icmpYes X119.here hx rfl (pc0 := 313) (pc' := 324) rfl (Jvm.hb hby at_313) rfl (feq h140).2 (by decide) (by decide) ?_
          show Steps p.tables e below (T119.setTop (mkF m 324 #[.val (.int codeA), .val (.int codeB), .val (.int msgA), .val (.int msgB), .val (.int mode), .val (.int q1), .val (.int q4), .val (.int q11), .val (.int (Int32.ofNat m16)), .val (.int q21), .val (.int q26), .val (.int q31), .val (.int q49), .val (.int q50), .val (.int q51), .val (.int q52), .val (.int (Int32.ofNat m57)), .val (.int q58), .val (.int q59), .val (.int q60), .val (.int q66), .val (.int q67), .val (.int q68), .val (.int q69), .val (.ref b95), .unset, .unset] [])) _
          refine st147 _ ?_
          show Steps p.tables e below (T147.setTop (mkF m 327 #[.val (.int codeA), .val (.int codeB), .val (.int msgA), .val (.int msgB), .val (.int mode), .val (.int q1), .val (.int q4), .val (.int q11), .val (.int (Int32.ofNat m16)), .val (.int q21), .val (.int q26), .val (.int q31), .val (.int q49), .val (.int q50), .val (.int q51), .val (.int q52), .val (.int (Int32.ofNat m57)), .val (.int q58), .val (.int q59), .val (.int q60), .val (.int q66), .val (.int q67), .val (.int q68), .val (.int q69), .val (.ref b95), .unset, .unset] [(.ref b147)])) _
          refine XS.dup X147.here hx rfl (Jvm.hb hby at_327) rfl rfl ?_
          show Steps p.tables e below (T147.setTop (mkF m 328 #[.val (.int codeA), .val (.int codeB), .val (.int msgA), .val (.int msgB), .val (.int mode), .val (.int q1), .val (.int q4), .val (.int q11), .val (.int (Int32.ofNat m16)), .val (.int q21), .val (.int q26), .val (.int q31), .val (.int q49), .val (.int q50), .val (.int q51), .val (.int q52), .val (.int (Int32.ofNat m57)), .val (.int q58), .val (.int q59), .val (.int q60), .val (.int q66), .val (.int q67), .val (.int q68), .val (.int q69), .val (.ref b95), .unset, .unset] [(.ref b147), (.ref b147)])) _
          refine castTop (g' := (mkF m 328 #[.val (.int codeA), .val (.int codeB), .val (.int msgA), .val (.int msgB), .val (.int mode), .val (.int q1), .val (.int q4), .val (.int q11), .val (.int (Int32.ofNat m16)), .val (.int q21), .val (.int q26), .val (.int q31), .val (.int (Int32.ofNat nD)), .val (.int q50), .val (.int q51), .val (.int q52), .val (.int (Int32.ofNat m57)), .val (.int q58), .val (.int q59), .val (.int q60), .val (.int q66), .val (.int q67), .val (.int q68), .val (.int q69), .val (.ref b95), .unset, .unset] [(.ref b147), (.ref b147)])) (by rw [hnD]) ?_
          show Steps p.tables e below (T147.setTop (mkF m 328 #[.val (.int codeA), .val (.int codeB), .val (.int msgA), .val (.int msgB), .val (.int mode), .val (.int q1), .val (.int q4), .val (.int q11), .val (.int (Int32.ofNat m16)), .val (.int q21), .val (.int q26), .val (.int q31), .val (.int (Int32.ofNat nD)), .val (.int q50), .val (.int q51), .val (.int q52), .val (.int (Int32.ofNat m57)), .val (.int q58), .val (.int q59), .val (.int q60), .val (.int q66), .val (.int q67), .val (.int q68), .val (.int q69), .val (.ref b95), .unset, .unset] [(.ref b147), (.ref b147)])) _
          refine XS.iload X147.here hx rfl (Jvm.hb hby at_328) rfl ?_
          refine XS.iload X147.here hx rfl (Jvm.hb hby at_330) rfl ?_
          refine XS.iload X147.here hx rfl (Jvm.hb hby at_332) rfl ?_
          refine XS.iload X147.here hx rfl (Jvm.hb hby at_334) rfl ?_
          show Steps p.tables e below (T147.setTop (mkF m 336 #[.val (.int codeA), .val (.int codeB), .val (.int msgA), .val (.int msgB), .val (.int mode), .val (.int q1), .val (.int q4), .val (.int q11), .val (.int (Int32.ofNat m16)), .val (.int q21), .val (.int q26), .val (.int q31), .val (.int (Int32.ofNat nD)), .val (.int q50), .val (.int q51), .val (.int q52), .val (.int (Int32.ofNat m57)), .val (.int q58), .val (.int q59), .val (.int q60), .val (.int q66), .val (.int q67), .val (.int q68), .val (.int q69), .val (.ref b95), .unset, .unset] [(.int q52), (.int q51), (.int q50), (.int (Int32.ofNat nD)), (.ref b147), (.ref b147)])) t_
          exact k_)
        have O152 : Old Z n0 h147 := ((O110.keep K119 (allS (show n0 ≤ b95 by omega) all0)).ext E147)
        have Zc153 : n0 ≤ h147.size := by omega
        obtain ⟨_, _, ⟨T154, L154, k154, n154⟩, -, Xr154, hSr154, hg154, ⟨Lc154, hQ154, l154, y154, z154, Cp154⟩, st154⟩ := callSS X147 hx (y := (⟨"com/example/zastupnik/zastupnik/protocol/ServiceErrorEqualsPinLaw", "mk", "(ICCC)Ljava/lang/String;"⟩ : MethodName)) hown (mvT hZ (hw _ (List.mem_of_getElem? (i := 7) rfl))) (mvT hZ (hw _ (List.mem_of_getElem? (i := 8) rfl))) (mvT hZ (hw _ (List.mem_of_getElem? (i := 2) rfl))) (mvT hZ (hw _ (List.mem_of_getElem? (i := 9) rfl))) (by decide) (backOfSH (s := s) (vm0 := T119.vm) (W := 2) (rmMk l Z a0 hw [] q50 q51 q52 cst nD h147 n0 Zc153 I1 O152 (hcst : ¬ (cst = (0 : Int32))) (by first | assumption | omega | rfl | decide : nD < 4) (rg85.1 : ¬ (q50 < (0 : Int32))) (rg88.1 : ¬ (q51 < (0 : Int32))) (rg91.1 : ¬ (q52 < (0 : Int32))) (rg85.2 : ¬ ((255 : Int32) < q50)) (rg88.2 : ¬ ((255 : Int32) < q51)) (rg91.2 : ¬ ((255 : Int32) < q52))) hZ (hw _ (List.mem_of_getElem? (i := 9) rfl)) (hw _ (List.mem_of_getElem? (i := 2) rfl)) (by decide) (by decide) hEL CR.1) (g := (mkF m 336 #[.val (.int codeA), .val (.int codeB), .val (.int msgA), .val (.int msgB), .val (.int mode), .val (.int q1), .val (.int q4), .val (.int q11), .val (.int (Int32.ofNat m16)), .val (.int q21), .val (.int q26), .val (.int q31), .val (.int (Int32.ofNat nD)), .val (.int q50), .val (.int q51), .val (.int q52), .val (.int (Int32.ofNat m57)), .val (.int q58), .val (.int q59), .val (.int q60), .val (.int q66), .val (.int q67), .val (.int q68), .val (.int q69), .val (.ref b95), .unset, .unset] [(.int q52), (.int q51), (.int q50), (.int (Int32.ofNat nD)), (.ref b147), (.ref b147)])) rfl (by rw [hml]; rfl) (argsL := [(.int (Int32.ofNat nD)), (.int q50), (.int q51), (.int q52)]) (rest := [(.ref b147), (.ref b147)]) (lenOf pd__ICCC_Ljava_lang_String_ rfl) rfl (by show 2 * 0 + _ ≤ _; exact Nat.le_of_eq rfl) (Jvm.hb hby at_336) (fun _ _ => ⟨rfl, e147, (by decide : 18 + 6 ≤ _), (by decide : 86 + 15 ≤ _)⟩)
        dsimp only [Pt.U, Pt.locs, Pt.cells, Pt.slots] at Xr154 hSr154 hg154 l154 y154 z154 st154 hQ154 Cp154
        subst l154 y154 z154
        obtain ⟨X154, hS, hZ, hown⟩ := rebS (own := "com/example/zastupnik/zastupnik/protocol/ServiceErrorEqualsPinLaw") hS (by first | exact Nat.le_refl _ | (rw [e147]; exact hk)) Xr154 hSr154 hg154 hZ hown
        obtain ⟨a_154, b_154, kb_154, rfl, N154q, K154, Fq154_0, Fq154_1, Fq154_2, Fq154_3, P154_0⟩ := hQ154
        have N154 := Fr.app N119 N154q
        obtain ⟨h154, e154⟩ : ∃ z, T154.heap = z := ⟨_, rfl⟩
        rw [e154] at K154 Fq154_0 Fq154_1 Fq154_2 Fq154_3 Cp154
        have hk : T154.heap.size ≤ h154.size := Nat.le_of_eq (congrArg Array.size e154)
        have z155 : h147.size ≤ h154.size := K154.1
        have CR := CR.trans Cp154
        have lt154_0 : @LT.lt Nat _ a_154 h154.size := Fq154_0.lt
        have lt154_3 : @LT.lt Nat _ b_154 h154.size := Fq154_3.lt
        have s156 : ∀ t_, Steps p.tables e below (T154.setTop (mkF m 347 #[.val (.int codeA), .val (.int codeB), .val (.int msgA), .val (.int msgB), .val (.int mode), .val (.int q1), .val (.int q4), .val (.int q11), .val (.int (Int32.ofNat m16)), .val (.int q21), .val (.int q26), .val (.int q31), .val (.int (Int32.ofNat nD)), .val (.int q50), .val (.int q51), .val (.int q52), .val (.int (Int32.ofNat m57)), .val (.int q58), .val (.int q59), .val (.int q60), .val (.int (Int32.ofNat nK)), .val (.int q67), .val (.int q68), .val (.int q69), .val (.ref b95), .unset, .unset] [(.int q69), (.int q68), (.int q67), (.int (Int32.ofNat nK)), (.ref a_154), (.ref b147), (.ref b147)])) t_ → Steps p.tables e below (s₁.setTop (entryFrame m #[(.int codeA), (.int codeB), (.int msgA), (.int msgB), (.int mode)] maxLocals)) t_ := fun t_ k_ => s151 t_ (by
          show Steps p.tables e below (T147.setTop (mkF m 336 #[.val (.int codeA), .val (.int codeB), .val (.int msgA), .val (.int msgB), .val (.int mode), .val (.int q1), .val (.int q4), .val (.int q11), .val (.int (Int32.ofNat m16)), .val (.int q21), .val (.int q26), .val (.int q31), .val (.int (Int32.ofNat nD)), .val (.int q50), .val (.int q51), .val (.int q52), .val (.int (Int32.ofNat m57)), .val (.int q58), .val (.int q59), .val (.int q60), .val (.int q66), .val (.int q67), .val (.int q68), .val (.int q69), .val (.ref b95), .unset, .unset] [(.int q52), (.int q51), (.int q50), (.int (Int32.ofNat nD)), (.ref b147), (.ref b147)])) t_
          refine st154.trans ?_
          show Steps p.tables e below (T154.setTop (mkF m 339 #[.val (.int codeA), .val (.int codeB), .val (.int msgA), .val (.int msgB), .val (.int mode), .val (.int q1), .val (.int q4), .val (.int q11), .val (.int (Int32.ofNat m16)), .val (.int q21), .val (.int q26), .val (.int q31), .val (.int (Int32.ofNat nD)), .val (.int q50), .val (.int q51), .val (.int q52), .val (.int (Int32.ofNat m57)), .val (.int q58), .val (.int q59), .val (.int q60), .val (.int q66), .val (.int q67), .val (.int q68), .val (.int q69), .val (.ref b95), .unset, .unset] [(.ref a_154), (.ref b147), (.ref b147)])) _
          refine castTop (g' := (mkF m 339 #[.val (.int codeA), .val (.int codeB), .val (.int msgA), .val (.int msgB), .val (.int mode), .val (.int q1), .val (.int q4), .val (.int q11), .val (.int (Int32.ofNat m16)), .val (.int q21), .val (.int q26), .val (.int q31), .val (.int (Int32.ofNat nD)), .val (.int q50), .val (.int q51), .val (.int q52), .val (.int (Int32.ofNat m57)), .val (.int q58), .val (.int q59), .val (.int q60), .val (.int (Int32.ofNat nK)), .val (.int q67), .val (.int q68), .val (.int q69), .val (.ref b95), .unset, .unset] [(.ref a_154), (.ref b147), (.ref b147)])) (by rw [hnK]) ?_
          show Steps p.tables e below (T154.setTop (mkF m 339 #[.val (.int codeA), .val (.int codeB), .val (.int msgA), .val (.int msgB), .val (.int mode), .val (.int q1), .val (.int q4), .val (.int q11), .val (.int (Int32.ofNat m16)), .val (.int q21), .val (.int q26), .val (.int q31), .val (.int (Int32.ofNat nD)), .val (.int q50), .val (.int q51), .val (.int q52), .val (.int (Int32.ofNat m57)), .val (.int q58), .val (.int q59), .val (.int q60), .val (.int (Int32.ofNat nK)), .val (.int q67), .val (.int q68), .val (.int q69), .val (.ref b95), .unset, .unset] [(.ref a_154), (.ref b147), (.ref b147)])) _
          refine XS.iload X154.here hx rfl (Jvm.hb hby at_339) rfl ?_
          refine XS.iload X154.here hx rfl (Jvm.hb hby at_341) rfl ?_
          refine XS.iload X154.here hx rfl (Jvm.hb hby at_343) rfl ?_
          refine XS.iload X154.here hx rfl (Jvm.hb hby at_345) rfl ?_
          show Steps p.tables e below (T154.setTop (mkF m 347 #[.val (.int codeA), .val (.int codeB), .val (.int msgA), .val (.int msgB), .val (.int mode), .val (.int q1), .val (.int q4), .val (.int q11), .val (.int (Int32.ofNat m16)), .val (.int q21), .val (.int q26), .val (.int q31), .val (.int (Int32.ofNat nD)), .val (.int q50), .val (.int q51), .val (.int q52), .val (.int (Int32.ofNat m57)), .val (.int q58), .val (.int q59), .val (.int q60), .val (.int (Int32.ofNat nK)), .val (.int q67), .val (.int q68), .val (.int q69), .val (.ref b95), .unset, .unset] [(.int q69), (.int q68), (.int q67), (.int (Int32.ofNat nK)), (.ref a_154), (.ref b147), (.ref b147)])) t_
          exact k_)
        have O157 : Old Z n0 h154 := (O152.keep K154 all0)
        have Zc158 : n0 ≤ h154.size := by omega
        obtain ⟨_, _, ⟨T159, L159, k159, n159⟩, -, Xr159, hSr159, hg159, ⟨Lc159, hQ159, l159, y159, z159, Cp159⟩, st159⟩ := callSS X154 hx (y := (⟨"com/example/zastupnik/zastupnik/protocol/ServiceErrorEqualsPinLaw", "mk", "(ICCC)Ljava/lang/String;"⟩ : MethodName)) hown (mvT hZ (hw _ (List.mem_of_getElem? (i := 7) rfl))) (mvT hZ (hw _ (List.mem_of_getElem? (i := 8) rfl))) (mvT hZ (hw _ (List.mem_of_getElem? (i := 2) rfl))) (mvT hZ (hw _ (List.mem_of_getElem? (i := 9) rfl))) (by decide) (backOfSH (s := s) (vm0 := T154.vm) (W := 3) (rmMk l Z a0 hw [] q67 q68 q69 cst nK h154 n0 Zc158 I1 O157 (hcst : ¬ (cst = (0 : Int32))) (by first | assumption | omega | rfl | decide : nK < 4) (rg92.1 : ¬ (q67 < (0 : Int32))) (rg93.1 : ¬ (q68 < (0 : Int32))) (rg94.1 : ¬ (q69 < (0 : Int32))) (rg92.2 : ¬ ((255 : Int32) < q67)) (rg93.2 : ¬ ((255 : Int32) < q68)) (rg94.2 : ¬ ((255 : Int32) < q69))) hZ (hw _ (List.mem_of_getElem? (i := 9) rfl)) (hw _ (List.mem_of_getElem? (i := 2) rfl)) (by decide) (by decide) hEL CR.1) (g := (mkF m 347 #[.val (.int codeA), .val (.int codeB), .val (.int msgA), .val (.int msgB), .val (.int mode), .val (.int q1), .val (.int q4), .val (.int q11), .val (.int (Int32.ofNat m16)), .val (.int q21), .val (.int q26), .val (.int q31), .val (.int (Int32.ofNat nD)), .val (.int q50), .val (.int q51), .val (.int q52), .val (.int (Int32.ofNat m57)), .val (.int q58), .val (.int q59), .val (.int q60), .val (.int (Int32.ofNat nK)), .val (.int q67), .val (.int q68), .val (.int q69), .val (.ref b95), .unset, .unset] [(.int q69), (.int q68), (.int q67), (.int (Int32.ofNat nK)), (.ref a_154), (.ref b147), (.ref b147)])) rfl (by rw [hml]; rfl) (argsL := [(.int (Int32.ofNat nK)), (.int q67), (.int q68), (.int q69)]) (rest := [(.ref a_154), (.ref b147), (.ref b147)]) (lenOf pd__ICCC_Ljava_lang_String_ rfl) rfl (by show 2 * 0 + _ ≤ _; exact Nat.le_of_eq rfl) (Jvm.hb hby at_347) (fun _ _ => ⟨rfl, e154, (by decide : 24 + 6 ≤ _), (by decide : 101 + 15 ≤ _)⟩)
        dsimp only [Pt.U, Pt.locs, Pt.cells, Pt.slots] at Xr159 hSr159 hg159 l159 y159 z159 st159 hQ159 Cp159
        subst l159 y159 z159
        obtain ⟨X159, hS, hZ, hown⟩ := rebS (own := "com/example/zastupnik/zastupnik/protocol/ServiceErrorEqualsPinLaw") hS (by first | exact Nat.le_refl _ | (rw [e154]; exact hk)) Xr159 hSr159 hg159 hZ hown
        obtain ⟨a_159, b_159, kb_159, rfl, N159q, K159, Fq159_0, Fq159_1, Fq159_2, Fq159_3, P159_0⟩ := hQ159
        have N159 := Fr.app N154 N159q
        obtain ⟨h159, e159⟩ : ∃ z, T159.heap = z := ⟨_, rfl⟩
        rw [e159] at K159 Fq159_0 Fq159_1 Fq159_2 Fq159_3 Cp159
        have hk : T159.heap.size ≤ h159.size := Nat.le_of_eq (congrArg Array.size e159)
        have z160 : h154.size ≤ h159.size := K159.1
        have CR := CR.trans Cp159
        have lt159_0 : @LT.lt Nat _ a_159 h159.size := Fq159_0.lt
        have lt159_3 : @LT.lt Nat _ b_159 h159.size := Fq159_3.lt
        have s161 : ∀ t_, Steps p.tables e below (T159.setTop (mkF m 350 #[.val (.int codeA), .val (.int codeB), .val (.int msgA), .val (.int msgB), .val (.int mode), .val (.int q1), .val (.int q4), .val (.int q11), .val (.int (Int32.ofNat m16)), .val (.int q21), .val (.int q26), .val (.int q31), .val (.int (Int32.ofNat nD)), .val (.int q50), .val (.int q51), .val (.int q52), .val (.int (Int32.ofNat m57)), .val (.int q58), .val (.int q59), .val (.int q60), .val (.int (Int32.ofNat nK)), .val (.int q67), .val (.int q68), .val (.int q69), .val (.ref b95), .unset, .unset] [(.ref a_159), (.ref a_154), (.ref b147), (.ref b147)])) t_ → Steps p.tables e below (s₁.setTop (entryFrame m #[(.int codeA), (.int codeB), (.int msgA), (.int msgB), (.int mode)] maxLocals)) t_ := fun t_ k_ => s156 t_ (by
          show Steps p.tables e below (T154.setTop (mkF m 347 #[.val (.int codeA), .val (.int codeB), .val (.int msgA), .val (.int msgB), .val (.int mode), .val (.int q1), .val (.int q4), .val (.int q11), .val (.int (Int32.ofNat m16)), .val (.int q21), .val (.int q26), .val (.int q31), .val (.int (Int32.ofNat nD)), .val (.int q50), .val (.int q51), .val (.int q52), .val (.int (Int32.ofNat m57)), .val (.int q58), .val (.int q59), .val (.int q60), .val (.int (Int32.ofNat nK)), .val (.int q67), .val (.int q68), .val (.int q69), .val (.ref b95), .unset, .unset] [(.int q69), (.int q68), (.int q67), (.int (Int32.ofNat nK)), (.ref a_154), (.ref b147), (.ref b147)])) t_
          refine st159.trans ?_
          show Steps p.tables e below (T159.setTop (mkF m 350 #[.val (.int codeA), .val (.int codeB), .val (.int msgA), .val (.int msgB), .val (.int mode), .val (.int q1), .val (.int q4), .val (.int q11), .val (.int (Int32.ofNat m16)), .val (.int q21), .val (.int q26), .val (.int q31), .val (.int (Int32.ofNat nD)), .val (.int q50), .val (.int q51), .val (.int q52), .val (.int (Int32.ofNat m57)), .val (.int q58), .val (.int q59), .val (.int q60), .val (.int (Int32.ofNat nK)), .val (.int q67), .val (.int q68), .val (.int q69), .val (.ref b95), .unset, .unset] [(.ref a_159), (.ref a_154), (.ref b147), (.ref b147)])) _
          show Steps p.tables e below (T159.setTop (mkF m 350 #[.val (.int codeA), .val (.int codeB), .val (.int msgA), .val (.int msgB), .val (.int mode), .val (.int q1), .val (.int q4), .val (.int q11), .val (.int (Int32.ofNat m16)), .val (.int q21), .val (.int q26), .val (.int q31), .val (.int (Int32.ofNat nD)), .val (.int q50), .val (.int q51), .val (.int q52), .val (.int (Int32.ofNat m57)), .val (.int q58), .val (.int q59), .val (.int q60), .val (.int (Int32.ofNat nK)), .val (.int q67), .val (.int q68), .val (.int q69), .val (.ref b95), .unset, .unset] [(.ref a_159), (.ref a_154), (.ref b147), (.ref b147)])) t_
          exact k_)
        have O162 : Old Z n0 h159 := (O157.keep K159 all0)
        have f163 : Exa Z h159 b147 "com/example/zastupnik/zastupnik/protocol/ServiceError" := ((A147.keep K154).keep K159)
        have f164 : Fld Z h159 b147 "com/example/zastupnik/zastupnik/protocol/ServiceError" "code" "Ljava/lang/String;" .null := ((F149.keep K154 nin0).keep K159 nin0)
        have f165 : Fld Z h159 b147 "com/example/zastupnik/zastupnik/protocol/ServiceError" "message" "Ljava/lang/String;" .null := ((F150.keep K154 nin0).keep K159 nin0)
        have f166 : Exa Z h159 a_154 "java/lang/String" := (Fq154_0.keep K159)
        have f167 : Fld Z h159 a_154 "java/lang/String" "value" "[B" (.ref b_154) := (Fq154_1.keep K159 nin0)
        have f168 : Fld Z h159 a_154 "java/lang/String" "coder" "B" (.int (own_cod (own_mk nD q50 q51 q52))) := (Fq154_2.keep K159 nin0)
        have f169 : Arv Z h159 b_154 kb_154 .byte (Int32.ofNat (own_enl (own_mk nD q50 q51 q52))) (own_enc (own_mk nD q50 q51 q52)) (.int (0 : Int32)) := (Fq154_3.keep K159 nin0)
        have Zc170 : n0 ≤ h159.size := by omega
        obtain ⟨_, _, ⟨T171, L171, k171, n171⟩, -, Xr171, hSr171, hg171, ⟨Lc171, hQ171, l171, y171, z171, Cp171⟩, st171⟩ := X159.specialBackS hx (y := (⟨"com/example/zastupnik/zastupnik/protocol/ServiceError", "<init>", "(Ljava/lang/String;Ljava/lang/String;)V"⟩ : MethodName)) rfl hown (mvT hZ (hw _ (List.mem_of_getElem? (i := 40) rfl))) (mvT hZ (hw _ (List.mem_of_getElem? (i := 41) rfl))) (mvT hZ (hw _ (List.mem_of_getElem? (i := 42) rfl))) (by decide) (backOfSH (s := s) (vm0 := T159.vm) (W := 1) (rmSEi l Z a0 hw [] b147 a_154 a_159 cst b_154 kb_154 (own_mk nD q50 q51 q52) fmt h159 n0 Zc170 I1 (hfmt : fmt.isRef = true) I2 O162 (hcst : ¬ (cst = (0 : Int32))) f163 f164 f165 f166 f167 f168 f169 Fq159_0 (own_mkl _ _ _ _) (own_mkchs (by omega) ⟨rg85.1, own_le64k rg85.2⟩ ⟨rg88.1, own_le64k rg88.2⟩ ⟨rg91.1, own_le64k rg91.2⟩) (own_mklat (by omega) rg85.2 rg88.2 rg91.2) (own_mkonly (by omega) (by omega) dg84 dg87 dg90) (by first | assumption | omega | rfl | decide : n0 ≤ b147)) hZ (hw _ (List.mem_of_getElem? (i := 42) rfl)) (hw _ (List.mem_of_getElem? (i := 6) rfl)) (by decide) (by decide) hEL CR.1) (g := (mkF m 350 #[.val (.int codeA), .val (.int codeB), .val (.int msgA), .val (.int msgB), .val (.int mode), .val (.int q1), .val (.int q4), .val (.int q11), .val (.int (Int32.ofNat m16)), .val (.int q21), .val (.int q26), .val (.int q31), .val (.int (Int32.ofNat nD)), .val (.int q50), .val (.int q51), .val (.int q52), .val (.int (Int32.ofNat m57)), .val (.int q58), .val (.int q59), .val (.int q60), .val (.int (Int32.ofNat nK)), .val (.int q67), .val (.int q68), .val (.int q69), .val (.ref b95), .unset, .unset] [(.ref a_159), (.ref a_154), (.ref b147), (.ref b147)])) rfl (by rw [hml]; rfl) (Steps.refl _) (a := b147) (argsL := [(.ref a_154), (.ref a_159)]) (rest := [(.ref b147)]) (lenOf pd__Ljava_lang_String_Ljava_lang_String__V rfl) rfl (by show 2 * 0 + _ ≤ _; exact Nat.le_of_eq rfl) (Jvm.hb hby at_350) (fun _ _ => ⟨rfl, e159, (by decide : 30 + 4 ≤ _), (by decide : 116 + 52 ≤ _)⟩)
        dsimp only [Pt.U, Pt.locs, Pt.cells, Pt.slots] at Xr171 hSr171 hg171 l171 y171 z171 st171 hQ171 Cp171
        subst l171 y171 z171
        obtain ⟨X171, hS, hZ, hown⟩ := rebS (own := "com/example/zastupnik/zastupnik/protocol/ServiceErrorEqualsPinLaw") hS (by first | exact Nat.le_refl _ | (rw [e159]; exact hk)) Xr171 hSr171 hg171 hZ hown
        obtain ⟨rfl, N171q, K171, Fq171_0, Fq171_1, Fq171_2⟩ := hQ171
        have N171 := Fr.app N159 N171q
        obtain ⟨h171, e171⟩ : ∃ z, T171.heap = z := ⟨_, rfl⟩
        rw [e171] at K171 Fq171_0 Fq171_1 Fq171_2 Cp171
        have hk : T171.heap.size ≤ h171.size := Nat.le_of_eq (congrArg Array.size e171)
        have z172 : h159.size ≤ h171.size := K171.1
        have CR := CR.trans Cp171
        have lt171_0 : @LT.lt Nat _ b147 h171.size := Fq171_0.lt
        have s173 : ∀ t_, Steps p.tables e below (T171.setTop (mkF m 371 #[.val (.int codeA), .val (.int codeB), .val (.int msgA), .val (.int msgB), .val (.int mode), .val (.int q1), .val (.int q4), .val (.int q11), .val (.int (Int32.ofNat m16)), .val (.int q21), .val (.int q26), .val (.int q31), .val (.int (Int32.ofNat nD)), .val (.int q50), .val (.int q51), .val (.int q52), .val (.int (Int32.ofNat m57)), .val (.int q58), .val (.int q59), .val (.int q60), .val (.int (Int32.ofNat nK)), .val (.int q67), .val (.int q68), .val (.int q69), .val (.ref b95), .val (.ref b147), .unset] [(.int q52), (.int q51), (.int q50), (.int (Int32.ofNat nD)), (.int q31), (.int q26), (.int q21), (.int (Int32.ofNat m16))])) t_ → Steps p.tables e below (s₁.setTop (entryFrame m #[(.int codeA), (.int codeB), (.int msgA), (.int msgB), (.int mode)] maxLocals)) t_ := fun t_ k_ => s161 t_ (by
          show Steps p.tables e below (T159.setTop (mkF m 350 #[.val (.int codeA), .val (.int codeB), .val (.int msgA), .val (.int msgB), .val (.int mode), .val (.int q1), .val (.int q4), .val (.int q11), .val (.int (Int32.ofNat m16)), .val (.int q21), .val (.int q26), .val (.int q31), .val (.int (Int32.ofNat nD)), .val (.int q50), .val (.int q51), .val (.int q52), .val (.int (Int32.ofNat m57)), .val (.int q58), .val (.int q59), .val (.int q60), .val (.int (Int32.ofNat nK)), .val (.int q67), .val (.int q68), .val (.int q69), .val (.ref b95), .unset, .unset] [(.ref a_159), (.ref a_154), (.ref b147), (.ref b147)])) t_
          refine st171.trans ?_
          show Steps p.tables e below (T171.setTop (mkF m 353 #[.val (.int codeA), .val (.int codeB), .val (.int msgA), .val (.int msgB), .val (.int mode), .val (.int q1), .val (.int q4), .val (.int q11), .val (.int (Int32.ofNat m16)), .val (.int q21), .val (.int q26), .val (.int q31), .val (.int (Int32.ofNat nD)), .val (.int q50), .val (.int q51), .val (.int q52), .val (.int (Int32.ofNat m57)), .val (.int q58), .val (.int q59), .val (.int q60), .val (.int (Int32.ofNat nK)), .val (.int q67), .val (.int q68), .val (.int q69), .val (.ref b95), .unset, .unset] [(.ref b147)])) _
          refine XS.astore X171.here hx rfl (Jvm.hb hby at_353) rfl rfl (l' := #[.val (.int codeA), .val (.int codeB), .val (.int msgA), .val (.int msgB), .val (.int mode), .val (.int q1), .val (.int q4), .val (.int q11), .val (.int (Int32.ofNat m16)), .val (.int q21), .val (.int q26), .val (.int q31), .val (.int (Int32.ofNat nD)), .val (.int q50), .val (.int q51), .val (.int q52), .val (.int (Int32.ofNat m57)), .val (.int q58), .val (.int q59), .val (.int q60), .val (.int (Int32.ofNat nK)), .val (.int q67), .val (.int q68), .val (.int q69), .val (.ref b95), .val (.ref b147), .unset]) rfl ?_
          refine XS.iload X171.here hx rfl (Jvm.hb hby at_355) rfl ?_
          refine XS.iload X171.here hx rfl (Jvm.hb hby at_357) rfl ?_
          refine XS.iload X171.here hx rfl (Jvm.hb hby at_359) rfl ?_
          refine XS.iload X171.here hx rfl (Jvm.hb hby at_361) rfl ?_
          refine XS.iload X171.here hx rfl (Jvm.hb hby at_363) rfl ?_
          show Steps p.tables e below (T171.setTop (mkF m 365 #[.val (.int codeA), .val (.int codeB), .val (.int msgA), .val (.int msgB), .val (.int mode), .val (.int q1), .val (.int q4), .val (.int q11), .val (.int (Int32.ofNat m16)), .val (.int q21), .val (.int q26), .val (.int q31), .val (.int (Int32.ofNat nD)), .val (.int q50), .val (.int q51), .val (.int q52), .val (.int (Int32.ofNat m57)), .val (.int q58), .val (.int q59), .val (.int q60), .val (.int (Int32.ofNat nK)), .val (.int q67), .val (.int q68), .val (.int q69), .val (.ref b95), .val (.ref b147), .unset] [(.int (Int32.ofNat nD)), (.int q31), (.int q26), (.int q21), (.int (Int32.ofNat m16))])) _
          refine XS.iload X171.here hx rfl (Jvm.hb hby at_365) rfl ?_
          refine XS.iload X171.here hx rfl (Jvm.hb hby at_367) rfl ?_
          refine XS.iload X171.here hx rfl (Jvm.hb hby at_369) rfl ?_
          show Steps p.tables e below (T171.setTop (mkF m 371 #[.val (.int codeA), .val (.int codeB), .val (.int msgA), .val (.int msgB), .val (.int mode), .val (.int q1), .val (.int q4), .val (.int q11), .val (.int (Int32.ofNat m16)), .val (.int q21), .val (.int q26), .val (.int q31), .val (.int (Int32.ofNat nD)), .val (.int q50), .val (.int q51), .val (.int q52), .val (.int (Int32.ofNat m57)), .val (.int q58), .val (.int q59), .val (.int q60), .val (.int (Int32.ofNat nK)), .val (.int q67), .val (.int q68), .val (.int q69), .val (.ref b95), .val (.ref b147), .unset] [(.int q52), (.int q51), (.int q50), (.int (Int32.ofNat nD)), (.int q31), (.int q26), (.int q21), (.int (Int32.ofNat m16))])) t_
          exact k_)
        have Zc174 : n0 ≤ h171.size := by omega
        obtain ⟨_, _, ⟨T175, L175, k175, n175⟩, -, X175, ⟨Lc175, hQ175, l175, y175, z175⟩, st175⟩ := Jvm.LawKit.callS X171 hx (y := (⟨"com/example/zastupnik/zastupnik/protocol/ServiceErrorEqualsPinLaw", "same", "(ICCCICCC)Z"⟩ : MethodName)) hown (mvT hZ (hw _ (List.mem_of_getElem? (i := 99) rfl))) (mvT hZ (hw _ (List.mem_of_getElem? (i := 100) rfl))) (mvT hZ (hw _ (List.mem_of_getElem? (i := 2) rfl))) (mvT hZ (hw _ (List.mem_of_getElem? (i := 101) rfl))) (by decide) (backOf (W := 0) (rmSame l Z a0 hw [] q21 q26 q31 q50 q51 q52 m16 nD h171 n0 Zc174 (by first | assumption | omega | rfl | decide : m16 < 4) (by first | assumption | omega | rfl | decide : nD < 4)) hZ (hw _ (List.mem_of_getElem? (i := 101) rfl)) (hw _ (List.mem_of_getElem? (i := 2) rfl)) (by decide) (by decide)) (g := (mkF m 371 #[.val (.int codeA), .val (.int codeB), .val (.int msgA), .val (.int msgB), .val (.int mode), .val (.int q1), .val (.int q4), .val (.int q11), .val (.int (Int32.ofNat m16)), .val (.int q21), .val (.int q26), .val (.int q31), .val (.int (Int32.ofNat nD)), .val (.int q50), .val (.int q51), .val (.int q52), .val (.int (Int32.ofNat m57)), .val (.int q58), .val (.int q59), .val (.int q60), .val (.int (Int32.ofNat nK)), .val (.int q67), .val (.int q68), .val (.int q69), .val (.ref b95), .val (.ref b147), .unset] [(.int q52), (.int q51), (.int q50), (.int (Int32.ofNat nD)), (.int q31), (.int q26), (.int q21), (.int (Int32.ofNat m16))])) rfl (by rw [hml]; rfl) (argsL := [(.int (Int32.ofNat m16)), (.int q21), (.int q26), (.int q31), (.int (Int32.ofNat nD)), (.int q50), (.int q51), (.int q52)]) (rest := []) (lenOf pd__ICCCICCC_Z rfl) rfl (by show 2 * 0 + _ ≤ _; exact Nat.le_of_eq rfl) (Jvm.hb hby at_371) (fun _ _ => ⟨rfl, e171, (by decide : 34 + 0 ≤ _), (by decide : 168 + 0 ≤ _)⟩)
        dsimp only [Pt.U, Pt.locs, Pt.cells, Pt.slots] at X175 l175 y175 z175 st175 hQ175
        subst l175 y175 z175
        obtain ⟨rfl, N175q, e175⟩ := hQ175
        have N175 := Fr.app N171 N175q
        obtain ⟨q176, hq176⟩ : ∃ z : Int32, z = (if (own_mk m16 q21 q26 q31) = (own_mk nD q50 q51 q52) then (1 : Int32) else (0 : Int32)) := ⟨_, rfl⟩
        rw [← hq176] at st175
        have s177 : ∀ t_, Steps p.tables e below (T175.setTop (mkF m 374 #[.val (.int codeA), .val (.int codeB), .val (.int msgA), .val (.int msgB), .val (.int mode), .val (.int q1), .val (.int q4), .val (.int q11), .val (.int (Int32.ofNat m16)), .val (.int q21), .val (.int q26), .val (.int q31), .val (.int (Int32.ofNat nD)), .val (.int q50), .val (.int q51), .val (.int q52), .val (.int (Int32.ofNat m57)), .val (.int q58), .val (.int q59), .val (.int q60), .val (.int (Int32.ofNat nK)), .val (.int q67), .val (.int q68), .val (.int q69), .val (.ref b95), .val (.ref b147), .unset] [(.int q176)])) t_ → Steps p.tables e below (s₁.setTop (entryFrame m #[(.int codeA), (.int codeB), (.int msgA), (.int msgB), (.int mode)] maxLocals)) t_ := fun t_ k_ => s173 t_ (by
          show Steps p.tables e below (T171.setTop (mkF m 371 #[.val (.int codeA), .val (.int codeB), .val (.int msgA), .val (.int msgB), .val (.int mode), .val (.int q1), .val (.int q4), .val (.int q11), .val (.int (Int32.ofNat m16)), .val (.int q21), .val (.int q26), .val (.int q31), .val (.int (Int32.ofNat nD)), .val (.int q50), .val (.int q51), .val (.int q52), .val (.int (Int32.ofNat m57)), .val (.int q58), .val (.int q59), .val (.int q60), .val (.int (Int32.ofNat nK)), .val (.int q67), .val (.int q68), .val (.int q69), .val (.ref b95), .val (.ref b147), .unset] [(.int q52), (.int q51), (.int q50), (.int (Int32.ofNat nD)), (.int q31), (.int q26), (.int q21), (.int (Int32.ofNat m16))])) t_
          refine st175 _ ?_
          show Steps p.tables e below (T175.setTop (mkF m 374 #[.val (.int codeA), .val (.int codeB), .val (.int msgA), .val (.int msgB), .val (.int mode), .val (.int q1), .val (.int q4), .val (.int q11), .val (.int (Int32.ofNat m16)), .val (.int q21), .val (.int q26), .val (.int q31), .val (.int (Int32.ofNat nD)), .val (.int q50), .val (.int q51), .val (.int q52), .val (.int (Int32.ofNat m57)), .val (.int q58), .val (.int q59), .val (.int q60), .val (.int (Int32.ofNat nK)), .val (.int q67), .val (.int q68), .val (.int q69), .val (.ref b95), .val (.ref b147), .unset] [(.int q176)])) _
          show Steps p.tables e below (T175.setTop (mkF m 374 #[.val (.int codeA), .val (.int codeB), .val (.int msgA), .val (.int msgB), .val (.int mode), .val (.int q1), .val (.int q4), .val (.int q11), .val (.int (Int32.ofNat m16)), .val (.int q21), .val (.int q26), .val (.int q31), .val (.int (Int32.ofNat nD)), .val (.int q50), .val (.int q51), .val (.int q52), .val (.int (Int32.ofNat m57)), .val (.int q58), .val (.int q59), .val (.int q60), .val (.int (Int32.ofNat nK)), .val (.int q67), .val (.int q68), .val (.int q69), .val (.ref b95), .val (.ref b147), .unset] [(.int q176)])) t_
          exact k_)
        by_cases h178 : (own_mk m16 q21 q26 q31) = (own_mk nD q50 q51 q52)
        · have s179 : ∀ t_, Steps p.tables e below (T175.setTop (mkF m 374 #[.val (.int codeA), .val (.int codeB), .val (.int msgA), .val (.int msgB), .val (.int mode), .val (.int q1), .val (.int q4), .val (.int q11), .val (.int (Int32.ofNat m16)), .val (.int q21), .val (.int q26), .val (.int q31), .val (.int (Int32.ofNat nD)), .val (.int q50), .val (.int q51), .val (.int q52), .val (.int (Int32.ofNat m57)), .val (.int q58), .val (.int q59), .val (.int q60), .val (.int (Int32.ofNat nK)), .val (.int q67), .val (.int q68), .val (.int q69), .val (.ref b95), .val (.ref b147), .unset] [(.int (1 : Int32))])) t_ → Steps p.tables e below (s₁.setTop (entryFrame m #[(.int codeA), (.int codeB), (.int msgA), (.int msgB), (.int mode)] maxLocals)) t_ := fun t_ k_ => s177 t_ (castTop (by rw [hq176, if_pos h178]) k_)
          have s180 : ∀ t_, Steps p.tables e below (T175.setTop (mkF m 393 #[.val (.int codeA), .val (.int codeB), .val (.int msgA), .val (.int msgB), .val (.int mode), .val (.int q1), .val (.int q4), .val (.int q11), .val (.int (Int32.ofNat m16)), .val (.int q21), .val (.int q26), .val (.int q31), .val (.int (Int32.ofNat nD)), .val (.int q50), .val (.int q51), .val (.int q52), .val (.int (Int32.ofNat m57)), .val (.int q58), .val (.int q59), .val (.int q60), .val (.int (Int32.ofNat nK)), .val (.int q67), .val (.int q68), .val (.int q69), .val (.ref b95), .val (.ref b147), .unset] [(.int q69), (.int q68), (.int q67), (.int (Int32.ofNat nK)), (.int q60), (.int q59), (.int q58), (.int (Int32.ofNat m57))])) t_ → Steps p.tables e below (s₁.setTop (entryFrame m #[(.int codeA), (.int codeB), (.int msgA), (.int msgB), (.int mode)] maxLocals)) t_ := fun t_ k_ => s179 t_ (by
            show Steps p.tables e below (T175.setTop (mkF m 374 #[.val (.int codeA), .val (.int codeB), .val (.int msgA), .val (.int msgB), .val (.int mode), .val (.int q1), .val (.int q4), .val (.int q11), .val (.int (Int32.ofNat m16)), .val (.int q21), .val (.int q26), .val (.int q31), .val (.int (Int32.ofNat nD)), .val (.int q50), .val (.int q51), .val (.int q52), .val (.int (Int32.ofNat m57)), .val (.int q58), .val (.int q59), .val (.int q60), .val (.int (Int32.ofNat nK)), .val (.int q67), .val (.int q68), .val (.int q69), .val (.ref b95), .val (.ref b147), .unset] [(.int (1 : Int32))])) t_
            refine XS.ifNo X175.here hx rfl (Jvm.hb hby at_374) rfl ((if0 _ _).trans (feq (by decide : ¬ ((1 : Int32) = (0 : Int32)))).1) ?_
            show Steps p.tables e below (T175.setTop (mkF m 377 #[.val (.int codeA), .val (.int codeB), .val (.int msgA), .val (.int msgB), .val (.int mode), .val (.int q1), .val (.int q4), .val (.int q11), .val (.int (Int32.ofNat m16)), .val (.int q21), .val (.int q26), .val (.int q31), .val (.int (Int32.ofNat nD)), .val (.int q50), .val (.int q51), .val (.int q52), .val (.int (Int32.ofNat m57)), .val (.int q58), .val (.int q59), .val (.int q60), .val (.int (Int32.ofNat nK)), .val (.int q67), .val (.int q68), .val (.int q69), .val (.ref b95), .val (.ref b147), .unset] [])) _
            refine XS.iload X175.here hx rfl (Jvm.hb hby at_377) rfl ?_
            refine XS.iload X175.here hx rfl (Jvm.hb hby at_379) rfl ?_
            refine XS.iload X175.here hx rfl (Jvm.hb hby at_381) rfl ?_
            refine XS.iload X175.here hx rfl (Jvm.hb hby at_383) rfl ?_
            refine XS.iload X175.here hx rfl (Jvm.hb hby at_385) rfl ?_
            refine XS.iload X175.here hx rfl (Jvm.hb hby at_387) rfl ?_
            show Steps p.tables e below (T175.setTop (mkF m 389 #[.val (.int codeA), .val (.int codeB), .val (.int msgA), .val (.int msgB), .val (.int mode), .val (.int q1), .val (.int q4), .val (.int q11), .val (.int (Int32.ofNat m16)), .val (.int q21), .val (.int q26), .val (.int q31), .val (.int (Int32.ofNat nD)), .val (.int q50), .val (.int q51), .val (.int q52), .val (.int (Int32.ofNat m57)), .val (.int q58), .val (.int q59), .val (.int q60), .val (.int (Int32.ofNat nK)), .val (.int q67), .val (.int q68), .val (.int q69), .val (.ref b95), .val (.ref b147), .unset] [(.int q67), (.int (Int32.ofNat nK)), (.int q60), (.int q59), (.int q58), (.int (Int32.ofNat m57))])) _
            refine XS.iload X175.here hx rfl (Jvm.hb hby at_389) rfl ?_
            refine XS.iload X175.here hx rfl (Jvm.hb hby at_391) rfl ?_
            show Steps p.tables e below (T175.setTop (mkF m 393 #[.val (.int codeA), .val (.int codeB), .val (.int msgA), .val (.int msgB), .val (.int mode), .val (.int q1), .val (.int q4), .val (.int q11), .val (.int (Int32.ofNat m16)), .val (.int q21), .val (.int q26), .val (.int q31), .val (.int (Int32.ofNat nD)), .val (.int q50), .val (.int q51), .val (.int q52), .val (.int (Int32.ofNat m57)), .val (.int q58), .val (.int q59), .val (.int q60), .val (.int (Int32.ofNat nK)), .val (.int q67), .val (.int q68), .val (.int q69), .val (.ref b95), .val (.ref b147), .unset] [(.int q69), (.int q68), (.int q67), (.int (Int32.ofNat nK)), (.int q60), (.int q59), (.int q58), (.int (Int32.ofNat m57))])) t_
            exact k_)
          have Zc181 : n0 ≤ h171.size := by omega
          obtain ⟨_, _, ⟨T182, L182, k182, n182⟩, -, X182, ⟨Lc182, hQ182, l182, y182, z182⟩, st182⟩ := Jvm.LawKit.callS X175 hx (y := (⟨"com/example/zastupnik/zastupnik/protocol/ServiceErrorEqualsPinLaw", "same", "(ICCCICCC)Z"⟩ : MethodName)) hown (mvT hZ (hw _ (List.mem_of_getElem? (i := 99) rfl))) (mvT hZ (hw _ (List.mem_of_getElem? (i := 100) rfl))) (mvT hZ (hw _ (List.mem_of_getElem? (i := 2) rfl))) (mvT hZ (hw _ (List.mem_of_getElem? (i := 101) rfl))) (by decide) (backOf (W := 0) (rmSame l Z a0 hw [] q58 q59 q60 q67 q68 q69 m57 nK h171 n0 Zc181 (by first | assumption | omega | rfl | decide : m57 < 4) (by first | assumption | omega | rfl | decide : nK < 4)) hZ (hw _ (List.mem_of_getElem? (i := 101) rfl)) (hw _ (List.mem_of_getElem? (i := 2) rfl)) (by decide) (by decide)) (g := (mkF m 393 #[.val (.int codeA), .val (.int codeB), .val (.int msgA), .val (.int msgB), .val (.int mode), .val (.int q1), .val (.int q4), .val (.int q11), .val (.int (Int32.ofNat m16)), .val (.int q21), .val (.int q26), .val (.int q31), .val (.int (Int32.ofNat nD)), .val (.int q50), .val (.int q51), .val (.int q52), .val (.int (Int32.ofNat m57)), .val (.int q58), .val (.int q59), .val (.int q60), .val (.int (Int32.ofNat nK)), .val (.int q67), .val (.int q68), .val (.int q69), .val (.ref b95), .val (.ref b147), .unset] [(.int q69), (.int q68), (.int q67), (.int (Int32.ofNat nK)), (.int q60), (.int q59), (.int q58), (.int (Int32.ofNat m57))])) rfl (by rw [hml]; rfl) (argsL := [(.int (Int32.ofNat m57)), (.int q58), (.int q59), (.int q60), (.int (Int32.ofNat nK)), (.int q67), (.int q68), (.int q69)]) (rest := []) (lenOf pd__ICCCICCC_Z rfl) rfl (by show 2 * 0 + _ ≤ _; exact Nat.le_of_eq rfl) (Jvm.hb hby at_393) (fun _ _ => ⟨rfl, e175, (by decide : 34 + 0 ≤ _), (by decide : 168 + 0 ≤ _)⟩)
          dsimp only [Pt.U, Pt.locs, Pt.cells, Pt.slots] at X182 l182 y182 z182 st182 hQ182
          subst l182 y182 z182
          obtain ⟨rfl, N182q, e182⟩ := hQ182
          have N182 := Fr.app N175 N182q
          obtain ⟨q183, hq183⟩ : ∃ z : Int32, z = (if (own_mk m57 q58 q59 q60) = (own_mk nK q67 q68 q69) then (1 : Int32) else (0 : Int32)) := ⟨_, rfl⟩
          rw [← hq183] at st182
          have s184 : ∀ t_, Steps p.tables e below (T182.setTop (mkF m 396 #[.val (.int codeA), .val (.int codeB), .val (.int msgA), .val (.int msgB), .val (.int mode), .val (.int q1), .val (.int q4), .val (.int q11), .val (.int (Int32.ofNat m16)), .val (.int q21), .val (.int q26), .val (.int q31), .val (.int (Int32.ofNat nD)), .val (.int q50), .val (.int q51), .val (.int q52), .val (.int (Int32.ofNat m57)), .val (.int q58), .val (.int q59), .val (.int q60), .val (.int (Int32.ofNat nK)), .val (.int q67), .val (.int q68), .val (.int q69), .val (.ref b95), .val (.ref b147), .unset] [(.int q183)])) t_ → Steps p.tables e below (s₁.setTop (entryFrame m #[(.int codeA), (.int codeB), (.int msgA), (.int msgB), (.int mode)] maxLocals)) t_ := fun t_ k_ => s180 t_ (by
            show Steps p.tables e below (T175.setTop (mkF m 393 #[.val (.int codeA), .val (.int codeB), .val (.int msgA), .val (.int msgB), .val (.int mode), .val (.int q1), .val (.int q4), .val (.int q11), .val (.int (Int32.ofNat m16)), .val (.int q21), .val (.int q26), .val (.int q31), .val (.int (Int32.ofNat nD)), .val (.int q50), .val (.int q51), .val (.int q52), .val (.int (Int32.ofNat m57)), .val (.int q58), .val (.int q59), .val (.int q60), .val (.int (Int32.ofNat nK)), .val (.int q67), .val (.int q68), .val (.int q69), .val (.ref b95), .val (.ref b147), .unset] [(.int q69), (.int q68), (.int q67), (.int (Int32.ofNat nK)), (.int q60), (.int q59), (.int q58), (.int (Int32.ofNat m57))])) t_
            refine st182 _ ?_
            show Steps p.tables e below (T182.setTop (mkF m 396 #[.val (.int codeA), .val (.int codeB), .val (.int msgA), .val (.int msgB), .val (.int mode), .val (.int q1), .val (.int q4), .val (.int q11), .val (.int (Int32.ofNat m16)), .val (.int q21), .val (.int q26), .val (.int q31), .val (.int (Int32.ofNat nD)), .val (.int q50), .val (.int q51), .val (.int q52), .val (.int (Int32.ofNat m57)), .val (.int q58), .val (.int q59), .val (.int q60), .val (.int (Int32.ofNat nK)), .val (.int q67), .val (.int q68), .val (.int q69), .val (.ref b95), .val (.ref b147), .unset] [(.int q183)])) _
            show Steps p.tables e below (T182.setTop (mkF m 396 #[.val (.int codeA), .val (.int codeB), .val (.int msgA), .val (.int msgB), .val (.int mode), .val (.int q1), .val (.int q4), .val (.int q11), .val (.int (Int32.ofNat m16)), .val (.int q21), .val (.int q26), .val (.int q31), .val (.int (Int32.ofNat nD)), .val (.int q50), .val (.int q51), .val (.int q52), .val (.int (Int32.ofNat m57)), .val (.int q58), .val (.int q59), .val (.int q60), .val (.int (Int32.ofNat nK)), .val (.int q67), .val (.int q68), .val (.int q69), .val (.ref b95), .val (.ref b147), .unset] [(.int q183)])) t_
            exact k_)
          by_cases h185 : (own_mk m57 q58 q59 q60) = (own_mk nK q67 q68 q69)
          · have s186 : ∀ t_, Steps p.tables e below (T182.setTop (mkF m 396 #[.val (.int codeA), .val (.int codeB), .val (.int msgA), .val (.int msgB), .val (.int mode), .val (.int q1), .val (.int q4), .val (.int q11), .val (.int (Int32.ofNat m16)), .val (.int q21), .val (.int q26), .val (.int q31), .val (.int (Int32.ofNat nD)), .val (.int q50), .val (.int q51), .val (.int q52), .val (.int (Int32.ofNat m57)), .val (.int q58), .val (.int q59), .val (.int q60), .val (.int (Int32.ofNat nK)), .val (.int q67), .val (.int q68), .val (.int q69), .val (.ref b95), .val (.ref b147), .unset] [(.int (1 : Int32))])) t_ → Steps p.tables e below (s₁.setTop (entryFrame m #[(.int codeA), (.int codeB), (.int msgA), (.int msgB), (.int mode)] maxLocals)) t_ := fun t_ k_ => s184 t_ (castTop (by rw [hq183, if_pos h185]) k_)
            have s187 : ∀ t_, Steps p.tables e below (T182.setTop (mkF m 410 #[.val (.int codeA), .val (.int codeB), .val (.int msgA), .val (.int msgB), .val (.int mode), .val (.int q1), .val (.int q4), .val (.int q11), .val (.int (Int32.ofNat m16)), .val (.int q21), .val (.int q26), .val (.int q31), .val (.int (Int32.ofNat nD)), .val (.int q50), .val (.int q51), .val (.int q52), .val (.int (Int32.ofNat m57)), .val (.int q58), .val (.int q59), .val (.int q60), .val (.int (Int32.ofNat nK)), .val (.int q67), .val (.int q68), .val (.int q69), .val (.ref b95), .val (.ref b147), .val (.int (1 : Int32))] [(.ref b147), (.ref b95)])) t_ → Steps p.tables e below (s₁.setTop (entryFrame m #[(.int codeA), (.int codeB), (.int msgA), (.int msgB), (.int mode)] maxLocals)) t_ := fun t_ k_ => s186 t_ (by
              show Steps p.tables e below (T182.setTop (mkF m 396 #[.val (.int codeA), .val (.int codeB), .val (.int msgA), .val (.int msgB), .val (.int mode), .val (.int q1), .val (.int q4), .val (.int q11), .val (.int (Int32.ofNat m16)), .val (.int q21), .val (.int q26), .val (.int q31), .val (.int (Int32.ofNat nD)), .val (.int q50), .val (.int q51), .val (.int q52), .val (.int (Int32.ofNat m57)), .val (.int q58), .val (.int q59), .val (.int q60), .val (.int (Int32.ofNat nK)), .val (.int q67), .val (.int q68), .val (.int q69), .val (.ref b95), .val (.ref b147), .unset] [(.int (1 : Int32))])) t_
              refine XS.ifNo X182.here hx rfl (Jvm.hb hby at_396) rfl ((if0 _ _).trans (feq (by decide : ¬ ((1 : Int32) = (0 : Int32)))).1) ?_
              show Steps p.tables e below (T182.setTop (mkF m 399 #[.val (.int codeA), .val (.int codeB), .val (.int msgA), .val (.int msgB), .val (.int mode), .val (.int q1), .val (.int q4), .val (.int q11), .val (.int (Int32.ofNat m16)), .val (.int q21), .val (.int q26), .val (.int q31), .val (.int (Int32.ofNat nD)), .val (.int q50), .val (.int q51), .val (.int q52), .val (.int (Int32.ofNat m57)), .val (.int q58), .val (.int q59), .val (.int q60), .val (.int (Int32.ofNat nK)), .val (.int q67), .val (.int q68), .val (.int q69), .val (.ref b95), .val (.ref b147), .unset] [])) _
              refine XS.iconst X182.here hx rfl (Jvm.hb hby at_399) ?_
              refine XS.goto X182.here hx rfl (pc0 := 400) (pc' := 404) rfl (Jvm.hb hby at_400) (by decide) (by decide) ?_
              refine XS.istore X182.here hx rfl (Jvm.hb hby at_404) rfl (l' := #[.val (.int codeA), .val (.int codeB), .val (.int msgA), .val (.int msgB), .val (.int mode), .val (.int q1), .val (.int q4), .val (.int q11), .val (.int (Int32.ofNat m16)), .val (.int q21), .val (.int q26), .val (.int q31), .val (.int (Int32.ofNat nD)), .val (.int q50), .val (.int q51), .val (.int q52), .val (.int (Int32.ofNat m57)), .val (.int q58), .val (.int q59), .val (.int q60), .val (.int (Int32.ofNat nK)), .val (.int q67), .val (.int q68), .val (.int q69), .val (.ref b95), .val (.ref b147), .val (.int (1 : Int32))]) rfl ?_
              refine XS.aload X182.here hx rfl (Jvm.hb hby at_406) rfl rfl ?_
              refine XS.aload X182.here hx rfl (Jvm.hb hby at_408) rfl rfl ?_
              show Steps p.tables e below (T182.setTop (mkF m 410 #[.val (.int codeA), .val (.int codeB), .val (.int msgA), .val (.int msgB), .val (.int mode), .val (.int q1), .val (.int q4), .val (.int q11), .val (.int (Int32.ofNat m16)), .val (.int q21), .val (.int q26), .val (.int q31), .val (.int (Int32.ofNat nD)), .val (.int q50), .val (.int q51), .val (.int q52), .val (.int (Int32.ofNat m57)), .val (.int q58), .val (.int q59), .val (.int q60), .val (.int (Int32.ofNat nK)), .val (.int q67), .val (.int q68), .val (.int q69), .val (.ref b95), .val (.ref b147), .val (.int (1 : Int32))] [(.ref b147), (.ref b95)])) t_
              exact k_)
            have O188 : Old Z n0 h171 := (O162.keep K171 (allS (show n0 ≤ b147 by omega) all0))
            have f189 : Exa Z h171 b95 "com/example/zastupnik/zastupnik/protocol/ServiceError" := ((((Fq119_0.ext E147).keep K154).keep K159).keep K171)
            have f190 : Fld Z h171 b95 "com/example/zastupnik/zastupnik/protocol/ServiceError" "code" "Ljava/lang/String;" (.ref a_102) := ((((Fq119_1.ext E147).keep K154 nin0).keep K159 nin0).keep K171 (ninS (show @Ne Nat b95 b147 by omega) nin0))
            have f191 : Fld Z h171 b95 "com/example/zastupnik/zastupnik/protocol/ServiceError" "message" "Ljava/lang/String;" (.ref a_107) := ((((Fq119_2.ext E147).keep K154 nin0).keep K159 nin0).keep K171 (ninS (show @Ne Nat b95 b147 by omega) nin0))
            have f192 : Exa Z h171 a_102 "java/lang/String" := (((((f114.keep K119).ext E147).keep K154).keep K159).keep K171)
            have f193 : Fld Z h171 a_102 "java/lang/String" "value" "[B" (.ref b_102) := (((((f115.keep K119 (ninS (show @Ne Nat a_102 b95 by omega) nin0)).ext E147).keep K154 nin0).keep K159 nin0).keep K171 (ninS (show @Ne Nat a_102 b147 by omega) nin0))
            have f194 : Fld Z h171 a_102 "java/lang/String" "coder" "B" (.int (own_cod (own_mk m16 q21 q26 q31))) := (((((f116.keep K119 (ninS (show @Ne Nat a_102 b95 by omega) nin0)).ext E147).keep K154 nin0).keep K159 nin0).keep K171 (ninS (show @Ne Nat a_102 b147 by omega) nin0))
            have f195 : Arv Z h171 b_102 kb_102 .byte (Int32.ofNat (own_enl (own_mk m16 q21 q26 q31))) (own_enc (own_mk m16 q21 q26 q31)) (.int (0 : Int32)) := (((((f117.keep K119 (ninS (Ne.symm (Exa.neArv f111 f117 (hw _ (List.mem_of_getElem? (i := 5) rfl)))) nin0)).ext E147).keep K154 nin0).keep K159 nin0).keep K171 (ninS (Ne.symm (Exa.neArv f163 ((((f117.keep K119 (ninS (Ne.symm (Exa.neArv f111 f117 (hw _ (List.mem_of_getElem? (i := 5) rfl)))) nin0)).ext E147).keep K154 nin0).keep K159 nin0) (hw _ (List.mem_of_getElem? (i := 5) rfl)))) nin0))
            have f196 : Exa Z h171 a_154 "java/lang/String" := (f166.keep K171)
            have f197 : Fld Z h171 a_154 "java/lang/String" "value" "[B" (.ref b_154) := (f167.keep K171 (ninS (show @Ne Nat a_154 b147 by omega) nin0))
            have f198 : Fld Z h171 a_154 "java/lang/String" "coder" "B" (.int (own_cod (own_mk nD q50 q51 q52))) := (f168.keep K171 (ninS (show @Ne Nat a_154 b147 by omega) nin0))
            have f199 : Arv Z h171 b_154 kb_154 .byte (Int32.ofNat (own_enl (own_mk nD q50 q51 q52))) (own_enc (own_mk nD q50 q51 q52)) (.int (0 : Int32)) := (f169.keep K171 (ninS (Ne.symm (Exa.neArv f163 f169 (hw _ (List.mem_of_getElem? (i := 5) rfl)))) nin0))
            have f200 : Exa Z h171 a_107 "java/lang/String" := (((((Fq107_0.keep K119).ext E147).keep K154).keep K159).keep K171)
            have f201 : Fld Z h171 a_107 "java/lang/String" "value" "[B" (.ref b_107) := (((((Fq107_1.keep K119 (ninS (show @Ne Nat a_107 b95 by omega) nin0)).ext E147).keep K154 nin0).keep K159 nin0).keep K171 (ninS (show @Ne Nat a_107 b147 by omega) nin0))
            have f202 : Fld Z h171 a_107 "java/lang/String" "coder" "B" (.int (own_cod (own_mk m57 q58 q59 q60))) := (((((Fq107_2.keep K119 (ninS (show @Ne Nat a_107 b95 by omega) nin0)).ext E147).keep K154 nin0).keep K159 nin0).keep K171 (ninS (show @Ne Nat a_107 b147 by omega) nin0))
            have f203 : Arv Z h171 b_107 kb_107 .byte (Int32.ofNat (own_enl (own_mk m57 q58 q59 q60))) (own_enc (own_mk m57 q58 q59 q60)) (.int (0 : Int32)) := (((((Fq107_3.keep K119 (ninS (Ne.symm (Exa.neArv f111 Fq107_3 (hw _ (List.mem_of_getElem? (i := 5) rfl)))) nin0)).ext E147).keep K154 nin0).keep K159 nin0).keep K171 (ninS (Ne.symm (Exa.neArv f163 ((((Fq107_3.keep K119 (ninS (Ne.symm (Exa.neArv f111 Fq107_3 (hw _ (List.mem_of_getElem? (i := 5) rfl)))) nin0)).ext E147).keep K154 nin0).keep K159 nin0) (hw _ (List.mem_of_getElem? (i := 5) rfl)))) nin0))
            have f204 : Exa Z h171 a_159 "java/lang/String" := (Fq159_0.keep K171)
            have f205 : Fld Z h171 a_159 "java/lang/String" "value" "[B" (.ref b_159) := (Fq159_1.keep K171 (ninS (show @Ne Nat a_159 b147 by omega) nin0))
            have f206 : Fld Z h171 a_159 "java/lang/String" "coder" "B" (.int (own_cod (own_mk nK q67 q68 q69))) := (Fq159_2.keep K171 (ninS (show @Ne Nat a_159 b147 by omega) nin0))
            have f207 : Arv Z h171 b_159 kb_159 .byte (Int32.ofNat (own_enl (own_mk nK q67 q68 q69))) (own_enc (own_mk nK q67 q68 q69)) (.int (0 : Int32)) := (Fq159_3.keep K171 (ninS (Ne.symm (Exa.neArv f163 Fq159_3 (hw _ (List.mem_of_getElem? (i := 5) rfl)))) nin0))
            have Zc208 : n0 ≤ h171.size := by omega
            obtain ⟨cq209, kq209, q209a, q209b, q209c⟩ := isOf hZ e182 f189
            obtain ⟨_, _, ⟨T209, L209, k209, n209⟩, -, X209, ⟨Lc209, hQ209, l209, y209, z209⟩, st209⟩ := X182.virtualBack hx (y := (⟨"com/example/zastupnik/zastupnik/protocol/ServiceError", "equals", "(Ljava/lang/Object;)Z"⟩ : MethodName)) (z := (⟨"com/example/zastupnik/zastupnik/protocol/ServiceError", "equals", "(Ljava/lang/Object;)Z"⟩ : MethodName)) hown (mvT hZ (hw _ (List.mem_of_getElem? (i := 102) rfl))) (mvT hZ (hw _ (List.mem_of_getElem? (i := 103) rfl))) (notFace_of_selects (args := #[]) (mvT hZ (hw _ (List.mem_of_getElem? (i := 105) rfl)))) (mvT hZ (hw _ (List.mem_of_getElem? (i := 105) rfl))) (mvT hZ (hw _ (List.mem_of_getElem? (i := 104) rfl))) (by decide) (backOf (W := 0) (rmEqO l Z a0 hw [] b95 b147 cst a_102 b_102 kb_102 (own_mk m16 q21 q26 q31) a_154 b_154 kb_154 (own_mk nD q50 q51 q52) a_107 b_107 kb_107 (own_mk m57 q58 q59 q60) a_159 b_159 kb_159 (own_mk nK q67 q68 q69) h171 n0 Zc208 I1 O188 (hcst : ¬ (cst = (0 : Int32))) f189 f190 f191 Fq171_0 Fq171_1 Fq171_2 f192 f193 f194 f195 f196 f197 f198 f199 f200 f201 f202 f203 f204 f205 f206 f207 (own_neN (by omega)) (own_neN (by omega)) (own_mkchs (by omega) ⟨rg77.1, own_le64k rg77.2⟩ ⟨rg78.1, own_le64k rg78.2⟩ ⟨rg79.1, own_le64k rg79.2⟩) (own_mkchs (by omega) ⟨rg85.1, own_le64k rg85.2⟩ ⟨rg88.1, own_le64k rg88.2⟩ ⟨rg91.1, own_le64k rg91.2⟩) (own_mkchs (by omega) ⟨rg80.1, own_le64k rg80.2⟩ ⟨rg81.1, own_le64k rg81.2⟩ ⟨rg82.1, own_le64k rg82.2⟩) (own_mkchs (by omega) ⟨rg92.1, own_le64k rg92.2⟩ ⟨rg93.1, own_le64k rg93.2⟩ ⟨rg94.1, own_le64k rg94.2⟩) (own_mkl _ _ _ _) (own_mkl _ _ _ _) (own_mkl _ _ _ _) (own_mkl _ _ _ _)) hZ (hw _ (List.mem_of_getElem? (i := 106) rfl)) (hw _ (List.mem_of_getElem? (i := 6) rfl)) (by decide) (by decide)) q209a q209c (g := (mkF m 410 #[.val (.int codeA), .val (.int codeB), .val (.int msgA), .val (.int msgB), .val (.int mode), .val (.int q1), .val (.int q4), .val (.int q11), .val (.int (Int32.ofNat m16)), .val (.int q21), .val (.int q26), .val (.int q31), .val (.int (Int32.ofNat nD)), .val (.int q50), .val (.int q51), .val (.int q52), .val (.int (Int32.ofNat m57)), .val (.int q58), .val (.int q59), .val (.int q60), .val (.int (Int32.ofNat nK)), .val (.int q67), .val (.int q68), .val (.int q69), .val (.ref b95), .val (.ref b147), .val (.int (1 : Int32))] [(.ref b147), (.ref b95)])) rfl (by rw [hml]; rfl) (Steps.refl _) (argsL := [(.ref b147)]) (rest := []) (lenOf pd__Ljava_lang_Object__Z rfl) rfl (by show 2 * 0 + _ ≤ _; exact Nat.le_of_eq rfl) (Jvm.hb hby at_410) (fun _ _ => ⟨rfl, e182, (by decide : 34 + 0 ≤ _), (by decide : 168 + 0 ≤ _)⟩)
            dsimp only [Pt.U, Pt.locs, Pt.cells, Pt.slots] at X209 l209 y209 z209 st209 hQ209
            subst l209 y209 z209
            obtain ⟨rfl, N209q, e209⟩ := hQ209
            have N209 := Fr.app N182 N209q
            obtain ⟨q210, hq210⟩ : ∃ z : Int32, z = (if (own_mk m16 q21 q26 q31) = (own_mk nD q50 q51 q52) then (if (own_mk m57 q58 q59 q60) = (own_mk nK q67 q68 q69) then (1 : Int32) else (0 : Int32)) else (0 : Int32)) := ⟨_, rfl⟩
            rw [← hq210] at st209
            have hE0 : q210 = (1 : Int32) := by rw [hq210, if_pos h178, if_pos h185]
            have s211 : ∀ t_, Steps p.tables e below (T209.setTop (mkF m 422 #[.val (.int codeA), .val (.int codeB), .val (.int msgA), .val (.int msgB), .val (.int mode), .val (.int q1), .val (.int q4), .val (.int q11), .val (.int (Int32.ofNat m16)), .val (.int q21), .val (.int q26), .val (.int q31), .val (.int (Int32.ofNat nD)), .val (.int q50), .val (.int q51), .val (.int q52), .val (.int (Int32.ofNat m57)), .val (.int q58), .val (.int q59), .val (.int q60), .val (.int (Int32.ofNat nK)), .val (.int q67), .val (.int q68), .val (.int q69), .val (.ref b95), .val (.ref b147), .val (.int (1 : Int32))] [(.ref b95), (.ref b147)])) t_ → Steps p.tables e below (s₁.setTop (entryFrame m #[(.int codeA), (.int codeB), (.int msgA), (.int msgB), (.int mode)] maxLocals)) t_ := fun t_ k_ => s187 t_ (by
              show Steps p.tables e below (T182.setTop (mkF m 410 #[.val (.int codeA), .val (.int codeB), .val (.int msgA), .val (.int msgB), .val (.int mode), .val (.int q1), .val (.int q4), .val (.int q11), .val (.int (Int32.ofNat m16)), .val (.int q21), .val (.int q26), .val (.int q31), .val (.int (Int32.ofNat nD)), .val (.int q50), .val (.int q51), .val (.int q52), .val (.int (Int32.ofNat m57)), .val (.int q58), .val (.int q59), .val (.int q60), .val (.int (Int32.ofNat nK)), .val (.int q67), .val (.int q68), .val (.int q69), .val (.ref b95), .val (.ref b147), .val (.int (1 : Int32))] [(.ref b147), (.ref b95)])) t_
              refine st209.trans ?_
              show Steps p.tables e below (T209.setTop (mkF m 413 #[.val (.int codeA), .val (.int codeB), .val (.int msgA), .val (.int msgB), .val (.int mode), .val (.int q1), .val (.int q4), .val (.int q11), .val (.int (Int32.ofNat m16)), .val (.int q21), .val (.int q26), .val (.int q31), .val (.int (Int32.ofNat nD)), .val (.int q50), .val (.int q51), .val (.int q52), .val (.int (Int32.ofNat m57)), .val (.int q58), .val (.int q59), .val (.int q60), .val (.int (Int32.ofNat nK)), .val (.int q67), .val (.int q68), .val (.int q69), .val (.ref b95), .val (.ref b147), .val (.int (1 : Int32))] [(.int q210)])) _
              refine XS.iload X209.here hx rfl (Jvm.hb hby at_413) rfl ?_
              refine XS.icmpNo X209.here hx rfl (Jvm.hb hby at_415) rfl (teq hE0).2 ?_
              show Steps p.tables e below (T209.setTop (mkF m 418 #[.val (.int codeA), .val (.int codeB), .val (.int msgA), .val (.int msgB), .val (.int mode), .val (.int q1), .val (.int q4), .val (.int q11), .val (.int (Int32.ofNat m16)), .val (.int q21), .val (.int q26), .val (.int q31), .val (.int (Int32.ofNat nD)), .val (.int q50), .val (.int q51), .val (.int q52), .val (.int (Int32.ofNat m57)), .val (.int q58), .val (.int q59), .val (.int q60), .val (.int (Int32.ofNat nK)), .val (.int q67), .val (.int q68), .val (.int q69), .val (.ref b95), .val (.ref b147), .val (.int (1 : Int32))] [])) _
              refine XS.aload X209.here hx rfl (Jvm.hb hby at_418) rfl rfl ?_
              refine XS.aload X209.here hx rfl (Jvm.hb hby at_420) rfl rfl ?_
              show Steps p.tables e below (T209.setTop (mkF m 422 #[.val (.int codeA), .val (.int codeB), .val (.int msgA), .val (.int msgB), .val (.int mode), .val (.int q1), .val (.int q4), .val (.int q11), .val (.int (Int32.ofNat m16)), .val (.int q21), .val (.int q26), .val (.int q31), .val (.int (Int32.ofNat nD)), .val (.int q50), .val (.int q51), .val (.int q52), .val (.int (Int32.ofNat m57)), .val (.int q58), .val (.int q59), .val (.int q60), .val (.int (Int32.ofNat nK)), .val (.int q67), .val (.int q68), .val (.int q69), .val (.ref b95), .val (.ref b147), .val (.int (1 : Int32))] [(.ref b95), (.ref b147)])) t_
              exact k_)
            have Zc212 : n0 ≤ h171.size := by omega
            obtain ⟨cq213, kq213, q213a, q213b, q213c⟩ := isOf hZ e209 Fq171_0
            obtain ⟨_, _, ⟨T213, L213, k213, n213⟩, -, X213, ⟨Lc213, hQ213, l213, y213, z213⟩, st213⟩ := X209.virtualBack hx (y := (⟨"com/example/zastupnik/zastupnik/protocol/ServiceError", "equals", "(Ljava/lang/Object;)Z"⟩ : MethodName)) (z := (⟨"com/example/zastupnik/zastupnik/protocol/ServiceError", "equals", "(Ljava/lang/Object;)Z"⟩ : MethodName)) hown (mvT hZ (hw _ (List.mem_of_getElem? (i := 102) rfl))) (mvT hZ (hw _ (List.mem_of_getElem? (i := 103) rfl))) (notFace_of_selects (args := #[]) (mvT hZ (hw _ (List.mem_of_getElem? (i := 105) rfl)))) (mvT hZ (hw _ (List.mem_of_getElem? (i := 105) rfl))) (mvT hZ (hw _ (List.mem_of_getElem? (i := 104) rfl))) (by decide) (backOf (W := 0) (rmEqO l Z a0 hw [] b147 b95 cst a_154 b_154 kb_154 (own_mk nD q50 q51 q52) a_102 b_102 kb_102 (own_mk m16 q21 q26 q31) a_159 b_159 kb_159 (own_mk nK q67 q68 q69) a_107 b_107 kb_107 (own_mk m57 q58 q59 q60) h171 n0 Zc212 I1 O188 (hcst : ¬ (cst = (0 : Int32))) Fq171_0 Fq171_1 Fq171_2 f189 f190 f191 f196 f197 f198 f199 f192 f193 f194 f195 f204 f205 f206 f207 f200 f201 f202 f203 (own_neN (by omega)) (own_neN (by omega)) (own_mkchs (by omega) ⟨rg85.1, own_le64k rg85.2⟩ ⟨rg88.1, own_le64k rg88.2⟩ ⟨rg91.1, own_le64k rg91.2⟩) (own_mkchs (by omega) ⟨rg77.1, own_le64k rg77.2⟩ ⟨rg78.1, own_le64k rg78.2⟩ ⟨rg79.1, own_le64k rg79.2⟩) (own_mkchs (by omega) ⟨rg92.1, own_le64k rg92.2⟩ ⟨rg93.1, own_le64k rg93.2⟩ ⟨rg94.1, own_le64k rg94.2⟩) (own_mkchs (by omega) ⟨rg80.1, own_le64k rg80.2⟩ ⟨rg81.1, own_le64k rg81.2⟩ ⟨rg82.1, own_le64k rg82.2⟩) (own_mkl _ _ _ _) (own_mkl _ _ _ _) (own_mkl _ _ _ _) (own_mkl _ _ _ _)) hZ (hw _ (List.mem_of_getElem? (i := 106) rfl)) (hw _ (List.mem_of_getElem? (i := 6) rfl)) (by decide) (by decide)) q213a q213c (g := (mkF m 422 #[.val (.int codeA), .val (.int codeB), .val (.int msgA), .val (.int msgB), .val (.int mode), .val (.int q1), .val (.int q4), .val (.int q11), .val (.int (Int32.ofNat m16)), .val (.int q21), .val (.int q26), .val (.int q31), .val (.int (Int32.ofNat nD)), .val (.int q50), .val (.int q51), .val (.int q52), .val (.int (Int32.ofNat m57)), .val (.int q58), .val (.int q59), .val (.int q60), .val (.int (Int32.ofNat nK)), .val (.int q67), .val (.int q68), .val (.int q69), .val (.ref b95), .val (.ref b147), .val (.int (1 : Int32))] [(.ref b95), (.ref b147)])) rfl (by rw [hml]; rfl) (Steps.refl _) (argsL := [(.ref b95)]) (rest := []) (lenOf pd__Ljava_lang_Object__Z rfl) rfl (by show 2 * 0 + _ ≤ _; exact Nat.le_of_eq rfl) (Jvm.hb hby at_422) (fun _ _ => ⟨rfl, e209, (by decide : 34 + 0 ≤ _), (by decide : 168 + 0 ≤ _)⟩)
            dsimp only [Pt.U, Pt.locs, Pt.cells, Pt.slots] at X213 l213 y213 z213 st213 hQ213
            subst l213 y213 z213
            obtain ⟨rfl, N213q, e213⟩ := hQ213
            have N213 := Fr.app N209 N213q
            obtain ⟨q214, hq214⟩ : ∃ z : Int32, z = (if (own_mk nD q50 q51 q52) = (own_mk m16 q21 q26 q31) then (if (own_mk nK q67 q68 q69) = (own_mk m57 q58 q59 q60) then (1 : Int32) else (0 : Int32)) else (0 : Int32)) := ⟨_, rfl⟩
            rw [← hq214] at st213
            have hE1 : q214 = (1 : Int32) := by rw [hq214, if_pos (Eq.symm h178), if_pos (Eq.symm h185)]
            have s215 : ∀ t_, Steps p.tables e below (T213.setTop (mkF m 435 #[.val (.int codeA), .val (.int codeB), .val (.int msgA), .val (.int msgB), .val (.int mode), .val (.int q1), .val (.int q4), .val (.int q11), .val (.int (Int32.ofNat m16)), .val (.int q21), .val (.int q26), .val (.int q31), .val (.int (Int32.ofNat nD)), .val (.int q50), .val (.int q51), .val (.int q52), .val (.int (Int32.ofNat m57)), .val (.int q58), .val (.int q59), .val (.int q60), .val (.int (Int32.ofNat nK)), .val (.int q67), .val (.int q68), .val (.int q69), .val (.ref b95), .val (.ref b147), .val (.int (1 : Int32))] [(.int (1 : Int32))])) t_ → Steps p.tables e below (s₁.setTop (entryFrame m #[(.int codeA), (.int codeB), (.int msgA), (.int msgB), (.int mode)] maxLocals)) t_ := fun t_ k_ => s211 t_ (by
              show Steps p.tables e below (T209.setTop (mkF m 422 #[.val (.int codeA), .val (.int codeB), .val (.int msgA), .val (.int msgB), .val (.int mode), .val (.int q1), .val (.int q4), .val (.int q11), .val (.int (Int32.ofNat m16)), .val (.int q21), .val (.int q26), .val (.int q31), .val (.int (Int32.ofNat nD)), .val (.int q50), .val (.int q51), .val (.int q52), .val (.int (Int32.ofNat m57)), .val (.int q58), .val (.int q59), .val (.int q60), .val (.int (Int32.ofNat nK)), .val (.int q67), .val (.int q68), .val (.int q69), .val (.ref b95), .val (.ref b147), .val (.int (1 : Int32))] [(.ref b95), (.ref b147)])) t_
              refine st213.trans ?_
              show Steps p.tables e below (T213.setTop (mkF m 425 #[.val (.int codeA), .val (.int codeB), .val (.int msgA), .val (.int msgB), .val (.int mode), .val (.int q1), .val (.int q4), .val (.int q11), .val (.int (Int32.ofNat m16)), .val (.int q21), .val (.int q26), .val (.int q31), .val (.int (Int32.ofNat nD)), .val (.int q50), .val (.int q51), .val (.int q52), .val (.int (Int32.ofNat m57)), .val (.int q58), .val (.int q59), .val (.int q60), .val (.int (Int32.ofNat nK)), .val (.int q67), .val (.int q68), .val (.int q69), .val (.ref b95), .val (.ref b147), .val (.int (1 : Int32))] [(.int q214)])) _
              refine XS.iload X213.here hx rfl (Jvm.hb hby at_425) rfl ?_
              refine XS.icmpNo X213.here hx rfl (Jvm.hb hby at_427) rfl (teq hE1).2 ?_
              show Steps p.tables e below (T213.setTop (mkF m 430 #[.val (.int codeA), .val (.int codeB), .val (.int msgA), .val (.int msgB), .val (.int mode), .val (.int q1), .val (.int q4), .val (.int q11), .val (.int (Int32.ofNat m16)), .val (.int q21), .val (.int q26), .val (.int q31), .val (.int (Int32.ofNat nD)), .val (.int q50), .val (.int q51), .val (.int q52), .val (.int (Int32.ofNat m57)), .val (.int q58), .val (.int q59), .val (.int q60), .val (.int (Int32.ofNat nK)), .val (.int q67), .val (.int q68), .val (.int q69), .val (.ref b95), .val (.ref b147), .val (.int (1 : Int32))] [])) _
              refine XS.iconst X213.here hx rfl (Jvm.hb hby at_430) ?_
              refine XS.goto X213.here hx rfl (pc0 := 431) (pc' := 435) rfl (Jvm.hb hby at_431) (by decide) (by decide) ?_
              show Steps p.tables e below (T213.setTop (mkF m 435 #[.val (.int codeA), .val (.int codeB), .val (.int msgA), .val (.int msgB), .val (.int mode), .val (.int q1), .val (.int q4), .val (.int q11), .val (.int (Int32.ofNat m16)), .val (.int q21), .val (.int q26), .val (.int q31), .val (.int (Int32.ofNat nD)), .val (.int q50), .val (.int q51), .val (.int q52), .val (.int (Int32.ofNat m57)), .val (.int q58), .val (.int q59), .val (.int q60), .val (.int (Int32.ofNat nK)), .val (.int q67), .val (.int q68), .val (.int q69), .val (.ref b95), .val (.ref b147), .val (.int (1 : Int32))] [(.int (1 : Int32))])) t_
              exact k_)
            obtain ⟨fs, hr, hrun, hended, hREW⟩ := X213.leaveW hS (by first | exact Nat.le_refl _ | (rw [e213]; exact hk)) (v := some (.int (1 : Int32))) (fun h => by rw [Bd.returns] at h; cases h)
            refine ⟨_, _, s215 _ ?_, hrun, hended, _, _, rfl, ?_, (by show CHr Z ELs s.vm s.heap T213.vm T213.heap; rw [hh, e213]; exact CR.trans (CHv.at X213 hZ hEL CR.1)), hREW.1, hREW.2.1, hREW.2.2.1, hREW.2.2.2.mono (by decide) (by decide)⟩
            · show Steps p.tables e below (T213.setTop (mkF m 435 #[.val (.int codeA), .val (.int codeB), .val (.int msgA), .val (.int msgB), .val (.int mode), .val (.int q1), .val (.int q4), .val (.int q11), .val (.int (Int32.ofNat m16)), .val (.int q21), .val (.int q26), .val (.int q31), .val (.int (Int32.ofNat nD)), .val (.int q50), .val (.int q51), .val (.int q52), .val (.int (Int32.ofNat m57)), .val (.int q58), .val (.int q59), .val (.int q60), .val (.int (Int32.ofNat nK)), .val (.int q67), .val (.int q68), .val (.int q69), .val (.ref b95), .val (.ref b147), .val (.int (1 : Int32))] [(.int (1 : Int32))])) _
              exact retN X213 hx (t := .boolean) Bd.returns (by simp) (Jvm.hb hby at_435) hr
            · show Q_rmLaw Z _ _ _ _ _ _ _ h0 n0 _ T213.heap _
              rw [e213]
              exact ⟨rfl, N213⟩
          · have s216 : ∀ t_, Steps p.tables e below (T182.setTop (mkF m 396 #[.val (.int codeA), .val (.int codeB), .val (.int msgA), .val (.int msgB), .val (.int mode), .val (.int q1), .val (.int q4), .val (.int q11), .val (.int (Int32.ofNat m16)), .val (.int q21), .val (.int q26), .val (.int q31), .val (.int (Int32.ofNat nD)), .val (.int q50), .val (.int q51), .val (.int q52), .val (.int (Int32.ofNat m57)), .val (.int q58), .val (.int q59), .val (.int q60), .val (.int (Int32.ofNat nK)), .val (.int q67), .val (.int q68), .val (.int q69), .val (.ref b95), .val (.ref b147), .unset] [(.int (0 : Int32))])) t_ → Steps p.tables e below (s₁.setTop (entryFrame m #[(.int codeA), (.int codeB), (.int msgA), (.int msgB), (.int mode)] maxLocals)) t_ := fun t_ k_ => s184 t_ (castTop (by rw [hq183, if_neg h185]) k_)
            have s217 : ∀ t_, Steps p.tables e below (T182.setTop (mkF m 410 #[.val (.int codeA), .val (.int codeB), .val (.int msgA), .val (.int msgB), .val (.int mode), .val (.int q1), .val (.int q4), .val (.int q11), .val (.int (Int32.ofNat m16)), .val (.int q21), .val (.int q26), .val (.int q31), .val (.int (Int32.ofNat nD)), .val (.int q50), .val (.int q51), .val (.int q52), .val (.int (Int32.ofNat m57)), .val (.int q58), .val (.int q59), .val (.int q60), .val (.int (Int32.ofNat nK)), .val (.int q67), .val (.int q68), .val (.int q69), .val (.ref b95), .val (.ref b147), .val (.int (0 : Int32))] [(.ref b147), (.ref b95)])) t_ → Steps p.tables e below (s₁.setTop (entryFrame m #[(.int codeA), (.int codeB), (.int msgA), (.int msgB), (.int mode)] maxLocals)) t_ := fun t_ k_ => s216 t_ (by
              show Steps p.tables e below (T182.setTop (mkF m 396 #[.val (.int codeA), .val (.int codeB), .val (.int msgA), .val (.int msgB), .val (.int mode), .val (.int q1), .val (.int q4), .val (.int q11), .val (.int (Int32.ofNat m16)), .val (.int q21), .val (.int q26), .val (.int q31), .val (.int (Int32.ofNat nD)), .val (.int q50), .val (.int q51), .val (.int q52), .val (.int (Int32.ofNat m57)), .val (.int q58), .val (.int q59), .val (.int q60), .val (.int (Int32.ofNat nK)), .val (.int q67), .val (.int q68), .val (.int q69), .val (.ref b95), .val (.ref b147), .unset] [(.int (0 : Int32))])) t_
              refine XS.ifYes X182.here hx rfl (pc0 := 396) (pc' := 403) rfl (Jvm.hb hby at_396) rfl ((if0 _ _).trans (teq (rfl : (0 : Int32) = (0 : Int32))).1) (by decide) (by decide) ?_
              show Steps p.tables e below (T182.setTop (mkF m 403 #[.val (.int codeA), .val (.int codeB), .val (.int msgA), .val (.int msgB), .val (.int mode), .val (.int q1), .val (.int q4), .val (.int q11), .val (.int (Int32.ofNat m16)), .val (.int q21), .val (.int q26), .val (.int q31), .val (.int (Int32.ofNat nD)), .val (.int q50), .val (.int q51), .val (.int q52), .val (.int (Int32.ofNat m57)), .val (.int q58), .val (.int q59), .val (.int q60), .val (.int (Int32.ofNat nK)), .val (.int q67), .val (.int q68), .val (.int q69), .val (.ref b95), .val (.ref b147), .unset] [])) _
              refine XS.iconst X182.here hx rfl (Jvm.hb hby at_403) ?_
              refine XS.istore X182.here hx rfl (Jvm.hb hby at_404) rfl (l' := #[.val (.int codeA), .val (.int codeB), .val (.int msgA), .val (.int msgB), .val (.int mode), .val (.int q1), .val (.int q4), .val (.int q11), .val (.int (Int32.ofNat m16)), .val (.int q21), .val (.int q26), .val (.int q31), .val (.int (Int32.ofNat nD)), .val (.int q50), .val (.int q51), .val (.int q52), .val (.int (Int32.ofNat m57)), .val (.int q58), .val (.int q59), .val (.int q60), .val (.int (Int32.ofNat nK)), .val (.int q67), .val (.int q68), .val (.int q69), .val (.ref b95), .val (.ref b147), .val (.int (0 : Int32))]) rfl ?_
              refine XS.aload X182.here hx rfl (Jvm.hb hby at_406) rfl rfl ?_
              refine XS.aload X182.here hx rfl (Jvm.hb hby at_408) rfl rfl ?_
              show Steps p.tables e below (T182.setTop (mkF m 410 #[.val (.int codeA), .val (.int codeB), .val (.int msgA), .val (.int msgB), .val (.int mode), .val (.int q1), .val (.int q4), .val (.int q11), .val (.int (Int32.ofNat m16)), .val (.int q21), .val (.int q26), .val (.int q31), .val (.int (Int32.ofNat nD)), .val (.int q50), .val (.int q51), .val (.int q52), .val (.int (Int32.ofNat m57)), .val (.int q58), .val (.int q59), .val (.int q60), .val (.int (Int32.ofNat nK)), .val (.int q67), .val (.int q68), .val (.int q69), .val (.ref b95), .val (.ref b147), .val (.int (0 : Int32))] [(.ref b147), (.ref b95)])) t_
              exact k_)
            have O218 : Old Z n0 h171 := (O162.keep K171 (allS (show n0 ≤ b147 by omega) all0))
            have f219 : Exa Z h171 b95 "com/example/zastupnik/zastupnik/protocol/ServiceError" := ((((Fq119_0.ext E147).keep K154).keep K159).keep K171)
            have f220 : Fld Z h171 b95 "com/example/zastupnik/zastupnik/protocol/ServiceError" "code" "Ljava/lang/String;" (.ref a_102) := ((((Fq119_1.ext E147).keep K154 nin0).keep K159 nin0).keep K171 (ninS (show @Ne Nat b95 b147 by omega) nin0))
            have f221 : Fld Z h171 b95 "com/example/zastupnik/zastupnik/protocol/ServiceError" "message" "Ljava/lang/String;" (.ref a_107) := ((((Fq119_2.ext E147).keep K154 nin0).keep K159 nin0).keep K171 (ninS (show @Ne Nat b95 b147 by omega) nin0))
            have f222 : Exa Z h171 a_102 "java/lang/String" := (((((f114.keep K119).ext E147).keep K154).keep K159).keep K171)
            have f223 : Fld Z h171 a_102 "java/lang/String" "value" "[B" (.ref b_102) := (((((f115.keep K119 (ninS (show @Ne Nat a_102 b95 by omega) nin0)).ext E147).keep K154 nin0).keep K159 nin0).keep K171 (ninS (show @Ne Nat a_102 b147 by omega) nin0))
            have f224 : Fld Z h171 a_102 "java/lang/String" "coder" "B" (.int (own_cod (own_mk m16 q21 q26 q31))) := (((((f116.keep K119 (ninS (show @Ne Nat a_102 b95 by omega) nin0)).ext E147).keep K154 nin0).keep K159 nin0).keep K171 (ninS (show @Ne Nat a_102 b147 by omega) nin0))
            have f225 : Arv Z h171 b_102 kb_102 .byte (Int32.ofNat (own_enl (own_mk m16 q21 q26 q31))) (own_enc (own_mk m16 q21 q26 q31)) (.int (0 : Int32)) := (((((f117.keep K119 (ninS (Ne.symm (Exa.neArv f111 f117 (hw _ (List.mem_of_getElem? (i := 5) rfl)))) nin0)).ext E147).keep K154 nin0).keep K159 nin0).keep K171 (ninS (Ne.symm (Exa.neArv f163 ((((f117.keep K119 (ninS (Ne.symm (Exa.neArv f111 f117 (hw _ (List.mem_of_getElem? (i := 5) rfl)))) nin0)).ext E147).keep K154 nin0).keep K159 nin0) (hw _ (List.mem_of_getElem? (i := 5) rfl)))) nin0))
            have f226 : Exa Z h171 a_154 "java/lang/String" := (f166.keep K171)
            have f227 : Fld Z h171 a_154 "java/lang/String" "value" "[B" (.ref b_154) := (f167.keep K171 (ninS (show @Ne Nat a_154 b147 by omega) nin0))
            have f228 : Fld Z h171 a_154 "java/lang/String" "coder" "B" (.int (own_cod (own_mk nD q50 q51 q52))) := (f168.keep K171 (ninS (show @Ne Nat a_154 b147 by omega) nin0))
            have f229 : Arv Z h171 b_154 kb_154 .byte (Int32.ofNat (own_enl (own_mk nD q50 q51 q52))) (own_enc (own_mk nD q50 q51 q52)) (.int (0 : Int32)) := (f169.keep K171 (ninS (Ne.symm (Exa.neArv f163 f169 (hw _ (List.mem_of_getElem? (i := 5) rfl)))) nin0))
            have f230 : Exa Z h171 a_107 "java/lang/String" := (((((Fq107_0.keep K119).ext E147).keep K154).keep K159).keep K171)
            have f231 : Fld Z h171 a_107 "java/lang/String" "value" "[B" (.ref b_107) := (((((Fq107_1.keep K119 (ninS (show @Ne Nat a_107 b95 by omega) nin0)).ext E147).keep K154 nin0).keep K159 nin0).keep K171 (ninS (show @Ne Nat a_107 b147 by omega) nin0))
            have f232 : Fld Z h171 a_107 "java/lang/String" "coder" "B" (.int (own_cod (own_mk m57 q58 q59 q60))) := (((((Fq107_2.keep K119 (ninS (show @Ne Nat a_107 b95 by omega) nin0)).ext E147).keep K154 nin0).keep K159 nin0).keep K171 (ninS (show @Ne Nat a_107 b147 by omega) nin0))
            have f233 : Arv Z h171 b_107 kb_107 .byte (Int32.ofNat (own_enl (own_mk m57 q58 q59 q60))) (own_enc (own_mk m57 q58 q59 q60)) (.int (0 : Int32)) := (((((Fq107_3.keep K119 (ninS (Ne.symm (Exa.neArv f111 Fq107_3 (hw _ (List.mem_of_getElem? (i := 5) rfl)))) nin0)).ext E147).keep K154 nin0).keep K159 nin0).keep K171 (ninS (Ne.symm (Exa.neArv f163 ((((Fq107_3.keep K119 (ninS (Ne.symm (Exa.neArv f111 Fq107_3 (hw _ (List.mem_of_getElem? (i := 5) rfl)))) nin0)).ext E147).keep K154 nin0).keep K159 nin0) (hw _ (List.mem_of_getElem? (i := 5) rfl)))) nin0))
            have f234 : Exa Z h171 a_159 "java/lang/String" := (Fq159_0.keep K171)
            have f235 : Fld Z h171 a_159 "java/lang/String" "value" "[B" (.ref b_159) := (Fq159_1.keep K171 (ninS (show @Ne Nat a_159 b147 by omega) nin0))
            have f236 : Fld Z h171 a_159 "java/lang/String" "coder" "B" (.int (own_cod (own_mk nK q67 q68 q69))) := (Fq159_2.keep K171 (ninS (show @Ne Nat a_159 b147 by omega) nin0))
            have f237 : Arv Z h171 b_159 kb_159 .byte (Int32.ofNat (own_enl (own_mk nK q67 q68 q69))) (own_enc (own_mk nK q67 q68 q69)) (.int (0 : Int32)) := (Fq159_3.keep K171 (ninS (Ne.symm (Exa.neArv f163 Fq159_3 (hw _ (List.mem_of_getElem? (i := 5) rfl)))) nin0))
            have Zc238 : n0 ≤ h171.size := by omega
            obtain ⟨cq239, kq239, q239a, q239b, q239c⟩ := isOf hZ e182 f219
            obtain ⟨_, _, ⟨T239, L239, k239, n239⟩, -, X239, ⟨Lc239, hQ239, l239, y239, z239⟩, st239⟩ := X182.virtualBack hx (y := (⟨"com/example/zastupnik/zastupnik/protocol/ServiceError", "equals", "(Ljava/lang/Object;)Z"⟩ : MethodName)) (z := (⟨"com/example/zastupnik/zastupnik/protocol/ServiceError", "equals", "(Ljava/lang/Object;)Z"⟩ : MethodName)) hown (mvT hZ (hw _ (List.mem_of_getElem? (i := 102) rfl))) (mvT hZ (hw _ (List.mem_of_getElem? (i := 103) rfl))) (notFace_of_selects (args := #[]) (mvT hZ (hw _ (List.mem_of_getElem? (i := 105) rfl)))) (mvT hZ (hw _ (List.mem_of_getElem? (i := 105) rfl))) (mvT hZ (hw _ (List.mem_of_getElem? (i := 104) rfl))) (by decide) (backOf (W := 0) (rmEqO l Z a0 hw [] b95 b147 cst a_102 b_102 kb_102 (own_mk m16 q21 q26 q31) a_154 b_154 kb_154 (own_mk nD q50 q51 q52) a_107 b_107 kb_107 (own_mk m57 q58 q59 q60) a_159 b_159 kb_159 (own_mk nK q67 q68 q69) h171 n0 Zc238 I1 O218 (hcst : ¬ (cst = (0 : Int32))) f219 f220 f221 Fq171_0 Fq171_1 Fq171_2 f222 f223 f224 f225 f226 f227 f228 f229 f230 f231 f232 f233 f234 f235 f236 f237 (own_neN (by omega)) (own_neN (by omega)) (own_mkchs (by omega) ⟨rg77.1, own_le64k rg77.2⟩ ⟨rg78.1, own_le64k rg78.2⟩ ⟨rg79.1, own_le64k rg79.2⟩) (own_mkchs (by omega) ⟨rg85.1, own_le64k rg85.2⟩ ⟨rg88.1, own_le64k rg88.2⟩ ⟨rg91.1, own_le64k rg91.2⟩) (own_mkchs (by omega) ⟨rg80.1, own_le64k rg80.2⟩ ⟨rg81.1, own_le64k rg81.2⟩ ⟨rg82.1, own_le64k rg82.2⟩) (own_mkchs (by omega) ⟨rg92.1, own_le64k rg92.2⟩ ⟨rg93.1, own_le64k rg93.2⟩ ⟨rg94.1, own_le64k rg94.2⟩) (own_mkl _ _ _ _) (own_mkl _ _ _ _) (own_mkl _ _ _ _) (own_mkl _ _ _ _)) hZ (hw _ (List.mem_of_getElem? (i := 106) rfl)) (hw _ (List.mem_of_getElem? (i := 6) rfl)) (by decide) (by decide)) q239a q239c (g := (mkF m 410 #[.val (.int codeA), .val (.int codeB), .val (.int msgA), .val (.int msgB), .val (.int mode), .val (.int q1), .val (.int q4), .val (.int q11), .val (.int (Int32.ofNat m16)), .val (.int q21), .val (.int q26), .val (.int q31), .val (.int (Int32.ofNat nD)), .val (.int q50), .val (.int q51), .val (.int q52), .val (.int (Int32.ofNat m57)), .val (.int q58), .val (.int q59), .val (.int q60), .val (.int (Int32.ofNat nK)), .val (.int q67), .val (.int q68), .val (.int q69), .val (.ref b95), .val (.ref b147), .val (.int (0 : Int32))] [(.ref b147), (.ref b95)])) rfl (by rw [hml]; rfl) (Steps.refl _) (argsL := [(.ref b147)]) (rest := []) (lenOf pd__Ljava_lang_Object__Z rfl) rfl (by show 2 * 0 + _ ≤ _; exact Nat.le_of_eq rfl) (Jvm.hb hby at_410) (fun _ _ => ⟨rfl, e182, (by decide : 34 + 0 ≤ _), (by decide : 168 + 0 ≤ _)⟩)
            dsimp only [Pt.U, Pt.locs, Pt.cells, Pt.slots] at X239 l239 y239 z239 st239 hQ239
            subst l239 y239 z239
            obtain ⟨rfl, N239q, e239⟩ := hQ239
            have N239 := Fr.app N182 N239q
            obtain ⟨q240, hq240⟩ : ∃ z : Int32, z = (if (own_mk m16 q21 q26 q31) = (own_mk nD q50 q51 q52) then (if (own_mk m57 q58 q59 q60) = (own_mk nK q67 q68 q69) then (1 : Int32) else (0 : Int32)) else (0 : Int32)) := ⟨_, rfl⟩
            rw [← hq240] at st239
            have hE0 : q240 = (0 : Int32) := by rw [hq240, if_pos h178, if_neg h185]
            have s241 : ∀ t_, Steps p.tables e below (T239.setTop (mkF m 422 #[.val (.int codeA), .val (.int codeB), .val (.int msgA), .val (.int msgB), .val (.int mode), .val (.int q1), .val (.int q4), .val (.int q11), .val (.int (Int32.ofNat m16)), .val (.int q21), .val (.int q26), .val (.int q31), .val (.int (Int32.ofNat nD)), .val (.int q50), .val (.int q51), .val (.int q52), .val (.int (Int32.ofNat m57)), .val (.int q58), .val (.int q59), .val (.int q60), .val (.int (Int32.ofNat nK)), .val (.int q67), .val (.int q68), .val (.int q69), .val (.ref b95), .val (.ref b147), .val (.int (0 : Int32))] [(.ref b95), (.ref b147)])) t_ → Steps p.tables e below (s₁.setTop (entryFrame m #[(.int codeA), (.int codeB), (.int msgA), (.int msgB), (.int mode)] maxLocals)) t_ := fun t_ k_ => s217 t_ (by
              show Steps p.tables e below (T182.setTop (mkF m 410 #[.val (.int codeA), .val (.int codeB), .val (.int msgA), .val (.int msgB), .val (.int mode), .val (.int q1), .val (.int q4), .val (.int q11), .val (.int (Int32.ofNat m16)), .val (.int q21), .val (.int q26), .val (.int q31), .val (.int (Int32.ofNat nD)), .val (.int q50), .val (.int q51), .val (.int q52), .val (.int (Int32.ofNat m57)), .val (.int q58), .val (.int q59), .val (.int q60), .val (.int (Int32.ofNat nK)), .val (.int q67), .val (.int q68), .val (.int q69), .val (.ref b95), .val (.ref b147), .val (.int (0 : Int32))] [(.ref b147), (.ref b95)])) t_
              refine st239.trans ?_
              show Steps p.tables e below (T239.setTop (mkF m 413 #[.val (.int codeA), .val (.int codeB), .val (.int msgA), .val (.int msgB), .val (.int mode), .val (.int q1), .val (.int q4), .val (.int q11), .val (.int (Int32.ofNat m16)), .val (.int q21), .val (.int q26), .val (.int q31), .val (.int (Int32.ofNat nD)), .val (.int q50), .val (.int q51), .val (.int q52), .val (.int (Int32.ofNat m57)), .val (.int q58), .val (.int q59), .val (.int q60), .val (.int (Int32.ofNat nK)), .val (.int q67), .val (.int q68), .val (.int q69), .val (.ref b95), .val (.ref b147), .val (.int (0 : Int32))] [(.int q240)])) _
              refine XS.iload X239.here hx rfl (Jvm.hb hby at_413) rfl ?_
              refine XS.icmpNo X239.here hx rfl (Jvm.hb hby at_415) rfl (teq hE0).2 ?_
              show Steps p.tables e below (T239.setTop (mkF m 418 #[.val (.int codeA), .val (.int codeB), .val (.int msgA), .val (.int msgB), .val (.int mode), .val (.int q1), .val (.int q4), .val (.int q11), .val (.int (Int32.ofNat m16)), .val (.int q21), .val (.int q26), .val (.int q31), .val (.int (Int32.ofNat nD)), .val (.int q50), .val (.int q51), .val (.int q52), .val (.int (Int32.ofNat m57)), .val (.int q58), .val (.int q59), .val (.int q60), .val (.int (Int32.ofNat nK)), .val (.int q67), .val (.int q68), .val (.int q69), .val (.ref b95), .val (.ref b147), .val (.int (0 : Int32))] [])) _
              refine XS.aload X239.here hx rfl (Jvm.hb hby at_418) rfl rfl ?_
              refine XS.aload X239.here hx rfl (Jvm.hb hby at_420) rfl rfl ?_
              show Steps p.tables e below (T239.setTop (mkF m 422 #[.val (.int codeA), .val (.int codeB), .val (.int msgA), .val (.int msgB), .val (.int mode), .val (.int q1), .val (.int q4), .val (.int q11), .val (.int (Int32.ofNat m16)), .val (.int q21), .val (.int q26), .val (.int q31), .val (.int (Int32.ofNat nD)), .val (.int q50), .val (.int q51), .val (.int q52), .val (.int (Int32.ofNat m57)), .val (.int q58), .val (.int q59), .val (.int q60), .val (.int (Int32.ofNat nK)), .val (.int q67), .val (.int q68), .val (.int q69), .val (.ref b95), .val (.ref b147), .val (.int (0 : Int32))] [(.ref b95), (.ref b147)])) t_
              exact k_)
            have Zc242 : n0 ≤ h171.size := by omega
            obtain ⟨cq243, kq243, q243a, q243b, q243c⟩ := isOf hZ e239 Fq171_0
            obtain ⟨_, _, ⟨T243, L243, k243, n243⟩, -, X243, ⟨Lc243, hQ243, l243, y243, z243⟩, st243⟩ := X239.virtualBack hx (y := (⟨"com/example/zastupnik/zastupnik/protocol/ServiceError", "equals", "(Ljava/lang/Object;)Z"⟩ : MethodName)) (z := (⟨"com/example/zastupnik/zastupnik/protocol/ServiceError", "equals", "(Ljava/lang/Object;)Z"⟩ : MethodName)) hown (mvT hZ (hw _ (List.mem_of_getElem? (i := 102) rfl))) (mvT hZ (hw _ (List.mem_of_getElem? (i := 103) rfl))) (notFace_of_selects (args := #[]) (mvT hZ (hw _ (List.mem_of_getElem? (i := 105) rfl)))) (mvT hZ (hw _ (List.mem_of_getElem? (i := 105) rfl))) (mvT hZ (hw _ (List.mem_of_getElem? (i := 104) rfl))) (by decide) (backOf (W := 0) (rmEqO l Z a0 hw [] b147 b95 cst a_154 b_154 kb_154 (own_mk nD q50 q51 q52) a_102 b_102 kb_102 (own_mk m16 q21 q26 q31) a_159 b_159 kb_159 (own_mk nK q67 q68 q69) a_107 b_107 kb_107 (own_mk m57 q58 q59 q60) h171 n0 Zc242 I1 O218 (hcst : ¬ (cst = (0 : Int32))) Fq171_0 Fq171_1 Fq171_2 f219 f220 f221 f226 f227 f228 f229 f222 f223 f224 f225 f234 f235 f236 f237 f230 f231 f232 f233 (own_neN (by omega)) (own_neN (by omega)) (own_mkchs (by omega) ⟨rg85.1, own_le64k rg85.2⟩ ⟨rg88.1, own_le64k rg88.2⟩ ⟨rg91.1, own_le64k rg91.2⟩) (own_mkchs (by omega) ⟨rg77.1, own_le64k rg77.2⟩ ⟨rg78.1, own_le64k rg78.2⟩ ⟨rg79.1, own_le64k rg79.2⟩) (own_mkchs (by omega) ⟨rg92.1, own_le64k rg92.2⟩ ⟨rg93.1, own_le64k rg93.2⟩ ⟨rg94.1, own_le64k rg94.2⟩) (own_mkchs (by omega) ⟨rg80.1, own_le64k rg80.2⟩ ⟨rg81.1, own_le64k rg81.2⟩ ⟨rg82.1, own_le64k rg82.2⟩) (own_mkl _ _ _ _) (own_mkl _ _ _ _) (own_mkl _ _ _ _) (own_mkl _ _ _ _)) hZ (hw _ (List.mem_of_getElem? (i := 106) rfl)) (hw _ (List.mem_of_getElem? (i := 6) rfl)) (by decide) (by decide)) q243a q243c (g := (mkF m 422 #[.val (.int codeA), .val (.int codeB), .val (.int msgA), .val (.int msgB), .val (.int mode), .val (.int q1), .val (.int q4), .val (.int q11), .val (.int (Int32.ofNat m16)), .val (.int q21), .val (.int q26), .val (.int q31), .val (.int (Int32.ofNat nD)), .val (.int q50), .val (.int q51), .val (.int q52), .val (.int (Int32.ofNat m57)), .val (.int q58), .val (.int q59), .val (.int q60), .val (.int (Int32.ofNat nK)), .val (.int q67), .val (.int q68), .val (.int q69), .val (.ref b95), .val (.ref b147), .val (.int (0 : Int32))] [(.ref b95), (.ref b147)])) rfl (by rw [hml]; rfl) (Steps.refl _) (argsL := [(.ref b95)]) (rest := []) (lenOf pd__Ljava_lang_Object__Z rfl) rfl (by show 2 * 0 + _ ≤ _; exact Nat.le_of_eq rfl) (Jvm.hb hby at_422) (fun _ _ => ⟨rfl, e239, (by decide : 34 + 0 ≤ _), (by decide : 168 + 0 ≤ _)⟩)
            dsimp only [Pt.U, Pt.locs, Pt.cells, Pt.slots] at X243 l243 y243 z243 st243 hQ243
            subst l243 y243 z243
            obtain ⟨rfl, N243q, e243⟩ := hQ243
            have N243 := Fr.app N239 N243q
            obtain ⟨q244, hq244⟩ : ∃ z : Int32, z = (if (own_mk nD q50 q51 q52) = (own_mk m16 q21 q26 q31) then (if (own_mk nK q67 q68 q69) = (own_mk m57 q58 q59 q60) then (1 : Int32) else (0 : Int32)) else (0 : Int32)) := ⟨_, rfl⟩
            rw [← hq244] at st243
            have hE1 : q244 = (0 : Int32) := by rw [hq244, if_pos (Eq.symm h178), if_neg (fun q => h185 q.symm)]
            have s245 : ∀ t_, Steps p.tables e below (T243.setTop (mkF m 435 #[.val (.int codeA), .val (.int codeB), .val (.int msgA), .val (.int msgB), .val (.int mode), .val (.int q1), .val (.int q4), .val (.int q11), .val (.int (Int32.ofNat m16)), .val (.int q21), .val (.int q26), .val (.int q31), .val (.int (Int32.ofNat nD)), .val (.int q50), .val (.int q51), .val (.int q52), .val (.int (Int32.ofNat m57)), .val (.int q58), .val (.int q59), .val (.int q60), .val (.int (Int32.ofNat nK)), .val (.int q67), .val (.int q68), .val (.int q69), .val (.ref b95), .val (.ref b147), .val (.int (0 : Int32))] [(.int (1 : Int32))])) t_ → Steps p.tables e below (s₁.setTop (entryFrame m #[(.int codeA), (.int codeB), (.int msgA), (.int msgB), (.int mode)] maxLocals)) t_ := fun t_ k_ => s241 t_ (by
              show Steps p.tables e below (T239.setTop (mkF m 422 #[.val (.int codeA), .val (.int codeB), .val (.int msgA), .val (.int msgB), .val (.int mode), .val (.int q1), .val (.int q4), .val (.int q11), .val (.int (Int32.ofNat m16)), .val (.int q21), .val (.int q26), .val (.int q31), .val (.int (Int32.ofNat nD)), .val (.int q50), .val (.int q51), .val (.int q52), .val (.int (Int32.ofNat m57)), .val (.int q58), .val (.int q59), .val (.int q60), .val (.int (Int32.ofNat nK)), .val (.int q67), .val (.int q68), .val (.int q69), .val (.ref b95), .val (.ref b147), .val (.int (0 : Int32))] [(.ref b95), (.ref b147)])) t_
              refine st243.trans ?_
              show Steps p.tables e below (T243.setTop (mkF m 425 #[.val (.int codeA), .val (.int codeB), .val (.int msgA), .val (.int msgB), .val (.int mode), .val (.int q1), .val (.int q4), .val (.int q11), .val (.int (Int32.ofNat m16)), .val (.int q21), .val (.int q26), .val (.int q31), .val (.int (Int32.ofNat nD)), .val (.int q50), .val (.int q51), .val (.int q52), .val (.int (Int32.ofNat m57)), .val (.int q58), .val (.int q59), .val (.int q60), .val (.int (Int32.ofNat nK)), .val (.int q67), .val (.int q68), .val (.int q69), .val (.ref b95), .val (.ref b147), .val (.int (0 : Int32))] [(.int q244)])) _
              refine XS.iload X243.here hx rfl (Jvm.hb hby at_425) rfl ?_
              refine XS.icmpNo X243.here hx rfl (Jvm.hb hby at_427) rfl (teq hE1).2 ?_
              show Steps p.tables e below (T243.setTop (mkF m 430 #[.val (.int codeA), .val (.int codeB), .val (.int msgA), .val (.int msgB), .val (.int mode), .val (.int q1), .val (.int q4), .val (.int q11), .val (.int (Int32.ofNat m16)), .val (.int q21), .val (.int q26), .val (.int q31), .val (.int (Int32.ofNat nD)), .val (.int q50), .val (.int q51), .val (.int q52), .val (.int (Int32.ofNat m57)), .val (.int q58), .val (.int q59), .val (.int q60), .val (.int (Int32.ofNat nK)), .val (.int q67), .val (.int q68), .val (.int q69), .val (.ref b95), .val (.ref b147), .val (.int (0 : Int32))] [])) _
              refine XS.iconst X243.here hx rfl (Jvm.hb hby at_430) ?_
              refine XS.goto X243.here hx rfl (pc0 := 431) (pc' := 435) rfl (Jvm.hb hby at_431) (by decide) (by decide) ?_
              show Steps p.tables e below (T243.setTop (mkF m 435 #[.val (.int codeA), .val (.int codeB), .val (.int msgA), .val (.int msgB), .val (.int mode), .val (.int q1), .val (.int q4), .val (.int q11), .val (.int (Int32.ofNat m16)), .val (.int q21), .val (.int q26), .val (.int q31), .val (.int (Int32.ofNat nD)), .val (.int q50), .val (.int q51), .val (.int q52), .val (.int (Int32.ofNat m57)), .val (.int q58), .val (.int q59), .val (.int q60), .val (.int (Int32.ofNat nK)), .val (.int q67), .val (.int q68), .val (.int q69), .val (.ref b95), .val (.ref b147), .val (.int (0 : Int32))] [(.int (1 : Int32))])) t_
              exact k_)
            obtain ⟨fs, hr, hrun, hended, hREW⟩ := X243.leaveW hS (by first | exact Nat.le_refl _ | (rw [e243]; exact hk)) (v := some (.int (1 : Int32))) (fun h => by rw [Bd.returns] at h; cases h)
            refine ⟨_, _, s245 _ ?_, hrun, hended, _, _, rfl, ?_, (by show CHr Z ELs s.vm s.heap T243.vm T243.heap; rw [hh, e243]; exact CR.trans (CHv.at X243 hZ hEL CR.1)), hREW.1, hREW.2.1, hREW.2.2.1, hREW.2.2.2.mono (by decide) (by decide)⟩
            · show Steps p.tables e below (T243.setTop (mkF m 435 #[.val (.int codeA), .val (.int codeB), .val (.int msgA), .val (.int msgB), .val (.int mode), .val (.int q1), .val (.int q4), .val (.int q11), .val (.int (Int32.ofNat m16)), .val (.int q21), .val (.int q26), .val (.int q31), .val (.int (Int32.ofNat nD)), .val (.int q50), .val (.int q51), .val (.int q52), .val (.int (Int32.ofNat m57)), .val (.int q58), .val (.int q59), .val (.int q60), .val (.int (Int32.ofNat nK)), .val (.int q67), .val (.int q68), .val (.int q69), .val (.ref b95), .val (.ref b147), .val (.int (0 : Int32))] [(.int (1 : Int32))])) _
              exact retN X243 hx (t := .boolean) Bd.returns (by simp) (Jvm.hb hby at_435) hr
            · show Q_rmLaw Z _ _ _ _ _ _ _ h0 n0 _ T243.heap _
              rw [e243]
              exact ⟨rfl, N243⟩
        · have s246 : ∀ t_, Steps p.tables e below (T175.setTop (mkF m 374 #[.val (.int codeA), .val (.int codeB), .val (.int msgA), .val (.int msgB), .val (.int mode), .val (.int q1), .val (.int q4), .val (.int q11), .val (.int (Int32.ofNat m16)), .val (.int q21), .val (.int q26), .val (.int q31), .val (.int (Int32.ofNat nD)), .val (.int q50), .val (.int q51), .val (.int q52), .val (.int (Int32.ofNat m57)), .val (.int q58), .val (.int q59), .val (.int q60), .val (.int (Int32.ofNat nK)), .val (.int q67), .val (.int q68), .val (.int q69), .val (.ref b95), .val (.ref b147), .unset] [(.int (0 : Int32))])) t_ → Steps p.tables e below (s₁.setTop (entryFrame m #[(.int codeA), (.int codeB), (.int msgA), (.int msgB), (.int mode)] maxLocals)) t_ := fun t_ k_ => s177 t_ (castTop (by rw [hq176, if_neg h178]) k_)
          have s247 : ∀ t_, Steps p.tables e below (T175.setTop (mkF m 410 #[.val (.int codeA), .val (.int codeB), .val (.int msgA), .val (.int msgB), .val (.int mode), .val (.int q1), .val (.int q4), .val (.int q11), .val (.int (Int32.ofNat m16)), .val (.int q21), .val (.int q26), .val (.int q31), .val (.int (Int32.ofNat nD)), .val (.int q50), .val (.int q51), .val (.int q52), .val (.int (Int32.ofNat m57)), .val (.int q58), .val (.int q59), .val (.int q60), .val (.int (Int32.ofNat nK)), .val (.int q67), .val (.int q68), .val (.int q69), .val (.ref b95), .val (.ref b147), .val (.int (0 : Int32))] [(.ref b147), (.ref b95)])) t_ → Steps p.tables e below (s₁.setTop (entryFrame m #[(.int codeA), (.int codeB), (.int msgA), (.int msgB), (.int mode)] maxLocals)) t_ := fun t_ k_ => s246 t_ (by
            show Steps p.tables e below (T175.setTop (mkF m 374 #[.val (.int codeA), .val (.int codeB), .val (.int msgA), .val (.int msgB), .val (.int mode), .val (.int q1), .val (.int q4), .val (.int q11), .val (.int (Int32.ofNat m16)), .val (.int q21), .val (.int q26), .val (.int q31), .val (.int (Int32.ofNat nD)), .val (.int q50), .val (.int q51), .val (.int q52), .val (.int (Int32.ofNat m57)), .val (.int q58), .val (.int q59), .val (.int q60), .val (.int (Int32.ofNat nK)), .val (.int q67), .val (.int q68), .val (.int q69), .val (.ref b95), .val (.ref b147), .unset] [(.int (0 : Int32))])) t_
            refine XS.ifYes X175.here hx rfl (pc0 := 374) (pc' := 403) rfl (Jvm.hb hby at_374) rfl ((if0 _ _).trans (teq (rfl : (0 : Int32) = (0 : Int32))).1) (by decide) (by decide) ?_
            show Steps p.tables e below (T175.setTop (mkF m 403 #[.val (.int codeA), .val (.int codeB), .val (.int msgA), .val (.int msgB), .val (.int mode), .val (.int q1), .val (.int q4), .val (.int q11), .val (.int (Int32.ofNat m16)), .val (.int q21), .val (.int q26), .val (.int q31), .val (.int (Int32.ofNat nD)), .val (.int q50), .val (.int q51), .val (.int q52), .val (.int (Int32.ofNat m57)), .val (.int q58), .val (.int q59), .val (.int q60), .val (.int (Int32.ofNat nK)), .val (.int q67), .val (.int q68), .val (.int q69), .val (.ref b95), .val (.ref b147), .unset] [])) _
            refine XS.iconst X175.here hx rfl (Jvm.hb hby at_403) ?_
            refine XS.istore X175.here hx rfl (Jvm.hb hby at_404) rfl (l' := #[.val (.int codeA), .val (.int codeB), .val (.int msgA), .val (.int msgB), .val (.int mode), .val (.int q1), .val (.int q4), .val (.int q11), .val (.int (Int32.ofNat m16)), .val (.int q21), .val (.int q26), .val (.int q31), .val (.int (Int32.ofNat nD)), .val (.int q50), .val (.int q51), .val (.int q52), .val (.int (Int32.ofNat m57)), .val (.int q58), .val (.int q59), .val (.int q60), .val (.int (Int32.ofNat nK)), .val (.int q67), .val (.int q68), .val (.int q69), .val (.ref b95), .val (.ref b147), .val (.int (0 : Int32))]) rfl ?_
            refine XS.aload X175.here hx rfl (Jvm.hb hby at_406) rfl rfl ?_
            refine XS.aload X175.here hx rfl (Jvm.hb hby at_408) rfl rfl ?_
            show Steps p.tables e below (T175.setTop (mkF m 410 #[.val (.int codeA), .val (.int codeB), .val (.int msgA), .val (.int msgB), .val (.int mode), .val (.int q1), .val (.int q4), .val (.int q11), .val (.int (Int32.ofNat m16)), .val (.int q21), .val (.int q26), .val (.int q31), .val (.int (Int32.ofNat nD)), .val (.int q50), .val (.int q51), .val (.int q52), .val (.int (Int32.ofNat m57)), .val (.int q58), .val (.int q59), .val (.int q60), .val (.int (Int32.ofNat nK)), .val (.int q67), .val (.int q68), .val (.int q69), .val (.ref b95), .val (.ref b147), .val (.int (0 : Int32))] [(.ref b147), (.ref b95)])) t_
            exact k_)
          have O248 : Old Z n0 h171 := (O162.keep K171 (allS (show n0 ≤ b147 by omega) all0))
          have f249 : Exa Z h171 b95 "com/example/zastupnik/zastupnik/protocol/ServiceError" := ((((Fq119_0.ext E147).keep K154).keep K159).keep K171)
          have f250 : Fld Z h171 b95 "com/example/zastupnik/zastupnik/protocol/ServiceError" "code" "Ljava/lang/String;" (.ref a_102) := ((((Fq119_1.ext E147).keep K154 nin0).keep K159 nin0).keep K171 (ninS (show @Ne Nat b95 b147 by omega) nin0))
          have f251 : Fld Z h171 b95 "com/example/zastupnik/zastupnik/protocol/ServiceError" "message" "Ljava/lang/String;" (.ref a_107) := ((((Fq119_2.ext E147).keep K154 nin0).keep K159 nin0).keep K171 (ninS (show @Ne Nat b95 b147 by omega) nin0))
          have f252 : Exa Z h171 a_102 "java/lang/String" := (((((f114.keep K119).ext E147).keep K154).keep K159).keep K171)
          have f253 : Fld Z h171 a_102 "java/lang/String" "value" "[B" (.ref b_102) := (((((f115.keep K119 (ninS (show @Ne Nat a_102 b95 by omega) nin0)).ext E147).keep K154 nin0).keep K159 nin0).keep K171 (ninS (show @Ne Nat a_102 b147 by omega) nin0))
          have f254 : Fld Z h171 a_102 "java/lang/String" "coder" "B" (.int (own_cod (own_mk m16 q21 q26 q31))) := (((((f116.keep K119 (ninS (show @Ne Nat a_102 b95 by omega) nin0)).ext E147).keep K154 nin0).keep K159 nin0).keep K171 (ninS (show @Ne Nat a_102 b147 by omega) nin0))
          have f255 : Arv Z h171 b_102 kb_102 .byte (Int32.ofNat (own_enl (own_mk m16 q21 q26 q31))) (own_enc (own_mk m16 q21 q26 q31)) (.int (0 : Int32)) := (((((f117.keep K119 (ninS (Ne.symm (Exa.neArv f111 f117 (hw _ (List.mem_of_getElem? (i := 5) rfl)))) nin0)).ext E147).keep K154 nin0).keep K159 nin0).keep K171 (ninS (Ne.symm (Exa.neArv f163 ((((f117.keep K119 (ninS (Ne.symm (Exa.neArv f111 f117 (hw _ (List.mem_of_getElem? (i := 5) rfl)))) nin0)).ext E147).keep K154 nin0).keep K159 nin0) (hw _ (List.mem_of_getElem? (i := 5) rfl)))) nin0))
          have f256 : Exa Z h171 a_154 "java/lang/String" := (f166.keep K171)
          have f257 : Fld Z h171 a_154 "java/lang/String" "value" "[B" (.ref b_154) := (f167.keep K171 (ninS (show @Ne Nat a_154 b147 by omega) nin0))
          have f258 : Fld Z h171 a_154 "java/lang/String" "coder" "B" (.int (own_cod (own_mk nD q50 q51 q52))) := (f168.keep K171 (ninS (show @Ne Nat a_154 b147 by omega) nin0))
          have f259 : Arv Z h171 b_154 kb_154 .byte (Int32.ofNat (own_enl (own_mk nD q50 q51 q52))) (own_enc (own_mk nD q50 q51 q52)) (.int (0 : Int32)) := (f169.keep K171 (ninS (Ne.symm (Exa.neArv f163 f169 (hw _ (List.mem_of_getElem? (i := 5) rfl)))) nin0))
          have f260 : Exa Z h171 a_107 "java/lang/String" := (((((Fq107_0.keep K119).ext E147).keep K154).keep K159).keep K171)
          have f261 : Fld Z h171 a_107 "java/lang/String" "value" "[B" (.ref b_107) := (((((Fq107_1.keep K119 (ninS (show @Ne Nat a_107 b95 by omega) nin0)).ext E147).keep K154 nin0).keep K159 nin0).keep K171 (ninS (show @Ne Nat a_107 b147 by omega) nin0))
          have f262 : Fld Z h171 a_107 "java/lang/String" "coder" "B" (.int (own_cod (own_mk m57 q58 q59 q60))) := (((((Fq107_2.keep K119 (ninS (show @Ne Nat a_107 b95 by omega) nin0)).ext E147).keep K154 nin0).keep K159 nin0).keep K171 (ninS (show @Ne Nat a_107 b147 by omega) nin0))
          have f263 : Arv Z h171 b_107 kb_107 .byte (Int32.ofNat (own_enl (own_mk m57 q58 q59 q60))) (own_enc (own_mk m57 q58 q59 q60)) (.int (0 : Int32)) := (((((Fq107_3.keep K119 (ninS (Ne.symm (Exa.neArv f111 Fq107_3 (hw _ (List.mem_of_getElem? (i := 5) rfl)))) nin0)).ext E147).keep K154 nin0).keep K159 nin0).keep K171 (ninS (Ne.symm (Exa.neArv f163 ((((Fq107_3.keep K119 (ninS (Ne.symm (Exa.neArv f111 Fq107_3 (hw _ (List.mem_of_getElem? (i := 5) rfl)))) nin0)).ext E147).keep K154 nin0).keep K159 nin0) (hw _ (List.mem_of_getElem? (i := 5) rfl)))) nin0))
          have f264 : Exa Z h171 a_159 "java/lang/String" := (Fq159_0.keep K171)
          have f265 : Fld Z h171 a_159 "java/lang/String" "value" "[B" (.ref b_159) := (Fq159_1.keep K171 (ninS (show @Ne Nat a_159 b147 by omega) nin0))
          have f266 : Fld Z h171 a_159 "java/lang/String" "coder" "B" (.int (own_cod (own_mk nK q67 q68 q69))) := (Fq159_2.keep K171 (ninS (show @Ne Nat a_159 b147 by omega) nin0))
          have f267 : Arv Z h171 b_159 kb_159 .byte (Int32.ofNat (own_enl (own_mk nK q67 q68 q69))) (own_enc (own_mk nK q67 q68 q69)) (.int (0 : Int32)) := (Fq159_3.keep K171 (ninS (Ne.symm (Exa.neArv f163 Fq159_3 (hw _ (List.mem_of_getElem? (i := 5) rfl)))) nin0))
          have Zc268 : n0 ≤ h171.size := by omega
          obtain ⟨cq269, kq269, q269a, q269b, q269c⟩ := isOf hZ e175 f249
          obtain ⟨_, _, ⟨T269, L269, k269, n269⟩, -, X269, ⟨Lc269, hQ269, l269, y269, z269⟩, st269⟩ := X175.virtualBack hx (y := (⟨"com/example/zastupnik/zastupnik/protocol/ServiceError", "equals", "(Ljava/lang/Object;)Z"⟩ : MethodName)) (z := (⟨"com/example/zastupnik/zastupnik/protocol/ServiceError", "equals", "(Ljava/lang/Object;)Z"⟩ : MethodName)) hown (mvT hZ (hw _ (List.mem_of_getElem? (i := 102) rfl))) (mvT hZ (hw _ (List.mem_of_getElem? (i := 103) rfl))) (notFace_of_selects (args := #[]) (mvT hZ (hw _ (List.mem_of_getElem? (i := 105) rfl)))) (mvT hZ (hw _ (List.mem_of_getElem? (i := 105) rfl))) (mvT hZ (hw _ (List.mem_of_getElem? (i := 104) rfl))) (by decide) (backOf (W := 0) (rmEqO l Z a0 hw [] b95 b147 cst a_102 b_102 kb_102 (own_mk m16 q21 q26 q31) a_154 b_154 kb_154 (own_mk nD q50 q51 q52) a_107 b_107 kb_107 (own_mk m57 q58 q59 q60) a_159 b_159 kb_159 (own_mk nK q67 q68 q69) h171 n0 Zc268 I1 O248 (hcst : ¬ (cst = (0 : Int32))) f249 f250 f251 Fq171_0 Fq171_1 Fq171_2 f252 f253 f254 f255 f256 f257 f258 f259 f260 f261 f262 f263 f264 f265 f266 f267 (own_neN (by omega)) (own_neN (by omega)) (own_mkchs (by omega) ⟨rg77.1, own_le64k rg77.2⟩ ⟨rg78.1, own_le64k rg78.2⟩ ⟨rg79.1, own_le64k rg79.2⟩) (own_mkchs (by omega) ⟨rg85.1, own_le64k rg85.2⟩ ⟨rg88.1, own_le64k rg88.2⟩ ⟨rg91.1, own_le64k rg91.2⟩) (own_mkchs (by omega) ⟨rg80.1, own_le64k rg80.2⟩ ⟨rg81.1, own_le64k rg81.2⟩ ⟨rg82.1, own_le64k rg82.2⟩) (own_mkchs (by omega) ⟨rg92.1, own_le64k rg92.2⟩ ⟨rg93.1, own_le64k rg93.2⟩ ⟨rg94.1, own_le64k rg94.2⟩) (own_mkl _ _ _ _) (own_mkl _ _ _ _) (own_mkl _ _ _ _) (own_mkl _ _ _ _)) hZ (hw _ (List.mem_of_getElem? (i := 106) rfl)) (hw _ (List.mem_of_getElem? (i := 6) rfl)) (by decide) (by decide)) q269a q269c (g := (mkF m 410 #[.val (.int codeA), .val (.int codeB), .val (.int msgA), .val (.int msgB), .val (.int mode), .val (.int q1), .val (.int q4), .val (.int q11), .val (.int (Int32.ofNat m16)), .val (.int q21), .val (.int q26), .val (.int q31), .val (.int (Int32.ofNat nD)), .val (.int q50), .val (.int q51), .val (.int q52), .val (.int (Int32.ofNat m57)), .val (.int q58), .val (.int q59), .val (.int q60), .val (.int (Int32.ofNat nK)), .val (.int q67), .val (.int q68), .val (.int q69), .val (.ref b95), .val (.ref b147), .val (.int (0 : Int32))] [(.ref b147), (.ref b95)])) rfl (by rw [hml]; rfl) (Steps.refl _) (argsL := [(.ref b147)]) (rest := []) (lenOf pd__Ljava_lang_Object__Z rfl) rfl (by show 2 * 0 + _ ≤ _; exact Nat.le_of_eq rfl) (Jvm.hb hby at_410) (fun _ _ => ⟨rfl, e175, (by decide : 34 + 0 ≤ _), (by decide : 168 + 0 ≤ _)⟩)
          dsimp only [Pt.U, Pt.locs, Pt.cells, Pt.slots] at X269 l269 y269 z269 st269 hQ269
          subst l269 y269 z269
          obtain ⟨rfl, N269q, e269⟩ := hQ269
          have N269 := Fr.app N175 N269q
          obtain ⟨q270, hq270⟩ : ∃ z : Int32, z = (if (own_mk m16 q21 q26 q31) = (own_mk nD q50 q51 q52) then (if (own_mk m57 q58 q59 q60) = (own_mk nK q67 q68 q69) then (1 : Int32) else (0 : Int32)) else (0 : Int32)) := ⟨_, rfl⟩
          rw [← hq270] at st269
          have hE0 : q270 = (0 : Int32) := by rw [hq270, if_neg h178]
          have s271 : ∀ t_, Steps p.tables e below (T269.setTop (mkF m 422 #[.val (.int codeA), .val (.int codeB), .val (.int msgA), .val (.int msgB), .val (.int mode), .val (.int q1), .val (.int q4), .val (.int q11), .val (.int (Int32.ofNat m16)), .val (.int q21), .val (.int q26), .val (.int q31), .val (.int (Int32.ofNat nD)), .val (.int q50), .val (.int q51), .val (.int q52), .val (.int (Int32.ofNat m57)), .val (.int q58), .val (.int q59), .val (.int q60), .val (.int (Int32.ofNat nK)), .val (.int q67), .val (.int q68), .val (.int q69), .val (.ref b95), .val (.ref b147), .val (.int (0 : Int32))] [(.ref b95), (.ref b147)])) t_ → Steps p.tables e below (s₁.setTop (entryFrame m #[(.int codeA), (.int codeB), (.int msgA), (.int msgB), (.int mode)] maxLocals)) t_ := fun t_ k_ => s247 t_ (by
            show Steps p.tables e below (T175.setTop (mkF m 410 #[.val (.int codeA), .val (.int codeB), .val (.int msgA), .val (.int msgB), .val (.int mode), .val (.int q1), .val (.int q4), .val (.int q11), .val (.int (Int32.ofNat m16)), .val (.int q21), .val (.int q26), .val (.int q31), .val (.int (Int32.ofNat nD)), .val (.int q50), .val (.int q51), .val (.int q52), .val (.int (Int32.ofNat m57)), .val (.int q58), .val (.int q59), .val (.int q60), .val (.int (Int32.ofNat nK)), .val (.int q67), .val (.int q68), .val (.int q69), .val (.ref b95), .val (.ref b147), .val (.int (0 : Int32))] [(.ref b147), (.ref b95)])) t_
            refine st269.trans ?_
            show Steps p.tables e below (T269.setTop (mkF m 413 #[.val (.int codeA), .val (.int codeB), .val (.int msgA), .val (.int msgB), .val (.int mode), .val (.int q1), .val (.int q4), .val (.int q11), .val (.int (Int32.ofNat m16)), .val (.int q21), .val (.int q26), .val (.int q31), .val (.int (Int32.ofNat nD)), .val (.int q50), .val (.int q51), .val (.int q52), .val (.int (Int32.ofNat m57)), .val (.int q58), .val (.int q59), .val (.int q60), .val (.int (Int32.ofNat nK)), .val (.int q67), .val (.int q68), .val (.int q69), .val (.ref b95), .val (.ref b147), .val (.int (0 : Int32))] [(.int q270)])) _
            refine XS.iload X269.here hx rfl (Jvm.hb hby at_413) rfl ?_
            refine XS.icmpNo X269.here hx rfl (Jvm.hb hby at_415) rfl (teq hE0).2 ?_
            show Steps p.tables e below (T269.setTop (mkF m 418 #[.val (.int codeA), .val (.int codeB), .val (.int msgA), .val (.int msgB), .val (.int mode), .val (.int q1), .val (.int q4), .val (.int q11), .val (.int (Int32.ofNat m16)), .val (.int q21), .val (.int q26), .val (.int q31), .val (.int (Int32.ofNat nD)), .val (.int q50), .val (.int q51), .val (.int q52), .val (.int (Int32.ofNat m57)), .val (.int q58), .val (.int q59), .val (.int q60), .val (.int (Int32.ofNat nK)), .val (.int q67), .val (.int q68), .val (.int q69), .val (.ref b95), .val (.ref b147), .val (.int (0 : Int32))] [])) _
            refine XS.aload X269.here hx rfl (Jvm.hb hby at_418) rfl rfl ?_
            refine XS.aload X269.here hx rfl (Jvm.hb hby at_420) rfl rfl ?_
            show Steps p.tables e below (T269.setTop (mkF m 422 #[.val (.int codeA), .val (.int codeB), .val (.int msgA), .val (.int msgB), .val (.int mode), .val (.int q1), .val (.int q4), .val (.int q11), .val (.int (Int32.ofNat m16)), .val (.int q21), .val (.int q26), .val (.int q31), .val (.int (Int32.ofNat nD)), .val (.int q50), .val (.int q51), .val (.int q52), .val (.int (Int32.ofNat m57)), .val (.int q58), .val (.int q59), .val (.int q60), .val (.int (Int32.ofNat nK)), .val (.int q67), .val (.int q68), .val (.int q69), .val (.ref b95), .val (.ref b147), .val (.int (0 : Int32))] [(.ref b95), (.ref b147)])) t_
            exact k_)
          have Zc272 : n0 ≤ h171.size := by omega
          obtain ⟨cq273, kq273, q273a, q273b, q273c⟩ := isOf hZ e269 Fq171_0
          obtain ⟨_, _, ⟨T273, L273, k273, n273⟩, -, X273, ⟨Lc273, hQ273, l273, y273, z273⟩, st273⟩ := X269.virtualBack hx (y := (⟨"com/example/zastupnik/zastupnik/protocol/ServiceError", "equals", "(Ljava/lang/Object;)Z"⟩ : MethodName)) (z := (⟨"com/example/zastupnik/zastupnik/protocol/ServiceError", "equals", "(Ljava/lang/Object;)Z"⟩ : MethodName)) hown (mvT hZ (hw _ (List.mem_of_getElem? (i := 102) rfl))) (mvT hZ (hw _ (List.mem_of_getElem? (i := 103) rfl))) (notFace_of_selects (args := #[]) (mvT hZ (hw _ (List.mem_of_getElem? (i := 105) rfl)))) (mvT hZ (hw _ (List.mem_of_getElem? (i := 105) rfl))) (mvT hZ (hw _ (List.mem_of_getElem? (i := 104) rfl))) (by decide) (backOf (W := 0) (rmEqO l Z a0 hw [] b147 b95 cst a_154 b_154 kb_154 (own_mk nD q50 q51 q52) a_102 b_102 kb_102 (own_mk m16 q21 q26 q31) a_159 b_159 kb_159 (own_mk nK q67 q68 q69) a_107 b_107 kb_107 (own_mk m57 q58 q59 q60) h171 n0 Zc272 I1 O248 (hcst : ¬ (cst = (0 : Int32))) Fq171_0 Fq171_1 Fq171_2 f249 f250 f251 f256 f257 f258 f259 f252 f253 f254 f255 f264 f265 f266 f267 f260 f261 f262 f263 (own_neN (by omega)) (own_neN (by omega)) (own_mkchs (by omega) ⟨rg85.1, own_le64k rg85.2⟩ ⟨rg88.1, own_le64k rg88.2⟩ ⟨rg91.1, own_le64k rg91.2⟩) (own_mkchs (by omega) ⟨rg77.1, own_le64k rg77.2⟩ ⟨rg78.1, own_le64k rg78.2⟩ ⟨rg79.1, own_le64k rg79.2⟩) (own_mkchs (by omega) ⟨rg92.1, own_le64k rg92.2⟩ ⟨rg93.1, own_le64k rg93.2⟩ ⟨rg94.1, own_le64k rg94.2⟩) (own_mkchs (by omega) ⟨rg80.1, own_le64k rg80.2⟩ ⟨rg81.1, own_le64k rg81.2⟩ ⟨rg82.1, own_le64k rg82.2⟩) (own_mkl _ _ _ _) (own_mkl _ _ _ _) (own_mkl _ _ _ _) (own_mkl _ _ _ _)) hZ (hw _ (List.mem_of_getElem? (i := 106) rfl)) (hw _ (List.mem_of_getElem? (i := 6) rfl)) (by decide) (by decide)) q273a q273c (g := (mkF m 422 #[.val (.int codeA), .val (.int codeB), .val (.int msgA), .val (.int msgB), .val (.int mode), .val (.int q1), .val (.int q4), .val (.int q11), .val (.int (Int32.ofNat m16)), .val (.int q21), .val (.int q26), .val (.int q31), .val (.int (Int32.ofNat nD)), .val (.int q50), .val (.int q51), .val (.int q52), .val (.int (Int32.ofNat m57)), .val (.int q58), .val (.int q59), .val (.int q60), .val (.int (Int32.ofNat nK)), .val (.int q67), .val (.int q68), .val (.int q69), .val (.ref b95), .val (.ref b147), .val (.int (0 : Int32))] [(.ref b95), (.ref b147)])) rfl (by rw [hml]; rfl) (Steps.refl _) (argsL := [(.ref b95)]) (rest := []) (lenOf pd__Ljava_lang_Object__Z rfl) rfl (by show 2 * 0 + _ ≤ _; exact Nat.le_of_eq rfl) (Jvm.hb hby at_422) (fun _ _ => ⟨rfl, e269, (by decide : 34 + 0 ≤ _), (by decide : 168 + 0 ≤ _)⟩)
          dsimp only [Pt.U, Pt.locs, Pt.cells, Pt.slots] at X273 l273 y273 z273 st273 hQ273
          subst l273 y273 z273
          obtain ⟨rfl, N273q, e273⟩ := hQ273
          have N273 := Fr.app N269 N273q
          obtain ⟨q274, hq274⟩ : ∃ z : Int32, z = (if (own_mk nD q50 q51 q52) = (own_mk m16 q21 q26 q31) then (if (own_mk nK q67 q68 q69) = (own_mk m57 q58 q59 q60) then (1 : Int32) else (0 : Int32)) else (0 : Int32)) := ⟨_, rfl⟩
          rw [← hq274] at st273
          have hE1 : q274 = (0 : Int32) := by rw [hq274, if_neg (fun q => h178 q.symm)]
          have s275 : ∀ t_, Steps p.tables e below (T273.setTop (mkF m 435 #[.val (.int codeA), .val (.int codeB), .val (.int msgA), .val (.int msgB), .val (.int mode), .val (.int q1), .val (.int q4), .val (.int q11), .val (.int (Int32.ofNat m16)), .val (.int q21), .val (.int q26), .val (.int q31), .val (.int (Int32.ofNat nD)), .val (.int q50), .val (.int q51), .val (.int q52), .val (.int (Int32.ofNat m57)), .val (.int q58), .val (.int q59), .val (.int q60), .val (.int (Int32.ofNat nK)), .val (.int q67), .val (.int q68), .val (.int q69), .val (.ref b95), .val (.ref b147), .val (.int (0 : Int32))] [(.int (1 : Int32))])) t_ → Steps p.tables e below (s₁.setTop (entryFrame m #[(.int codeA), (.int codeB), (.int msgA), (.int msgB), (.int mode)] maxLocals)) t_ := fun t_ k_ => s271 t_ (by
            show Steps p.tables e below (T269.setTop (mkF m 422 #[.val (.int codeA), .val (.int codeB), .val (.int msgA), .val (.int msgB), .val (.int mode), .val (.int q1), .val (.int q4), .val (.int q11), .val (.int (Int32.ofNat m16)), .val (.int q21), .val (.int q26), .val (.int q31), .val (.int (Int32.ofNat nD)), .val (.int q50), .val (.int q51), .val (.int q52), .val (.int (Int32.ofNat m57)), .val (.int q58), .val (.int q59), .val (.int q60), .val (.int (Int32.ofNat nK)), .val (.int q67), .val (.int q68), .val (.int q69), .val (.ref b95), .val (.ref b147), .val (.int (0 : Int32))] [(.ref b95), (.ref b147)])) t_
            refine st273.trans ?_
            show Steps p.tables e below (T273.setTop (mkF m 425 #[.val (.int codeA), .val (.int codeB), .val (.int msgA), .val (.int msgB), .val (.int mode), .val (.int q1), .val (.int q4), .val (.int q11), .val (.int (Int32.ofNat m16)), .val (.int q21), .val (.int q26), .val (.int q31), .val (.int (Int32.ofNat nD)), .val (.int q50), .val (.int q51), .val (.int q52), .val (.int (Int32.ofNat m57)), .val (.int q58), .val (.int q59), .val (.int q60), .val (.int (Int32.ofNat nK)), .val (.int q67), .val (.int q68), .val (.int q69), .val (.ref b95), .val (.ref b147), .val (.int (0 : Int32))] [(.int q274)])) _
            refine XS.iload X273.here hx rfl (Jvm.hb hby at_425) rfl ?_
            refine XS.icmpNo X273.here hx rfl (Jvm.hb hby at_427) rfl (teq hE1).2 ?_
            show Steps p.tables e below (T273.setTop (mkF m 430 #[.val (.int codeA), .val (.int codeB), .val (.int msgA), .val (.int msgB), .val (.int mode), .val (.int q1), .val (.int q4), .val (.int q11), .val (.int (Int32.ofNat m16)), .val (.int q21), .val (.int q26), .val (.int q31), .val (.int (Int32.ofNat nD)), .val (.int q50), .val (.int q51), .val (.int q52), .val (.int (Int32.ofNat m57)), .val (.int q58), .val (.int q59), .val (.int q60), .val (.int (Int32.ofNat nK)), .val (.int q67), .val (.int q68), .val (.int q69), .val (.ref b95), .val (.ref b147), .val (.int (0 : Int32))] [])) _
            refine XS.iconst X273.here hx rfl (Jvm.hb hby at_430) ?_
            refine XS.goto X273.here hx rfl (pc0 := 431) (pc' := 435) rfl (Jvm.hb hby at_431) (by decide) (by decide) ?_
            show Steps p.tables e below (T273.setTop (mkF m 435 #[.val (.int codeA), .val (.int codeB), .val (.int msgA), .val (.int msgB), .val (.int mode), .val (.int q1), .val (.int q4), .val (.int q11), .val (.int (Int32.ofNat m16)), .val (.int q21), .val (.int q26), .val (.int q31), .val (.int (Int32.ofNat nD)), .val (.int q50), .val (.int q51), .val (.int q52), .val (.int (Int32.ofNat m57)), .val (.int q58), .val (.int q59), .val (.int q60), .val (.int (Int32.ofNat nK)), .val (.int q67), .val (.int q68), .val (.int q69), .val (.ref b95), .val (.ref b147), .val (.int (0 : Int32))] [(.int (1 : Int32))])) t_
            exact k_)
          obtain ⟨fs, hr, hrun, hended, hREW⟩ := X273.leaveW hS (by first | exact Nat.le_refl _ | (rw [e273]; exact hk)) (v := some (.int (1 : Int32))) (fun h => by rw [Bd.returns] at h; cases h)
          refine ⟨_, _, s275 _ ?_, hrun, hended, _, _, rfl, ?_, (by show CHr Z ELs s.vm s.heap T273.vm T273.heap; rw [hh, e273]; exact CR.trans (CHv.at X273 hZ hEL CR.1)), hREW.1, hREW.2.1, hREW.2.2.1, hREW.2.2.2.mono (by decide) (by decide)⟩
          · show Steps p.tables e below (T273.setTop (mkF m 435 #[.val (.int codeA), .val (.int codeB), .val (.int msgA), .val (.int msgB), .val (.int mode), .val (.int q1), .val (.int q4), .val (.int q11), .val (.int (Int32.ofNat m16)), .val (.int q21), .val (.int q26), .val (.int q31), .val (.int (Int32.ofNat nD)), .val (.int q50), .val (.int q51), .val (.int q52), .val (.int (Int32.ofNat m57)), .val (.int q58), .val (.int q59), .val (.int q60), .val (.int (Int32.ofNat nK)), .val (.int q67), .val (.int q68), .val (.int q69), .val (.ref b95), .val (.ref b147), .val (.int (0 : Int32))] [(.int (1 : Int32))])) _
            exact retN X273 hx (t := .boolean) Bd.returns (by simp) (Jvm.hb hby at_435) hr
          · show Q_rmLaw Z _ _ _ _ _ _ _ h0 n0 _ T273.heap _
            rw [e273]
            exact ⟨rfl, N273⟩
set_option maxRecDepth 65536 in
set_option maxHeartbeats 40000000 in
theorem comes_1 {Post : Tables → Env → Array Value → State → Outcome → State → Prop} (hpost : ∀ tb e args s v u, (limb_1_1.after args s (.returned v) u = true ∧ limb_1_2.after args s (.returned v) u = true ∧ True) → ReturnedEndW s (.returned v) u (Jvm.fieldLocs frame_1_writes args s ++ Jvm.arrayLocs frame_1_arrays args s ++ Jvm.staticLocs frame_1_statics s) 48 3264 → Post tb e args s (.returned v) u) :
    ArmFor flags0 classFile x code maxLocals ret World_1 tables_1 room_1 Calls_1 rest_1 Pre_1 Post := by
  intro l hfl _ _ p e ha hc hk s m args below hf hA hF happ hP
  obtain ⟨hcalls, hrest, hpre⟩ := hP
  obtain ⟨-, -, -, hnamed, -, -, -, hat⟩ := (Spec.applies_iff hf).mp happ
  obtain ⟨hg, hn⟩ := and_e (Cond.before_iff.mp (show (Jvm.Cond.and given_1 narrow_1).before args s = true from hpre))
  obtain ⟨ga, gr⟩ := and_e hg
  obtain ⟨g0, gr0⟩ := and_e gr
  obtain ⟨g1, gr1⟩ := and_e gr0
  obtain ⟨g2, gr2⟩ := and_e gr1
  obtain ⟨g3, gr3⟩ := and_e gr2
  obtain ⟨w0, w1, w2, w3, w4, rfl⟩ : ∃ w0 w1 w2 w3 w4 : Value, args = #[w0, w1, w2, w3, w4] := by
    have hs : args.size = 5 := by simpa [Cond.value, given_1] using ga
    obtain ⟨L⟩ := args
    match L, hs with
    | [w0, w1, w2, w3, w4], _ => exact ⟨w0, w1, w2, w3, w4, rfl⟩
  have hw := fun d (hd : d ∈ tables_1) => atoms_spec (ws := Jvm.Cond.code x code maxLocals ret :: tables_1) hat d (List.mem_cons_of_mem _ hd)
  have hfit : Fit s := fun {y c} hc i hi => by
    obtain ⟨ha, rfl⟩ := Array.getElem?_eq_some_iff.mp hc
    have q := List.all_eq_true.mp ((Array.all_eq_true_iff_forall_mem.mp hF) _ (Array.getElem_mem ha)) i (List.mem_range.mpr hi)
    simpa [Array.getElem?_eq_getElem hi] using q
  obtain ⟨hsets, hown0⟩ := atoms_of _ (rest_1_c_eq ▸ (show rest_1_c.before _ s = true from hrest))
  have hr0 := Cond.before_iff.mp hown0
  obtain ⟨i0, ei0⟩ := is_v g0
  obtain rfl : w0 = (.int i0) := Option.some.inj ei0
  obtain ⟨i1, ei1⟩ := is_v g1
  obtain rfl : w1 = (.int i1) := Option.some.inj ei1
  obtain ⟨i2, ei2⟩ := is_v g2
  obtain rfl : w2 = (.int i2) := Option.some.inj ei2
  obtain ⟨i3, ei3⟩ := is_v g3
  obtain rfl : w3 = (.int i3) := Option.some.inj ei3
  obtain ⟨i4, ei4⟩ := is_v gr3
  obtain rfl : w4 = (.int i4) := Option.some.inj ei4
  obtain ⟨cst, ecs⟩ := is_v (Cond.before_iff.mp (hsets _ (List.mem_of_getElem? (i := 1) rfl)))
  have hcw := (hsets _ (List.mem_of_getElem? (i := 2) rfl))
  have hcst : ¬ (cst = (0 : Int32)) := fun q => by
    have h1 := not_v (Cond.before_iff.mp hcw)
    rw [Cond.eq_ints ecs (Term.int_eval 0)] at h1
    simp [q] at h1
  obtain ⟨fmt, efm, hfmt⟩ := isR_v (Cond.before_iff.mp (hsets _ (List.mem_of_getElem? (i := 8) rfl)))
  have hCH : CHv s ELs s.vm s.heap := CHv.start (own_EW hw) (fun p hp => hcalls.1 p hp) (show Jvm.Lit.compactW.before _ s = true from hcw) (hw _ (List.mem_of_getElem? (i := 29) rfl)) (hw _ (List.mem_of_getElem? (i := 11) rfl))
  obtain ⟨n, o, h1, h2, h3, _, L, rfl, ⟨rfl, N⟩, -, hq⟩ := rmLaw l s _ hw tables_1 i0 i1 i2 i3 i4 cst fmt  s.heap s.heap.size (Nat.le_refl _) (Sta.start ecs (Or.inl (hsets _ (List.mem_of_getElem? (i := 0) rfl)))) hfmt (Sta.start efm (Or.inl (hsets _ (List.mem_of_getElem? (i := 7) rfl)))) (Old.start s) hcst  p e ha hc hk s m _ below hf ((Spec.applies_iff_loose hf).mp happ).1 ⟨rfl, State.Warmed39.refl s, rfl, hCH⟩ trivial
  refine ⟨n, _, h1, h2, h3, hpost _ _ _ _ _ _ ⟨Cond.after_iff.mpr rfl, Cond.after_iff.mpr (eq_i res_at (Term.int_eval (1)) rfl), trivial⟩ ⟨hq.1, hq.2.1, hq.2.2.1, (hq.2.2.2.sift fun y hy => Or.inr (N y hy)).mono (by decide) (by decide)⟩⟩
theorem main_1_1 : Claimed_1_1 := comes_1 fun _ _ _ _ _ _ h hF => ⟨h.1, hF⟩
theorem main_1_2 : Claimed_1_2 := comes_1 fun _ _ _ _ _ _ h hF => ⟨h.2.1, hF⟩
end Jvm.Pilot.@@N@@
namespace Jvm.Pilot.@@N@@
open Jvm Jvm.ClassFile Sem Op Lib Jvm.Free Jvm.Stand Jvm.Pilot.@@N@@.Jvm.D
/-! MADE BY PROGRAM (witnessworld.py) out of the Statement's table words and the real class files: 22 classes; the members and pool entries that the words name. The judged class is class 1, her method 1. -/
namespace start1
open Jvm.ClassFile
def u (s : String) : CpInfo := .utf8 (stringToUtf16 s)
/-- a pool by its gaps: so many unusable entries, then the entry; so many at the end -/
def gap : Nat → List CpInfo → List CpInfo
  | 0, r => r
  | n + 1, r => .unusable :: gap n r
def poolList (es : List (Nat × CpInfo)) (last : Nat) : List CpInfo := es.foldr (fun e r => gap e.1 (e.2 :: r)) (gap last [])
def pool (es : List (Nat × CpInfo)) (last : Nat) : Array CpInfo := ⟨poolList es last⟩
def fileOf (pool : Array CpInfo) (this : Nat) (attrs : Array Attribute := #[]) (ms : Array MethodInfo := #[]) (fl : Nat := 33) (sup : Nat := 0) (ifs : Array Nat := #[]) (fds : Array FieldInfo := #[]) : ClassFile where
  minorVersion := 0
  majorVersion := 65
  constantPool := pool
  accessFlags := fl
  thisClass := this
  superClass := sup
  interfaces := ifs
  fields := fds
  methods := ms
  attributes := attrs
def plain (name : String) (sup : Option ClassId) : Class where
  name := name
  kind := .ordinary
  loader := none
  accessFlags := 33
  super := sup
  interfaces := #[]
  cf := none
  fields := #[]
  methods := #[]
  instanceTypes := #[]
  staticTypes := #[]
  resolved := #[]
  callSites := []
  init := .initialized
  statics := none
  mirror := none

def pool0 : Array CpInfo := pool [(5, u "<init>"), (0, u "()V"), (1, .class_ 10), (1, u "java/lang/Object")] 113

def k0c0 : Code := { maxStack := 0, maxLocals := 1, code := object_method_1_code, exceptionTable := #[], attributes := #[] }
def k0m0 : Method := { name := "<init>", desc := "()V", sig := { parameters := [], returnType := none }, accessFlags := 1, code := some k0c0 }
/-- java/lang/Object -/
def k0 : Class := { plain "java/lang/Object" none with
  accessFlags := 33
  interfaces := #[]
  cf := some (fileOf pool0 8 #[] #[{ accessFlags := 1, nameIndex := 5, descriptorIndex := 6, attributes := #[] }] 33 0 #[] #[])
  fields := #[]
  methods := #[k0m0]
  instanceTypes := #[]
  staticTypes := #[]
  resolved := Array.replicate 124 none
  statics := none }

def pool1 : Array CpInfo := pool [(2, .class_ 4), (1, u "java/lang/Object"), (0, u "<init>"), (0, u "()V"), (0, .methodref 8 9), (0, .class_ 10), (0, .nameAndType 11 12), (0, u "com/example/zastupnik/zastupnik/protocol/ServiceErrorEqualsPinLaw"), (0, u "digit"), (0, u "(I)C"), (0, .class_ 14), (0, u "com/example/zastupnik/zastupnik/protocol/ServiceError"), (0, .methodref 8 16), (0, .nameAndType 17 18), (0, u "mk"), (0, u "(ICCC)Ljava/lang/String;"), (0, .methodref 13 20), (0, .nameAndType 5 21), (0, u "(Ljava/lang/String;Ljava/lang/String;)V"), (0, .methodref 13 23), (0, .nameAndType 24 25), (0, u "equals"), (0, u "(Ljava/lang/Object;)Z"), (0, .methodref 8 27), (0, .nameAndType 28 29), (0, u "same"), (0, u "(ICCCICCC)Z"), (0, .class_ 31), (0, u "java/lang/String"), (0, .methodref 30 33), (0, .nameAndType 5 34), (0, u "([C)V"), (2, u "law"), (0, u "(IIIII)Z")] 3

def k1m0 : Method := { name := "<init>", desc := "()V", sig := { parameters := [], returnType := none }, accessFlags := 1, code := none }
def k1c1 : Code := { maxStack := 8, maxLocals := 27, code := code, exceptionTable := #[], attributes := #[] }
def k1m1 : Method := { name := "law", desc := "(IIIII)Z", sig := { parameters := [.int, .int, .int, .int, .int], returnType := some .boolean }, accessFlags := 9, code := some k1c1 }
def k1c2 : Code := { maxStack := 3, maxLocals := 1, code := method_3_code, exceptionTable := #[], attributes := #[] }
def k1m2 : Method := { name := "digit", desc := "(I)C", sig := { parameters := [.int], returnType := some .char }, accessFlags := 10, code := some k1c2 }
def k1c3 : Code := { maxStack := 6, maxLocals := 4, code := method_4_code, exceptionTable := #[], attributes := #[] }
def k1m3 : Method := { name := "mk", desc := "(ICCC)Ljava/lang/String;", sig := { parameters := [.int, .char, .char, .char], returnType := some (.object "java/lang/String") }, accessFlags := 10, code := some k1c3 }
def k1c4 : Code := { maxStack := 2, maxLocals := 8, code := method_5_code, exceptionTable := #[], attributes := #[] }
def k1m4 : Method := { name := "same", desc := "(ICCCICCC)Z", sig := { parameters := [.int, .char, .char, .char, .int, .char, .char, .char], returnType := some .boolean }, accessFlags := 10, code := some k1c4 }
/-- com/example/zastupnik/zastupnik/protocol/ServiceErrorEqualsPinLaw -/
def k1 : Class := { plain "com/example/zastupnik/zastupnik/protocol/ServiceErrorEqualsPinLaw" (some 0) with
  accessFlags := 49
  interfaces := #[]
  cf := some (fileOf pool1 8 #[] #[{ accessFlags := 1, nameIndex := 5, descriptorIndex := 6, attributes := #[] }, { accessFlags := 9, nameIndex := 37, descriptorIndex := 38, attributes := #[] }, { accessFlags := 10, nameIndex := 11, descriptorIndex := 12, attributes := #[] }, { accessFlags := 10, nameIndex := 17, descriptorIndex := 18, attributes := #[] }, { accessFlags := 10, nameIndex := 28, descriptorIndex := 29, attributes := #[] }] 49 2 #[] #[])
  fields := #[]
  methods := #[k1m0, k1m1, k1m2, k1m3, k1m4]
  instanceTypes := #[]
  staticTypes := #[]
  resolved := Array.replicate 42 none
  statics := none }

def pool2 : Array CpInfo := pool [(1, .methodref 2 3), (0, .class_ 4), (0, .nameAndType 5 6), (0, u "java/lang/Object"), (0, u "<init>"), (0, u "()V"), (0, .string 8), (0, u "code"), (0, .methodref 10 11), (0, .class_ 12), (0, .nameAndType 13 14), (0, u "java/util/Objects"), (0, u "requireNonNull"), (0, u "(Ljava/lang/Object;Ljava/lang/String;)Ljava/lang/Object;"), (0, .methodref 16 17), (0, .class_ 18), (0, .nameAndType 19 20), (0, u "java/lang/String"), (0, u "length"), (0, u "()I"), (0, .class_ 22), (0, u "com/example/zastupnik/zastupnik/protocol/ServiceError"), (0, .methodref 24 25), (0, .class_ 26), (0, .nameAndType 27 28), (0, u "com/example/zastupnik/zastupnik/protocol/AsciiDigits"), (0, u "only"), (0, u "(Ljava/lang/String;)Z"), (14, .fieldref 21 44), (0, .nameAndType 8 45), (0, u "Ljava/lang/String;"), (0, .string 47), (0, u "message"), (0, .fieldref 21 49), (0, .nameAndType 47 45), (18, u "(Ljava/lang/Object;)Z"), (11, u "(Ljava/lang/String;Ljava/lang/String;)V"), (26, .methodref 16 108), (0, .nameAndType 109 68), (0, u "equals"), (33, u "ERRORS"), (1, u "ERROR"), (0, u "CODE"), (0, u "MESSAGE"), (0, u "LONGEST_CODE"), (0, u "I")] 35

def k2c0 : Code := { maxStack := 3, maxLocals := 3, code := prog_61_method_1_code, exceptionTable := #[], attributes := #[] }
def k2m0 : Method := { name := "<init>", desc := "(Ljava/lang/String;Ljava/lang/String;)V", sig := { parameters := [(.object "java/lang/String"), (.object "java/lang/String")], returnType := none }, accessFlags := 1, code := some k2c0 }
def k2c1 : Code := { maxStack := 2, maxLocals := 3, code := prog_61_method_6_code, exceptionTable := #[], attributes := #[] }
def k2m1 : Method := { name := "equals", desc := "(Ljava/lang/Object;)Z", sig := { parameters := [(.object "java/lang/Object")], returnType := some .boolean }, accessFlags := 1, code := some k2c1 }
/-- com/example/zastupnik/zastupnik/protocol/ServiceError -/
def k2 : Class := { plain "com/example/zastupnik/zastupnik/protocol/ServiceError" (some 0) with
  accessFlags := 33
  interfaces := #[]
  cf := some (fileOf pool2 21 #[] #[{ accessFlags := 1, nameIndex := 5, descriptorIndex := 80, attributes := #[] }, { accessFlags := 1, nameIndex := 109, descriptorIndex := 68, attributes := #[] }] 33 2 #[] #[{ accessFlags := 24, nameIndex := 143, descriptorIndex := 45, attributes := #[] }, { accessFlags := 26, nameIndex := 145, descriptorIndex := 45, attributes := #[] }, { accessFlags := 26, nameIndex := 146, descriptorIndex := 45, attributes := #[] }, { accessFlags := 26, nameIndex := 147, descriptorIndex := 45, attributes := #[] }, { accessFlags := 26, nameIndex := 148, descriptorIndex := 149, attributes := #[] }, { accessFlags := 18, nameIndex := 8, descriptorIndex := 45, attributes := #[] }, { accessFlags := 18, nameIndex := 47, descriptorIndex := 45, attributes := #[] }])
  fields := #[{ name := "ERRORS", type := (.object "java/lang/String"), accessFlags := 24, slot := 0, constantValue := 0 }, { name := "ERROR", type := (.object "java/lang/String"), accessFlags := 26, slot := 1, constantValue := 0 }, { name := "CODE", type := (.object "java/lang/String"), accessFlags := 26, slot := 2, constantValue := 0 }, { name := "MESSAGE", type := (.object "java/lang/String"), accessFlags := 26, slot := 3, constantValue := 0 }, { name := "LONGEST_CODE", type := .int, accessFlags := 26, slot := 4, constantValue := 0 }, { name := "code", type := (.object "java/lang/String"), accessFlags := 18, slot := 0, constantValue := 0 }, { name := "message", type := (.object "java/lang/String"), accessFlags := 18, slot := 1, constantValue := 0 }]
  methods := #[k2m0, k2m1]
  instanceTypes := #[(.object "java/lang/String"), (.object "java/lang/String")]
  staticTypes := #[(.object "java/lang/String"), (.object "java/lang/String"), (.object "java/lang/String"), (.object "java/lang/String"), .int]
  resolved := Array.replicate 185 none
  statics := none }

def pool3 : Array CpInfo := pool [(1, .class_ 2), (0, u "java/io/Serializable"), (0, .class_ 4), (0, u "java/lang/Object")] 2

/-- java/io/Serializable -/
def k3 : Class := { plain "java/io/Serializable" (some 0) with
  accessFlags := 1537
  interfaces := #[]
  cf := some (fileOf pool3 1 #[] #[] 1537 3 #[] #[])
  fields := #[]
  methods := #[]
  instanceTypes := #[]
  staticTypes := #[]
  resolved := Array.replicate 7 none
  statics := none }

def pool4 : Array CpInfo := pool [(1, .class_ 2), (0, u "java/lang/Comparable"), (0, .class_ 4), (0, u "java/lang/Object")] 7

/-- java/lang/Comparable -/
def k4 : Class := { plain "java/lang/Comparable" (some 0) with
  accessFlags := 1537
  interfaces := #[]
  cf := some (fileOf pool4 1 #[] #[] 1537 3 #[] #[])
  fields := #[]
  methods := #[]
  instanceTypes := #[]
  staticTypes := #[]
  resolved := Array.replicate 12 none
  statics := none }

def pool5 : Array CpInfo := pool [(2, .class_ 4), (1, u "java/lang/CharSequence"), (42, .class_ 48), (0, u "java/lang/CharSequence$1CodePointIterator"), (10, .class_ 60), (0, u "java/lang/CharSequence$1CharIterator"), (5, .class_ 67), (0, u "java/lang/Object")] 63

/-- java/lang/CharSequence -/
def k5 : Class := { plain "java/lang/CharSequence" (some 0) with
  accessFlags := 1537
  interfaces := #[]
  cf := some (fileOf pool5 2 #[.nestMembers #[47, 59]] #[] 1537 66 #[] #[])
  fields := #[]
  methods := #[]
  instanceTypes := #[]
  staticTypes := #[]
  resolved := Array.replicate 131 none
  statics := none }

def pool6 : Array CpInfo := pool [(1, .class_ 2), (0, u "java/lang/constant/Constable"), (0, .class_ 4), (0, u "java/lang/Object")] 6

/-- java/lang/constant/Constable -/
def k6 : Class := { plain "java/lang/constant/Constable" (some 0) with
  accessFlags := 1537
  interfaces := #[]
  cf := some (fileOf pool6 1 #[] #[] 1537 3 #[] #[])
  fields := #[]
  methods := #[]
  instanceTypes := #[]
  staticTypes := #[]
  resolved := Array.replicate 11 none
  statics := none }

def pool7 : Array CpInfo := pool [(1, .class_ 2), (0, u "java/lang/constant/ConstantDesc"), (0, .class_ 4), (0, u "java/lang/Object")] 32

/-- java/lang/constant/ConstantDesc -/
def k7 : Class := { plain "java/lang/constant/ConstantDesc" (some 0) with
  accessFlags := 1537
  interfaces := #[]
  cf := some (fileOf pool7 1 #[] #[] 1537 3 #[] #[])
  fields := #[]
  methods := #[]
  instanceTypes := #[]
  staticTypes := #[]
  resolved := Array.replicate 37 none
  statics := none }

def pool8 : Array CpInfo := pool [(1, .methodref 2 3), (0, .class_ 4), (0, .nameAndType 5 6), (0, u "java/lang/Object"), (0, u "<init>"), (0, u "()V"), (0, .string 8), (0, u ""), (0, .fieldref 10 11), (0, .class_ 12), (0, .nameAndType 13 14), (0, u "java/lang/String"), (0, u "value"), (0, u "[B"), (0, .fieldref 10 16), (0, .nameAndType 17 18), (0, u "coder"), (0, u "B"), (2, u "hash"), (0, u "I"), (2, u "hashIsZero"), (0, u "Z"), (0, .methodref 10 28), (0, .nameAndType 5 29), (0, u "([CIILjava/lang/Void;)V"), (8, .fieldref 10 39), (0, .nameAndType 40 26), (0, u "COMPACT_STRINGS"), (1, .class_ 44), (1, u "java/lang/StringUTF16"), (0, u "compress"), (1, .methodref 42 48), (0, .nameAndType 49 50), (0, u "coderFromArrayLen"), (0, u "([BI)B"), (56, .class_ 109), (1, u "java/lang/StringLatin1"), (32, u "()Z"), (34, .methodref 42 178), (0, .nameAndType 45 179), (0, u "([CII)[B"), (154, u "()I"), (0, .methodref 10 336), (0, .nameAndType 17 337), (0, u "()B"), (25, u "([BI)C"), (27, u "(II)V"), (35, u "(I)C"), (64, .methodref 10 493), (0, .nameAndType 494 142), (0, u "isLatin1"), (0, .methodref 107 496), (0, .nameAndType 497 363), (0, u "charAt"), (3, u "checkIndex"), (5, u "length"), (33, .methodref 107 542), (0, .nameAndType 543 544), (0, u "equals"), (0, u "([B[B)Z"), (28, u "(Ljava/lang/Object;)Z"), (1, .class_ 576), (0, u "java/lang/CharSequence"), (22, u "CASE_INSENSITIVE_ORDER"), (0, u "Ljava/util/Comparator;"), (91, u "isEmpty"), (317, u "([C)V"), (42, .fieldref 1054 1055), (0, .class_ 1056), (0, .nameAndType 1057 1058), (0, u "jdk/internal/util/Preconditions"), (0, u "SIOOBE_FORMATTER"), (0, u "Ljava/util/function/BiFunction;"), (0, .methodref 1054 1060), (0, .nameAndType 501 1061), (0, u "(IILjava/util/function/BiFunction;)I"), (39, u "serialPersistentFields"), (0, u "[Ljava/io/ObjectStreamField;"), (0, .class_ 1104), (0, u "java/lang/String$CaseInsensitiveComparator"), (1, .class_ 1107), (0, u "java/io/Serializable"), (0, .class_ 1109), (0, u "java/lang/Comparable"), (0, .class_ 1111), (0, u "java/lang/constant/Constable"), (0, .class_ 1113), (0, u "java/lang/constant/ConstantDesc"), (2, u "serialVersionUID"), (0, u "J"), (3, u "REPL"), (0, u "C"), (2, u "LATIN1"), (1, u "UTF16")] 323

def k8m0 : Method := { name := "<init>", desc := "()V", sig := { parameters := [], returnType := none }, accessFlags := 1, code := none }
def k8c1 : Code := { maxStack := 5, maxLocals := 2, code := jdk_42_method_3_code, exceptionTable := #[], attributes := #[] }
def k8m1 : Method := { name := "<init>", desc := "([C)V", sig := { parameters := [(.array .char)], returnType := none }, accessFlags := 1, code := some k8c1 }
def k8c2 : Code := { maxStack := 2, maxLocals := 1, code := jdk_42_method_54_code, exceptionTable := #[], attributes := #[] }
def k8m2 : Method := { name := "length", desc := "()I", sig := { parameters := [], returnType := some .int }, accessFlags := 1, code := some k8c2 }
def k8c3 : Code := { maxStack := 1, maxLocals := 1, code := jdk_42_method_55_code, exceptionTable := #[], attributes := #[] }
def k8m3 : Method := { name := "isEmpty", desc := "()Z", sig := { parameters := [], returnType := some .boolean }, accessFlags := 1, code := some k8c3 }
def k8c4 : Code := { maxStack := 2, maxLocals := 2, code := jdk_42_method_56_code, exceptionTable := #[], attributes := #[] }
def k8m4 : Method := { name := "charAt", desc := "(I)C", sig := { parameters := [.int], returnType := some .char }, accessFlags := 1, code := some k8c4 }
def k8c5 : Code := { maxStack := 2, maxLocals := 3, code := jdk_42_method_66_code, exceptionTable := #[], attributes := #[] }
def k8m5 : Method := { name := "equals", desc := "(Ljava/lang/Object;)Z", sig := { parameters := [(.object "java/lang/Object")], returnType := some .boolean }, accessFlags := 1, code := some k8c5 }
def k8c6 : Code := { maxStack := 4, maxLocals := 6, code := jdk_42_method_149_code, exceptionTable := #[], attributes := #[] }
def k8m6 : Method := { name := "<init>", desc := "([CIILjava/lang/Void;)V", sig := { parameters := [(.array .char), .int, .int, (.object "java/lang/Void")], returnType := none }, accessFlags := 2, code := some k8c6 }
def k8c7 : Code := { maxStack := 1, maxLocals := 1, code := jdk_42_method_152_code, exceptionTable := #[], attributes := #[] }
def k8m7 : Method := { name := "coder", desc := "()B", sig := { parameters := [], returnType := some .byte }, accessFlags := 0, code := some k8c7 }
def k8c8 : Code := { maxStack := 1, maxLocals := 1, code := jdk_42_method_154_code, exceptionTable := #[], attributes := #[] }
def k8m8 : Method := { name := "isLatin1", desc := "()Z", sig := { parameters := [], returnType := some .boolean }, accessFlags := 0, code := some k8c8 }
def k8c9 : Code := { maxStack := 3, maxLocals := 2, code := jdk_42_method_155_code, exceptionTable := #[], attributes := #[] }
def k8m9 : Method := { name := "checkIndex", desc := "(II)V", sig := { parameters := [.int, .int], returnType := none }, accessFlags := 8, code := some k8c9 }
/-- java/lang/String -/
def k8 : Class := { plain "java/lang/String" (some 0) with
  accessFlags := 49
  interfaces := #[3, 4, 5, 6, 7]
  cf := some (fileOf pool8 10 #[.nestMembers #[1103]] #[{ accessFlags := 1, nameIndex := 5, descriptorIndex := 6, attributes := #[] }, { accessFlags := 1, nameIndex := 5, descriptorIndex := 1010, attributes := #[] }, { accessFlags := 1, nameIndex := 507, descriptorIndex := 334, attributes := #[] }, { accessFlags := 1, nameIndex := 692, descriptorIndex := 142, attributes := #[] }, { accessFlags := 1, nameIndex := 497, descriptorIndex := 427, attributes := #[] }, { accessFlags := 1, nameIndex := 543, descriptorIndex := 573, attributes := #[] }, { accessFlags := 2, nameIndex := 5, descriptorIndex := 29, attributes := #[] }, { accessFlags := 0, nameIndex := 17, descriptorIndex := 337, attributes := #[] }, { accessFlags := 0, nameIndex := 494, descriptorIndex := 142, attributes := #[] }, { accessFlags := 8, nameIndex := 501, descriptorIndex := 391, attributes := #[] }] 49 2 #[1106, 1108, 575, 1110, 1112] #[{ accessFlags := 18, nameIndex := 13, descriptorIndex := 14, attributes := #[] }, { accessFlags := 18, nameIndex := 17, descriptorIndex := 18, attributes := #[] }, { accessFlags := 2, nameIndex := 21, descriptorIndex := 22, attributes := #[] }, { accessFlags := 2, nameIndex := 25, descriptorIndex := 26, attributes := #[] }, { accessFlags := 26, nameIndex := 1116, descriptorIndex := 1117, attributes := #[] }, { accessFlags := 24, nameIndex := 40, descriptorIndex := 26, attributes := #[] }, { accessFlags := 26, nameIndex := 1101, descriptorIndex := 1102, attributes := #[] }, { accessFlags := 26, nameIndex := 1121, descriptorIndex := 1122, attributes := #[] }, { accessFlags := 25, nameIndex := 599, descriptorIndex := 600, attributes := #[] }, { accessFlags := 24, nameIndex := 1125, descriptorIndex := 18, attributes := #[] }, { accessFlags := 24, nameIndex := 1127, descriptorIndex := 18, attributes := #[] }])
  fields := #[{ name := "value", type := (.array .byte), accessFlags := 18, slot := 0, constantValue := 0 }, { name := "coder", type := .byte, accessFlags := 18, slot := 1, constantValue := 0 }, { name := "hash", type := .int, accessFlags := 2, slot := 2, constantValue := 0 }, { name := "hashIsZero", type := .boolean, accessFlags := 2, slot := 3, constantValue := 0 }, { name := "serialVersionUID", type := .long, accessFlags := 26, slot := 0, constantValue := 0 }, { name := "COMPACT_STRINGS", type := .boolean, accessFlags := 24, slot := 1, constantValue := 0 }, { name := "serialPersistentFields", type := (.array (.object "java/io/ObjectStreamField")), accessFlags := 26, slot := 2, constantValue := 0 }, { name := "REPL", type := .char, accessFlags := 26, slot := 3, constantValue := 0 }, { name := "CASE_INSENSITIVE_ORDER", type := (.object "java/util/Comparator"), accessFlags := 25, slot := 4, constantValue := 0 }, { name := "LATIN1", type := .byte, accessFlags := 24, slot := 5, constantValue := 0 }, { name := "UTF16", type := .byte, accessFlags := 24, slot := 6, constantValue := 0 }]
  methods := #[k8m0, k8m1, k8m2, k8m3, k8m4, k8m5, k8m6, k8m7, k8m8, k8m9]
  instanceTypes := #[(.array .byte), .byte, .int, .boolean]
  staticTypes := #[.long, .boolean, (.array (.object "java/io/ObjectStreamField")), .char, (.object "java/util/Comparator"), .byte, .byte]
  resolved := Array.replicate 1451 none
  statics := some 0 }

def pool9 : Array CpInfo := pool [(6, .class_ 8), (1, u "java/lang/Object"), (0, u "<init>"), (0, u "()V"), (1, .class_ 14), (1, u "java/lang/StringUTF16"), (31, u "$assertionsDisabled"), (0, u "Z"), (13, u "HI_BYTE_SHIFT"), (0, u "I"), (2, u "LO_BYTE_SHIFT"), (49, .methodref 12 116), (0, .nameAndType 117 118), (0, u "compress"), (0, u "([CI[BII)I"), (3, u "([CII)[B"), (138, u "coderFromArrayLen"), (0, u "([BI)B"), (106, .class_ 371), (1, u "java/lang/StringUTF16$LinesSpliterator"), (58, u "MAX_LENGTH"), (196, .class_ 628), (0, u "java/lang/StringUTF16$CodePointsSpliterator"), (0, .class_ 630), (0, u "java/lang/StringUTF16$CharsSpliterator")] 4

def k9m0 : Method := { name := "<init>", desc := "()V", sig := { parameters := [], returnType := none }, accessFlags := 0, code := none }
def k9c1 : Code := { maxStack := 2, maxLocals := 2, code := jdk_52_method_15_code, exceptionTable := #[], attributes := #[] }
def k9m1 : Method := { name := "coderFromArrayLen", desc := "([BI)B", sig := { parameters := [(.array .byte), .int], returnType := some .byte }, accessFlags := 8, code := some k9c1 }
def k9c2 : Code := { maxStack := 5, maxLocals := 6, code := jdk_52_method_16_code, exceptionTable := #[], attributes := #[] }
def k9m2 : Method := { name := "compress", desc := "([CII)[B", sig := { parameters := [(.array .char), .int, .int], returnType := some (.array .byte) }, accessFlags := 9, code := some k9c2 }
def k9c3 : Code := { maxStack := 3, maxLocals := 7, code := jdk_52_method_21_code, exceptionTable := #[], attributes := #[] }
def k9m3 : Method := { name := "compress", desc := "([CI[BII)I", sig := { parameters := [(.array .char), .int, (.array .byte), .int, .int], returnType := some .int }, accessFlags := 9, code := some k9c3 }
/-- java/lang/StringUTF16 -/
def k9 : Class := { plain "java/lang/StringUTF16" (some 0) with
  accessFlags := 48
  interfaces := #[]
  cf := some (fileOf pool9 12 #[.nestMembers #[627, 629, 369]] #[{ accessFlags := 0, nameIndex := 9, descriptorIndex := 10, attributes := #[] }, { accessFlags := 8, nameIndex := 261, descriptorIndex := 262, attributes := #[] }, { accessFlags := 9, nameIndex := 117, descriptorIndex := 122, attributes := #[] }, { accessFlags := 9, nameIndex := 117, descriptorIndex := 118, attributes := #[] }] 48 6 #[] #[{ accessFlags := 26, nameIndex := 61, descriptorIndex := 62, attributes := #[] }, { accessFlags := 26, nameIndex := 65, descriptorIndex := 62, attributes := #[] }, { accessFlags := 24, nameIndex := 430, descriptorIndex := 62, attributes := #[] }, { accessFlags := 4120, nameIndex := 46, descriptorIndex := 47, attributes := #[] }])
  fields := #[{ name := "HI_BYTE_SHIFT", type := .int, accessFlags := 26, slot := 0, constantValue := 0 }, { name := "LO_BYTE_SHIFT", type := .int, accessFlags := 26, slot := 1, constantValue := 0 }, { name := "MAX_LENGTH", type := .int, accessFlags := 24, slot := 2, constantValue := 0 }, { name := "$assertionsDisabled", type := .boolean, accessFlags := 4120, slot := 3, constantValue := 0 }]
  methods := #[k9m0, k9m1, k9m2, k9m3]
  instanceTypes := #[]
  staticTypes := #[.int, .int, .int, .boolean]
  resolved := Array.replicate 635 none
  statics := none }

def pool10 : Array CpInfo := pool [(2, .class_ 4), (1, u "java/lang/Object"), (0, u "<init>"), (0, u "()V"), (35, .class_ 44), (1, u "java/util/Objects"), (0, u "requireNonNull"), (48, u "(Ljava/lang/Object;Ljava/lang/String;)Ljava/lang/Object;")] 89

def k10m0 : Method := { name := "<init>", desc := "()V", sig := { parameters := [], returnType := none }, accessFlags := 2, code := none }
def k10c1 : Code := { maxStack := 3, maxLocals := 2, code := jdk_31_method_11_code, exceptionTable := #[], attributes := #[] }
def k10m1 : Method := { name := "requireNonNull", desc := "(Ljava/lang/Object;Ljava/lang/String;)Ljava/lang/Object;", sig := { parameters := [(.object "java/lang/Object"), (.object "java/lang/String")], returnType := some (.object "java/lang/Object") }, accessFlags := 9, code := some k10c1 }
/-- java/util/Objects -/
def k10 : Class := { plain "java/util/Objects" (some 0) with
  accessFlags := 49
  interfaces := #[]
  cf := some (fileOf pool10 42 #[] #[{ accessFlags := 2, nameIndex := 5, descriptorIndex := 6, attributes := #[] }, { accessFlags := 9, nameIndex := 45, descriptorIndex := 94, attributes := #[] }] 49 2 #[] #[])
  fields := #[]
  methods := #[k10m0, k10m1]
  instanceTypes := #[]
  staticTypes := #[]
  resolved := Array.replicate 184 none
  statics := none }

def pool11 : Array CpInfo := pool [(2, .class_ 4), (1, u "java/lang/Object"), (0, u "<init>"), (0, u "()V"), (0, .methodref 8 9), (0, .class_ 10), (0, .nameAndType 11 12), (0, u "java/lang/String"), (0, u "isEmpty"), (0, u "()Z"), (0, .methodref 8 14), (0, .nameAndType 15 16), (0, u "length"), (0, u "()I"), (0, .methodref 8 18), (0, .nameAndType 19 20), (0, u "charAt"), (0, u "(I)C"), (0, .class_ 22), (0, u "com/example/zastupnik/zastupnik/protocol/AsciiDigits"), (2, u "only"), (0, u "(Ljava/lang/String;)Z")] 3

def k11m0 : Method := { name := "<init>", desc := "()V", sig := { parameters := [], returnType := none }, accessFlags := 2, code := none }
def k11c1 : Code := { maxStack := 2, maxLocals := 3, code := prog_32_method_2_code, exceptionTable := #[], attributes := #[] }
def k11m1 : Method := { name := "only", desc := "(Ljava/lang/String;)Z", sig := { parameters := [(.object "java/lang/String")], returnType := some .boolean }, accessFlags := 8, code := some k11c1 }
/-- com/example/zastupnik/zastupnik/protocol/AsciiDigits -/
def k11 : Class := { plain "com/example/zastupnik/zastupnik/protocol/AsciiDigits" (some 0) with
  accessFlags := 32
  interfaces := #[]
  cf := some (fileOf pool11 21 #[] #[{ accessFlags := 2, nameIndex := 5, descriptorIndex := 6, attributes := #[] }, { accessFlags := 8, nameIndex := 25, descriptorIndex := 26, attributes := #[] }] 32 2 #[] #[])
  fields := #[]
  methods := #[k11m0, k11m1]
  instanceTypes := #[]
  staticTypes := #[]
  resolved := Array.replicate 30 none
  statics := none }

def pool12 : Array CpInfo := pool [(1, .class_ 2), (0, u "java/lang/String"), (1, .class_ 6), (1, u "java/lang/Object"), (0, u "<init>"), (0, u "()V"), (0, .methodref 1 10), (0, .nameAndType 11 12), (0, u "checkIndex"), (0, u "(II)V"), (1, .class_ 16), (1, u "java/lang/StringLatin1"), (36, u "([BI)C"), (67, u "$assertionsDisabled"), (0, u "Z"), (98, .class_ 223), (1, u "java/lang/StringLatin1$LinesSpliterator"), (28, u "charAt"), (28, u "equals"), (0, u "([B[B)Z"), (107, .class_ 391), (0, u "java/lang/StringLatin1$CharsSpliterator")] 3

def k12m0 : Method := { name := "<init>", desc := "()V", sig := { parameters := [], returnType := none }, accessFlags := 0, code := none }
def k12c1 : Code := { maxStack := 2, maxLocals := 2, code := jdk_43_method_2_code, exceptionTable := #[], attributes := #[] }
def k12m1 : Method := { name := "charAt", desc := "([BI)C", sig := { parameters := [(.array .byte), .int], returnType := some .char }, accessFlags := 9, code := some k12c1 }
def k12c2 : Code := { maxStack := 3, maxLocals := 3, code := jdk_43_method_13_code, exceptionTable := #[], attributes := #[] }
def k12m2 : Method := { name := "equals", desc := "([B[B)Z", sig := { parameters := [(.array .byte), (.array .byte)], returnType := some .boolean }, accessFlags := 9, code := some k12c2 }
/-- java/lang/StringLatin1 -/
def k12 : Class := { plain "java/lang/StringLatin1" (some 0) with
  accessFlags := 48
  interfaces := #[]
  cf := some (fileOf pool12 14 #[.nestMembers #[390, 221]] #[{ accessFlags := 0, nameIndex := 7, descriptorIndex := 8, attributes := #[] }, { accessFlags := 9, nameIndex := 252, descriptorIndex := 53, attributes := #[] }, { accessFlags := 9, nameIndex := 281, descriptorIndex := 282, attributes := #[] }] 48 4 #[] #[{ accessFlags := 4120, nameIndex := 121, descriptorIndex := 122, attributes := #[] }])
  fields := #[{ name := "$assertionsDisabled", type := .boolean, accessFlags := 4120, slot := 0, constantValue := 0 }]
  methods := #[k12m0, k12m1, k12m2]
  instanceTypes := #[]
  staticTypes := #[.boolean]
  resolved := Array.replicate 395 none
  statics := none }

def pool13 : Array CpInfo := pool [(2, .class_ 4), (1, u "java/lang/Object"), (0, u "<init>"), (0, u "()V"), (17, .class_ 26), (1, u "jdk/internal/util/Preconditions"), (6, u "checkIndex"), (21, .class_ 56), (0, u "jdk/internal/util/Preconditions$4"), (57, .class_ 115), (0, u "jdk/internal/util/Preconditions$1"), (7, u "SIOOBE_FORMATTER"), (0, u "Ljava/util/function/BiFunction;"), (0, .class_ 126), (0, u "jdk/internal/util/Preconditions$2"), (3, u "AIOOBE_FORMATTER"), (0, .class_ 132), (0, u "jdk/internal/util/Preconditions$3"), (3, u "IOOBE_FORMATTER"), (41, u "(IILjava/util/function/BiFunction;)I")] 15

def k13m0 : Method := { name := "<init>", desc := "()V", sig := { parameters := [], returnType := none }, accessFlags := 1, code := none }
def k13c1 : Code := { maxStack := 3, maxLocals := 3, code := jdk_41_method_11_code, exceptionTable := #[], attributes := #[] }
def k13m1 : Method := { name := "checkIndex", desc := "(IILjava/util/function/BiFunction;)I", sig := { parameters := [.int, .int, (.object "java/util/function/BiFunction")], returnType := some .int }, accessFlags := 9, code := some k13c1 }
/-- jdk/internal/util/Preconditions -/
def k13 : Class := { plain "jdk/internal/util/Preconditions" (some 0) with
  accessFlags := 33
  interfaces := #[]
  cf := some (fileOf pool13 24 #[.nestMembers #[55, 131, 125, 114]] #[{ accessFlags := 1, nameIndex := 5, descriptorIndex := 6, attributes := #[] }, { accessFlags := 9, nameIndex := 33, descriptorIndex := 178, attributes := #[] }] 33 2 #[] #[{ accessFlags := 25, nameIndex := 123, descriptorIndex := 124, attributes := #[] }, { accessFlags := 25, nameIndex := 130, descriptorIndex := 124, attributes := #[] }, { accessFlags := 25, nameIndex := 136, descriptorIndex := 124, attributes := #[] }])
  fields := #[{ name := "SIOOBE_FORMATTER", type := (.object "java/util/function/BiFunction"), accessFlags := 25, slot := 0, constantValue := 0 }, { name := "AIOOBE_FORMATTER", type := (.object "java/util/function/BiFunction"), accessFlags := 25, slot := 1, constantValue := 0 }, { name := "IOOBE_FORMATTER", type := (.object "java/util/function/BiFunction"), accessFlags := 25, slot := 2, constantValue := 0 }]
  methods := #[k13m0, k13m1]
  instanceTypes := #[]
  staticTypes := #[(.object "java/util/function/BiFunction"), (.object "java/util/function/BiFunction"), (.object "java/util/function/BiFunction")]
  resolved := Array.replicate 194 none
  statics := some 1 }

def pool14 : Array CpInfo := pool [(9, u "<init>"), (6, .class_ 18), (1, u "java/lang/Object"), (0, u "()V"), (1, .class_ 23), (1, u "jdk/internal/util/ArraysSupport"), (0, u "LOG2_ARRAY_LONG_INDEX_SCALE"), (0, u "I"), (2, u "U"), (0, u "Ljdk/internal/misc/Unsafe;"), (8, u "BIG_ENDIAN"), (0, u "Z"), (8, u "LOG2_BYTE_BIT_SIZE"), (4, u "LOG2_ARRAY_INT_INDEX_SCALE"), (54, u "JLA"), (0, u "Ljdk/internal/access/JavaLangAccess;"), (11, u "LOG2_ARRAY_BOOLEAN_INDEX_SCALE"), (9, u "LOG2_ARRAY_BYTE_INDEX_SCALE"), (5, u "LOG2_ARRAY_CHAR_INDEX_SCALE"), (5, u "LOG2_ARRAY_SHORT_INDEX_SCALE"), (18, u "LOG2_ARRAY_FLOAT_INDEX_SCALE"), (24, u "LOG2_ARRAY_DOUBLE_INDEX_SCALE"), (89, u "T_BOOLEAN"), (2, u "T_CHAR"), (1, u "T_FLOAT"), (1, u "T_DOUBLE"), (1, u "T_BYTE"), (1, u "T_SHORT"), (1, u "T_INT"), (1, u "T_LONG"), (1, u "SOFT_MAX_ARRAY_LENGTH")] 83

def k14m0 : Method := { name := "<init>", desc := "()V", sig := { parameters := [], returnType := none }, accessFlags := 2, code := none }
/-- jdk/internal/util/ArraysSupport -/
def k14 : Class := { plain "jdk/internal/util/ArraysSupport" (some 0) with
  accessFlags := 33
  interfaces := #[]
  cf := some (fileOf pool14 21 #[] #[{ accessFlags := 2, nameIndex := 9, descriptorIndex := 19, attributes := #[] }] 33 16 #[] #[{ accessFlags := 24, nameIndex := 28, descriptorIndex := 29, attributes := #[] }, { accessFlags := 26, nameIndex := 38, descriptorIndex := 39, attributes := #[] }, { accessFlags := 25, nameIndex := 121, descriptorIndex := 25, attributes := #[] }, { accessFlags := 25, nameIndex := 131, descriptorIndex := 25, attributes := #[] }, { accessFlags := 25, nameIndex := 137, descriptorIndex := 25, attributes := #[] }, { accessFlags := 25, nameIndex := 143, descriptorIndex := 25, attributes := #[] }, { accessFlags := 25, nameIndex := 53, descriptorIndex := 25, attributes := #[] }, { accessFlags := 25, nameIndex := 24, descriptorIndex := 25, attributes := #[] }, { accessFlags := 25, nameIndex := 162, descriptorIndex := 25, attributes := #[] }, { accessFlags := 25, nameIndex := 187, descriptorIndex := 25, attributes := #[] }, { accessFlags := 26, nameIndex := 48, descriptorIndex := 25, attributes := #[] }, { accessFlags := 25, nameIndex := 277, descriptorIndex := 25, attributes := #[] }, { accessFlags := 25, nameIndex := 280, descriptorIndex := 25, attributes := #[] }, { accessFlags := 25, nameIndex := 282, descriptorIndex := 25, attributes := #[] }, { accessFlags := 25, nameIndex := 284, descriptorIndex := 25, attributes := #[] }, { accessFlags := 25, nameIndex := 286, descriptorIndex := 25, attributes := #[] }, { accessFlags := 25, nameIndex := 288, descriptorIndex := 25, attributes := #[] }, { accessFlags := 25, nameIndex := 290, descriptorIndex := 25, attributes := #[] }, { accessFlags := 25, nameIndex := 292, descriptorIndex := 25, attributes := #[] }, { accessFlags := 26, nameIndex := 108, descriptorIndex := 109, attributes := #[] }, { accessFlags := 25, nameIndex := 294, descriptorIndex := 25, attributes := #[] }])
  fields := #[{ name := "U", type := (.object "jdk/internal/misc/Unsafe"), accessFlags := 24, slot := 0, constantValue := 0 }, { name := "BIG_ENDIAN", type := .boolean, accessFlags := 26, slot := 1, constantValue := 0 }, { name := "LOG2_ARRAY_BOOLEAN_INDEX_SCALE", type := .int, accessFlags := 25, slot := 2, constantValue := 0 }, { name := "LOG2_ARRAY_BYTE_INDEX_SCALE", type := .int, accessFlags := 25, slot := 3, constantValue := 0 }, { name := "LOG2_ARRAY_CHAR_INDEX_SCALE", type := .int, accessFlags := 25, slot := 4, constantValue := 0 }, { name := "LOG2_ARRAY_SHORT_INDEX_SCALE", type := .int, accessFlags := 25, slot := 5, constantValue := 0 }, { name := "LOG2_ARRAY_INT_INDEX_SCALE", type := .int, accessFlags := 25, slot := 6, constantValue := 0 }, { name := "LOG2_ARRAY_LONG_INDEX_SCALE", type := .int, accessFlags := 25, slot := 7, constantValue := 0 }, { name := "LOG2_ARRAY_FLOAT_INDEX_SCALE", type := .int, accessFlags := 25, slot := 8, constantValue := 0 }, { name := "LOG2_ARRAY_DOUBLE_INDEX_SCALE", type := .int, accessFlags := 25, slot := 9, constantValue := 0 }, { name := "LOG2_BYTE_BIT_SIZE", type := .int, accessFlags := 26, slot := 10, constantValue := 0 }, { name := "T_BOOLEAN", type := .int, accessFlags := 25, slot := 11, constantValue := 0 }, { name := "T_CHAR", type := .int, accessFlags := 25, slot := 12, constantValue := 0 }, { name := "T_FLOAT", type := .int, accessFlags := 25, slot := 13, constantValue := 0 }, { name := "T_DOUBLE", type := .int, accessFlags := 25, slot := 14, constantValue := 0 }, { name := "T_BYTE", type := .int, accessFlags := 25, slot := 15, constantValue := 0 }, { name := "T_SHORT", type := .int, accessFlags := 25, slot := 16, constantValue := 0 }, { name := "T_INT", type := .int, accessFlags := 25, slot := 17, constantValue := 0 }, { name := "T_LONG", type := .int, accessFlags := 25, slot := 18, constantValue := 0 }, { name := "JLA", type := (.object "jdk/internal/access/JavaLangAccess"), accessFlags := 26, slot := 19, constantValue := 0 }, { name := "SOFT_MAX_ARRAY_LENGTH", type := .int, accessFlags := 25, slot := 20, constantValue := 0 }]
  methods := #[k14m0]
  instanceTypes := #[]
  staticTypes := #[(.object "jdk/internal/misc/Unsafe"), .boolean, .int, .int, .int, .int, .int, .int, .int, .int, .int, .int, .int, .int, .int, .int, .int, .int, .int, (.object "jdk/internal/access/JavaLangAccess"), .int]
  resolved := Array.replicate 378 none
  statics := none }

def pool15 : Array CpInfo := pool [(1, u "java/lang/Cloneable"), (0, .class_ 1), (0, u "java/lang/Object"), (0, .class_ 3)] 3

/-- java/lang/Cloneable -/
def k15 : Class := { plain "java/lang/Cloneable" (some 0) with
  accessFlags := 1537
  interfaces := #[]
  cf := some (fileOf pool15 2 #[] #[] 1537 4 #[] #[])
  fields := #[]
  methods := #[]
  instanceTypes := #[]
  staticTypes := #[]
  resolved := Array.replicate 8 none
  statics := none }

/-- the primitive byte -/
def k16 : Class := { plain "byte" none with kind := .primitive 'B', accessFlags := 0x411 }
/-- [B -/
def k17 : Class := { plain "[B" (some 0) with kind := .array 16 .byte, interfaces := #[15, 3], accessFlags := 1041 }

/-- the primitive char -/
def k18 : Class := { plain "char" none with kind := .primitive 'C', accessFlags := 0x411 }
/-- [C -/
def k19 : Class := { plain "[C" (some 0) with kind := .array 18 .char, interfaces := #[15, 3], accessFlags := 1041 }

/-- the primitive int -/
def k20 : Class := { plain "int" none with kind := .primitive 'I', accessFlags := 0x411 }
/-- [I -/
def k21 : Class := { plain "[I" (some 0) with kind := .array 20 .int, interfaces := #[15, 3], accessFlags := 1041 }

def heap : Heap := #[{ cls := 8, slots := #[.long 0, .int 1, .null, .int 0, .null, .int 0, .int 0], vm := .statics 8 },
  { cls := 13, slots := #[.null, .null, .null], vm := .statics 13 }]
def classes : Array Class := #[k0, k1, k2, k3, k4, k5, k6, k7, k8, k9, k10, k11, k12, k13, k14, k15, k16, k17, k18, k19, k20, k21]
def interned : List (Array UInt16 × Addr) := []
def slotsUsed : Nat := 10
def theMethod : MethodId := ⟨1, 1⟩
def args0 : Array Value := #[.int 5, .int 5, .int 5, .int 5, .int 5]
def aboutOver (below : List Frame) : State where
  vm := { classes := classes, interned := interned.toArray }
  heap := heap
  slotsUsed := slotsUsed
  threads := #[{ frames := .invoking theMethod args0 :: below }]
def below0 : List Frame := [.native { method := ⟨0, 0⟩, args := #[] }]
def about1 : State := aboutOver below0
def p0 : Program := .bare "" "" ""
def e0 : Env := launch0.env 0 0 0
theorem w_frames : about1.frames = Frame.invoking theMethod args0 :: below0 := rfl
set_option maxRecDepth 65536 in
theorem w_args : argsFit about1.vm theMethod args0 = true := by decide +kernel
set_option maxRecDepth 65536 in
theorem w_heap : heapFits about1 = true := by decide +kernel
set_option maxRecDepth 65536 in
theorem w_runnable : about1.curStatus? = some .runnable := by decide +kernel
set_option maxRecDepth 65536 in
theorem w_alone : about1.alone = true := by decide +kernel
set_option maxRecDepth 65536 in
theorem w_named : about1.methodNamed? x = some theMethod := by decide +kernel
set_option maxRecDepth 65536 in
theorem w_hears : about1.hears theMethod below0 = true := by decide +kernel
set_option maxRecDepth 65536 in
theorem w_ripe : about1.ripe theMethod args0 below0 = true := by decide +kernel
theorem w_running : about1.status = .running := rfl
set_option maxRecDepth 65536 in
theorem w_room : about1.hasRoom e0.platform room_1 = true :=
  launch0.hasRoom_least _ room_1 (by decide +kernel) (by decide +kernel) (by decide +kernel) (by decide +kernel) (by decide +kernel) (by decide +kernel)
theorem allAtoms_all (ts : List Jvm.Cond) (a : Array Jvm.Value) (st : Jvm.State) : (allAtoms ts).before a st = ts.all (fun c => c.before a st) := by
  induction ts with
  | nil => rfl
  | cons c t ih =>
    show (Jvm.Cond.and c (allAtoms t)).before a st = _
    rw [Jvm.Cond.before_and, ih, List.all_cons]
def words1 : List Jvm.Cond := Jvm.Cond.code x code maxLocals ret :: tables_1
/-- a 'code' word, met by the world's own term for the bytes: nothing is compared byte by byte -/
theorem code_word {y : MethodName} {bytes : ByteArray} {mx : Nat} {rt : Option FieldType} {a : Array Value} {s : State} {m : MethodId} {meth : Method} {c : Code} (h1 : s.methodNamed? y = some m) (h2 : s.vm.method? m = some meth) (h3 : meth.code = some c) (h4 : c.code = bytes)
    (h5 : (c.maxLocals == mx && c.exceptionTable.isEmpty && decide (c.maxStack ≤ mostOperands) && decide (meth.sig.returnType = rt) && !meth.locks && decide (parseMethodDescriptor y.desc = some meth.sig)) = true) : (Jvm.Cond.code y bytes mx rt).before a s = true := by
  simp only [Bool.and_eq_true, beq_iff_eq, Bool.not_eq_true', decide_eq_true_eq] at h5
  obtain ⟨⟨⟨⟨⟨g1, g2⟩, g3⟩, g4⟩, g5⟩, g6⟩ := h5
  simp [Cond.before, Cond.holds, Cond.value, h1, h2, h3, h4, g1, g2, g3, g4, g5, g6]
def isCode : Jvm.Cond → Bool
  | .code _ _ _ _ => true
  | _ => false
theorem all_split {L : List Jvm.Cond} {P : Jvm.Cond → Bool} (h1 : L.all (fun c => isCode c || P c) = true) (h2 : ∀ c ∈ L.filter isCode, P c = true) : L.all P = true := by
  refine List.all_eq_true.mpr fun c hc => ?_
  have h := List.all_eq_true.mp h1 c hc
  rcases Bool.eq_false_or_eq_true (isCode c) with hi | hi
  · exact h2 c (List.mem_filter.mpr ⟨hc, hi⟩)
  · simpa [hi] using h
set_option maxRecDepth 65536 in
theorem w_c0 : (Jvm.Cond.code x code maxLocals ret).before args0 about1 = true := code_word (m := ⟨1, 1⟩) (meth := k1m1) (c := k1c1) (by decide +kernel) rfl rfl rfl (by decide +kernel)
set_option maxRecDepth 65536 in
theorem w_c1 : (Jvm.Cond.code ({ cls := "com/example/zastupnik/zastupnik/protocol/ServiceErrorEqualsPinLaw", name := "digit", desc := "(I)C" } : Jvm.MethodName) method_3_code (1 : Nat) (Option.some Jvm.ClassFile.FieldType.char)).before args0 about1 = true := code_word (m := ⟨1, 2⟩) (meth := k1m2) (c := k1c2) (by decide +kernel) rfl rfl rfl (by decide +kernel)
set_option maxRecDepth 65536 in
theorem w_c2 : (Jvm.Cond.code ({ cls := "com/example/zastupnik/zastupnik/protocol/ServiceErrorEqualsPinLaw", name := "mk", desc := "(ICCC)Ljava/lang/String;" } : Jvm.MethodName) method_4_code (4 : Nat) (Option.some (Jvm.ClassFile.FieldType.object "java/lang/String"))).before args0 about1 = true := code_word (m := ⟨1, 3⟩) (meth := k1m3) (c := k1c3) (by decide +kernel) rfl rfl rfl (by decide +kernel)
set_option maxRecDepth 65536 in
theorem w_c3 : (Jvm.Cond.code ({ cls := "java/lang/String", name := "<init>", desc := "([C)V" } : Jvm.MethodName) jdk_42_method_3_code (2 : Nat) (Option.none : Option Jvm.ClassFile.FieldType)).before args0 about1 = true := code_word (m := ⟨8, 1⟩) (meth := k8m1) (c := k8c1) (by decide +kernel) rfl rfl rfl (by decide +kernel)
set_option maxRecDepth 65536 in
theorem w_c4 : (Jvm.Cond.code ({ cls := "java/lang/String", name := "<init>", desc := "([CIILjava/lang/Void;)V" } : Jvm.MethodName) jdk_42_method_149_code (6 : Nat) (Option.none : Option Jvm.ClassFile.FieldType)).before args0 about1 = true := code_word (m := ⟨8, 6⟩) (meth := k8m6) (c := k8c6) (by decide +kernel) rfl rfl rfl (by decide +kernel)
set_option maxRecDepth 65536 in
theorem w_c5 : (Jvm.Cond.code ({ cls := "java/lang/Object", name := "<init>", desc := "()V" } : Jvm.MethodName) object_method_1_code (1 : Nat) (Option.none : Option Jvm.ClassFile.FieldType)).before args0 about1 = true := code_word (m := ⟨0, 0⟩) (meth := k0m0) (c := k0c0) (by decide +kernel) rfl rfl rfl (by decide +kernel)
set_option maxRecDepth 65536 in
theorem w_c6 : (Jvm.Cond.code ({ cls := "java/lang/StringUTF16", name := "compress", desc := "([CII)[B" } : Jvm.MethodName) jdk_52_method_16_code (6 : Nat) (Option.some (Jvm.ClassFile.FieldType.array Jvm.ClassFile.FieldType.byte))).before args0 about1 = true := code_word (m := ⟨9, 2⟩) (meth := k9m2) (c := k9c2) (by decide +kernel) rfl rfl rfl (by decide +kernel)
set_option maxRecDepth 65536 in
theorem w_c7 : (Jvm.Cond.code ({ cls := "java/lang/StringUTF16", name := "compress", desc := "([CI[BII)I" } : Jvm.MethodName) jdk_52_method_21_code (7 : Nat) (Option.some Jvm.ClassFile.FieldType.int)).before args0 about1 = true := code_word (m := ⟨9, 3⟩) (meth := k9m3) (c := k9c3) (by decide +kernel) rfl rfl rfl (by decide +kernel)
set_option maxRecDepth 65536 in
theorem w_c8 : (Jvm.Cond.code ({ cls := "java/lang/StringUTF16", name := "coderFromArrayLen", desc := "([BI)B" } : Jvm.MethodName) jdk_52_method_15_code (2 : Nat) (Option.some Jvm.ClassFile.FieldType.byte)).before args0 about1 = true := code_word (m := ⟨9, 1⟩) (meth := k9m1) (c := k9c1) (by decide +kernel) rfl rfl rfl (by decide +kernel)
set_option maxRecDepth 65536 in
theorem w_c9 : (Jvm.Cond.code ({ cls := "com/example/zastupnik/zastupnik/protocol/ServiceError", name := "<init>", desc := "(Ljava/lang/String;Ljava/lang/String;)V" } : Jvm.MethodName) prog_61_method_1_code (3 : Nat) (Option.none : Option Jvm.ClassFile.FieldType)).before args0 about1 = true := code_word (m := ⟨2, 0⟩) (meth := k2m0) (c := k2c0) (by decide +kernel) rfl rfl rfl (by decide +kernel)
set_option maxRecDepth 65536 in
theorem w_c10 : (Jvm.Cond.code ({ cls := "java/util/Objects", name := "requireNonNull", desc := "(Ljava/lang/Object;Ljava/lang/String;)Ljava/lang/Object;" } : Jvm.MethodName) jdk_31_method_11_code (2 : Nat) (Option.some (Jvm.ClassFile.FieldType.object "java/lang/Object"))).before args0 about1 = true := code_word (m := ⟨10, 1⟩) (meth := k10m1) (c := k10c1) (by decide +kernel) rfl rfl rfl (by decide +kernel)
set_option maxRecDepth 65536 in
theorem w_c11 : (Jvm.Cond.code ({ cls := "java/lang/String", name := "length", desc := "()I" } : Jvm.MethodName) jdk_42_method_54_code (1 : Nat) (Option.some Jvm.ClassFile.FieldType.int)).before args0 about1 = true := code_word (m := ⟨8, 2⟩) (meth := k8m2) (c := k8c2) (by decide +kernel) rfl rfl rfl (by decide +kernel)
set_option maxRecDepth 65536 in
theorem w_c12 : (Jvm.Cond.code ({ cls := "java/lang/String", name := "coder", desc := "()B" } : Jvm.MethodName) jdk_42_method_152_code (1 : Nat) (Option.some Jvm.ClassFile.FieldType.byte)).before args0 about1 = true := code_word (m := ⟨8, 7⟩) (meth := k8m7) (c := k8c7) (by decide +kernel) rfl rfl rfl (by decide +kernel)
set_option maxRecDepth 65536 in
theorem w_c13 : (Jvm.Cond.code ({ cls := "com/example/zastupnik/zastupnik/protocol/AsciiDigits", name := "only", desc := "(Ljava/lang/String;)Z" } : Jvm.MethodName) prog_32_method_2_code (3 : Nat) (Option.some Jvm.ClassFile.FieldType.boolean)).before args0 about1 = true := code_word (m := ⟨11, 1⟩) (meth := k11m1) (c := k11c1) (by decide +kernel) rfl rfl rfl (by decide +kernel)
set_option maxRecDepth 65536 in
theorem w_c14 : (Jvm.Cond.code ({ cls := "java/lang/String", name := "isEmpty", desc := "()Z" } : Jvm.MethodName) jdk_42_method_55_code (1 : Nat) (Option.some Jvm.ClassFile.FieldType.boolean)).before args0 about1 = true := code_word (m := ⟨8, 3⟩) (meth := k8m3) (c := k8c3) (by decide +kernel) rfl rfl rfl (by decide +kernel)
set_option maxRecDepth 65536 in
theorem w_c15 : (Jvm.Cond.code ({ cls := "java/lang/String", name := "charAt", desc := "(I)C" } : Jvm.MethodName) jdk_42_method_56_code (2 : Nat) (Option.some Jvm.ClassFile.FieldType.char)).before args0 about1 = true := code_word (m := ⟨8, 4⟩) (meth := k8m4) (c := k8c4) (by decide +kernel) rfl rfl rfl (by decide +kernel)
set_option maxRecDepth 65536 in
theorem w_c16 : (Jvm.Cond.code ({ cls := "java/lang/String", name := "isLatin1", desc := "()Z" } : Jvm.MethodName) jdk_42_method_154_code (1 : Nat) (Option.some Jvm.ClassFile.FieldType.boolean)).before args0 about1 = true := code_word (m := ⟨8, 8⟩) (meth := k8m8) (c := k8c8) (by decide +kernel) rfl rfl rfl (by decide +kernel)
set_option maxRecDepth 65536 in
theorem w_c17 : (Jvm.Cond.code ({ cls := "java/lang/StringLatin1", name := "charAt", desc := "([BI)C" } : Jvm.MethodName) jdk_43_method_2_code (2 : Nat) (Option.some Jvm.ClassFile.FieldType.char)).before args0 about1 = true := code_word (m := ⟨12, 1⟩) (meth := k12m1) (c := k12c1) (by decide +kernel) rfl rfl rfl (by decide +kernel)
set_option maxRecDepth 65536 in
theorem w_c18 : (Jvm.Cond.code ({ cls := "java/lang/String", name := "checkIndex", desc := "(II)V" } : Jvm.MethodName) jdk_42_method_155_code (2 : Nat) (Option.none : Option Jvm.ClassFile.FieldType)).before args0 about1 = true := code_word (m := ⟨8, 9⟩) (meth := k8m9) (c := k8c9) (by decide +kernel) rfl rfl rfl (by decide +kernel)
set_option maxRecDepth 65536 in
theorem w_c19 : (Jvm.Cond.code ({ cls := "jdk/internal/util/Preconditions", name := "checkIndex", desc := "(IILjava/util/function/BiFunction;)I" } : Jvm.MethodName) jdk_41_method_11_code (3 : Nat) (Option.some Jvm.ClassFile.FieldType.int)).before args0 about1 = true := code_word (m := ⟨13, 1⟩) (meth := k13m1) (c := k13c1) (by decide +kernel) rfl rfl rfl (by decide +kernel)
set_option maxRecDepth 65536 in
theorem w_c20 : (Jvm.Cond.code ({ cls := "com/example/zastupnik/zastupnik/protocol/ServiceErrorEqualsPinLaw", name := "same", desc := "(ICCCICCC)Z" } : Jvm.MethodName) method_5_code (8 : Nat) (Option.some Jvm.ClassFile.FieldType.boolean)).before args0 about1 = true := code_word (m := ⟨1, 4⟩) (meth := k1m4) (c := k1c4) (by decide +kernel) rfl rfl rfl (by decide +kernel)
set_option maxRecDepth 65536 in
theorem w_c21 : (Jvm.Cond.code ({ cls := "com/example/zastupnik/zastupnik/protocol/ServiceError", name := "equals", desc := "(Ljava/lang/Object;)Z" } : Jvm.MethodName) prog_61_method_6_code (3 : Nat) (Option.some Jvm.ClassFile.FieldType.boolean)).before args0 about1 = true := code_word (m := ⟨2, 1⟩) (meth := k2m1) (c := k2c1) (by decide +kernel) rfl rfl rfl (by decide +kernel)
set_option maxRecDepth 65536 in
theorem w_c22 : (Jvm.Cond.code ({ cls := "java/lang/String", name := "equals", desc := "(Ljava/lang/Object;)Z" } : Jvm.MethodName) jdk_42_method_66_code (3 : Nat) (Option.some Jvm.ClassFile.FieldType.boolean)).before args0 about1 = true := code_word (m := ⟨8, 5⟩) (meth := k8m5) (c := k8c5) (by decide +kernel) rfl rfl rfl (by decide +kernel)
set_option maxRecDepth 65536 in
theorem w_c23 : (Jvm.Cond.code ({ cls := "java/lang/StringLatin1", name := "equals", desc := "([B[B)Z" } : Jvm.MethodName) jdk_43_method_13_code (3 : Nat) (Option.some Jvm.ClassFile.FieldType.boolean)).before args0 about1 = true := code_word (m := ⟨12, 2⟩) (meth := k12m2) (c := k12c2) (by decide +kernel) rfl rfl rfl (by decide +kernel)
def codes1 : List Jvm.Cond := [Jvm.Cond.code x code maxLocals ret, Jvm.Cond.code ({ cls := "com/example/zastupnik/zastupnik/protocol/ServiceErrorEqualsPinLaw", name := "digit", desc := "(I)C" } : Jvm.MethodName) method_3_code (1 : Nat) (Option.some Jvm.ClassFile.FieldType.char), Jvm.Cond.code ({ cls := "com/example/zastupnik/zastupnik/protocol/ServiceErrorEqualsPinLaw", name := "mk", desc := "(ICCC)Ljava/lang/String;" } : Jvm.MethodName) method_4_code (4 : Nat) (Option.some (Jvm.ClassFile.FieldType.object "java/lang/String")), Jvm.Cond.code ({ cls := "java/lang/String", name := "<init>", desc := "([C)V" } : Jvm.MethodName) jdk_42_method_3_code (2 : Nat) (Option.none : Option Jvm.ClassFile.FieldType), Jvm.Cond.code ({ cls := "java/lang/String", name := "<init>", desc := "([CIILjava/lang/Void;)V" } : Jvm.MethodName) jdk_42_method_149_code (6 : Nat) (Option.none : Option Jvm.ClassFile.FieldType), Jvm.Cond.code ({ cls := "java/lang/Object", name := "<init>", desc := "()V" } : Jvm.MethodName) object_method_1_code (1 : Nat) (Option.none : Option Jvm.ClassFile.FieldType), Jvm.Cond.code ({ cls := "java/lang/StringUTF16", name := "compress", desc := "([CII)[B" } : Jvm.MethodName) jdk_52_method_16_code (6 : Nat) (Option.some (Jvm.ClassFile.FieldType.array Jvm.ClassFile.FieldType.byte)), Jvm.Cond.code ({ cls := "java/lang/StringUTF16", name := "compress", desc := "([CI[BII)I" } : Jvm.MethodName) jdk_52_method_21_code (7 : Nat) (Option.some Jvm.ClassFile.FieldType.int), Jvm.Cond.code ({ cls := "java/lang/StringUTF16", name := "coderFromArrayLen", desc := "([BI)B" } : Jvm.MethodName) jdk_52_method_15_code (2 : Nat) (Option.some Jvm.ClassFile.FieldType.byte), Jvm.Cond.code ({ cls := "com/example/zastupnik/zastupnik/protocol/ServiceError", name := "<init>", desc := "(Ljava/lang/String;Ljava/lang/String;)V" } : Jvm.MethodName) prog_61_method_1_code (3 : Nat) (Option.none : Option Jvm.ClassFile.FieldType), Jvm.Cond.code ({ cls := "java/util/Objects", name := "requireNonNull", desc := "(Ljava/lang/Object;Ljava/lang/String;)Ljava/lang/Object;" } : Jvm.MethodName) jdk_31_method_11_code (2 : Nat) (Option.some (Jvm.ClassFile.FieldType.object "java/lang/Object")), Jvm.Cond.code ({ cls := "java/lang/String", name := "length", desc := "()I" } : Jvm.MethodName) jdk_42_method_54_code (1 : Nat) (Option.some Jvm.ClassFile.FieldType.int), Jvm.Cond.code ({ cls := "java/lang/String", name := "coder", desc := "()B" } : Jvm.MethodName) jdk_42_method_152_code (1 : Nat) (Option.some Jvm.ClassFile.FieldType.byte), Jvm.Cond.code ({ cls := "com/example/zastupnik/zastupnik/protocol/AsciiDigits", name := "only", desc := "(Ljava/lang/String;)Z" } : Jvm.MethodName) prog_32_method_2_code (3 : Nat) (Option.some Jvm.ClassFile.FieldType.boolean), Jvm.Cond.code ({ cls := "java/lang/String", name := "isEmpty", desc := "()Z" } : Jvm.MethodName) jdk_42_method_55_code (1 : Nat) (Option.some Jvm.ClassFile.FieldType.boolean), Jvm.Cond.code ({ cls := "java/lang/String", name := "charAt", desc := "(I)C" } : Jvm.MethodName) jdk_42_method_56_code (2 : Nat) (Option.some Jvm.ClassFile.FieldType.char), Jvm.Cond.code ({ cls := "java/lang/String", name := "isLatin1", desc := "()Z" } : Jvm.MethodName) jdk_42_method_154_code (1 : Nat) (Option.some Jvm.ClassFile.FieldType.boolean), Jvm.Cond.code ({ cls := "java/lang/StringLatin1", name := "charAt", desc := "([BI)C" } : Jvm.MethodName) jdk_43_method_2_code (2 : Nat) (Option.some Jvm.ClassFile.FieldType.char), Jvm.Cond.code ({ cls := "java/lang/String", name := "checkIndex", desc := "(II)V" } : Jvm.MethodName) jdk_42_method_155_code (2 : Nat) (Option.none : Option Jvm.ClassFile.FieldType), Jvm.Cond.code ({ cls := "jdk/internal/util/Preconditions", name := "checkIndex", desc := "(IILjava/util/function/BiFunction;)I" } : Jvm.MethodName) jdk_41_method_11_code (3 : Nat) (Option.some Jvm.ClassFile.FieldType.int), Jvm.Cond.code ({ cls := "com/example/zastupnik/zastupnik/protocol/ServiceErrorEqualsPinLaw", name := "same", desc := "(ICCCICCC)Z" } : Jvm.MethodName) method_5_code (8 : Nat) (Option.some Jvm.ClassFile.FieldType.boolean), Jvm.Cond.code ({ cls := "com/example/zastupnik/zastupnik/protocol/ServiceError", name := "equals", desc := "(Ljava/lang/Object;)Z" } : Jvm.MethodName) prog_61_method_6_code (3 : Nat) (Option.some Jvm.ClassFile.FieldType.boolean), Jvm.Cond.code ({ cls := "java/lang/String", name := "equals", desc := "(Ljava/lang/Object;)Z" } : Jvm.MethodName) jdk_42_method_66_code (3 : Nat) (Option.some Jvm.ClassFile.FieldType.boolean), Jvm.Cond.code ({ cls := "java/lang/StringLatin1", name := "equals", desc := "([B[B)Z" } : Jvm.MethodName) jdk_43_method_13_code (3 : Nat) (Option.some Jvm.ClassFile.FieldType.boolean)]
set_option maxRecDepth 65536 in
theorem codes_eq : words1.filter isCode = codes1 := rfl
theorem w_codes : ∀ c ∈ words1.filter isCode, c.before args0 about1 = true := by
  rw [codes_eq]
  intro c hc
  simp only [codes1, List.mem_cons, List.not_mem_nil, or_false] at hc
  rcases hc with rfl | rfl | rfl | rfl | rfl | rfl | rfl | rfl | rfl | rfl | rfl | rfl | rfl | rfl | rfl | rfl | rfl | rfl | rfl | rfl | rfl | rfl | rfl | rfl
  · exact w_c0
  · exact w_c1
  · exact w_c2
  · exact w_c3
  · exact w_c4
  · exact w_c5
  · exact w_c6
  · exact w_c7
  · exact w_c8
  · exact w_c9
  · exact w_c10
  · exact w_c11
  · exact w_c12
  · exact w_c13
  · exact w_c14
  · exact w_c15
  · exact w_c16
  · exact w_c17
  · exact w_c18
  · exact w_c19
  · exact w_c20
  · exact w_c21
  · exact w_c22
  · exact w_c23
set_option maxRecDepth 65536 in
theorem w_t1 : (words1.take 24).all (fun c => isCode c || c.before args0 about1) = true := by decide +kernel
set_option maxRecDepth 65536 in
theorem w_t2 : ((words1.drop 24).take 24).all (fun c => isCode c || c.before args0 about1) = true := by decide +kernel
set_option maxRecDepth 65536 in
theorem w_t3 : (((words1.drop 24).drop 24).take 24).all (fun c => isCode c || c.before args0 about1) = true := by decide +kernel
set_option maxRecDepth 65536 in
theorem w_t4 : ((((words1.drop 24).drop 24).drop 24).take 24).all (fun c => isCode c || c.before args0 about1) = true := by decide +kernel
set_option maxRecDepth 65536 in
theorem w_t5 : (((((words1.drop 24).drop 24).drop 24).drop 24).take 24).all (fun c => isCode c || c.before args0 about1) = true := by decide +kernel
set_option maxRecDepth 65536 in
theorem w_t6 : (((((words1.drop 24).drop 24).drop 24).drop 24).drop 24).all (fun c => isCode c || c.before args0 about1) = true := by decide +kernel
theorem w_tables : (allAtoms (Jvm.Cond.code x code maxLocals ret :: tables_1)).before args0 about1 = true := by
  rw [allAtoms_all]
  show words1.all (fun c => c.before args0 about1) = true
  refine all_split ?_ w_codes
  rw [← List.take_append_drop 24 words1, List.all_append, w_t1, ← List.take_append_drop 24 (words1.drop 24), List.all_append, w_t2, ← List.take_append_drop 24 ((words1.drop 24).drop 24), List.all_append, w_t3, ← List.take_append_drop 24 (((words1.drop 24).drop 24).drop 24), List.all_append, w_t4, ← List.take_append_drop 24 ((((words1.drop 24).drop 24).drop 24).drop 24), List.all_append, w_t5, w_t6]
  rfl
set_option maxRecDepth 65536 in
theorem w_rest : rest_1_c.before args0 about1 = true := by decide +kernel
set_option maxRecDepth 65536 in
theorem w_case : (Jvm.Cond.and given_1 narrow_1).before args0 about1 = true := by decide +kernel
set_option maxRecDepth 65536 in
theorem w_consts : constsHeld consts_1 about1 := Jvm.Lit.constsHeldB_iff.mp (by decide +kernel)
theorem w_applies : (headSpec (Jvm.Cond.code x code maxLocals ret :: tables_1) room_1).applies x e0.platform about1 = true :=
  (Spec.applies_iff w_frames).mpr ⟨w_running, w_runnable, w_alone, w_named, w_hears, w_ripe, w_room, w_tables⟩
theorem atStart : AtStart classFile x code maxLocals ret World_1 tables_1 room_1 Calls_1 rest_1 Pre_1 launch0 p0 e0 about1 theMethod args0 below0 :=
  ⟨lists_1, trivial, launch0.admits_env _ _ _, launch0.least_env, fairChoices_fair.cas, fairChoices_fair.clock, w_frames, w_args, w_heap, w_applies, ⟨w_consts, trivial⟩, w_rest, w_case⟩
end start1
theorem witness_1 : WitnessClaimed_1 := ⟨start1.p0, start1.e0, start1.about1, start1.theMethod, start1.args0, start1.below0, start1.atStart⟩
end Jvm.Pilot.@@N@@
