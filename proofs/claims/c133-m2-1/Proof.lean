import JvmDerived
import JvmDerived.Pilot.@@N@@Statement
import JvmDerived.Pilot.@@N@@Code
set_option linter.unusedVariables false
set_option linter.unusedSimpArgs false
namespace Jvm.RoadKit
open Sem ClassFile Op Lib Jvm.Stand Jvm.Free Jvm.LawKit
section New
variable {p : Program} {l : Launch} {e : Env} {R : Room} {s : State} {m : MethodId} {args : Array Value} {below : List Frame} {meth : Method} {c : Code} {T : State} {locs : List Loc} {cells slots : Nat}
theorem retI (X : Stand p l e R s m args below meth c T locs cells slots) (hx : p.tables.exec = Jvm.exec) {pc : Nat} {Ls : Array Slot} {z : Int32} {rest : List Value} (hret : meth.sig.returnType = some .int) (hd : decode c.code pc = .ok (.ireturn, 1)) {fs : List Frame}
    (hl : ∀ (f : JFrame) (acts : List Action), f.method = m → f.locked = none → f.entered = [] → (doReturn e (T.setTop f) acts (some (.int z))).1 = T.setFrames fs) : Steps p.tables e below (T.setTop (mkF m pc Ls (.int z :: rest))) (T.setFrames fs) := by
  have hm' : T.vm.method? m = some meth := X.method'
  have hn : narrow .int (.int z) = .int z := rfl
  show Steps p.tables e below (T.setTop { method := m, pc := pc, locals := Ls, stack := _ :: rest, locked := none }) _
  jvm_step X.here [X.here.top, hx, hd, hm', hret, hn]
  first | (intro acts; rw [hl _ acts rfl rfl rfl]) | rw [hl _ _ rfl rfl rfl]
  exact Steps.refl _
theorem seg (X : Stand p l e R s m args below meth c T locs cells slots) (P : State → Prop) (h : ∃ T', Stand p l e R s m args below meth c T' locs cells slots ∧ P T') : ∃ T', Stand p l e R s m args below meth c T' locs cells slots ∧ P T' := h
/-- int to char -/
def i2c (x : Int32) : Int32 := x.toUInt32.toUInt16.toUInt32.toInt32
/-- int to byte -/
def own_lo (x : Int32) : Int32 := x.toInt8.toInt32
/-- the unsigned shift of an int -/
def ushr (x y : Int32) : Int32 := (x.toUInt32 >>> (y &&& 31).toUInt32).toInt32
/-- the unsigned shift of a long -/
def ushrJ (x : Int64) (y : Int32) : Int64 := (x.toUInt64 >>> (y &&& 0x3f).toInt64.toUInt64).toInt64
end New
end Jvm.RoadKit
namespace Jvm.Pilot.@@N@@
open Jvm Jvm.ClassFile Sem Op Lib Jvm.Free Jvm.Stand Jvm.LawKit Jvm.RoadKit Bundle Jvm.Pilot.@@N@@.Jvm.D
theorem own_neN {a b : Addr} (h : @Ne Nat a b) : ¬ (a = b) := h
theorem own_narb {q : Prop} [Decidable q] : nar .boolean (if q then (1 : Int32) else (0 : Int32)) = (if q then (1 : Int32) else (0 : Int32)) := by split <;> rfl
theorem own_declares {Z : State} {a0 : Array Value} {y : MethodName} {bytes : ByteArray} {mx : Nat} {r : Option FieldType} (w1 : (Jvm.Cond.instanceMethod y).before a0 Z = true) (w2 : (Jvm.Cond.code y bytes mx r).before a0 Z = true) : (Jvm.Cond.declares y).before a0 Z = true := by
  obtain ⟨mk, meth, h1, h2, h3, -⟩ := Cond.instanceMethod_spec w1
  obtain ⟨meth', c, q1, -, -, -, -, -, -, q2⟩ := Cond.code_spec h1 w2
  cases h2.symm.trans q1
  simp [Cond.before, Cond.holds, Cond.value, h1, h2, h3, q2]
/-- the class of a method that an object selects is no interface -/
theorem own_nf {Z : State} {a0 : Array Value} {y z : MethodName} {C : String} (hz : z.cls = y.cls) (w : (Jvm.Cond.selects C z z).before a0 Z = true) : ∀ r, Z.methodNamed? y = some r → ∃ k, Z.vm.classes[r.cls]? = some k ∧ k.isInterface = false := fun r hr => by
  obtain ⟨c, r2, m2, -, -, q3, -, kP, hkP, hkPi⟩ := Cond.selects_spec w
  have h1 := findClass_of_methodNamed q3
  have h2 := findClass_of_methodNamed hr
  rw [hz, h2] at h1
  rw [Option.some.inj h1]
  exact ⟨kP, hkP, hkPi⟩
/-- a method that its class declares itself is the one that the look-up finds -/
theorem own_same {Z : State} {a0 : Array Value} {y : MethodName} (w1 : (Jvm.Cond.instanceMethod y).before a0 Z = true) (w2 : ∀ r, Z.methodNamed? y = some r → ∃ k, Z.vm.classes[r.cls]? = some k ∧ k.isInterface = false) (hy : y.cls ≠ "java/lang/invoke/MethodHandle" ∧ y.cls ≠ "java/lang/invoke/VarHandle") : (Jvm.Cond.sameMethod y.cls y.cls y.name y.desc).before a0 Z = true := by
  obtain ⟨mk, meth, h1, -⟩ := Cond.instanceMethod_spec w1
  have hc := findClass_of_methodNamed h1
  obtain ⟨k, hk, hi⟩ := w2 mk h1
  have hf := State.methodFound?_of_named h1 hy
  have hk' : Z.vm.classes[mk.cls]? = some k := hk
  simp [Cond.before, Cond.holds, Cond.value, hc, hf, h1, hk', hi]
theorem own_ti {n : Nat} (h : n ≤ 8000) : (Int32.ofNat n).toInt = n := Int32.toInt_ofNat_of_lt (by omega)
theorem own_tn {n : Nat} (h : n ≤ 8000) : (Int32.ofNat n).toNatClampNeg = n := by
  rw [Int32.toNatClampNeg, own_ti h]; omega
theorem own_lt {i n : Nat} (h : i < n) (hn : n ≤ 8000) : (Int32.ofNat i) < (Int32.ofNat n) := by
  rw [Int32.lt_iff_toInt_lt, own_ti (by omega), own_ti hn]; omega
theorem own_nlt {i n : Nat} (h : n ≤ i) (hn : i ≤ 8000) : ¬ ((Int32.ofNat i) < (Int32.ofNat n)) := by
  rw [Int32.lt_iff_toInt_lt, own_ti hn, own_ti (by omega : n ≤ 8000)]; omega
theorem own_nn {n : Nat} (h : n ≤ 8000) : ¬ ((Int32.ofNat n) < (0 : Int32)) := by
  rw [Int32.lt_iff_toInt_lt, own_ti h]
  show ¬ ((n : Int) < 0)
  omega
theorem own_inj {i n : Nat} (h : i ≤ 8000) (hn : n ≤ 8000) (e : Int32.ofNat i = Int32.ofNat n) : i = n := by
  have := congrArg Int32.toInt e
  rw [own_ti h, own_ti hn] at this; omega
theorem own_up (k : Nat) : Int32.ofNat (k + 1) = Int32.ofNat k + (1 : Int32) := Int32.ofNat_add k 1
theorem own_in {i n : Nat} (h : i < n) (hn : n ≤ 8000) : ¬ (Int32.ofNat i) < 0 ∧ (Int32.ofNat i) < (Int32.ofNat n) := ⟨own_nn (by omega), own_lt h hn⟩
theorem own_eqI {z w : Int32} (h : z.toInt = w.toInt) : z = w := Int32.toInt_inj.mp h
theorem own_shl1 {n : Nat} (h : n ≤ 4000) : (Int32.ofNat n) <<< ((1 : Int32) &&& 31) = Int32.ofNat (2 * n) := by
  apply own_eqI
  have h1 := c_ishl (Int32.ofNat n) 1 1 (by decide)
  rw [own_ti (by omega)] at h1
  rw [own_ti (by omega : 2 * n ≤ 8000)]
  have := rng32 ((Int32.ofNat n) <<< ((1 : Int32) &&& 31))
  omega
theorem own_shr1 {n : Nat} (h : n ≤ 4000) : (Int32.ofNat (2 * n)) >>> ((1 : Int32) &&& 31) = Int32.ofNat n := by
  apply own_eqI
  rw [c_ishr (Int32.ofNat (2 * n)) 1 1 (by decide), own_ti (by omega : 2 * n ≤ 8000), own_ti (by omega)]
  omega
theorem own_shr0 (z : Int32) : z >>> ((0 : Int32) &&& 31) = z := by
  apply own_eqI
  rw [c_ishr z 0 0 (by decide)]; simp
def own_mix {α : Type} (ys vs : List α) (j : Nat) : List α := ys.take j ++ vs.drop j
theorem own_mix0 {α : Type} (ys vs : List α) : own_mix ys vs 0 = vs := by simp [own_mix]
theorem own_mixn {α : Type} (ys vs : List α) (n : Nat) (h : ys.length = n) (h2 : vs.length = n) : own_mix ys vs n = ys := by
  simp [own_mix, ← h, ← h2]
  omega
theorem own_mixl {α : Type} (ys vs : List α) (j : Nat) (h : ys.length = vs.length) : (own_mix ys vs j).length = vs.length := by simp [own_mix]; omega
theorem own_mixs {α : Type} (ys vs : List α) (d : α) (j : Nat) (h : ys.length = vs.length) (hj : j < vs.length) : (own_mix ys vs j).set j (ys.getD j d) = own_mix ys vs (j + 1) := by
  have hj' : j < ys.length := by omega
  apply List.ext_getElem?
  intro i
  simp only [own_mix, List.getElem?_set, List.length_append, List.length_take, List.length_drop, List.getElem?_append, List.getElem?_take, List.getElem?_drop, List.getD_eq_getElem?_getD, List.getElem?_eq_getElem hj', Option.getD_some]
  by_cases h1 : j = i
  · subst h1
    rw [if_pos rfl, if_pos (by omega), if_pos (by omega), if_pos (by omega), List.getElem?_eq_getElem hj']
  · rw [if_neg h1]
    by_cases h2 : i < j
    · rw [if_pos (by omega), if_pos (by omega), if_pos (by omega), if_pos (by omega)]
    · rw [if_neg (by omega), if_neg (by omega)]
      congr 1
      omega
/-- every char lies below 256 -/
abbrev own_lat (cs : List Int32) : Prop := ∀ c ∈ cs, ¬ ((255 : Int32) < c)
/-- every one is a char -/
abbrev own_chs (cs : List Int32) : Prop := ∀ c ∈ cs, ¬ (c < (0 : Int32)) ∧ ¬ ((65535 : Int32) < c)
def own_low (cs : List Int32) : List Value := cs.map fun c => .int (own_lo c)
def own_wide : List Int32 → List Value
  | [] => []
  | c :: r => .int (own_lo (c >>> ((0 : Int32) &&& 31))) :: .int (own_lo (c >>> ((8 : Int32) &&& 31))) :: own_wide r
def own_cod (cs : List Int32) : Int32 := if own_lat cs then 0 else 1
def own_enc (cs : List Int32) : List Value := if own_lat cs then own_low cs else own_wide cs
def own_enl (cs : List Int32) : Nat := if own_lat cs then cs.length else 2 * cs.length
theorem own_lowl (cs : List Int32) : (own_low cs).length = cs.length := by simp [own_low]
theorem own_widel : ∀ cs : List Int32, (own_wide cs).length = 2 * cs.length
  | [] => rfl
  | c :: r => by simp only [own_wide, List.length_cons, own_widel r]; omega
theorem own_getc (cs : List Int32) (j : Nat) (d : Value) (hj : j < cs.length) (hb : cs.length ≤ 8000) : (cs.map Value.int).getD (Int32.ofNat j).toNatClampNeg d = .int (cs.getD j 0) := by
  rw [own_tn (by omega)]
  simp [List.getD_eq_getElem?_getD, List.getElem?_map, List.getElem?_eq_getElem hj]
theorem own_getl (cs : List Int32) (j : Nat) (d : Value) (hj : j < cs.length) (hb : cs.length ≤ 8000) : (own_low cs).getD (Int32.ofNat j).toNatClampNeg d = .int (own_lo (cs.getD j 0)) := by
  rw [own_tn (by omega)]
  simp [own_low, List.getD_eq_getElem?_getD, List.getElem?_map, List.getElem?_eq_getElem hj]
theorem own_mem (cs : List Int32) (j : Nat) (hj : j < cs.length) : cs.getD j 0 ∈ cs := by
  simp [List.getD_eq_getElem?_getD, List.getElem?_eq_getElem hj]
theorem own_lolo (c : Int32) : nar .byte (own_lo c) = own_lo c := by
  show (own_lo c).toInt8.toInt32 = own_lo c
  simp [own_lo]
theorem own_mixc (cs : List Int32) (vs : List Value) (j : Nat) (h : cs.length = vs.length) (hj : j < vs.length) : (own_mix (own_low cs) vs j).set j (.int (nar .byte (own_lo (cs.getD j 0)))) = own_mix (own_low cs) vs (j + 1) := by
  have e : Value.int (own_lo (cs.getD j 0)) = (own_low cs).getD j (.int 0) := by
    simp [own_low, List.getD_eq_getElem?_getD, List.getElem?_map, List.getElem?_eq_getElem (by omega : j < cs.length)]
  rw [own_lolo, e]
  exact own_mixs _ _ _ _ (by rw [own_lowl]; exact h) hj
theorem own_wide0 (d : Value) : ∀ (cs : List Int32) (j : Nat), j < cs.length → (own_wide cs).getD (2 * j) d = .int (own_lo ((cs.getD j 0) >>> ((0 : Int32) &&& 31)))
  | [], _, h => nomatch h
  | c :: r, 0, _ => rfl
  | c :: r, j + 1, h => by
    have := own_wide0 d r j (by simpa using h)
    show (own_wide (c :: r)).getD (2 * j + 2) d = _
    simpa [own_wide] using this
theorem own_wide1 (d : Value) : ∀ (cs : List Int32) (j : Nat), j < cs.length → (own_wide cs).getD (2 * j + 1) d = .int (own_lo ((cs.getD j 0) >>> ((8 : Int32) &&& 31)))
  | [], _, h => nomatch h
  | c :: r, 0, _ => rfl
  | c :: r, j + 1, h => by
    have := own_wide1 d r j (by simpa using h)
    show (own_wide (c :: r)).getD (2 * j + 1 + 2) d = _
    simpa [own_wide] using this
theorem own_mixw (cs : List Int32) (vs : List Value) (j : Nat) (h : 2 * cs.length = vs.length) (hj : j < cs.length) :
    ((own_mix (own_wide cs) vs (2 * j)).set (2 * j) (.int (own_lo ((cs.getD j 0) >>> ((0 : Int32) &&& 31))))).set (2 * j + 1) (.int (own_lo ((cs.getD j 0) >>> ((8 : Int32) &&& 31)))) = own_mix (own_wide cs) vs (2 * (j + 1)) := by
  have hl : (own_wide cs).length = vs.length := by rw [own_widel]; exact h
  rw [← own_wide0 (.int 0) cs j hj, own_mixs _ _ _ _ hl (by omega), ← own_wide1 (.int 0) cs j hj, own_mixs _ _ _ _ hl (by omega)]
  rfl
/-- two bytes make the char again -/
theorem own_pair {c : Int32} (h0 : ¬ (c < (0 : Int32))) (h1 : ¬ ((65535 : Int32) < c)) :
    i2c (((own_lo (c >>> ((0 : Int32) &&& 31)) &&& (255 : Int32)) <<< ((0 : Int32) &&& 31)) ||| ((own_lo (c >>> ((8 : Int32) &&& 31)) &&& (255 : Int32)) <<< ((8 : Int32) &&& 31))) = c := by
  have b0 : 0 ≤ c.toInt ∧ c.toInt ≤ 65535 := by
    rw [Int32.lt_iff_toInt_lt] at h0 h1
    have : (0 : Int32).toInt = 0 := rfl
    have : (65535 : Int32).toInt = 65535 := rfl
    omega
  rw [own_shr0]
  have e8 : (c >>> ((8 : Int32) &&& 31)).toInt = c.toInt / 256 := c_ishr c 8 8 (by decide)
  have a1 := c_i2b c
  have a2 := c_i2b (c >>> ((8 : Int32) &&& 31))
  have m1 : (own_lo c &&& (255 : Int32)).toInt = (own_lo c).toInt % 256 := c_mask (own_lo c) 255 8 (by decide) (by decide)
  have m2 : (own_lo (c >>> ((8 : Int32) &&& 31)) &&& (255 : Int32)).toInt = (own_lo (c >>> ((8 : Int32) &&& 31))).toInt % 256 := c_mask (own_lo (c >>> ((8 : Int32) &&& 31))) 255 8 (by decide) (by decide)
  change ((own_lo c).toInt - c.toInt) % 256 = 0 ∧ _ at a1
  change ((own_lo (c >>> ((8 : Int32) &&& 31))).toInt - (c >>> ((8 : Int32) &&& 31)).toInt) % 256 = 0 ∧ _ at a2
  generalize own_lo c = u at *
  generalize own_lo (c >>> ((8 : Int32) &&& 31)) = w at *
  have s1 : ((u &&& (255 : Int32)) <<< ((0 : Int32) &&& 31)) = (u &&& (255 : Int32)) := by
    apply own_eqI
    have := c_ishl (u &&& (255 : Int32)) 0 0 (by decide)
    have := rng32 ((u &&& (255 : Int32)) <<< ((0 : Int32) &&& 31))
    omega
  have s2 := c_ishl (w &&& (255 : Int32)) 8 8 (by decide)
  have r2 := rng32 ((w &&& (255 : Int32)) <<< ((8 : Int32) &&& 31))
  rw [s1]
  generalize (w &&& (255 : Int32)) <<< ((8 : Int32) &&& 31) = y at *
  generalize u &&& (255 : Int32) = z at *
  have o := c_or' z y 8 (by decide) 256 rfl (by omega) (by omega) (by omega)
  have i := c_i2c (z ||| y)
  have r3 := rng32 (z ||| y)
  apply own_eqI
  show ((z ||| y).toUInt32.toUInt16.toUInt32.toInt32).toInt = _
  omega
theorem own_lo_inj {c d : Int32} (h0 : ¬ (c < (0 : Int32))) (h1 : ¬ ((255 : Int32) < c)) (g0 : ¬ (d < (0 : Int32))) (g1 : ¬ ((255 : Int32) < d)) (e : own_lo c = own_lo d) : c = d := by
  apply own_eqI
  have a1 := c_i2b c
  have a2 := c_i2b d
  have e' : c.toInt8.toInt32.toInt = d.toInt8.toInt32.toInt := congrArg Int32.toInt e
  rw [Int32.lt_iff_toInt_lt] at h0 h1 g0 g1
  have : (0 : Int32).toInt = 0 := rfl
  have : (255 : Int32).toInt = 255 := rfl
  omega
theorem own_ltbig {n : Nat} (h : n ≤ 8000) : (Int32.ofNat n) < (1073741823 : Int32) := by
  rw [Int32.lt_iff_toInt_lt, own_ti h]
  show (n : Int) < 1073741823
  omega
theorem own_narc {c : Int32} (h0 : ¬ (c < (0 : Int32))) (h1 : ¬ ((65535 : Int32) < c)) : nar .char c = c := by
  apply own_eqI
  have i := c_i2c c
  show (c.toUInt32.toUInt16.toUInt32.toInt32).toInt = _
  rw [Int32.lt_iff_toInt_lt] at h0 h1
  have : (0 : Int32).toInt = 0 := rfl
  have : (65535 : Int32).toInt = 65535 := rfl
  omega
theorem own_first {cs : List Int32} (h : ¬ own_lat cs) : ∃ i, i < cs.length ∧ (255 : Int32) < (cs.getD i 0) ∧ ∀ j, j < i → ¬ ((255 : Int32) < cs.getD j 0) := by
  induction cs with
  | nil => exact absurd (fun c hc => nomatch hc) h
  | cons c r ih =>
    by_cases hc : (255 : Int32) < c
    · exact ⟨0, by simp, hc, fun j hj => absurd hj (Nat.not_lt_zero j)⟩
    · have : ¬ own_lat r := fun hr => h fun d hd => by
        rcases List.mem_cons.mp hd with rfl | hd
        · exact hc
        · exact hr d hd
      obtain ⟨i, h1, h2, h3⟩ := ih this
      refine ⟨i + 1, by simpa using h1, by simpa using h2, fun j hj => ?_⟩
      cases j with
      | zero => simpa using hc
      | succ j => simpa using h3 j (by omega)
theorem own_fixL {Z : State} {hh : Heap} {b : Addr} {kb : ClassId} {cs : List Int32} {n : Nat} {vs : List Value} {d : Value} (h : own_lat cs) (F : Arv Z hh b kb .byte (Int32.ofNat n) (own_mix (own_low cs) vs n) d) (hn : cs.length = n) (hv : vs.length = n) : Arv Z hh b kb .byte (Int32.ofNat (own_enl cs)) (own_enc cs) d := by
  rw [own_mixn _ _ n (by rw [own_lowl]; exact hn) hv] at F
  rw [own_enl, own_enc, if_pos h, if_pos h, hn]; exact F
theorem own_fixW {Z : State} {hh : Heap} {b : Addr} {kb : ClassId} {cs : List Int32} {n : Nat} {d : Value} (h : ¬ own_lat cs) (F : Arv Z hh b kb .byte (Int32.ofNat (2 * n)) (own_wide cs) d) (hn : cs.length = n) : Arv Z hh b kb .byte (Int32.ofNat (own_enl cs)) (own_enc cs) d := by
  rw [own_enl, own_enc, if_neg h, if_neg h, hn]; exact F
theorem own_ne0 {n : Nat} (h : 0 < n) (hb : n ≤ 8000) : ¬ ((Int32.ofNat n) = (0 : Int32)) := fun e => by
  have := own_inj (n := 0) hb (by omega) e
  omega
theorem own_codl {cs : List Int32} {n : Nat} (hn : cs.length = n) (hp : 0 < n) (hb : n ≤ 4000) : nar .byte (own_lo (ushr ((Int32.ofNat n) - (Int32.ofNat (own_enl cs))) (31 : Int32))) = own_cod cs := by
  rw [own_lolo, own_enl, own_cod]
  by_cases h : own_lat cs
  · rw [if_pos h, if_pos h, hn, Int32.sub_self]; rfl
  · rw [if_neg h, if_neg h, hn]
    have e : ushr ((Int32.ofNat n) - (Int32.ofNat (2 * n))) (31 : Int32) = 1 := by
      apply own_eqI
      have a := c_isub (Int32.ofNat n) (Int32.ofNat (2 * n))
      rw [own_ti (by omega), own_ti (by omega : 2 * n ≤ 8000)] at a
      have r := rng32 ((Int32.ofNat n) - (Int32.ofNat (2 * n)))
      have s := c_iushr ((Int32.ofNat n) - (Int32.ofNat (2 * n))) 31 31 (by decide) (by decide)
      show (((Int32.ofNat n) - (Int32.ofNat (2 * n))).toUInt32 >>> ((31 : Int32) &&& 31).toUInt32).toInt32.toInt = 1
      rw [s]
      omega
    rw [e]; rfl
theorem own_c01 (cs : List Int32) : own_cod cs = 0 ∨ own_cod cs = 1 := by
  unfold own_cod; split
  · exact Or.inl rfl
  · exact Or.inr rfl
theorem own_cnar (cs : List Int32) : narrow .byte (.int (own_cod cs)) = .int (own_cod cs) := by rcases own_c01 cs with h | h <;> rw [h] <;> rfl
theorem own_cnarb (cs : List Int32) : nar .byte (own_cod cs) = own_cod cs := by rcases own_c01 cs with h | h <;> rw [h] <;> rfl
theorem own_cfit (cs : List Int32) : fits .byte (.int (own_cod cs)) = true := by rcases own_c01 cs with h | h <;> rw [h] <;> rfl
theorem own_lenq (cs : List Int32) (hb : cs.length ≤ 4000) : (Int32.ofNat (own_enl cs)) >>> ((own_cod cs) &&& 31) = Int32.ofNat cs.length := by
  rw [own_enl, own_cod]
  by_cases h : own_lat cs
  · rw [if_pos h, if_pos h]; exact own_shr0 _
  · rw [if_neg h, if_neg h]; exact own_shr1 hb
/-- one more than the place of the first ch among k chars from j on; 0: none -/
def own_ix (cs : List Int32) (ch : Int32) : Nat → Nat → Nat
  | _, 0 => 0
  | j, k + 1 => if cs.getD j 0 = ch then j + 1 else own_ix cs ch (j + 1) k
theorem own_ixle (cs : List Int32) (ch : Int32) : ∀ (k j : Nat), own_ix cs ch j k ≤ j + k
  | 0, j => by simp [own_ix]
  | k + 1, j => by
    unfold own_ix; split
    · omega
    · have := own_ixle cs ch k (j + 1); omega
theorem own_ix0 (cs : List Int32) (ch : Int32) (h : ∀ c ∈ cs, c ≠ ch) : ∀ (k j : Nat), j + k ≤ cs.length → own_ix cs ch j k = 0
  | 0, j, _ => rfl
  | k + 1, j, hj => by
    unfold own_ix
    rw [if_neg (h _ (own_mem cs j (by omega)))]
    exact own_ix0 cs ch h k (j + 1) (by omega)
theorem own_minT {i j : Nat} (hi : i ≤ 8000) (hj : j ≤ 8000) (h : ¬ ((Int32.ofNat j) < (Int32.ofNat i))) : Int32.ofNat i = Int32.ofNat (min i j) := by
  by_cases q : i ≤ j
  · rw [Nat.min_eq_left q]
  · exact absurd (own_lt (by omega) hi) h
theorem own_minF {i j : Nat} (hi : i ≤ 8000) (hj : j ≤ 8000) (h : (Int32.ofNat j) < (Int32.ofNat i)) : Int32.ofNat j = Int32.ofNat (min i j) := by
  by_cases q : i ≤ j
  · exact absurd h (own_nlt q hj)
  · rw [Nat.min_eq_right (by omega)]
theorem own_maxT {i j : Nat} (hi : i ≤ 8000) (hj : j ≤ 8000) (h : (Int32.ofNat i) < (Int32.ofNat j)) : Int32.ofNat j = Int32.ofNat (max i j) := by
  by_cases q : j ≤ i
  · exact absurd h (own_nlt q hi)
  · rw [Nat.max_eq_right (by omega)]
theorem own_maxF {i j : Nat} (hi : i ≤ 8000) (hj : j ≤ 8000) (h : ¬ ((Int32.ofNat i) < (Int32.ofNat j))) : Int32.ofNat i = Int32.ofNat (max i j) := by
  by_cases q : j ≤ i
  · rw [Nat.max_eq_left q]
  · exact absurd (own_lt (by omega) hj) h
theorem own_found (j : Nat) : Int32.ofNat j = Int32.ofNat (j + 1) - (1 : Int32) := by rw [own_up, Int32.add_sub_cancel]
theorem own_geth (cs : List Int32) (j : Nat) (d : Value) (hl : own_lat cs) (hj : j < cs.length) (hb : cs.length ≤ 8000) : (own_enc cs).getD (Int32.ofNat j).toNatClampNeg d = .int (own_lo (cs.getD j 0)) := by
  rw [own_enc, if_pos hl]; exact own_getl cs j d hj hb
theorem own_nari2c (z : Int32) : nar .char (i2c z) = i2c z := by
  have i := c_i2c z
  have k := c_i2c (z.toUInt32.toUInt16.toUInt32.toInt32)
  apply own_eqI
  show (z.toUInt32.toUInt16.toUInt32.toInt32).toUInt32.toUInt16.toUInt32.toInt32.toInt = z.toUInt32.toUInt16.toUInt32.toInt32.toInt
  omega
theorem own_rng {q z : Int32} (h : q = i2c z) : ¬ (q < (0 : Int32)) ∧ ¬ ((65535 : Int32) < q) := by
  have i := c_i2c z
  have e : q.toInt = z.toUInt32.toUInt16.toUInt32.toInt32.toInt := congrArg Int32.toInt h
  rw [Int32.lt_iff_toInt_lt, Int32.lt_iff_toInt_lt]
  have : (0 : Int32).toInt = 0 := rfl
  have : (65535 : Int32).toInt = 65535 := rfl
  omega
theorem own_chs0 : own_chs [] := fun _ h => nomatch h
theorem own_chsS {c : Int32} {r : List Int32} (h : ¬ (c < (0 : Int32)) ∧ ¬ ((65535 : Int32) < c)) (g : own_chs r) : own_chs (c :: r) := fun d hd => by
  rcases List.mem_cons.mp hd with rfl | hd
  · exact h
  · exact g d hd
theorem own_lat0 : own_lat [] := fun _ h => nomatch h
theorem own_latS {c : Int32} {r : List Int32} (h : ¬ ((255 : Int32) < c)) (g : own_lat r) : own_lat (c :: r) := fun d hd => by
  rcases List.mem_cons.mp hd with rfl | hd
  · exact h
  · exact g d hd
theorem own_int (z : Int32) (n : Nat) (h : z.toInt = n) : z = Int32.ofNat n := by
  apply Int32.toInt_inj.mp
  rw [h]
  have := z.toInt_lt
  have := z.le_toInt
  rw [Int32.toInt_ofNat_of_lt]
  omega
theorem own_and3 (z : Int32) : ∃ n : Nat, (z &&& (3 : Int32)) = Int32.ofNat n ∧ n < 4 := by
  have h := c_mask z 3 2 (by decide) (by decide)
  refine ⟨(z.toInt % 4).toNat, own_int _ _ ?_, by omega⟩
  rw [h]; omega
theorem own_modn (z : Int32) (d : Int32) (k : Nat) (hd : d.toInt = k) (hk : 0 < k) (hk2 : k ≤ 100) : ∃ n : Nat, ((z &&& (2147483647 : Int32)) % d) = Int32.ofNat n ∧ n < k := by
  have h := c_mask z 2147483647 31 (by decide) (by decide)
  have h2 := (c_irem (z &&& (2147483647 : Int32)) d k hd).1 (by rw [h]; omega)
  have h3 : 0 ≤ (z &&& (2147483647 : Int32)).toInt := by rw [h]; omega
  have h4 := Int.emod_nonneg (z &&& (2147483647 : Int32)).toInt (show (k : Int) ≠ 0 by omega)
  have h5 := Int.emod_lt_of_pos (z &&& (2147483647 : Int32)).toInt (show (0 : Int) < k by omega)
  refine ⟨((z &&& (2147483647 : Int32)).toInt % k).toNat, own_int _ _ ?_, by omega⟩
  rw [h2]; omega
theorem own_lt16 {c : Int32} (h : ¬ ((65535 : Int32) < c)) : c < (65536 : Int32) := by
  rw [Int32.lt_iff_toInt_lt] at *
  have : (65535 : Int32).toInt = 65535 := rfl
  have : (65536 : Int32).toInt = 65536 := rfl
  omega
theorem own_sub0 {i n : Nat} (h : ¬ ((Int32.ofNat i) < (Int32.ofNat n))) (hn : n ≤ 8000) : n - i = 0 := by
  by_cases q : i < n
  · exact absurd (own_lt q hn) h
  · omega
theorem own_cod0 {cs : List Int32} (h : own_lat cs) : own_cod cs = (0 : Int32) := if_pos h
theorem own_cod1 {cs : List Int32} (h : ¬ own_lat cs) : ¬ (own_cod cs = (0 : Int32)) := by rw [own_cod, if_neg h]; decide
/-- a String's bytes as ints -/
def own_wb : List Int32 → List Int32
  | [] => []
  | c :: r => own_lo (c >>> ((0 : Int32) &&& 31)) :: own_lo (c >>> ((8 : Int32) &&& 31)) :: own_wb r
def own_eb (cs : List Int32) : List Int32 := if own_lat cs then cs.map own_lo else own_wb cs
theorem own_wideb : ∀ cs : List Int32, own_wide cs = (own_wb cs).map Value.int
  | [] => rfl
  | c :: r => by simp only [own_wide, own_wb, List.map_cons, own_wideb r]
theorem own_encb (cs : List Int32) : own_enc cs = (own_eb cs).map Value.int := by
  rw [own_enc, own_eb]; split
  · simp [own_low]
  · exact own_wideb cs
theorem own_wbl : ∀ cs : List Int32, (own_wb cs).length = 2 * cs.length
  | [] => rfl
  | c :: r => by simp only [own_wb, List.length_cons, own_wbl r]; omega
theorem own_ebl (cs : List Int32) : (own_eb cs).length = own_enl cs := by
  rw [own_eb, own_enl]; split
  · simp
  · exact own_wbl cs
theorem own_mapinj : ∀ (cs ds : List Int32), own_chs cs → own_chs ds → own_lat cs → own_lat ds → cs.map own_lo = ds.map own_lo → cs = ds
  | [], [], _, _, _, _, _ => rfl
  | [], _ :: _, _, _, _, _, h => nomatch h
  | _ :: _, [], _, _, _, _, h => nomatch h
  | c :: r, d :: q, hc, hd, lc, ld, h => by
    simp only [List.map_cons, List.cons.injEq] at h
    have e : c = d := own_lo_inj (hc c (by simp)).1 (lc c (by simp)) (hd d (by simp)).1 (ld d (by simp)) h.1
    rw [e, own_mapinj r q (fun x hx => hc x (by simp [hx])) (fun x hx => hd x (by simp [hx])) (fun x hx => lc x (by simp [hx])) (fun x hx => ld x (by simp [hx])) h.2]
theorem own_wbinj : ∀ (cs ds : List Int32), own_chs cs → own_chs ds → own_wb cs = own_wb ds → cs = ds
  | [], [], _, _, _ => rfl
  | [], _ :: _, _, _, h => nomatch h
  | _ :: _, [], _, _, h => nomatch h
  | c :: r, d :: q, hc, hd, h => by
    simp only [own_wb, List.cons.injEq] at h
    have e : c = d := by
      rw [← own_pair (hc c (by simp)).1 (hc c (by simp)).2, ← own_pair (hd d (by simp)).1 (hd d (by simp)).2, h.1, h.2.1]
    rw [e, own_wbinj r q (fun x hx => hc x (by simp [hx])) (fun x hx => hd x (by simp [hx])) h.2.2]
theorem own_encinj {cs ds : List Int32} (hc : own_chs cs) (hd : own_chs ds) (h : own_cod cs = own_cod ds) (e : own_eb cs = own_eb ds) : cs = ds := by
  by_cases l1 : own_lat cs <;> by_cases l2 : own_lat ds
  · rw [own_eb, own_eb, if_pos l1, if_pos l2] at e; exact own_mapinj _ _ hc hd l1 l2 e
  · rw [own_cod, own_cod, if_pos l1, if_neg l2] at h; exact absurd h (by decide)
  · rw [own_cod, own_cod, if_neg l1, if_pos l2] at h; exact absurd h (by decide)
  · rw [own_eb, own_eb, if_neg l1, if_neg l2] at e; exact own_wbinj _ _ hc hd e
theorem own_ext {xs ys : List Int32} (hl : xs.length = ys.length) (h : ∀ i, i < xs.length → xs.getD i 0 = ys.getD i 0) : xs = ys := by
  apply List.ext_getElem hl
  intro i h1 h2
  have := h i h1
  simpa [List.getD_eq_getElem?_getD, List.getElem?_eq_getElem h1, List.getElem?_eq_getElem h2] using this
theorem own_enll (cs : List Int32) : own_enl cs ≤ 2 * cs.length := by rw [own_enl]; split <;> omega
def own_mk : Nat → Int32 → Int32 → Int32 → List Int32
  | 0, _, _, _ => []
  | 1, x, _, _ => [x]
  | 2, x, y, _ => [x, y]
  | _ + 3, x, y, z => [x, y, z]
theorem own_mkl (n : Nat) (x y z : Int32) : (own_mk n x y z).length ≤ 3 := by
  unfold own_mk; split <;> simp
theorem own_mkchs {n : Nat} {x y z : Int32} (h : n < 4) (hx : ¬ (x < (0 : Int32)) ∧ ¬ ((65535 : Int32) < x)) (hy : ¬ (y < (0 : Int32)) ∧ ¬ ((65535 : Int32) < y)) (hz : ¬ (z < (0 : Int32)) ∧ ¬ ((65535 : Int32) < z)) : own_chs (own_mk n x y z) := by
  unfold own_mk; split
  · exact own_chs0
  · exact own_chsS hx own_chs0
  · exact own_chsS hx (own_chsS hy own_chs0)
  · exact own_chsS hx (own_chsS hy (own_chsS hz own_chs0))
theorem own_le64k {c : Int32} (h : ¬ ((255 : Int32) < c)) : ¬ ((65535 : Int32) < c) := by
  rw [Int32.lt_iff_toInt_lt] at *
  have : (65535 : Int32).toInt = 65535 := rfl
  have : (255 : Int32).toInt = 255 := rfl
  omega
theorem own_small {z : Int32} (h : 0 ≤ z.toInt ∧ z.toInt ≤ 255) : ¬ (i2c z < (0 : Int32)) ∧ ¬ ((255 : Int32) < i2c z) := by
  have i := c_i2c z
  rw [Int32.lt_iff_toInt_lt, Int32.lt_iff_toInt_lt]
  have : (0 : Int32).toInt = 0 := rfl
  have : (255 : Int32).toInt = 255 := rfl
  show ¬ ((z.toUInt32.toUInt16.toUInt32.toInt32).toInt < (0 : Int32).toInt) ∧ ¬ ((255 : Int32).toInt < (z.toUInt32.toUInt16.toUInt32.toInt32).toInt)
  omega
theorem own_m255 (z : Int32) : 0 ≤ (z &&& (255 : Int32)).toInt ∧ (z &&& (255 : Int32)).toInt ≤ 255 := by
  have := c_mask z 255 8 (by decide) (by decide)
  omega
theorem own_b255 (z : Int32) : ¬ (i2c (z &&& (255 : Int32)) < (0 : Int32)) ∧ ¬ ((255 : Int32) < i2c (z &&& (255 : Int32))) := own_small (own_m255 z)
theorem own_k255 (z : Int32) : ¬ ((z &&& (255 : Int32)) < (0 : Int32)) ∧ ¬ ((255 : Int32) < (z &&& (255 : Int32))) := by
  have := own_m255 z
  rw [Int32.lt_iff_toInt_lt, Int32.lt_iff_toInt_lt]
  have : (0 : Int32).toInt = 0 := rfl
  have : (255 : Int32).toInt = 255 := rfl
  omega
theorem own_xb (z w : Int32) (h : 0 ≤ z.toInt ∧ z.toInt ≤ 255) (g : 0 ≤ w.toInt ∧ w.toInt ≤ 255) : 0 ≤ (z ^^^ w).toInt ∧ (z ^^^ w).toInt ≤ 255 := by
  have t (v : Int32) (h : 0 ≤ v.toInt ∧ v.toInt ≤ 255) : v.toBitVec.toNat < 256 := by
    have := v.toBitVec.isLt
    have e : v.toInt = v.toBitVec.toInt := rfl
    rw [BitVec.toInt_eq_toNat_cond] at e
    split at e <;> omega
  have h1 := t z h
  have h2 := t w g
  have h3 : (z ^^^ w).toBitVec.toNat < 256 := by
    rw [Int32.toBitVec_xor, BitVec.toNat_xor]
    exact Nat.xor_lt_two_pow (n := 8) h1 h2
  have e : (z ^^^ w).toInt = (z ^^^ w).toBitVec.toInt := rfl
  rw [BitVec.toInt_eq_toNat_cond] at e
  split at e <;> omega
theorem own_x255 {z w : Int32} (h : ¬ (z < (0 : Int32)) ∧ ¬ ((255 : Int32) < z)) (g : ¬ (w < (0 : Int32)) ∧ ¬ ((255 : Int32) < w)) : ¬ (i2c (z ^^^ w) < (0 : Int32)) ∧ ¬ ((255 : Int32) < i2c (z ^^^ w)) := by
  rw [Int32.lt_iff_toInt_lt, Int32.lt_iff_toInt_lt] at h g
  have : (0 : Int32).toInt = 0 := rfl
  have : (255 : Int32).toInt = 255 := rfl
  exact own_small (own_xb z w (by omega) (by omega))
theorem own_chr {c : Int32} (h0 : ¬ (c < (0 : Int32))) (h1 : ¬ ((255 : Int32) < c)) : nar .char (i2c (own_lo c &&& (255 : Int32))) = c := by
  rw [own_nari2c]
  apply own_eqI
  have a := c_i2b c
  have m := c_mask (own_lo c) 255 8 (by decide) (by decide)
  change ((own_lo c).toInt - c.toInt) % 256 = 0 ∧ _ at a
  have i := c_i2c (own_lo c &&& (255 : Int32))
  show ((own_lo c &&& (255 : Int32)).toUInt32.toUInt16.toUInt32.toInt32).toInt = c.toInt
  rw [Int32.lt_iff_toInt_lt] at h0 h1
  have : (0 : Int32).toInt = 0 := rfl
  have : (255 : Int32).toInt = 255 := rfl
  omega
theorem own_enl0 {cs : List Int32} (hb : cs.length ≤ 4000) : (Int32.ofNat (own_enl cs)) = (0 : Int32) ↔ cs = [] := by
  constructor
  · intro e
    have h : own_enl cs = 0 := own_inj (n := 0) (by have := own_enll cs; omega) (by decide) e
    have : cs.length = 0 := by rw [own_enl] at h; split at h <;> omega
    exact List.eq_nil_of_length_eq_zero this
  · rintro rfl; rw [own_enl, if_pos own_lat0]; rfl
def own_mk2 : Nat → Int32 → Int32 → List Int32
  | 0, _, _ => []
  | 1, x0, _ => [x0]
  | _ + 2, x0, x1 => [x0, x1]
theorem own_mkl2 (n : Nat) (x0 x1 : Int32) : (own_mk2 n x0 x1).length ≤ 2 := by
  unfold own_mk2; split <;> simp
theorem own_mkchs2 {n : Nat} {x0 x1 : Int32} (h0 : ¬ (x0 < (0 : Int32)) ∧ ¬ ((65535 : Int32) < x0)) (h1 : ¬ (x1 < (0 : Int32)) ∧ ¬ ((65535 : Int32) < x1)) : own_chs (own_mk2 n x0 x1) := by
  unfold own_mk2; split
  · exact own_chs0
  · exact (own_chsS h0 own_chs0)
  · exact (own_chsS h0 (own_chsS h1 own_chs0))
abbrev ELs : List (String × Nat) := []
theorem own_EW {Z : State} {a0 : Array Value} (hw : ∀ d ∈ tables_1, d.before a0 Z = true) : EW Z a0 ELs := EW.nil
theorem own_wS {Z : State} {a0 : Array Value} (hw : ∀ d ∈ tables_1, d.before a0 Z = true) : ∀ a ∈ Bundle.stringAtoms, a.before a0 Z = true := by
  intro a ha
  simp only [Bundle.stringAtoms, List.mem_cons, List.not_mem_nil, or_false] at ha
  rcases ha with rfl | rfl | rfl | rfl | rfl | rfl | rfl
  · exact (hw _ (List.mem_of_getElem? (i := 13) rfl))
  · exact (hw _ (List.mem_of_getElem? (i := 12) rfl))
  · exact (hw _ (List.mem_of_getElem? (i := 30) rfl))
  · exact (hw _ (List.mem_of_getElem? (i := 40) rfl))
  · exact (hw _ (List.mem_of_getElem? (i := 38) rfl))
  · exact (hw _ (List.mem_of_getElem? (i := 46) rfl))
  · exact (hw _ (List.mem_of_getElem? (i := 47) rfl))
theorem own_NSroot {Z : State} {a0 : Array Value} {O K : String} {n : Nat} (w : (Jvm.Cond.noSuperclass O).before a0 Z = true) (wk : (Jvm.Cond.instantiable K n).before a0 Z = true) (hn : O ≠ K) : NS Z O K := by
  obtain ⟨c, k, h1, h2, h3, -, -⟩ := Cond.noSuperclass_spec w
  obtain ⟨t, kt, g1, -⟩ := Cond.instantiable_spec wk
  have ne := ids_ne h1 g1 hn
  refine ⟨c, t, h1, g1, fun fuel => ?_⟩
  cases fuel with
  | zero => rfl
  | succ f => simp [Vm.isSubclassAux, ne, h2, h3]
theorem own_NSno {Z : State} {a0 : Array Value} {C S K : String} {m : Nat} (w : (Jvm.Cond.superclass C S).before a0 Z = true) (wk : (Jvm.Cond.instantiable K m).before a0 Z = true) (n : NS Z C K) (hn : C ≠ K) : ∃ c t, Z.vm.findClass C = some c ∧ Z.vm.findClass K = some t ∧ Z.vm.assignable c t = false := by
  obtain ⟨c, t, h0, g0, n3⟩ := n
  obtain ⟨p, k, kp, h1, h2, h3, h4, h5, -, h7⟩ := Cond.superclass_spec h0 w
  obtain ⟨t', k', q1, q2, q3, q4, -⟩ := Cond.instantiable_spec wk
  cases g0.symm.trans q1
  have q5 : k'.isInterface = false := (Bool.or_eq_false_iff.mp q4).1
  have ne := ids_ne h0 g0 hn
  refine ⟨c, t, h0, g0, ?_⟩
  show Z.vm.assignableAux (255 + 1) c t = false
  simp [Vm.assignableAux, ne, h2, q2, h5, q3, q5, Vm.isSubclass, n3]
/-- a String whose value is still null is no constant's -/
theorem own_safeN {Z : State} {EL : List (String × Nat)} {vm : Vm} {h : Heap} {a : Addr} (hal : Z.vm.Alike vm) (E : Exa Z h a "java/lang/String") (F : Fld Z h a "java/lang/String" "value" "[B" .null) : Safe Z EL vm h a := fun B => by
  obtain ⟨p, -, u, a', -, q, -, S, rfl | rfl⟩ := B
  · obtain ⟨cS, ⟨⟨s1, -, -, ⟨c1, k1, i1, f1, -⟩, -, -, -, v1, -⟩, -⟩, -⟩ := S
    obtain ⟨cell, cf, k', i', f, e1, e2, -, -, -, -, e7⟩ := F
    cases (show h[q.sa]? = some q.sC from s1).symm.trans e1
    obtain ⟨k3, e3, -⟩ := State.fieldFound?_setVm (s := Z) hal e2
    have e4 := (show (Wst Z vm h).fieldFound? _ _ _ = _ from e3).symm.trans f1
    simp only [Option.some.injEq, Prod.mk.injEq] at e4
    rw [← e4.2.2.2, e7] at v1
    cases v1
  · obtain ⟨cell, k, e1, e2, e3, -, -⟩ := E
    cases (show h[q.sd]? = some q.SA from S.hd).symm.trans e1
    obtain ⟨cS, -, -, f, -⟩ := S
    have f' : vm.findClass "[B" = some q.SA.cls := f
    rw [hal.findClass] at f'
    obtain ⟨k1, q1, q2⟩ := Vm.findClass_spec f'
    obtain ⟨k2, q3, q4⟩ := Vm.findClass_spec e2
    cases q1.symm.trans q3
    exact absurd (q2.symm.trans q4) (by decide)
theorem own_fix0 {Z : State} {hh : Heap} {b : Addr} {kb : ClassId} {cs : List Int32} {d : Value} (h : cs = []) (F : Arv Z hh b kb .byte (0 : Int32) [] d) : Arv Z hh b kb .byte (Int32.ofNat (own_enl cs)) (own_enc cs) d := by
  subst h
  rw [own_enl, own_enc, if_pos own_lat0, if_pos own_lat0]; exact F
theorem own_pos {n : Nat} (h : ¬ ((Int32.ofNat n) = (0 : Int32))) : 0 < n := by
  cases n with
  | zero => exact absurd rfl h
  | succ n => omega
/-- a printable ASCII char -/
abbrev own_prt (c : Int32) : Prop := (32 : Int32) < c ∧ c < (127 : Int32)
def own_prx (c : Int32) : Prop := 33 ≤ c.toInt ∧ c.toInt ≤ 126
def own_print_of (z : Int32) : Int32 := i2c ((33 : Int32) + ((z &&& (2147483647 : Int32)) % (94 : Int32)))
theorem own_pri (z : Int32) : own_prx (own_print_of z) := by
  obtain ⟨n, hn, hl⟩ := own_modn z 94 94 (by decide) (by decide) (by decide)
  have h3 := c_iadd 33 ((z &&& (2147483647 : Int32)) % (94 : Int32))
  have h4 := rng32 ((33 : Int32) + ((z &&& (2147483647 : Int32)) % (94 : Int32)))
  have h5 := c_i2c ((33 : Int32) + ((z &&& (2147483647 : Int32)) % (94 : Int32)))
  have h6 : (33 : Int32).toInt = 33 := rfl
  have h7 : ((z &&& (2147483647 : Int32)) % (94 : Int32)).toInt = n := by rw [hn]; exact own_ti (by omega)
  show 33 ≤ (((33 : Int32) + ((z &&& (2147483647 : Int32)) % (94 : Int32))).toUInt32.toUInt16.toUInt32.toInt32).toInt ∧ (((33 : Int32) + ((z &&& (2147483647 : Int32)) % (94 : Int32))).toUInt32.toUInt16.toUInt32.toInt32).toInt ≤ 126
  omega
theorem own_pr0 {c : Int32} (h : own_prx c) : ¬ (c < (0 : Int32)) := by
  rw [Int32.lt_iff_toInt_lt]; have : (0 : Int32).toInt = 0 := rfl; have := h.1; omega
theorem own_pr1 {c : Int32} (h : own_prx c) : ¬ ((255 : Int32) < c) := by
  rw [Int32.lt_iff_toInt_lt]; have : (255 : Int32).toInt = 255 := rfl; have := h.2; omega
theorem own_prc {c : Int32} (h : own_prx c) : ¬ (c < (0 : Int32)) ∧ ¬ ((65535 : Int32) < c) := ⟨own_pr0 h, own_le64k (own_pr1 h)⟩
theorem own_prp {c : Int32} (h : own_prx c) : own_prt c := by
  have a : (32 : Int32).toInt = 32 := rfl
  have b : (127 : Int32).toInt = 127 := rfl
  have h1 := h.1
  have h2 := h.2
  constructor
  · rw [Int32.lt_iff_toInt_lt]; omega
  · rw [Int32.lt_iff_toInt_lt]; omega
theorem own_m31 (z : Int32) : ¬ ((z &&& (2147483647 : Int32)) < (0 : Int32)) := by
  have h := c_mask z 2147483647 31 (by decide) (by decide)
  rw [Int32.lt_iff_toInt_lt, h]
  show ¬ (z.toInt % (2 ^ 31 : Nat) < 0)
  omega
theorem own_len2 (z : Int32) : ∃ n : Nat, ((1 : Int32) + (z &&& (1 : Int32))) = Int32.ofNat n ∧ (n = 1 ∨ n = 2) := by
  have h := c_mask z 1 1 (by decide) (by decide)
  rcases (by omega : z.toInt % 2 = 0 ∨ z.toInt % 2 = 1) with q | q
  · refine ⟨1, ?_, Or.inl rfl⟩
    rw [own_int (z &&& (1 : Int32)) 0 (by rw [h]; omega)]; rfl
  · refine ⟨2, ?_, Or.inr rfl⟩
    rw [own_int (z &&& (1 : Int32)) 1 (by rw [h]; omega)]; rfl
theorem own_mklat2 {n : Nat} {x y : Int32} (h : n = 1 ∨ n = 2) (hx : own_prx x) (hy : own_prx y) : own_lat (own_mk2 n x y) := by
  rcases h with rfl | rfl
  · exact own_latS (own_pr1 hx) own_lat0
  · exact own_latS (own_pr1 hx) (own_latS (own_pr1 hy) own_lat0)
theorem own_mkne2 {n : Nat} {x y : Int32} (h : n = 1 ∨ n = 2) : ¬ (own_mk2 n x y = []) := by
  rcases h with rfl | rfl <;> simp [own_mk2]
theorem own_mkpr2 {n : Nat} {x y : Int32} (h : n = 1 ∨ n = 2) (hx : own_prx x) (hy : own_prx y) : ∀ c ∈ own_mk2 n x y, own_prt c := by
  rcases h with rfl | rfl
  · intro c hc
    have : c = x := by simpa [own_mk2] using hc
    rw [this]; exact own_prp hx
  · intro c hc
    have : c = x ∨ c = y := by simpa [own_mk2] using hc
    rcases this with e | e <;> rw [e]
    · exact own_prp hx
    · exact own_prp hy
theorem own_box {z : Int32} (h1 : ¬ (z < (-128 : Int32))) (h2 : ¬ ((127 : Int32) < z)) : ¬ (z + (128 : Int32)) < 0 ∧ (z + (128 : Int32)) < (256 : Int32) := by
  rw [Int32.lt_iff_toInt_lt] at *
  have a := c_iadd z 128
  have r := rng32 (z + (128 : Int32))
  have e1 : (-128 : Int32).toInt = -128 := rfl
  have e2 : (127 : Int32).toInt = 127 := rfl
  have e3 : (128 : Int32).toInt = 128 := rfl
  have e4 : (0 : Int32).toInt = 0 := rfl
  have e5 : (256 : Int32).toInt = 256 := rfl
  constructor
  · rw [e4]; omega
  · rw [Int32.lt_iff_toInt_lt]; omega
theorem own_fin0 (n k : Nat) (rx ry ix iy jx jy : Int32) (hn : n = 1 ∨ n = 2) (hk : k = 1 ∨ k = 2) : (if rx = ry then (if (own_mk2 n ix iy) = (own_mk2 k jx jy) then (1 : Int32) else (0 : Int32)) else (0 : Int32)) = (if rx = ry then (if (Int32.ofNat n) = (Int32.ofNat k) then (if ix = jx then (if (Int32.ofNat n) = (1 : Int32) then (1 : Int32) else (if iy = jy then (1 : Int32) else (0 : Int32))) else (0 : Int32)) else (0 : Int32)) else (0 : Int32)) := by
  by_cases hr : rx = ry <;> by_cases hx : ix = jx <;> by_cases hy : iy = jy <;> rcases hn with rfl | rfl <;> rcases hk with rfl | rfl <;>
  simp +decide [own_mk2, hr, hx, hy]
theorem own_fin1 (n k : Nat) (rx ry ix iy jx jy : Int32) (hn : n = 1 ∨ n = 2) (hk : k = 1 ∨ k = 2) : (if ry = rx then (if (own_mk2 k jx jy) = (own_mk2 n ix iy) then (1 : Int32) else (0 : Int32)) else (0 : Int32)) = (if rx = ry then (if (Int32.ofNat n) = (Int32.ofNat k) then (if ix = jx then (if (Int32.ofNat n) = (1 : Int32) then (1 : Int32) else (if iy = jy then (1 : Int32) else (0 : Int32))) else (0 : Int32)) else (0 : Int32)) else (0 : Int32)) := by
  rw [← own_fin0 n k rx ry ix iy jx jy hn hk]
  by_cases h1 : rx = ry
  · subst h1
    by_cases h2 : own_mk2 n ix iy = own_mk2 k jx jy
    · rw [h2]
    · simp [h2, Ne.symm h2]
  · simp [h1, Ne.symm h1]
theorem own_bxs {Z : State} {args : Array Value} {t : Term} {a : Addr} {cl : Cell} (A : Arr Z Z.heap a cl (.object "java/lang/Integer")) (et : ∀ idx, t.eval args Z none idx Z = some (.ref a))
    (hl : (Jvm.Cond.eq (.length t) (.int 256)).value args Z none Z [] = some true) (hA : (Jvm.Cond.all t (.and (.exactly (.elem t (.index 0)) "java/lang/Integer") (.eq (.field (.elem t (.index 0)) "java/lang/Integer" "value" "I") (.sub (.index 0) (.int 128))))).value args Z none Z [] = some true) :
    Bxs Z a cl "java/lang/Integer" "I" 256 (fun j => .int (j - 128)) := by
  have l1 := Jvm.RoadKit.eqv_i (Term.int_eval 256) hl
  have q : cl.slots.size < 2 ^ 31 ∧ cl.slots.size.toInt32 = 256 := by
    obtain ⟨a', cell, ha', hat, hv⟩ := Term.length_spec l1
    cases (et _).symm.trans ha'
    obtain ⟨hc, -⟩ := State.arrayAt?_spec hat
    cases hc.symm.trans A.1
    refine ⟨?_, (Value.int.inj hv).symm⟩
    simp only [Term.eval, et, hat, Option.bind_eq_bind, Option.bind_some] at l1
    by_cases hn : cl.slots.size < 2147483648
    · exact hn
    · rw [if_neg hn] at l1; cases l1
  refine Bxs.start et A q.1 q.2 (by decide) hA (fun X j hj h => ?_)
  refine Jvm.RoadKit.eqv_i ?_ h
  have hi := idx_at (args := args) (s := Z) (first := Z) (o := none) hj
  show (do let x ← (Term.index 0).eval args Z none [j.toNatClampNeg] Z; let y ← (Term.int 128).eval args Z none [j.toNatClampNeg] Z; _) = _
  rw [hi]
  rfl
theorem pn_java_lang_StringUTF16 : plainName "java/lang/StringUTF16" = true := by first | (simp [plainName, overriddenIn]; done) | decide +kernel
theorem d_jdk_52_method_21_0 : decode jdk_52_method_21_code 0 = .ok (.iconst 0, 1) := by decide +kernel
theorem d_jdk_52_method_21_1 : decode jdk_52_method_21_code 1 = .ok (.istore 5, 2) := by decide +kernel
theorem d_jdk_52_method_21_3 : decode jdk_52_method_21_code 3 = .ok (.iload 5, 2) := by decide +kernel
theorem d_jdk_52_method_21_5 : decode jdk_52_method_21_code 5 = .ok (.iload 4, 2) := by decide +kernel
theorem d_jdk_52_method_21_7 : decode jdk_52_method_21_code 7 = .ok (.if_icmp .ge 37, 3) := by decide +kernel
theorem d_jdk_52_method_21_10 : decode jdk_52_method_21_code 10 = .ok (.aload_n 0, 1) := by decide +kernel
theorem d_jdk_52_method_21_11 : decode jdk_52_method_21_code 11 = .ok (.iload_n 1, 1) := by decide +kernel
theorem d_jdk_52_method_21_12 : decode jdk_52_method_21_code 12 = .ok (.caload, 1) := by decide +kernel
theorem os_rmCmpL_13 {z0 : Value} {z1 : Value} {z2 : Value} {z3 : Value} {z4 : Value} {z5 : Value} {s6 : Slot} {v : Int32} (h : One s6) : storeLocals #[.val z0, .val z1, .val z2, .val z3, .val z4, .val z5, s6] 6 (.int v) = some #[.val z0, .val z1, .val z2, .val z3, .val z4, .val z5, .val (.int v)] := by
  rcases h with rfl | ⟨w, rfl, hw⟩
  · rfl
  · cases w <;> first | rfl | (simp [Value.category] at hw)
theorem d_jdk_52_method_21_13 : decode jdk_52_method_21_code 13 = .ok (.istore 6, 2) := by decide +kernel
theorem d_jdk_52_method_21_15 : decode jdk_52_method_21_code 15 = .ok (.iload 6, 2) := by decide +kernel
theorem d_jdk_52_method_21_17 : decode jdk_52_method_21_code 17 = .ok (.sipush 255, 3) := by decide +kernel
theorem d_jdk_52_method_21_20 : decode jdk_52_method_21_code 20 = .ok (.if_icmp .le 6, 3) := by decide +kernel
theorem d_jdk_52_method_21_26 : decode jdk_52_method_21_code 26 = .ok (.aload_n 2, 1) := by decide +kernel
theorem d_jdk_52_method_21_27 : decode jdk_52_method_21_code 27 = .ok (.iload_n 3, 1) := by decide +kernel
theorem d_jdk_52_method_21_28 : decode jdk_52_method_21_code 28 = .ok (.iload 6, 2) := by decide +kernel
theorem d_jdk_52_method_21_30 : decode jdk_52_method_21_code 30 = .ok (.i2b, 1) := by decide +kernel
theorem d_jdk_52_method_21_31 : decode jdk_52_method_21_code 31 = .ok (.bastore, 1) := by decide +kernel
theorem d_jdk_52_method_21_32 : decode jdk_52_method_21_code 32 = .ok (.iinc 1 1, 3) := by decide +kernel
theorem d_jdk_52_method_21_35 : decode jdk_52_method_21_code 35 = .ok (.iinc 3 1, 3) := by decide +kernel
theorem d_jdk_52_method_21_38 : decode jdk_52_method_21_code 38 = .ok (.iinc 5 1, 3) := by decide +kernel
theorem d_jdk_52_method_21_41 : decode jdk_52_method_21_code 41 = .ok (.goto (-38), 3) := by decide +kernel
theorem d_jdk_52_method_21_44 : decode jdk_52_method_21_code 44 = .ok (.iload 4, 2) := by decide +kernel
theorem d_jdk_52_method_21_46 : decode jdk_52_method_21_code 46 = .ok (.ireturn, 1) := by decide +kernel
theorem ef_rmCmpL (m : MethodId) (x0 : Addr) (x1 : Int32) (x2 : Addr) (x3 : Int32) (x4 : Int32) : entryFrame m #[(.ref x0), (.int x1), (.ref x2), (.int x3), (.int x4)] 7 = mkF m 0 #[.val (.ref x0), .val (.int x1), .val (.ref x2), .val (.int x3), .val (.int x4), .unset, .unset] [] := by first | (simp [entryFrame, mkF, argsToLocals, Value.category]; done) | rfl
def Q_rmCmpL (Z : State) (ca : Addr) (ba : Addr) (cs : List Int32) (kc : ClassId) (n : Nat) (kb : ClassId) (vs : List Value) (h0 : Heap) (n0 : Nat) (v : Option Value) (h : Heap) (L : List Loc) : Prop := (v = some (.int (Int32.ofNat n))) ∧ (Fr n0 L) ∧ (Keep h0 h [ba]) ∧ (Arv Z h ba kb .byte (Int32.ofNat n) (own_mix (own_low cs) vs n) (.int (0 : Int32)))
set_option maxRecDepth 65536 in
set_option maxHeartbeats 40000000 in
theorem rmCmpL (l : Launch) (Z : State) (a0 : Array Value) (hw : ∀ d ∈ tables_1, d.before a0 Z = true) (ws : List Jvm.Cond) (ca : Addr) (ba : Addr) (cs : List Int32) (kc : ClassId) (n : Nat) (kb : ClassId) (vs : List Value) (h0 : Heap) (n0 : Nat) (Z0 : n0 ≤ h0.size) (I1 : Arv Z h0 ca kc .char (Int32.ofNat n) (cs.map Value.int) (.int (0 : Int32))) (I2 : Arv Z h0 ba kb .byte (Int32.ofNat n) vs (.int (0 : Int32))) (hn : cs.length = n) (hb : n ≤ 2) (hvs : vs.length = n) (gb : n0 ≤ ba) (hne : @Ne Nat ca ba) (hlat : own_lat cs) :
    MetFree l (⟨"java/lang/StringUTF16", "compress", "([CI[BII)I"⟩ : MethodName) (head1 (Jvm.Cond.code (⟨"java/lang/StringUTF16", "compress", "([CI[BII)I"⟩ : MethodName) jdk_52_method_21_code 7 (some .int) :: ws) ({ frames := 0, cells := 0, slots := 0, locals := 0 } : Room)) (fun ar_ U => ar_ = #[(.ref ca), (.int (0 : Int32)), (.ref ba), (.int (0 : Int32)), (.int (Int32.ofNat n))] ∧ Z.Warmed39 U.vm ∧ U.heap = h0) (fun _ _ _ _ _ => True) (fun _ U o U' => ∃ v L, o = .returned v ∧ Q_rmCmpL Z ca ba cs kc n kb vs h0 n0 v U'.heap L ∧ FrameEnd U o U' L ({ frames := 0, cells := 0, slots := 0, locals := 0 } : Room).cells ({ frames := 0, cells := 0, slots := 0, locals := 0 } : Room).slots) := by
  refine MetFree.of_bodySF (plainFor_of_name pn_java_lang_StringUTF16) hisR ?_
  intro p e s m args below meth c s₁ Bd hml0 hP hK
  obtain ⟨rfl, hZ, hh⟩ := hP
  have hx := Bd.exec
  have hby := Bd.bytes
  have hml : c.maxLocals = 7 := hml0
  have hown : s.vm.findClass "java/lang/StringUTF16" = some m.cls := findClass_of_methodNamed Bd.named
  have hnm := (name_of_methodNamed Bd.named Bd.method).1
  have X0 : Stand p l e ({ frames := 0, cells := 0, slots := 0, locals := 0 } : Room) s m #[(.ref ca), (.int (0 : Int32)), (.ref ba), (.int (0 : Int32)), (.int (Int32.ofNat n))] below meth c s₁ [] 0 0 := Stand.of_body Bd
  have e0 : s₁.heap = h0 := by rw [← hh, Bd.state]; rfl
  have N0 := Fr.nil n0
  have pre0 : ∀ t_, Steps p.tables e below (s₁.setTop (mkF m 0 #[.val (.ref ca), .val (.int (0 : Int32)), .val (.ref ba), .val (.int (0 : Int32)), .val (.int (Int32.ofNat n)), .unset, .unset] [])) t_ → Steps p.tables e below (s₁.setTop (entryFrame m #[(.ref ca), (.int (0 : Int32)), (.ref ba), (.int (0 : Int32)), (.int (Int32.ofNat n))] 7)) t_ := fun t_ k_ => castTop (ef_rmCmpL m ca (0 : Int32) ba (0 : Int32) (Int32.ofNat n)) k_
  have lt_I1 : @LT.lt Nat _ ca h0.size := I1.lt
  have lt_I2 : @LT.lt Nat _ ba h0.size := I2.lt
  have s1 : ∀ t_, Steps p.tables e below (s₁.setTop (mkF m 3 #[.val (.ref ca), .val (.int (0 : Int32)), .val (.ref ba), .val (.int (0 : Int32)), .val (.int (Int32.ofNat n)), .val (.int (0 : Int32)), .unset] [])) t_ → Steps p.tables e below (s₁.setTop (entryFrame m #[(.ref ca), (.int (0 : Int32)), (.ref ba), (.int (0 : Int32)), (.int (Int32.ofNat n))] 7)) t_ := fun t_ k_ => pre0 t_ (by
    show Steps p.tables e below (s₁.setTop (mkF m 0 #[.val (.ref ca), .val (.int (0 : Int32)), .val (.ref ba), .val (.int (0 : Int32)), .val (.int (Int32.ofNat n)), .unset, .unset] [])) t_
    refine XS.iconst X0.here hx rfl (Jvm.hb hby d_jdk_52_method_21_0) ?_
    refine XS.istore X0.here hx rfl (Jvm.hb hby d_jdk_52_method_21_1) rfl (l' := #[.val (.ref ca), .val (.int (0 : Int32)), .val (.ref ba), .val (.int (0 : Int32)), .val (.int (Int32.ofNat n)), .val (.int (0 : Int32)), .unset]) rfl ?_
    show Steps p.tables e below (s₁.setTop (mkF m 3 #[.val (.ref ca), .val (.int (0 : Int32)), .val (.ref ba), .val (.int (0 : Int32)), .val (.int (Int32.ofNat n)), .val (.int (0 : Int32)), .unset] [])) t_
    exact k_)
  have lp2 : ∀ (k_ : Nat) (j : Nat) (s6 : Slot) (T_ : State) (lo_ : List Loc) (hh2 : Heap), j + k_ = n → Stand p l e ({ frames := 0, cells := 0, slots := 0, locals := 0 } : Room) s m #[(.ref ca), (.int (0 : Int32)), (.ref ba), (.int (0 : Int32)), (.int (Int32.ofNat n))] below meth c T_ lo_ 0 0 → T_.heap = hh2 → Fr n0 lo_ → Keep h0 hh2 [ba] → Arv Z hh2 ba kb .byte (Int32.ofNat n) (own_mix (own_low cs) vs j) (.int (0 : Int32)) → (One s6) → ∃ (T' : State) (lo' : List Loc) (hx_ : Heap) (fe_ : JFrame), Stand p l e ({ frames := 0, cells := 0, slots := 0, locals := 0 } : Room) s m #[(.ref ca), (.int (0 : Int32)), (.ref ba), (.int (0 : Int32)), (.int (Int32.ofNat n))] below meth c T' lo' 0 0 ∧ T'.heap = hx_ ∧ Fr n0 lo' ∧ Keep h0 hx_ [ba] ∧ ((∃ (s6 : Slot), fe_ = (mkF m 44 #[.val (.ref ca), .val (.int (Int32.ofNat n)), .val (.ref ba), .val (.int (Int32.ofNat n)), .val (.int (Int32.ofNat n)), .val (.int (Int32.ofNat n)), s6] []) ∧ Arv Z hx_ ba kb .byte (Int32.ofNat n) (own_mix (own_low cs) vs n) (.int (0 : Int32)))) ∧ ∀ t_, Steps p.tables e below (T'.setTop fe_) t_ → Steps p.tables e below (T_.setTop (mkF m 3 #[.val (.ref ca), .val (.int (Int32.ofNat j)), .val (.ref ba), .val (.int (Int32.ofNat j)), .val (.int (Int32.ofNat n)), .val (.int (Int32.ofNat j)), s6] [])) t_ := by
    intro k_
    induction k_ with
    | zero => 
      intro j s6 T_ lo_ hh2 hm_ X_ e_ N_ K_ F_0 hs6
      have zk_ : h0.size ≤ hh2.size := K_.1
      have s3 : ∀ t_, Steps p.tables e below (T_.setTop (mkF m 44 #[.val (.ref ca), .val (.int (Int32.ofNat j)), .val (.ref ba), .val (.int (Int32.ofNat j)), .val (.int (Int32.ofNat n)), .val (.int (Int32.ofNat j)), s6] [])) t_ → Steps p.tables e below (T_.setTop (mkF m 3 #[.val (.ref ca), .val (.int (Int32.ofNat j)), .val (.ref ba), .val (.int (Int32.ofNat j)), .val (.int (Int32.ofNat n)), .val (.int (Int32.ofNat j)), s6] [])) t_ := fun t_ k_ => (fun _ k_ => k_) t_ (by
        show Steps p.tables e below (T_.setTop (mkF m 3 #[.val (.ref ca), .val (.int (Int32.ofNat j)), .val (.ref ba), .val (.int (Int32.ofNat j)), .val (.int (Int32.ofNat n)), .val (.int (Int32.ofNat j)), s6] [])) t_
        refine XS.iload X_.here hx rfl (Jvm.hb hby d_jdk_52_method_21_3) rfl ?_
        refine XS.iload X_.here hx rfl (Jvm.hb hby d_jdk_52_method_21_5) rfl ?_
        refine XS.icmpYes X_.here hx rfl (pc0 := 7) (pc' := 44) rfl (Jvm.hb hby d_jdk_52_method_21_7) rfl (flt (own_nlt (by omega) (by omega))).2.1 (by decide) (by decide) ?_
        show Steps p.tables e below (T_.setTop (mkF m 44 #[.val (.ref ca), .val (.int (Int32.ofNat j)), .val (.ref ba), .val (.int (Int32.ofNat j)), .val (.int (Int32.ofNat n)), .val (.int (Int32.ofNat j)), s6] [])) _
        show Steps p.tables e below (T_.setTop (mkF m 44 #[.val (.ref ca), .val (.int (Int32.ofNat j)), .val (.ref ba), .val (.int (Int32.ofNat j)), .val (.int (Int32.ofNat n)), .val (.int (Int32.ofNat j)), s6] [])) t_
        exact k_)
      exact ⟨T_, _, _, _, X_, e_, N_, ((Keep.refl h0 [ba]).trans K_ (allS (Or.inl (by simp)) all0)), ⟨s6, (by rw [show j = n by omega]), (by obtain rfl : j = n := (by omega); exact F_0)⟩, s3⟩
    | succ k_ ih => 
      intro j s6 T_ lo_ hh2 hm_ X_ e_ N_ K_ F_0 hs6
      have zk_ : h0.size ≤ hh2.size := K_.1
      have f4 : Arv Z hh2 ca kc .char (Int32.ofNat n) (cs.map Value.int) (.int (0 : Int32)) := (I1.keep K_ (ninS (show @Ne Nat ca ba by omega) nin0))
      obtain ⟨cl5, Ar5, -, S5, M5, H5, -⟩ := id f4
      have hin5 : ¬ ((Int32.ofNat j) < 0 ∨ cl5.slots.size ≤ ((Int32.ofNat j)).toNatClampNeg) := inb_of S5 (own_in (by omega) (by omega))
      have hat5 : cl5.slots[((Int32.ofNat j)).toNatClampNeg]? = some (.int (cs.getD j 0)) := H5.at hin5 (own_getc cs j _ (by omega) (by omega))
      obtain ⟨cl6, Ar6, q6, S6, M6, H6, G6⟩ := id F_0
      have hin6 : ¬ ((Int32.ofNat j) < 0 ∨ cl6.slots.size ≤ ((Int32.ofNat j)).toNatClampNeg) := inb_of S6 (own_in (by omega) (by omega))
      obtain ⟨T7, h7, X7, e7, W7, st7⟩ := stB X_ hx hZ e_ Ar6 (j := (Int32.ofNat j)) hin6 (g := (mkF m 31 #[.val (.ref ca), .val (.int (Int32.ofNat j)), .val (.ref ba), .val (.int (Int32.ofNat j)), .val (.int (Int32.ofNat n)), .val (.int (Int32.ofNat j)), .val (.int (cs.getD j 0))] [(.int (own_lo (cs.getD j 0))), (.int (Int32.ofNat j)), (.ref ba)])) rfl rfl (Jvm.hb hby d_jdk_52_method_21_31)
      have z8 : hh2.size ≤ h7.size := Nat.le_of_eq W7.size.symm
      have V7 : Arv Z h7 ba kb .byte (Int32.ofNat n) (own_mix (own_low cs) vs (j + 1)) (.int (0 : Int32)) := by
        have q : Arv Z h7 ba kb .byte (Int32.ofNat n) ((own_mix (own_low cs) vs j).set j (.int (nar .byte (own_lo (cs.getD j 0))))) (.int (0 : Int32)) := Arv.set Ar6 q6 S6 M6 H6 G6 (fits_nar_byte _) W7 j (own_tn (by omega)) (by rw [own_mixl _ _ _ (by rw [own_lowl]; omega)]; omega)
        rw [own_mixc cs vs j (by omega) (by omega)] at q
        exact q
      have N7 := Fr.snoc X7 N_ (show n0 ≤ ba by omega)
      have s9 : ∀ t_, Steps p.tables e below (T7.setTop (mkF m 3 #[.val (.ref ca), .val (.int ((Int32.ofNat j) + (1 : Int32))), .val (.ref ba), .val (.int ((Int32.ofNat j) + (1 : Int32))), .val (.int (Int32.ofNat n)), .val (.int ((Int32.ofNat j) + (1 : Int32))), .val (.int (cs.getD j 0))] [])) t_ → Steps p.tables e below (T_.setTop (mkF m 3 #[.val (.ref ca), .val (.int (Int32.ofNat j)), .val (.ref ba), .val (.int (Int32.ofNat j)), .val (.int (Int32.ofNat n)), .val (.int (Int32.ofNat j)), s6] [])) t_ := fun t_ k_ => (fun _ k_ => k_) t_ (by
        show Steps p.tables e below (T_.setTop (mkF m 3 #[.val (.ref ca), .val (.int (Int32.ofNat j)), .val (.ref ba), .val (.int (Int32.ofNat j)), .val (.int (Int32.ofNat n)), .val (.int (Int32.ofNat j)), s6] [])) t_
        refine XS.iload X_.here hx rfl (Jvm.hb hby d_jdk_52_method_21_3) rfl ?_
        refine XS.iload X_.here hx rfl (Jvm.hb hby d_jdk_52_method_21_5) rfl ?_
        refine XS.icmpNo X_.here hx rfl (Jvm.hb hby d_jdk_52_method_21_7) rfl (tlt (own_lt (by omega) (by omega))).2.1 ?_
        show Steps p.tables e below (T_.setTop (mkF m 10 #[.val (.ref ca), .val (.int (Int32.ofNat j)), .val (.ref ba), .val (.int (Int32.ofNat j)), .val (.int (Int32.ofNat n)), .val (.int (Int32.ofNat j)), s6] [])) _
        refine XS.aloadN X_.here hx rfl (Jvm.hb hby d_jdk_52_method_21_10) rfl rfl ?_
        refine XS.iloadN X_.here hx rfl (Jvm.hb hby d_jdk_52_method_21_11) rfl ?_
        refine X_.caload hx (j := (Int32.ofNat j)) (v := (.int (cs.getD j 0))) (by rw [e_]; exact Ar5.1) (State.isArrayOf_alike hZ.alike Ar5.2.1) Ar5.2.2 hin5 hat5 (g := (mkF m 12 #[.val (.ref ca), .val (.int (Int32.ofNat j)), .val (.ref ba), .val (.int (Int32.ofNat j)), .val (.int (Int32.ofNat n)), .val (.int (Int32.ofNat j)), s6] [(.int (Int32.ofNat j)), (.ref ca)])) rfl rfl (Jvm.hb hby d_jdk_52_method_21_12) _ ?_
        show Steps p.tables e below (T_.setTop (mkF m 13 #[.val (.ref ca), .val (.int (Int32.ofNat j)), .val (.ref ba), .val (.int (Int32.ofNat j)), .val (.int (Int32.ofNat n)), .val (.int (Int32.ofNat j)), s6] [(.int (cs.getD j 0))])) _
        refine XS.istore X_.here hx rfl (Jvm.hb hby d_jdk_52_method_21_13) rfl (l' := #[.val (.ref ca), .val (.int (Int32.ofNat j)), .val (.ref ba), .val (.int (Int32.ofNat j)), .val (.int (Int32.ofNat n)), .val (.int (Int32.ofNat j)), .val (.int (cs.getD j 0))]) (os_rmCmpL_13 hs6) ?_
        refine XS.iload X_.here hx rfl (Jvm.hb hby d_jdk_52_method_21_15) rfl ?_
        refine XS.sipush X_.here hx rfl (Jvm.hb hby d_jdk_52_method_21_17) ?_
        refine XS.icmpYes X_.here hx rfl (pc0 := 20) (pc' := 26) rfl (Jvm.hb hby d_jdk_52_method_21_20) rfl (flt (hlat _ (own_mem cs j (by omega)))).2.2.2 (by decide) (by decide) ?_
        show Steps p.tables e below (T_.setTop (mkF m 26 #[.val (.ref ca), .val (.int (Int32.ofNat j)), .val (.ref ba), .val (.int (Int32.ofNat j)), .val (.int (Int32.ofNat n)), .val (.int (Int32.ofNat j)), .val (.int (cs.getD j 0))] [])) _
        refine XS.aloadN X_.here hx rfl (Jvm.hb hby d_jdk_52_method_21_26) rfl rfl ?_
        refine XS.iloadN X_.here hx rfl (Jvm.hb hby d_jdk_52_method_21_27) rfl ?_
        refine XS.iload X_.here hx rfl (Jvm.hb hby d_jdk_52_method_21_28) rfl ?_
        refine XS.i2b X_.here hx rfl (Jvm.hb hby d_jdk_52_method_21_30) rfl ?_
        refine st7 _ ?_
        show Steps p.tables e below (T7.setTop (mkF m 32 #[.val (.ref ca), .val (.int (Int32.ofNat j)), .val (.ref ba), .val (.int (Int32.ofNat j)), .val (.int (Int32.ofNat n)), .val (.int (Int32.ofNat j)), .val (.int (cs.getD j 0))] [])) _
        refine XS.iinc X7.here hx rfl (Jvm.hb hby d_jdk_52_method_21_32) rfl (l' := #[.val (.ref ca), .val (.int ((Int32.ofNat j) + (1 : Int32))), .val (.ref ba), .val (.int (Int32.ofNat j)), .val (.int (Int32.ofNat n)), .val (.int (Int32.ofNat j)), .val (.int (cs.getD j 0))]) rfl ?_
        refine XS.iinc X7.here hx rfl (Jvm.hb hby d_jdk_52_method_21_35) rfl (l' := #[.val (.ref ca), .val (.int ((Int32.ofNat j) + (1 : Int32))), .val (.ref ba), .val (.int ((Int32.ofNat j) + (1 : Int32))), .val (.int (Int32.ofNat n)), .val (.int (Int32.ofNat j)), .val (.int (cs.getD j 0))]) rfl ?_
        refine XS.iinc X7.here hx rfl (Jvm.hb hby d_jdk_52_method_21_38) rfl (l' := #[.val (.ref ca), .val (.int ((Int32.ofNat j) + (1 : Int32))), .val (.ref ba), .val (.int ((Int32.ofNat j) + (1 : Int32))), .val (.int (Int32.ofNat n)), .val (.int ((Int32.ofNat j) + (1 : Int32))), .val (.int (cs.getD j 0))]) rfl ?_
        refine XS.goto X7.here hx rfl (pc0 := 41) (pc' := 3) rfl (Jvm.hb hby d_jdk_52_method_21_41) (by decide) (by decide) ?_
        show Steps p.tables e below (T7.setTop (mkF m 3 #[.val (.ref ca), .val (.int ((Int32.ofNat j) + (1 : Int32))), .val (.ref ba), .val (.int ((Int32.ofNat j) + (1 : Int32))), .val (.int (Int32.ofNat n)), .val (.int ((Int32.ofNat j) + (1 : Int32))), .val (.int (cs.getD j 0))] [])) t_
        exact k_)
      obtain ⟨T10, lo10, h10, fe10, X10, e10, N10, K10, A10, st10⟩ := ih (j + 1) (.val (.int (cs.getD j 0))) T7 _ h7 (by omega) X7 e7 N7 (((Keep.refl h0 [ba]).trans K_ (allS (Or.inl (by simp)) all0)).wr W7 (Or.inl (by simp))) V7 (One.val rfl)
      exact ⟨T10, lo10, h10, fe10, X10, e10, N10, K10, A10, fun t_ k_ => s9 t_ (castTop (by rw [own_up]) (st10 t_ k_))⟩
  obtain ⟨T11, lo11, h11, fe11, X11, e11, N11, K11, A11, st11⟩ := lp2 n 0 .unset s₁ _ h0 (by omega) X0 e0 N0 (Keep.refl _ _) (by rw [own_mix0]; exact I2) One.u
  have z12 : h0.size ≤ h11.size := K11.1
  obtain ⟨s6_11, rfl, G11_0⟩ := A11
  have s13 : ∀ t_, Steps p.tables e below (T11.setTop (mkF m 44 #[.val (.ref ca), .val (.int (Int32.ofNat n)), .val (.ref ba), .val (.int (Int32.ofNat n)), .val (.int (Int32.ofNat n)), .val (.int (Int32.ofNat n)), s6_11] [])) t_ → Steps p.tables e below (s₁.setTop (entryFrame m #[(.ref ca), (.int (0 : Int32)), (.ref ba), (.int (0 : Int32)), (.int (Int32.ofNat n))] 7)) t_ := fun t_ k_ => s1 t_ (st11 t_ k_)
  have s14 : ∀ t_, Steps p.tables e below (T11.setTop (mkF m 46 #[.val (.ref ca), .val (.int (Int32.ofNat n)), .val (.ref ba), .val (.int (Int32.ofNat n)), .val (.int (Int32.ofNat n)), .val (.int (Int32.ofNat n)), s6_11] [(.int (Int32.ofNat n))])) t_ → Steps p.tables e below (s₁.setTop (entryFrame m #[(.ref ca), (.int (0 : Int32)), (.ref ba), (.int (0 : Int32)), (.int (Int32.ofNat n))] 7)) t_ := fun t_ k_ => s13 t_ (by
    show Steps p.tables e below (T11.setTop (mkF m 44 #[.val (.ref ca), .val (.int (Int32.ofNat n)), .val (.ref ba), .val (.int (Int32.ofNat n)), .val (.int (Int32.ofNat n)), .val (.int (Int32.ofNat n)), s6_11] [])) t_
    refine XS.iload X11.here hx rfl (Jvm.hb hby d_jdk_52_method_21_44) rfl ?_
    show Steps p.tables e below (T11.setTop (mkF m 46 #[.val (.ref ca), .val (.int (Int32.ofNat n)), .val (.ref ba), .val (.int (Int32.ofNat n)), .val (.int (Int32.ofNat n)), .val (.int (Int32.ofNat n)), s6_11] [(.int (Int32.ofNat n))])) t_
    exact k_)
  obtain ⟨fs, hr, hrun, hended, hW, hsame⟩ := X11.leave (v := some (.int (Int32.ofNat n))) (fun h => by rw [Bd.returns] at h; cases h)
  refine ⟨_, _, s14 _ ?_, hrun, hended, _, _, rfl, ?_, ⟨_, rfl⟩, hW, hsame.mono (by decide) (by decide)⟩
  · show Steps p.tables e below (T11.setTop (mkF m 46 #[.val (.ref ca), .val (.int (Int32.ofNat n)), .val (.ref ba), .val (.int (Int32.ofNat n)), .val (.int (Int32.ofNat n)), .val (.int (Int32.ofNat n)), s6_11] [(.int (Int32.ofNat n))])) _
    exact retI X11 hx Bd.returns (Jvm.hb hby d_jdk_52_method_21_46) hr
  · show Q_rmCmpL Z _ _ _ _ _ _ _ h0 n0 _ T11.heap _
    rw [e11]
    exact ⟨rfl, N11, ((Keep.refl h0 [ba]).trans K11 (allS (Or.inl (by simp)) all0)), G11_0⟩
theorem d_jdk_52_method_15_0 : decode jdk_52_method_15_code 0 = .ok (.iload_n 1, 1) := by decide +kernel
theorem d_jdk_52_method_15_1 : decode jdk_52_method_15_code 1 = .ok (.aload_n 0, 1) := by decide +kernel
theorem d_jdk_52_method_15_2 : decode jdk_52_method_15_code 2 = .ok (.arraylength, 1) := by decide +kernel
theorem d_jdk_52_method_15_3 : decode jdk_52_method_15_code 3 = .ok (.isub, 1) := by decide +kernel
theorem d_jdk_52_method_15_4 : decode jdk_52_method_15_code 4 = .ok (.bipush 31, 2) := by decide +kernel
theorem d_jdk_52_method_15_6 : decode jdk_52_method_15_code 6 = .ok (.iushr, 1) := by decide +kernel
theorem d_jdk_52_method_15_7 : decode jdk_52_method_15_code 7 = .ok (.i2b, 1) := by decide +kernel
theorem d_jdk_52_method_15_8 : decode jdk_52_method_15_code 8 = .ok (.ireturn, 1) := by decide +kernel
theorem ef_rmCod (m : MethodId) (x0 : Addr) (x1 : Int32) : entryFrame m #[(.ref x0), (.int x1)] 2 = mkF m 0 #[.val (.ref x0), .val (.int x1)] [] := by first | (simp [entryFrame, mkF, argsToLocals, Value.category]; done) | rfl
def Q_rmCod (Z : State) (ba : Addr) (nn : Int32) (kb : ClassId) (zz : Int32) (vs : List Value) (h0 : Heap) (n0 : Nat) (v : Option Value) (h : Heap) (L : List Loc) : Prop := (v = some (.int (nar .byte (own_lo (ushr (nn - zz) (31 : Int32)))))) ∧ (Fr n0 L) ∧ (h = h0)
set_option maxRecDepth 65536 in
set_option maxHeartbeats 40000000 in
theorem rmCod (l : Launch) (Z : State) (a0 : Array Value) (hw : ∀ d ∈ tables_1, d.before a0 Z = true) (ws : List Jvm.Cond) (ba : Addr) (nn : Int32) (kb : ClassId) (zz : Int32) (vs : List Value) (h0 : Heap) (n0 : Nat) (Z0 : n0 ≤ h0.size) (I1 : Arv Z h0 ba kb .byte zz vs (.int (0 : Int32))) :
    MetFree l (⟨"java/lang/StringUTF16", "coderFromArrayLen", "([BI)B"⟩ : MethodName) (head1 (Jvm.Cond.code (⟨"java/lang/StringUTF16", "coderFromArrayLen", "([BI)B"⟩ : MethodName) jdk_52_method_15_code 2 (some .byte) :: ws) ({ frames := 0, cells := 0, slots := 0, locals := 0 } : Room)) (fun ar_ U => ar_ = #[(.ref ba), (.int nn)] ∧ Z.Warmed39 U.vm ∧ U.heap = h0) (fun _ _ _ _ _ => True) (fun _ U o U' => ∃ v L, o = .returned v ∧ Q_rmCod Z ba nn kb zz vs h0 n0 v U'.heap L ∧ FrameEnd U o U' L ({ frames := 0, cells := 0, slots := 0, locals := 0 } : Room).cells ({ frames := 0, cells := 0, slots := 0, locals := 0 } : Room).slots) := by
  refine MetFree.of_bodySF (plainFor_of_name pn_java_lang_StringUTF16) hisR ?_
  intro p e s m args below meth c s₁ Bd hml0 hP hK
  obtain ⟨rfl, hZ, hh⟩ := hP
  have hx := Bd.exec
  have hby := Bd.bytes
  have hml : c.maxLocals = 2 := hml0
  have hown : s.vm.findClass "java/lang/StringUTF16" = some m.cls := findClass_of_methodNamed Bd.named
  have hnm := (name_of_methodNamed Bd.named Bd.method).1
  have X0 : Stand p l e ({ frames := 0, cells := 0, slots := 0, locals := 0 } : Room) s m #[(.ref ba), (.int nn)] below meth c s₁ [] 0 0 := Stand.of_body Bd
  have e0 : s₁.heap = h0 := by rw [← hh, Bd.state]; rfl
  have N0 := Fr.nil n0
  have pre0 : ∀ t_, Steps p.tables e below (s₁.setTop (mkF m 0 #[.val (.ref ba), .val (.int nn)] [])) t_ → Steps p.tables e below (s₁.setTop (entryFrame m #[(.ref ba), (.int nn)] 2)) t_ := fun t_ k_ => castTop (ef_rmCod m ba nn) k_
  have lt_I1 : @LT.lt Nat _ ba h0.size := I1.lt
  obtain ⟨cl1, Ar1, -, S1, M1, -, -⟩ := id I1
  have s2 : ∀ t_, Steps p.tables e below (s₁.setTop (mkF m 8 #[.val (.ref ba), .val (.int nn)] [(.int (own_lo (ushr (nn - zz) (31 : Int32))))])) t_ → Steps p.tables e below (s₁.setTop (entryFrame m #[(.ref ba), (.int nn)] 2)) t_ := fun t_ k_ => pre0 t_ (by
    show Steps p.tables e below (s₁.setTop (mkF m 0 #[.val (.ref ba), .val (.int nn)] [])) t_
    refine XS.iloadN X0.here hx rfl (Jvm.hb hby d_jdk_52_method_15_0) rfl ?_
    refine XS.aloadN X0.here hx rfl (Jvm.hb hby d_jdk_52_method_15_1) rfl rfl ?_
    refine X0.arraylength hx (by rw [e0]; exact Ar1.1) (State.isArrayOf_alike hZ.alike Ar1.2.1) (g := (mkF m 2 #[.val (.ref ba), .val (.int nn)] [(.ref ba), (.int nn)])) rfl rfl (Jvm.hb hby d_jdk_52_method_15_2) _ ?_
    rw [len_of S1 M1]
    show Steps p.tables e below (s₁.setTop (mkF m 3 #[.val (.ref ba), .val (.int nn)] [(.int zz), (.int nn)])) _
    refine XS.isub X0.here hx rfl (Jvm.hb hby d_jdk_52_method_15_3) rfl ?_
    refine XS.bipush X0.here hx rfl (Jvm.hb hby d_jdk_52_method_15_4) ?_
    refine XS.iushr X0.here hx rfl (Jvm.hb hby d_jdk_52_method_15_6) rfl ?_
    refine XS.i2b X0.here hx rfl (Jvm.hb hby d_jdk_52_method_15_7) rfl ?_
    show Steps p.tables e below (s₁.setTop (mkF m 8 #[.val (.ref ba), .val (.int nn)] [(.int (own_lo (ushr (nn - zz) (31 : Int32))))])) t_
    exact k_)
  obtain ⟨fs, hr, hrun, hended, hW, hsame⟩ := X0.leave (v := some (.int (nar .byte (own_lo (ushr (nn - zz) (31 : Int32)))))) (fun h => by rw [Bd.returns] at h; cases h)
  refine ⟨_, _, s2 _ ?_, hrun, hended, _, _, rfl, ?_, ⟨_, rfl⟩, hW, hsame.mono (by decide) (by decide)⟩
  · show Steps p.tables e below (s₁.setTop (mkF m 8 #[.val (.ref ba), .val (.int nn)] [(.int (own_lo (ushr (nn - zz) (31 : Int32))))])) _
    exact retN X0 hx (t := .byte) Bd.returns (by simp) (Jvm.hb hby d_jdk_52_method_15_8) hr
  · show Q_rmCod Z _ _ _ _ _ h0 n0 _ s₁.heap _
    rw [e0]
    exact ⟨rfl, N0, rfl⟩
theorem d_jdk_52_method_16_0 : decode jdk_52_method_16_code 0 = .ok (.iload_n 2, 1) := by decide +kernel
theorem d_jdk_52_method_16_1 : decode jdk_52_method_16_code 1 = .ok (.newarray .byte, 2) := by decide +kernel
theorem d_jdk_52_method_16_3 : decode jdk_52_method_16_code 3 = .ok (.astore_n 3, 1) := by decide +kernel
theorem d_jdk_52_method_16_4 : decode jdk_52_method_16_code 4 = .ok (.aload_n 0, 1) := by decide +kernel
theorem d_jdk_52_method_16_5 : decode jdk_52_method_16_code 5 = .ok (.iload_n 1, 1) := by decide +kernel
theorem d_jdk_52_method_16_6 : decode jdk_52_method_16_code 6 = .ok (.aload_n 3, 1) := by decide +kernel
theorem d_jdk_52_method_16_7 : decode jdk_52_method_16_code 7 = .ok (.iconst 0, 1) := by decide +kernel
theorem d_jdk_52_method_16_8 : decode jdk_52_method_16_code 8 = .ok (.iload_n 2, 1) := by decide +kernel
theorem pd___CI_BII_I : parseMethodDescriptor "([CI[BII)I" = some ⟨[(.array .char), .int, (.array .byte), .int, .int], some .int⟩ := by decide +kernel
theorem d_jdk_52_method_16_9 : decode jdk_52_method_16_code 9 = .ok (.invokestatic 115, 3) := by decide +kernel
theorem d_jdk_52_method_16_12 : decode jdk_52_method_16_code 12 = .ok (.istore 4, 2) := by decide +kernel
theorem d_jdk_52_method_16_14 : decode jdk_52_method_16_code 14 = .ok (.iload 4, 2) := by decide +kernel
theorem d_jdk_52_method_16_16 : decode jdk_52_method_16_code 16 = .ok (.iload_n 2, 1) := by decide +kernel
theorem d_jdk_52_method_16_17 : decode jdk_52_method_16_code 17 = .ok (.if_icmp .eq 40, 3) := by decide +kernel
theorem d_jdk_52_method_16_57 : decode jdk_52_method_16_code 57 = .ok (.aload_n 3, 1) := by decide +kernel
theorem d_jdk_52_method_16_58 : decode jdk_52_method_16_code 58 = .ok (.areturn, 1) := by decide +kernel
theorem ef_rmComp (m : MethodId) (x0 : Addr) (x1 : Int32) (x2 : Int32) : entryFrame m #[(.ref x0), (.int x1), (.int x2)] 6 = mkF m 0 #[.val (.ref x0), .val (.int x1), .val (.int x2), .unset, .unset, .unset] [] := by first | (simp [entryFrame, mkF, argsToLocals, Value.category]; done) | rfl
def Q_rmComp (Z : State) (ca : Addr) (cs : List Int32) (kc : ClassId) (n : Nat) (h0 : Heap) (n0 : Nat) (v : Option Value) (h : Heap) (L : List Loc) : Prop := ∃ (b : Addr), ∃ (kb : ClassId), (v = some (.ref b)) ∧ (Fr n0 L) ∧ (Keep h0 h []) ∧ (Arv Z h b kb .byte (Int32.ofNat (own_enl cs)) (own_enc cs) (.int (0 : Int32))) ∧ (h0.size ≤ b)
set_option maxRecDepth 65536 in
set_option maxHeartbeats 40000000 in
theorem rmComp (l : Launch) (Z : State) (a0 : Array Value) (hw : ∀ d ∈ tables_1, d.before a0 Z = true) (ws : List Jvm.Cond) (ca : Addr) (cs : List Int32) (kc : ClassId) (n : Nat) (h0 : Heap) (n0 : Nat) (Z0 : n0 ≤ h0.size) (I1 : Arv Z h0 ca kc .char (Int32.ofNat n) (cs.map Value.int) (.int (0 : Int32))) (hn : cs.length = n) (hb : n ≤ 2) (hlat : own_lat cs) :
    MetFree l (⟨"java/lang/StringUTF16", "compress", "([CII)[B"⟩ : MethodName) (head1 (Jvm.Cond.code (⟨"java/lang/StringUTF16", "compress", "([CII)[B"⟩ : MethodName) jdk_52_method_16_code 6 (some (.array .byte)) :: ws) ({ frames := 1, cells := 1, slots := 2, locals := 18 } : Room)) (fun ar_ U => ar_ = #[(.ref ca), (.int (0 : Int32)), (.int (Int32.ofNat n))] ∧ Z.Warmed39 U.vm ∧ U.heap = h0) (fun _ _ _ _ _ => True) (fun _ U o U' => ∃ v L, o = .returned v ∧ Q_rmComp Z ca cs kc n h0 n0 v U'.heap L ∧ FrameEnd U o U' L ({ frames := 1, cells := 1, slots := 2, locals := 18 } : Room).cells ({ frames := 1, cells := 1, slots := 2, locals := 18 } : Room).slots) := by
  refine MetFree.of_bodySF (plainFor_of_name pn_java_lang_StringUTF16) hisR ?_
  intro p e s m args below meth c s₁ Bd hml0 hP hK
  obtain ⟨rfl, hZ, hh⟩ := hP
  have hx := Bd.exec
  have hby := Bd.bytes
  have hml : c.maxLocals = 6 := hml0
  have hown : s.vm.findClass "java/lang/StringUTF16" = some m.cls := findClass_of_methodNamed Bd.named
  have hnm := (name_of_methodNamed Bd.named Bd.method).1
  have X0 : Stand p l e ({ frames := 1, cells := 1, slots := 2, locals := 18 } : Room) s m #[(.ref ca), (.int (0 : Int32)), (.int (Int32.ofNat n))] below meth c s₁ [] 0 0 := Stand.of_body Bd
  have e0 : s₁.heap = h0 := by rw [← hh, Bd.state]; rfl
  have N0 := Fr.nil n0
  have pre0 : ∀ t_, Steps p.tables e below (s₁.setTop (mkF m 0 #[.val (.ref ca), .val (.int (0 : Int32)), .val (.int (Int32.ofNat n)), .unset, .unset, .unset] [])) t_ → Steps p.tables e below (s₁.setTop (entryFrame m #[(.ref ca), (.int (0 : Int32)), (.int (Int32.ofNat n))] 6)) t_ := fun t_ k_ => castTop (ef_rmComp m ca (0 : Int32) (Int32.ofNat n)) k_
  have lt_I1 : @LT.lt Nat _ ca h0.size := I1.lt
  obtain ⟨T1, h1, k1, X1, e1, E1, A1, st1⟩ := newP X0 hx hZ (hw _ (List.mem_of_getElem? (i := 30) rfl)) e0 (g := (mkF m 1 #[.val (.ref ca), .val (.int (0 : Int32)), .val (.int (Int32.ofNat n)), .unset, .unset, .unset] [(.int (Int32.ofNat n))])) rfl (Jvm.hb hby d_jdk_52_method_16_1) rfl (own_nn (by omega)) (cap := 2) (by rw [own_tn (by omega)]; omega) (by decide) (by decide) (by decide)
  obtain ⟨b1, g1⟩ : ∃ z, z = h0.size := ⟨_, rfl⟩
  rw [← g1] at A1 st1
  have z2 : h0.size ≤ h1.size := E1.1
  have l1 : b1 < h1.size := A1.lt
  have V1 : Arv Z h1 b1 k1 .byte (Int32.ofNat n) (List.replicate n (.int (0 : Int32))) (.int (0 : Int32)) := (Arv.new A1 (own_nn (by omega))).pad (pad_rep [] _ n)
  have f3 : Arv Z h1 ca kc .char (Int32.ofNat n) (cs.map Value.int) (.int (0 : Int32)) := (I1.ext E1)
  have Zc4 : n0 ≤ h1.size := by omega
  obtain ⟨_, _, ⟨T5, L5, k5, n5⟩, -, X5, ⟨Lc5, hQ5, l5, y5, z5⟩, st5⟩ := Jvm.LawKit.callS X1 hx (y := (⟨"java/lang/StringUTF16", "compress", "([CI[BII)I"⟩ : MethodName)) hown (mvT hZ (hw _ (List.mem_of_getElem? (i := 31) rfl))) (mvT hZ (hw _ (List.mem_of_getElem? (i := 32) rfl))) (mvT hZ (hw _ (List.mem_of_getElem? (i := 28) rfl))) (mvT hZ (hw _ (List.mem_of_getElem? (i := 33) rfl))) (by decide) (backOf (W := 0) (rmCmpL l Z a0 hw [] ca b1 cs kc n k1 (List.replicate n (.int (0 : Int32))) h1 n0 Zc4 f3 V1 (hn : cs.length = n) (hb : n ≤ 2) (by simp) (by first | assumption | rfl | decide | omega : n0 ≤ b1) (by first | assumption | rfl | decide | omega : @Ne Nat ca b1) (hlat : own_lat cs)) hZ (hw _ (List.mem_of_getElem? (i := 33) rfl)) (hw _ (List.mem_of_getElem? (i := 28) rfl)) (by decide) (by decide)) (g := (mkF m 9 #[.val (.ref ca), .val (.int (0 : Int32)), .val (.int (Int32.ofNat n)), .val (.ref b1), .unset, .unset] [(.int (Int32.ofNat n)), (.int (0 : Int32)), (.ref b1), (.int (0 : Int32)), (.ref ca)])) rfl (by rw [hml]; rfl) (argsL := [(.ref ca), (.int (0 : Int32)), (.ref b1), (.int (0 : Int32)), (.int (Int32.ofNat n))]) (rest := []) (lenOf pd___CI_BII_I rfl) rfl (by show 2 * 0 + _ ≤ _; exact Nat.le_of_eq rfl) (Jvm.hb hby d_jdk_52_method_16_9) (fun _ _ => ⟨rfl, e1, (by decide : 1 + 0 ≤ _), (by decide : 2 + 0 ≤ _)⟩)
  dsimp only [Pt.U, Pt.locs, Pt.cells, Pt.slots] at X5 l5 y5 z5 st5 hQ5
  subst l5 y5 z5
  obtain ⟨rfl, N5q, K5, Fq5_0⟩ := hQ5
  have N5 := Fr.app N0 N5q
  obtain ⟨h5, e5⟩ : ∃ z, T5.heap = z := ⟨_, rfl⟩
  rw [e5] at K5 Fq5_0
  have z6 : h1.size ≤ h5.size := K5.1
  have lt5_0 : @LT.lt Nat _ b1 h5.size := Fq5_0.lt
  have s7 : ∀ t_, Steps p.tables e below (T5.setTop (mkF m 58 #[.val (.ref ca), .val (.int (0 : Int32)), .val (.int (Int32.ofNat n)), .val (.ref b1), .val (.int (Int32.ofNat n)), .unset] [(.ref b1)])) t_ → Steps p.tables e below (s₁.setTop (entryFrame m #[(.ref ca), (.int (0 : Int32)), (.int (Int32.ofNat n))] 6)) t_ := fun t_ k_ => pre0 t_ (by
    show Steps p.tables e below (s₁.setTop (mkF m 0 #[.val (.ref ca), .val (.int (0 : Int32)), .val (.int (Int32.ofNat n)), .unset, .unset, .unset] [])) t_
    refine XS.iloadN X0.here hx rfl (Jvm.hb hby d_jdk_52_method_16_0) rfl ?_
    refine st1 _ ?_
    show Steps p.tables e below (T1.setTop (mkF m 3 #[.val (.ref ca), .val (.int (0 : Int32)), .val (.int (Int32.ofNat n)), .unset, .unset, .unset] [(.ref b1)])) _
    refine XS.astoreN X1.here hx rfl (Jvm.hb hby d_jdk_52_method_16_3) rfl rfl (l' := #[.val (.ref ca), .val (.int (0 : Int32)), .val (.int (Int32.ofNat n)), .val (.ref b1), .unset, .unset]) rfl ?_
    refine XS.aloadN X1.here hx rfl (Jvm.hb hby d_jdk_52_method_16_4) rfl rfl ?_
    refine XS.iloadN X1.here hx rfl (Jvm.hb hby d_jdk_52_method_16_5) rfl ?_
    refine XS.aloadN X1.here hx rfl (Jvm.hb hby d_jdk_52_method_16_6) rfl rfl ?_
    refine XS.iconst X1.here hx rfl (Jvm.hb hby d_jdk_52_method_16_7) ?_
    refine XS.iloadN X1.here hx rfl (Jvm.hb hby d_jdk_52_method_16_8) rfl ?_
    show Steps p.tables e below (T1.setTop (mkF m 9 #[.val (.ref ca), .val (.int (0 : Int32)), .val (.int (Int32.ofNat n)), .val (.ref b1), .unset, .unset] [(.int (Int32.ofNat n)), (.int (0 : Int32)), (.ref b1), (.int (0 : Int32)), (.ref ca)])) _
    refine st5 _ ?_
    show Steps p.tables e below (T5.setTop (mkF m 12 #[.val (.ref ca), .val (.int (0 : Int32)), .val (.int (Int32.ofNat n)), .val (.ref b1), .unset, .unset] [(.int (Int32.ofNat n))])) _
    refine XS.istore X5.here hx rfl (Jvm.hb hby d_jdk_52_method_16_12) rfl (l' := #[.val (.ref ca), .val (.int (0 : Int32)), .val (.int (Int32.ofNat n)), .val (.ref b1), .val (.int (Int32.ofNat n)), .unset]) rfl ?_
    refine XS.iload X5.here hx rfl (Jvm.hb hby d_jdk_52_method_16_14) rfl ?_
    refine XS.iloadN X5.here hx rfl (Jvm.hb hby d_jdk_52_method_16_16) rfl ?_
    refine XS.icmpYes X5.here hx rfl (pc0 := 17) (pc' := 57) rfl (Jvm.hb hby d_jdk_52_method_16_17) rfl (teq rfl).1 (by decide) (by decide) ?_
    show Steps p.tables e below (T5.setTop (mkF m 57 #[.val (.ref ca), .val (.int (0 : Int32)), .val (.int (Int32.ofNat n)), .val (.ref b1), .val (.int (Int32.ofNat n)), .unset] [])) _
    refine XS.aloadN X5.here hx rfl (Jvm.hb hby d_jdk_52_method_16_57) rfl rfl ?_
    show Steps p.tables e below (T5.setTop (mkF m 58 #[.val (.ref ca), .val (.int (0 : Int32)), .val (.int (Int32.ofNat n)), .val (.ref b1), .val (.int (Int32.ofNat n)), .unset] [(.ref b1)])) t_
    exact k_)
  obtain ⟨fs, hr, hrun, hended, hW, hsame⟩ := X5.leave (v := some (.ref b1)) (fun h => by rw [Bd.returns] at h; cases h)
  refine ⟨_, _, s7 _ ?_, hrun, hended, _, _, rfl, ?_, ⟨_, rfl⟩, hW, hsame.mono (by decide) (by decide)⟩
  · show Steps p.tables e below (T5.setTop (mkF m 58 #[.val (.ref ca), .val (.int (0 : Int32)), .val (.int (Int32.ofNat n)), .val (.ref b1), .val (.int (Int32.ofNat n)), .unset] [(.ref b1)])) _
    jvm_step X5.here [X5.here.top, hx, (Jvm.hb hby d_jdk_52_method_16_58), X5.method', Bd.returns, Value.isRef, FieldType.isReference]
    first | (intro acts; rw [hr _ acts rfl rfl rfl]) | rw [hr _ _ rfl rfl rfl]
    exact Steps.refl _
  · show Q_rmComp Z _ _ _ _ h0 n0 _ T5.heap _
    rw [e5]
    exact ⟨b1, k1, rfl, N5, (((Keep.refl h0 []).ext E1).trans K5 (allS (Or.inr (show h0.size ≤ b1 by omega)) all0)), (own_fixL hlat Fq5_0 hn (by simp)), by omega⟩
theorem pn_java_lang_String : plainName "java/lang/String" = true := by first | (simp [plainName, overriddenIn]; done) | decide +kernel
theorem d_jdk_42_method_149_0 : decode jdk_42_method_149_code 0 = .ok (.aload_n 0, 1) := by decide +kernel
theorem d_jdk_42_method_149_1 : decode jdk_42_method_149_code 1 = .ok (.invokespecial 1, 3) := by decide +kernel
theorem d_jdk_42_method_149_4 : decode jdk_42_method_149_code 4 = .ok (.iload_n 3, 1) := by decide +kernel
theorem d_jdk_42_method_149_5 : decode jdk_42_method_149_code 5 = .ok (.ifCond .ne 22, 3) := by decide +kernel
theorem d_jdk_42_method_149_27 : decode jdk_42_method_149_code 27 = .ok (.getstatic 38, 3) := by decide +kernel
theorem d_jdk_42_method_149_30 : decode jdk_42_method_149_code 30 = .ok (.ifCond .eq 28, 3) := by decide +kernel
theorem d_jdk_42_method_149_33 : decode jdk_42_method_149_code 33 = .ok (.aload_n 1, 1) := by decide +kernel
theorem d_jdk_42_method_149_34 : decode jdk_42_method_149_code 34 = .ok (.iload_n 2, 1) := by decide +kernel
theorem d_jdk_42_method_149_35 : decode jdk_42_method_149_code 35 = .ok (.iload_n 3, 1) := by decide +kernel
theorem pd___CII__B : parseMethodDescriptor "([CII)[B" = some ⟨[(.array .char), .int, .int], some (.array .byte)⟩ := by decide +kernel
theorem d_jdk_42_method_149_36 : decode jdk_42_method_149_code 36 = .ok (.invokestatic 177, 3) := by decide +kernel
theorem d_jdk_42_method_149_39 : decode jdk_42_method_149_code 39 = .ok (.astore 5, 2) := by decide +kernel
theorem d_jdk_42_method_149_41 : decode jdk_42_method_149_code 41 = .ok (.aload_n 0, 1) := by decide +kernel
theorem d_jdk_42_method_149_42 : decode jdk_42_method_149_code 42 = .ok (.aload 5, 2) := by decide +kernel
theorem d_jdk_42_method_149_44 : decode jdk_42_method_149_code 44 = .ok (.iload_n 3, 1) := by decide +kernel
theorem pd___BI_B : parseMethodDescriptor "([BI)B" = some ⟨[(.array .byte), .int], some .byte⟩ := by decide +kernel
theorem d_jdk_42_method_149_45 : decode jdk_42_method_149_code 45 = .ok (.invokestatic 47, 3) := by decide +kernel
theorem d_jdk_42_method_149_48 : decode jdk_42_method_149_code 48 = .ok (.putfield 15, 3) := by decide +kernel
theorem d_jdk_42_method_149_51 : decode jdk_42_method_149_code 51 = .ok (.aload_n 0, 1) := by decide +kernel
theorem d_jdk_42_method_149_52 : decode jdk_42_method_149_code 52 = .ok (.aload 5, 2) := by decide +kernel
theorem d_jdk_42_method_149_54 : decode jdk_42_method_149_code 54 = .ok (.putfield 9, 3) := by decide +kernel
theorem d_jdk_42_method_149_57 : decode jdk_42_method_149_code 57 = .ok (.return_, 1) := by decide +kernel
theorem ef_rmIni4 (m : MethodId) (x0 : Addr) (x1 : Addr) (x2 : Int32) (x3 : Int32) : entryFrame m #[(.ref x0), (.ref x1), (.int x2), (.int x3), .null] 6 = mkF m 0 #[.val (.ref x0), .val (.ref x1), .val (.int x2), .val (.int x3), .val .null, .unset] [] := by first | (simp [entryFrame, mkF, argsToLocals, Value.category]; done) | rfl
def Q_rmIni4 (Z : State) (a : Addr) (ca : Addr) (cst : Int32) (cs : List Int32) (kc : ClassId) (n : Nat) (h0 : Heap) (n0 : Nat) (v : Option Value) (h : Heap) (L : List Loc) : Prop := ∃ (b : Addr), ∃ (kb : ClassId), (v = none) ∧ (Fr n0 L) ∧ (Keep h0 h [a]) ∧ (Exa Z h a "java/lang/String") ∧ (Fld Z h a "java/lang/String" "value" "[B" (.ref b)) ∧ (Fld Z h a "java/lang/String" "coder" "B" (.int (own_cod cs))) ∧ (Arv Z h b kb .byte (Int32.ofNat (own_enl cs)) (own_enc cs) (.int (0 : Int32))) ∧ (h0.size ≤ b)
set_option maxRecDepth 65536 in
set_option maxHeartbeats 40000000 in
theorem rmIni4 (l : Launch) (Z : State) (a0 : Array Value) (hw : ∀ d ∈ tables_1, d.before a0 Z = true) (ws : List Jvm.Cond) (a : Addr) (ca : Addr) (cst : Int32) (cs : List Int32) (kc : ClassId) (n : Nat) (h0 : Heap) (n0 : Nat) (Z0 : n0 ≤ h0.size) (I1 : Sta Z Z.heap "java/lang/String" "COMPACT_STRINGS" "Z" (.int cst)) (OX : Old Z n0 h0) (hcst : ¬ (cst = (0 : Int32))) (I2 : Exa Z h0 a "java/lang/String") (I3 : Fld Z h0 a "java/lang/String" "value" "[B" .null) (I4 : Fld Z h0 a "java/lang/String" "coder" "B" (.int (0 : Int32))) (I5 : Arv Z h0 ca kc .char (Int32.ofNat n) (cs.map Value.int) (.int (0 : Int32))) (hn : cs.length = n) (hb : n ≤ 2) (hpos : 0 < n) (hlat : own_lat cs) (ga : n0 ≤ a) (hac : @Ne Nat a ca) :
    MetFree l (⟨"java/lang/String", "<init>", "([CIILjava/lang/Void;)V"⟩ : MethodName) (head1 (Jvm.Cond.code (⟨"java/lang/String", "<init>", "([CIILjava/lang/Void;)V"⟩ : MethodName) jdk_42_method_149_code 6 none :: ws) ({ frames := 2, cells := 1, slots := 2, locals := 35 } : Room)) (fun ar_ U => ar_ = #[(.ref a), (.ref ca), (.int (0 : Int32)), (.int (Int32.ofNat n)), .null] ∧ Z.Warmed39 U.vm ∧ U.heap = h0) (fun _ _ _ _ _ => True) (fun _ U o U' => ∃ v L, o = .returned v ∧ Q_rmIni4 Z a ca cst cs kc n h0 n0 v U'.heap L ∧ FrameEnd U o U' L ({ frames := 2, cells := 1, slots := 2, locals := 35 } : Room).cells ({ frames := 2, cells := 1, slots := 2, locals := 35 } : Room).slots) := by
  refine MetFree.of_bodySF (plainFor_of_name pn_java_lang_String) hisR ?_
  intro p e s m args below meth c s₁ Bd hml0 hP hK
  obtain ⟨rfl, hZ, hh⟩ := hP
  have hx := Bd.exec
  have hby := Bd.bytes
  have hml : c.maxLocals = 6 := hml0
  have hown : s.vm.findClass "java/lang/String" = some m.cls := findClass_of_methodNamed Bd.named
  have hnm := (name_of_methodNamed Bd.named Bd.method).1
  have X0 : Stand p l e ({ frames := 2, cells := 1, slots := 2, locals := 35 } : Room) s m #[(.ref a), (.ref ca), (.int (0 : Int32)), (.int (Int32.ofNat n)), .null] below meth c s₁ [] 0 0 := Stand.of_body Bd
  have e0 : s₁.heap = h0 := by rw [← hh, Bd.state]; rfl
  have N0 := Fr.nil n0
  have pre0 : ∀ t_, Steps p.tables e below (s₁.setTop (mkF m 0 #[.val (.ref a), .val (.ref ca), .val (.int (0 : Int32)), .val (.int (Int32.ofNat n)), .val .null, .unset] [])) t_ → Steps p.tables e below (s₁.setTop (entryFrame m #[(.ref a), (.ref ca), (.int (0 : Int32)), (.int (Int32.ofNat n)), .null] 6)) t_ := fun t_ k_ => castTop (ef_rmIni4 m a ca (0 : Int32) (Int32.ofNat n)) k_
  have lt_I2 : @LT.lt Nat _ a h0.size := I2.lt
  have lt_I3 : @LT.lt Nat _ a h0.size := I3.lt
  have lt_I4 : @LT.lt Nat _ a h0.size := I4.lt
  have lt_I5 : @LT.lt Nat _ ca h0.size := I5.lt
  obtain ⟨T1, X1, e1, st1⟩ := initO X0 hx hZ hown (hw _ (List.mem_of_getElem? (i := 22) rfl)) (hw _ (List.mem_of_getElem? (i := 23) rfl)) (hw _ (List.mem_of_getElem? (i := 24) rfl)) e0 (g := (mkF m 1 #[.val (.ref a), .val (.ref ca), .val (.int (0 : Int32)), .val (.int (Int32.ofNat n)), .val .null, .unset] [(.ref a)])) rfl (by rw [hml]; rfl) rfl (Jvm.hb hby d_jdk_42_method_149_1) (by decide) (W := 0) (by show 2 * 0 + _ ≤ _; exact Nat.le_of_eq rfl) (by decide)
  obtain ⟨T2, X2, e2, st2⟩ := getS2 X1 hx hZ hown (host := "") (Or.inl (hw _ (List.mem_of_getElem? (i := 25) rfl))) Via.refl e1 (I1.ext OX.2) (g := (mkF m 27 #[.val (.ref a), .val (.ref ca), .val (.int (0 : Int32)), .val (.int (Int32.ofNat n)), .val .null, .unset] [])) rfl (Jvm.hb hby d_jdk_42_method_149_27)
  have Zc3 : n0 ≤ h0.size := by omega
  obtain ⟨_, _, ⟨T4, L4, k4, n4⟩, -, X4, ⟨Lc4, hQ4, l4, y4, z4⟩, st4⟩ := Jvm.LawKit.callS X2 hx (y := (⟨"java/lang/StringUTF16", "compress", "([CII)[B"⟩ : MethodName)) hown (mvT hZ (hw _ (List.mem_of_getElem? (i := 26) rfl))) (mvT hZ (hw _ (List.mem_of_getElem? (i := 27) rfl))) (mvT hZ (hw _ (List.mem_of_getElem? (i := 28) rfl))) (mvT hZ (hw _ (List.mem_of_getElem? (i := 29) rfl))) (by decide) (backOf (W := 0) (rmComp l Z a0 hw [] ca cs kc n h0 n0 Zc3 I5 (hn : cs.length = n) (hb : n ≤ 2) (hlat : own_lat cs)) hZ (hw _ (List.mem_of_getElem? (i := 29) rfl)) (hw _ (List.mem_of_getElem? (i := 28) rfl)) (by decide) (by decide)) (g := (mkF m 36 #[.val (.ref a), .val (.ref ca), .val (.int (0 : Int32)), .val (.int (Int32.ofNat n)), .val .null, .unset] [(.int (Int32.ofNat n)), (.int (0 : Int32)), (.ref ca)])) rfl (by rw [hml]; rfl) (argsL := [(.ref ca), (.int (0 : Int32)), (.int (Int32.ofNat n))]) (rest := []) (lenOf pd___CII__B rfl) rfl (by show 2 * 0 + _ ≤ _; exact Nat.le_of_eq rfl) (Jvm.hb hby d_jdk_42_method_149_36) (fun _ _ => ⟨rfl, e2, (by decide : 0 + 1 ≤ _), (by decide : 0 + 2 ≤ _)⟩)
  dsimp only [Pt.U, Pt.locs, Pt.cells, Pt.slots] at X4 l4 y4 z4 st4 hQ4
  subst l4 y4 z4
  obtain ⟨b_4, kb_4, rfl, N4q, K4, Fq4_0, P4_0⟩ := hQ4
  have N4 := Fr.app N0 N4q
  obtain ⟨h4, e4⟩ : ∃ z, T4.heap = z := ⟨_, rfl⟩
  rw [e4] at K4 Fq4_0
  have z5 : h0.size ≤ h4.size := K4.1
  have lt4_0 : @LT.lt Nat _ b_4 h4.size := Fq4_0.lt
  have Zc6 : n0 ≤ h4.size := by omega
  obtain ⟨_, _, ⟨T7, L7, k7, n7⟩, -, X7, ⟨Lc7, hQ7, l7, y7, z7⟩, st7⟩ := Jvm.LawKit.callS X4 hx (y := (⟨"java/lang/StringUTF16", "coderFromArrayLen", "([BI)B"⟩ : MethodName)) hown (mvT hZ (hw _ (List.mem_of_getElem? (i := 34) rfl))) (mvT hZ (hw _ (List.mem_of_getElem? (i := 35) rfl))) (mvT hZ (hw _ (List.mem_of_getElem? (i := 28) rfl))) (mvT hZ (hw _ (List.mem_of_getElem? (i := 36) rfl))) (by decide) (backOf (W := 1) (rmCod l Z a0 hw [] b_4 (Int32.ofNat n) kb_4 (Int32.ofNat (own_enl cs)) (own_enc cs) h4 n0 Zc6 Fq4_0) hZ (hw _ (List.mem_of_getElem? (i := 36) rfl)) (hw _ (List.mem_of_getElem? (i := 28) rfl)) (by decide) (by decide)) (g := (mkF m 45 #[.val (.ref a), .val (.ref ca), .val (.int (0 : Int32)), .val (.int (Int32.ofNat n)), .val .null, .val (.ref b_4)] [(.int (Int32.ofNat n)), (.ref b_4), (.ref a)])) rfl (by rw [hml]; rfl) (argsL := [(.ref b_4), (.int (Int32.ofNat n))]) (rest := [(.ref a)]) (lenOf pd___BI_B rfl) rfl (by show 2 * 0 + _ ≤ _; exact Nat.le_of_eq rfl) (Jvm.hb hby d_jdk_42_method_149_45) (fun _ _ => ⟨rfl, e4, (by decide : 1 + 0 ≤ _), (by decide : 2 + 0 ≤ _)⟩)
  dsimp only [Pt.U, Pt.locs, Pt.cells, Pt.slots] at X7 l7 y7 z7 st7 hQ7
  subst l7 y7 z7
  obtain ⟨rfl, N7q, e7⟩ := hQ7
  have N7 := Fr.app N4 N7q
  have f8 : Exa Z h4 a "java/lang/String" := (I2.keep K4)
  have f9 : Fld Z h4 a "java/lang/String" "coder" "B" (.int (0 : Int32)) := (I4.keep K4 nin0)
  obtain ⟨T10, h10, X10, e10, W10, st10⟩ := putFN X7 hx hZ hown (hw _ (List.mem_of_getElem? (i := 37) rfl)) Via.refl e7 f9 f8 (Or.inr ⟨(hw _ (List.mem_of_getElem? (i := 38) rfl)), rfl, hnm⟩) (hw _ (List.mem_of_getElem? (i := 12) rfl)) (ty := .byte) (v' := (.int (own_cod cs))) (by decide) (own_cnar cs) (own_cfit cs) (g := (mkF m 48 #[.val (.ref a), .val (.ref ca), .val (.int (0 : Int32)), .val (.int (Int32.ofNat n)), .val .null, .val (.ref b_4)] [(.int (own_cod cs)), (.ref a)])) rfl rfl (Jvm.hb hby d_jdk_42_method_149_48)
  have z11 : h4.size ≤ h10.size := Nat.le_of_eq W10.size.symm
  have F10 : Fld Z h10 a "java/lang/String" "coder" "B" (.int (own_cod cs)) := f9.same W10
  have N10 := Fr.snoc X10 N7 (show n0 ≤ a by omega)
  have f12 : Exa Z h10 a "java/lang/String" := (f8.wr W10)
  have f13 : Fld Z h10 a "java/lang/String" "value" "[B" .null := ((I3.keep K4 nin0).other W10 (Or.inr (slot_ne (Or.inr (hw _ (List.mem_of_getElem? (i := 40) rfl))) (Or.inr (hw _ (List.mem_of_getElem? (i := 38) rfl))) (by decide) (t := (.array .byte)) (t' := .byte) (by decide) (by decide))))
  obtain ⟨T14, h14, X14, e14, W14, st14⟩ := putF X10 hx hZ hown (host := "") (Or.inl (hw _ (List.mem_of_getElem? (i := 39) rfl))) Via.refl e10 f13 f12 (Or.inr ⟨(hw _ (List.mem_of_getElem? (i := 40) rfl)), rfl, hnm⟩) (hw _ (List.mem_of_getElem? (i := 12) rfl)) (ty := (.array .byte)) (by decide) rfl rfl (g := (mkF m 54 #[.val (.ref a), .val (.ref ca), .val (.int (0 : Int32)), .val (.int (Int32.ofNat n)), .val .null, .val (.ref b_4)] [(.ref b_4), (.ref a)])) rfl rfl (Jvm.hb hby d_jdk_42_method_149_54)
  have z15 : h10.size ≤ h14.size := Nat.le_of_eq W14.size.symm
  have F14 : Fld Z h14 a "java/lang/String" "value" "[B" (.ref b_4) := f13.same W14
  have N14 := Fr.snoc X14 N10 (show n0 ≤ a by omega)
  have s16 : ∀ t_, Steps p.tables e below (T14.setTop (mkF m 57 #[.val (.ref a), .val (.ref ca), .val (.int (0 : Int32)), .val (.int (Int32.ofNat n)), .val .null, .val (.ref b_4)] [])) t_ → Steps p.tables e below (s₁.setTop (entryFrame m #[(.ref a), (.ref ca), (.int (0 : Int32)), (.int (Int32.ofNat n)), .null] 6)) t_ := fun t_ k_ => pre0 t_ (by
    show Steps p.tables e below (s₁.setTop (mkF m 0 #[.val (.ref a), .val (.ref ca), .val (.int (0 : Int32)), .val (.int (Int32.ofNat n)), .val .null, .unset] [])) t_
    refine XS.aloadN X0.here hx rfl (Jvm.hb hby d_jdk_42_method_149_0) rfl rfl ?_
    refine st1 _ ?_
    show Steps p.tables e below (T1.setTop (mkF m 4 #[.val (.ref a), .val (.ref ca), .val (.int (0 : Int32)), .val (.int (Int32.ofNat n)), .val .null, .unset] [])) _
    refine XS.iloadN X1.here hx rfl (Jvm.hb hby d_jdk_42_method_149_4) rfl ?_
    refine XS.ifYes X1.here hx rfl (pc0 := 5) (pc' := 27) rfl (Jvm.hb hby d_jdk_42_method_149_5) rfl ((if0 _ _).trans (feq (own_ne0 hpos (by omega))).2) (by decide) (by decide) ?_
    show Steps p.tables e below (T1.setTop (mkF m 27 #[.val (.ref a), .val (.ref ca), .val (.int (0 : Int32)), .val (.int (Int32.ofNat n)), .val .null, .unset] [])) _
    refine st2 _ ?_
    show Steps p.tables e below (T2.setTop (mkF m 30 #[.val (.ref a), .val (.ref ca), .val (.int (0 : Int32)), .val (.int (Int32.ofNat n)), .val .null, .unset] [(.int cst)])) _
    refine XS.ifNo X2.here hx rfl (Jvm.hb hby d_jdk_42_method_149_30) rfl ((if0 _ _).trans (feq hcst).1) ?_
    show Steps p.tables e below (T2.setTop (mkF m 33 #[.val (.ref a), .val (.ref ca), .val (.int (0 : Int32)), .val (.int (Int32.ofNat n)), .val .null, .unset] [])) _
    refine XS.aloadN X2.here hx rfl (Jvm.hb hby d_jdk_42_method_149_33) rfl rfl ?_
    refine XS.iloadN X2.here hx rfl (Jvm.hb hby d_jdk_42_method_149_34) rfl ?_
    refine XS.iloadN X2.here hx rfl (Jvm.hb hby d_jdk_42_method_149_35) rfl ?_
    refine st4 _ ?_
    show Steps p.tables e below (T4.setTop (mkF m 39 #[.val (.ref a), .val (.ref ca), .val (.int (0 : Int32)), .val (.int (Int32.ofNat n)), .val .null, .unset] [(.ref b_4)])) _
    refine XS.astore X4.here hx rfl (Jvm.hb hby d_jdk_42_method_149_39) rfl rfl (l' := #[.val (.ref a), .val (.ref ca), .val (.int (0 : Int32)), .val (.int (Int32.ofNat n)), .val .null, .val (.ref b_4)]) rfl ?_
    refine XS.aloadN X4.here hx rfl (Jvm.hb hby d_jdk_42_method_149_41) rfl rfl ?_
    refine XS.aload X4.here hx rfl (Jvm.hb hby d_jdk_42_method_149_42) rfl rfl ?_
    refine XS.iloadN X4.here hx rfl (Jvm.hb hby d_jdk_42_method_149_44) rfl ?_
    refine st7 _ ?_
    show Steps p.tables e below (T7.setTop (mkF m 48 #[.val (.ref a), .val (.ref ca), .val (.int (0 : Int32)), .val (.int (Int32.ofNat n)), .val .null, .val (.ref b_4)] [(.int (nar .byte (own_lo (ushr ((Int32.ofNat n) - (Int32.ofNat (own_enl cs))) (31 : Int32))))), (.ref a)])) _
    refine castTop (g' := (mkF m 48 #[.val (.ref a), .val (.ref ca), .val (.int (0 : Int32)), .val (.int (Int32.ofNat n)), .val .null, .val (.ref b_4)] [(.int (own_cod cs)), (.ref a)])) (by rw [own_codl hn hpos (by omega)]) ?_
    show Steps p.tables e below (T7.setTop (mkF m 48 #[.val (.ref a), .val (.ref ca), .val (.int (0 : Int32)), .val (.int (Int32.ofNat n)), .val .null, .val (.ref b_4)] [(.int (own_cod cs)), (.ref a)])) _
    refine st10 _ ?_
    show Steps p.tables e below (T10.setTop (mkF m 51 #[.val (.ref a), .val (.ref ca), .val (.int (0 : Int32)), .val (.int (Int32.ofNat n)), .val .null, .val (.ref b_4)] [])) _
    refine XS.aloadN X10.here hx rfl (Jvm.hb hby d_jdk_42_method_149_51) rfl rfl ?_
    refine XS.aload X10.here hx rfl (Jvm.hb hby d_jdk_42_method_149_52) rfl rfl ?_
    refine st14 _ ?_
    show Steps p.tables e below (T14.setTop (mkF m 57 #[.val (.ref a), .val (.ref ca), .val (.int (0 : Int32)), .val (.int (Int32.ofNat n)), .val .null, .val (.ref b_4)] [])) _
    show Steps p.tables e below (T14.setTop (mkF m 57 #[.val (.ref a), .val (.ref ca), .val (.int (0 : Int32)), .val (.int (Int32.ofNat n)), .val .null, .val (.ref b_4)] [])) t_
    exact k_)
  obtain ⟨fs, hr, hrun, hended, hW, hsame⟩ := X14.leave (v := none) (fun _ => rfl)
  have f17 : Arv Z h14 b_4 kb_4 .byte (Int32.ofNat (own_enl cs)) (own_enc cs) (.int (0 : Int32)) := ((Fq4_0.other W10 (show @Ne Nat b_4 a by omega)).other W14 (show @Ne Nat b_4 a by omega))
  have f18 : Exa Z h14 a "java/lang/String" := (f12.wr W14)
  have f19 : Fld Z h14 a "java/lang/String" "coder" "B" (.int (own_cod cs)) := (F10.other W14 (Or.inr (slot_ne (Or.inr (hw _ (List.mem_of_getElem? (i := 38) rfl))) (Or.inr (hw _ (List.mem_of_getElem? (i := 40) rfl))) (by decide) (t := .byte) (t' := (.array .byte)) (by decide) (by decide))))
  refine ⟨_, _, s16 _ ?_, hrun, hended, _, _, rfl, ?_, ⟨_, rfl⟩, hW, hsame.mono (by decide) (by decide)⟩
  · show Steps p.tables e below (T14.setTop (mkF m 57 #[.val (.ref a), .val (.ref ca), .val (.int (0 : Int32)), .val (.int (Int32.ofNat n)), .val .null, .val (.ref b_4)] [])) _
    exact X14.returnOut hx Bd.returns (Jvm.hb hby d_jdk_42_method_149_57) hr
  · show Q_rmIni4 Z _ _ _ _ _ _ h0 n0 _ T14.heap _
    rw [e14]
    exact ⟨b_4, kb_4, rfl, N14, ((((Keep.refl h0 [a]).trans K4 all0).wr W10 (Or.inl (by simp))).wr W14 (Or.inl (by simp))), f18, F14, f19, f17, by omega⟩
theorem d_jdk_42_method_3_0 : decode jdk_42_method_3_code 0 = .ok (.aload_n 0, 1) := by decide +kernel
theorem d_jdk_42_method_3_1 : decode jdk_42_method_3_code 1 = .ok (.aload_n 1, 1) := by decide +kernel
theorem d_jdk_42_method_3_2 : decode jdk_42_method_3_code 2 = .ok (.iconst 0, 1) := by decide +kernel
theorem d_jdk_42_method_3_3 : decode jdk_42_method_3_code 3 = .ok (.aload_n 1, 1) := by decide +kernel
theorem d_jdk_42_method_3_4 : decode jdk_42_method_3_code 4 = .ok (.arraylength, 1) := by decide +kernel
theorem d_jdk_42_method_3_5 : decode jdk_42_method_3_code 5 = .ok (.aconst_null, 1) := by decide +kernel
theorem pd___CIILjava_lang_Void__V : parseMethodDescriptor "([CIILjava/lang/Void;)V" = some ⟨[(.array .char), .int, .int, (.object "java/lang/Void")], none⟩ := by decide +kernel
theorem d_jdk_42_method_3_6 : decode jdk_42_method_3_code 6 = .ok (.invokespecial 27, 3) := by decide +kernel
theorem d_jdk_42_method_3_9 : decode jdk_42_method_3_code 9 = .ok (.return_, 1) := by decide +kernel
theorem ef_rmIni1 (m : MethodId) (x0 : Addr) (x1 : Addr) : entryFrame m #[(.ref x0), (.ref x1)] 2 = mkF m 0 #[.val (.ref x0), .val (.ref x1)] [] := by first | (simp [entryFrame, mkF, argsToLocals, Value.category]; done) | rfl
def Q_rmIni1 (Z : State) (a : Addr) (ca : Addr) (cst : Int32) (cs : List Int32) (kc : ClassId) (n : Nat) (h0 : Heap) (n0 : Nat) (v : Option Value) (h : Heap) (L : List Loc) : Prop := ∃ (b : Addr), ∃ (kb : ClassId), (v = none) ∧ (Fr n0 L) ∧ (Keep h0 h [a]) ∧ (Exa Z h a "java/lang/String") ∧ (Fld Z h a "java/lang/String" "value" "[B" (.ref b)) ∧ (Fld Z h a "java/lang/String" "coder" "B" (.int (own_cod cs))) ∧ (Arv Z h b kb .byte (Int32.ofNat (own_enl cs)) (own_enc cs) (.int (0 : Int32))) ∧ (h0.size ≤ b)
set_option maxRecDepth 65536 in
set_option maxHeartbeats 40000000 in
theorem rmIni1 (l : Launch) (Z : State) (a0 : Array Value) (hw : ∀ d ∈ tables_1, d.before a0 Z = true) (ws : List Jvm.Cond) (a : Addr) (ca : Addr) (cst : Int32) (cs : List Int32) (kc : ClassId) (n : Nat) (h0 : Heap) (n0 : Nat) (Z0 : n0 ≤ h0.size) (I1 : Sta Z Z.heap "java/lang/String" "COMPACT_STRINGS" "Z" (.int cst)) (OX : Old Z n0 h0) (hcst : ¬ (cst = (0 : Int32))) (I2 : Exa Z h0 a "java/lang/String") (I3 : Fld Z h0 a "java/lang/String" "value" "[B" .null) (I4 : Fld Z h0 a "java/lang/String" "coder" "B" (.int (0 : Int32))) (I5 : Arv Z h0 ca kc .char (Int32.ofNat n) (cs.map Value.int) (.int (0 : Int32))) (hn : cs.length = n) (hb : n ≤ 2) (hpos : 0 < n) (hlat : own_lat cs) (ga : n0 ≤ a) (hac : @Ne Nat a ca) :
    MetFree l (⟨"java/lang/String", "<init>", "([C)V"⟩ : MethodName) (head1 (Jvm.Cond.code (⟨"java/lang/String", "<init>", "([C)V"⟩ : MethodName) jdk_42_method_3_code 2 none :: ws) ({ frames := 3, cells := 1, slots := 2, locals := 52 } : Room)) (fun ar_ U => ar_ = #[(.ref a), (.ref ca)] ∧ Z.Warmed39 U.vm ∧ U.heap = h0) (fun _ _ _ _ _ => True) (fun _ U o U' => ∃ v L, o = .returned v ∧ Q_rmIni1 Z a ca cst cs kc n h0 n0 v U'.heap L ∧ FrameEnd U o U' L ({ frames := 3, cells := 1, slots := 2, locals := 52 } : Room).cells ({ frames := 3, cells := 1, slots := 2, locals := 52 } : Room).slots) := by
  refine MetFree.of_bodySF (plainFor_of_name pn_java_lang_String) hisR ?_
  intro p e s m args below meth c s₁ Bd hml0 hP hK
  obtain ⟨rfl, hZ, hh⟩ := hP
  have hx := Bd.exec
  have hby := Bd.bytes
  have hml : c.maxLocals = 2 := hml0
  have hown : s.vm.findClass "java/lang/String" = some m.cls := findClass_of_methodNamed Bd.named
  have hnm := (name_of_methodNamed Bd.named Bd.method).1
  have X0 : Stand p l e ({ frames := 3, cells := 1, slots := 2, locals := 52 } : Room) s m #[(.ref a), (.ref ca)] below meth c s₁ [] 0 0 := Stand.of_body Bd
  have e0 : s₁.heap = h0 := by rw [← hh, Bd.state]; rfl
  have N0 := Fr.nil n0
  have pre0 : ∀ t_, Steps p.tables e below (s₁.setTop (mkF m 0 #[.val (.ref a), .val (.ref ca)] [])) t_ → Steps p.tables e below (s₁.setTop (entryFrame m #[(.ref a), (.ref ca)] 2)) t_ := fun t_ k_ => castTop (ef_rmIni1 m a ca) k_
  have lt_I2 : @LT.lt Nat _ a h0.size := I2.lt
  have lt_I3 : @LT.lt Nat _ a h0.size := I3.lt
  have lt_I4 : @LT.lt Nat _ a h0.size := I4.lt
  have lt_I5 : @LT.lt Nat _ ca h0.size := I5.lt
  obtain ⟨cl1, Ar1, -, S1, M1, -, -⟩ := id I5
  have Zc2 : n0 ≤ h0.size := by omega
  obtain ⟨_, _, ⟨T3, L3, k3, n3⟩, -, X3, ⟨Lc3, hQ3, l3, y3, z3⟩, st3⟩ := X0.specialBack hx (y := (⟨"java/lang/String", "<init>", "([CIILjava/lang/Void;)V"⟩ : MethodName)) rfl hown (mvT hZ (hw _ (List.mem_of_getElem? (i := 18) rfl))) (mvT hZ (hw _ (List.mem_of_getElem? (i := 19) rfl))) (mvT hZ (hw _ (List.mem_of_getElem? (i := 21) rfl))) (by decide) (backOf (W := 0) (rmIni4 l Z a0 hw [] a ca cst cs kc n h0 n0 Zc2 I1 OX (hcst : ¬ (cst = (0 : Int32))) I2 I3 I4 I5 (hn : cs.length = n) (hb : n ≤ 2) (hpos : 0 < n) (hlat : own_lat cs) (ga : n0 ≤ a) (hac : @Ne Nat a ca)) hZ (hw _ (List.mem_of_getElem? (i := 21) rfl)) (hw _ (List.mem_of_getElem? (i := 13) rfl)) (by decide) (by decide)) (g := (mkF m 6 #[.val (.ref a), .val (.ref ca)] [.null, (.int (Int32.ofNat n)), (.int (0 : Int32)), (.ref ca), (.ref a)])) rfl (by rw [hml]; rfl) (Steps.refl _) (a := a) (argsL := [(.ref ca), (.int (0 : Int32)), (.int (Int32.ofNat n)), .null]) (rest := []) (lenOf pd___CIILjava_lang_Void__V rfl) rfl (by show 2 * 0 + _ ≤ _; exact Nat.le_of_eq rfl) (Jvm.hb hby d_jdk_42_method_3_6) (fun _ _ => ⟨rfl, e0, (by decide : 0 + 1 ≤ _), (by decide : 0 + 2 ≤ _)⟩)
  dsimp only [Pt.U, Pt.locs, Pt.cells, Pt.slots] at X3 l3 y3 z3 st3 hQ3
  subst l3 y3 z3
  obtain ⟨b_3, kb_3, rfl, N3q, K3, Fq3_0, Fq3_1, Fq3_2, Fq3_3, P3_0⟩ := hQ3
  have N3 := Fr.app N0 N3q
  obtain ⟨h3, e3⟩ : ∃ z, T3.heap = z := ⟨_, rfl⟩
  rw [e3] at K3 Fq3_0 Fq3_1 Fq3_2 Fq3_3
  have z4 : h0.size ≤ h3.size := K3.1
  have lt3_0 : @LT.lt Nat _ a h3.size := Fq3_0.lt
  have lt3_3 : @LT.lt Nat _ b_3 h3.size := Fq3_3.lt
  have s5 : ∀ t_, Steps p.tables e below (T3.setTop (mkF m 9 #[.val (.ref a), .val (.ref ca)] [])) t_ → Steps p.tables e below (s₁.setTop (entryFrame m #[(.ref a), (.ref ca)] 2)) t_ := fun t_ k_ => pre0 t_ (by
    show Steps p.tables e below (s₁.setTop (mkF m 0 #[.val (.ref a), .val (.ref ca)] [])) t_
    refine XS.aloadN X0.here hx rfl (Jvm.hb hby d_jdk_42_method_3_0) rfl rfl ?_
    refine XS.aloadN X0.here hx rfl (Jvm.hb hby d_jdk_42_method_3_1) rfl rfl ?_
    refine XS.iconst X0.here hx rfl (Jvm.hb hby d_jdk_42_method_3_2) ?_
    refine XS.aloadN X0.here hx rfl (Jvm.hb hby d_jdk_42_method_3_3) rfl rfl ?_
    refine X0.arraylength hx (by rw [e0]; exact Ar1.1) (State.isArrayOf_alike hZ.alike Ar1.2.1) (g := (mkF m 4 #[.val (.ref a), .val (.ref ca)] [(.ref ca), (.int (0 : Int32)), (.ref ca), (.ref a)])) rfl rfl (Jvm.hb hby d_jdk_42_method_3_4) _ ?_
    rw [len_of S1 M1]
    show Steps p.tables e below (s₁.setTop (mkF m 5 #[.val (.ref a), .val (.ref ca)] [(.int (Int32.ofNat n)), (.int (0 : Int32)), (.ref ca), (.ref a)])) _
    refine XS.aconstNull X0.here hx rfl (Jvm.hb hby d_jdk_42_method_3_5) ?_
    refine st3.trans ?_
    show Steps p.tables e below (T3.setTop (mkF m 9 #[.val (.ref a), .val (.ref ca)] [])) _
    show Steps p.tables e below (T3.setTop (mkF m 9 #[.val (.ref a), .val (.ref ca)] [])) t_
    exact k_)
  obtain ⟨fs, hr, hrun, hended, hW, hsame⟩ := X3.leave (v := none) (fun _ => rfl)
  refine ⟨_, _, s5 _ ?_, hrun, hended, _, _, rfl, ?_, ⟨_, rfl⟩, hW, hsame.mono (by decide) (by decide)⟩
  · show Steps p.tables e below (T3.setTop (mkF m 9 #[.val (.ref a), .val (.ref ca)] [])) _
    exact X3.returnOut hx Bd.returns (Jvm.hb hby d_jdk_42_method_3_9) hr
  · show Q_rmIni1 Z _ _ _ _ _ _ h0 n0 _ T3.heap _
    rw [e3]
    exact ⟨b_3, kb_3, rfl, N3, ((Keep.refl h0 [a]).trans K3 (allS (Or.inl (by simp)) all0)), Fq3_0, Fq3_1, Fq3_2, Fq3_3, by omega⟩
theorem d_jdk_42_method_152_0 : decode jdk_42_method_152_code 0 = .ok (.getstatic 38, 3) := by decide +kernel
theorem d_jdk_42_method_152_3 : decode jdk_42_method_152_code 3 = .ok (.ifCond .eq 10, 3) := by decide +kernel
theorem d_jdk_42_method_152_6 : decode jdk_42_method_152_code 6 = .ok (.aload_n 0, 1) := by decide +kernel
theorem d_jdk_42_method_152_7 : decode jdk_42_method_152_code 7 = .ok (.getfield 15, 3) := by decide +kernel
theorem d_jdk_42_method_152_10 : decode jdk_42_method_152_code 10 = .ok (.goto 4, 3) := by decide +kernel
theorem d_jdk_42_method_152_14 : decode jdk_42_method_152_code 14 = .ok (.ireturn, 1) := by decide +kernel
theorem ef_rmCdr (m : MethodId) (x0 : Addr) : entryFrame m #[(.ref x0)] 1 = mkF m 0 #[.val (.ref x0)] [] := by first | (simp [entryFrame, mkF, argsToLocals, Value.category]; done) | rfl
def Q_rmCdr (Z : State) (a : Addr) (cst : Int32) (cs : List Int32) (h0 : Heap) (n0 : Nat) (v : Option Value) (h : Heap) (L : List Loc) : Prop := (v = some (.int (own_cod cs))) ∧ (Fr n0 L) ∧ (h = h0)
set_option maxRecDepth 65536 in
set_option maxHeartbeats 40000000 in
theorem rmCdr (l : Launch) (Z : State) (a0 : Array Value) (hw : ∀ d ∈ tables_1, d.before a0 Z = true) (ws : List Jvm.Cond) (a : Addr) (cst : Int32) (cs : List Int32) (h0 : Heap) (n0 : Nat) (Z0 : n0 ≤ h0.size) (I1 : Sta Z Z.heap "java/lang/String" "COMPACT_STRINGS" "Z" (.int cst)) (OX : Old Z n0 h0) (hcst : ¬ (cst = (0 : Int32))) (I2 : Fld Z h0 a "java/lang/String" "coder" "B" (.int (own_cod cs))) :
    MetFree l (⟨"java/lang/String", "coder", "()B"⟩ : MethodName) (head1 (Jvm.Cond.code (⟨"java/lang/String", "coder", "()B"⟩ : MethodName) jdk_42_method_152_code 1 (some .byte) :: ws) ({ frames := 0, cells := 0, slots := 0, locals := 0 } : Room)) (fun ar_ U => ar_ = #[(.ref a)] ∧ Z.Warmed39 U.vm ∧ U.heap = h0) (fun _ _ _ _ _ => True) (fun _ U o U' => ∃ v L, o = .returned v ∧ Q_rmCdr Z a cst cs h0 n0 v U'.heap L ∧ FrameEnd U o U' L ({ frames := 0, cells := 0, slots := 0, locals := 0 } : Room).cells ({ frames := 0, cells := 0, slots := 0, locals := 0 } : Room).slots) := by
  refine MetFree.of_bodySF (plainFor_of_name pn_java_lang_String) hisR ?_
  intro p e s m args below meth c s₁ Bd hml0 hP hK
  obtain ⟨rfl, hZ, hh⟩ := hP
  have hx := Bd.exec
  have hby := Bd.bytes
  have hml : c.maxLocals = 1 := hml0
  have hown : s.vm.findClass "java/lang/String" = some m.cls := findClass_of_methodNamed Bd.named
  have hnm := (name_of_methodNamed Bd.named Bd.method).1
  have X0 : Stand p l e ({ frames := 0, cells := 0, slots := 0, locals := 0 } : Room) s m #[(.ref a)] below meth c s₁ [] 0 0 := Stand.of_body Bd
  have e0 : s₁.heap = h0 := by rw [← hh, Bd.state]; rfl
  have N0 := Fr.nil n0
  have pre0 : ∀ t_, Steps p.tables e below (s₁.setTop (mkF m 0 #[.val (.ref a)] [])) t_ → Steps p.tables e below (s₁.setTop (entryFrame m #[(.ref a)] 1)) t_ := fun t_ k_ => castTop (ef_rmCdr m a) k_
  have lt_I2 : @LT.lt Nat _ a h0.size := I2.lt
  obtain ⟨T1, X1, e1, st1⟩ := getS2 X0 hx hZ hown (host := "") (Or.inl (hw _ (List.mem_of_getElem? (i := 25) rfl))) Via.refl e0 (I1.ext OX.2) (g := (mkF m 0 #[.val (.ref a)] [])) rfl (Jvm.hb hby d_jdk_42_method_152_0)
  obtain ⟨T2, X2, e2, st2⟩ := getF X1 hx hZ hown (host := "") (Or.inl (hw _ (List.mem_of_getElem? (i := 37) rfl))) Via.refl e1 I2 (g := (mkF m 7 #[.val (.ref a)] [(.ref a)])) rfl rfl (Jvm.hb hby d_jdk_42_method_152_7)
  have s3 : ∀ t_, Steps p.tables e below (T2.setTop (mkF m 14 #[.val (.ref a)] [(.int (own_cod cs))])) t_ → Steps p.tables e below (s₁.setTop (entryFrame m #[(.ref a)] 1)) t_ := fun t_ k_ => pre0 t_ (by
    show Steps p.tables e below (s₁.setTop (mkF m 0 #[.val (.ref a)] [])) t_
    refine st1 _ ?_
    show Steps p.tables e below (T1.setTop (mkF m 3 #[.val (.ref a)] [(.int cst)])) _
    refine XS.ifNo X1.here hx rfl (Jvm.hb hby d_jdk_42_method_152_3) rfl ((if0 _ _).trans (feq hcst).1) ?_
    show Steps p.tables e below (T1.setTop (mkF m 6 #[.val (.ref a)] [])) _
    refine XS.aloadN X1.here hx rfl (Jvm.hb hby d_jdk_42_method_152_6) rfl rfl ?_
    refine st2 _ ?_
    show Steps p.tables e below (T2.setTop (mkF m 10 #[.val (.ref a)] [(.int (own_cod cs))])) _
    refine XS.goto X2.here hx rfl (pc0 := 10) (pc' := 14) rfl (Jvm.hb hby d_jdk_42_method_152_10) (by decide) (by decide) ?_
    show Steps p.tables e below (T2.setTop (mkF m 14 #[.val (.ref a)] [(.int (own_cod cs))])) t_
    exact k_)
  obtain ⟨fs, hr, hrun, hended, hW, hsame⟩ := X2.leave (v := some (.int (nar .byte (own_cod cs)))) (fun h => by rw [Bd.returns] at h; cases h)
  refine ⟨_, _, s3 _ ?_, hrun, hended, _, _, rfl, ?_, ⟨_, rfl⟩, hW, hsame.mono (by decide) (by decide)⟩
  · show Steps p.tables e below (T2.setTop (mkF m 14 #[.val (.ref a)] [(.int (own_cod cs))])) _
    exact retN X2 hx (t := .byte) Bd.returns (by simp) (Jvm.hb hby d_jdk_42_method_152_14) hr
  · show Q_rmCdr Z _ _ _ h0 n0 _ T2.heap _
    rw [e2]
    exact ⟨(by rw [own_cnarb]), N0, rfl⟩
theorem d_jdk_42_method_54_0 : decode jdk_42_method_54_code 0 = .ok (.aload_n 0, 1) := by decide +kernel
theorem d_jdk_42_method_54_1 : decode jdk_42_method_54_code 1 = .ok (.getfield 9, 3) := by decide +kernel
theorem d_jdk_42_method_54_4 : decode jdk_42_method_54_code 4 = .ok (.arraylength, 1) := by decide +kernel
theorem d_jdk_42_method_54_5 : decode jdk_42_method_54_code 5 = .ok (.aload_n 0, 1) := by decide +kernel
theorem pd___B : parseMethodDescriptor "()B" = some ⟨[], some .byte⟩ := by decide +kernel
theorem d_jdk_42_method_54_6 : decode jdk_42_method_54_code 6 = .ok (.invokevirtual 335, 3) := by decide +kernel
theorem d_jdk_42_method_54_9 : decode jdk_42_method_54_code 9 = .ok (.ishr, 1) := by decide +kernel
theorem d_jdk_42_method_54_10 : decode jdk_42_method_54_code 10 = .ok (.ireturn, 1) := by decide +kernel
theorem ef_rmLen (m : MethodId) (x0 : Addr) : entryFrame m #[(.ref x0)] 1 = mkF m 0 #[.val (.ref x0)] [] := by first | (simp [entryFrame, mkF, argsToLocals, Value.category]; done) | rfl
def Q_rmLen (Z : State) (a : Addr) (cst : Int32) (b : Addr) (kb : ClassId) (cs : List Int32) (h0 : Heap) (n0 : Nat) (v : Option Value) (h : Heap) (L : List Loc) : Prop := (v = some (.int (Int32.ofNat cs.length))) ∧ (Fr n0 L) ∧ (h = h0)
set_option maxRecDepth 65536 in
set_option maxHeartbeats 40000000 in
theorem rmLen (l : Launch) (Z : State) (a0 : Array Value) (hw : ∀ d ∈ tables_1, d.before a0 Z = true) (ws : List Jvm.Cond) (a : Addr) (cst : Int32) (b : Addr) (kb : ClassId) (cs : List Int32) (h0 : Heap) (n0 : Nat) (Z0 : n0 ≤ h0.size) (I1 : Sta Z Z.heap "java/lang/String" "COMPACT_STRINGS" "Z" (.int cst)) (OX : Old Z n0 h0) (hcst : ¬ (cst = (0 : Int32))) (I2 : Exa Z h0 a "java/lang/String") (I3 : Fld Z h0 a "java/lang/String" "value" "[B" (.ref b)) (I4 : Fld Z h0 a "java/lang/String" "coder" "B" (.int (own_cod cs))) (I5 : Arv Z h0 b kb .byte (Int32.ofNat (own_enl cs)) (own_enc cs) (.int (0 : Int32))) (hb : cs.length ≤ 2) :
    MetFree l (⟨"java/lang/String", "length", "()I"⟩ : MethodName) (head1 (Jvm.Cond.code (⟨"java/lang/String", "length", "()I"⟩ : MethodName) jdk_42_method_54_code 1 (some .int) :: ws) ({ frames := 1, cells := 0, slots := 0, locals := 13 } : Room)) (fun ar_ U => ar_ = #[(.ref a)] ∧ Z.Warmed39 U.vm ∧ U.heap = h0) (fun _ _ _ _ _ => True) (fun _ U o U' => ∃ v L, o = .returned v ∧ Q_rmLen Z a cst b kb cs h0 n0 v U'.heap L ∧ FrameEnd U o U' L ({ frames := 1, cells := 0, slots := 0, locals := 13 } : Room).cells ({ frames := 1, cells := 0, slots := 0, locals := 13 } : Room).slots) := by
  refine MetFree.of_bodySF (plainFor_of_name pn_java_lang_String) hisR ?_
  intro p e s m args below meth c s₁ Bd hml0 hP hK
  obtain ⟨rfl, hZ, hh⟩ := hP
  have hx := Bd.exec
  have hby := Bd.bytes
  have hml : c.maxLocals = 1 := hml0
  have hown : s.vm.findClass "java/lang/String" = some m.cls := findClass_of_methodNamed Bd.named
  have hnm := (name_of_methodNamed Bd.named Bd.method).1
  have X0 : Stand p l e ({ frames := 1, cells := 0, slots := 0, locals := 13 } : Room) s m #[(.ref a)] below meth c s₁ [] 0 0 := Stand.of_body Bd
  have e0 : s₁.heap = h0 := by rw [← hh, Bd.state]; rfl
  have N0 := Fr.nil n0
  have pre0 : ∀ t_, Steps p.tables e below (s₁.setTop (mkF m 0 #[.val (.ref a)] [])) t_ → Steps p.tables e below (s₁.setTop (entryFrame m #[(.ref a)] 1)) t_ := fun t_ k_ => castTop (ef_rmLen m a) k_
  have lt_I2 : @LT.lt Nat _ a h0.size := I2.lt
  have lt_I3 : @LT.lt Nat _ a h0.size := I3.lt
  have lt_I4 : @LT.lt Nat _ a h0.size := I4.lt
  have lt_I5 : @LT.lt Nat _ b h0.size := I5.lt
  obtain ⟨T1, X1, e1, st1⟩ := getF X0 hx hZ hown (host := "") (Or.inl (hw _ (List.mem_of_getElem? (i := 39) rfl))) Via.refl e0 I3 (g := (mkF m 1 #[.val (.ref a)] [(.ref a)])) rfl rfl (Jvm.hb hby d_jdk_42_method_54_1)
  obtain ⟨cl2, Ar2, -, S2, M2, -, -⟩ := id I5
  have Zc3 : n0 ≤ h0.size := by omega
  obtain ⟨cq4, kq4, q4a, q4b, q4c⟩ := isOf hZ e1 I2
  obtain ⟨_, _, ⟨T4, L4, k4, n4⟩, -, X4, ⟨Lc4, hQ4, l4, y4, z4⟩, st4⟩ := X1.virtualBack hx (y := (⟨"java/lang/String", "coder", "()B"⟩ : MethodName)) (z := (⟨"java/lang/String", "coder", "()B"⟩ : MethodName)) hown (mvT hZ (hw _ (List.mem_of_getElem? (i := 65) rfl))) (mvT hZ (hw _ (List.mem_of_getElem? (i := 66) rfl))) (notFace_of_selects (args := #[]) (mvT hZ (hw _ (List.mem_of_getElem? (i := 68) rfl)))) (mvT hZ (hw _ (List.mem_of_getElem? (i := 68) rfl))) (mvT hZ (hw _ (List.mem_of_getElem? (i := 67) rfl))) (by decide) (backOf (W := 1) (rmCdr l Z a0 hw [] a cst cs h0 n0 Zc3 I1 OX (hcst : ¬ (cst = (0 : Int32))) I4) hZ (hw _ (List.mem_of_getElem? (i := 69) rfl)) (hw _ (List.mem_of_getElem? (i := 13) rfl)) (by decide) (by decide)) q4a q4c (g := (mkF m 6 #[.val (.ref a)] [(.ref a), (.int (Int32.ofNat (own_enl cs)))])) rfl (by rw [hml]; rfl) (Steps.refl _) (argsL := []) (rest := [(.int (Int32.ofNat (own_enl cs)))]) (lenOf pd___B rfl) rfl (by show 2 * 0 + _ ≤ _; exact Nat.le_of_eq rfl) (Jvm.hb hby d_jdk_42_method_54_6) (fun _ _ => ⟨rfl, e1, (by decide : 0 + 0 ≤ _), (by decide : 0 + 0 ≤ _)⟩)
  dsimp only [Pt.U, Pt.locs, Pt.cells, Pt.slots] at X4 l4 y4 z4 st4 hQ4
  subst l4 y4 z4
  obtain ⟨rfl, N4q, e4⟩ := hQ4
  have N4 := Fr.app N0 N4q
  have s5 : ∀ t_, Steps p.tables e below (T4.setTop (mkF m 10 #[.val (.ref a)] [(.int ((Int32.ofNat (own_enl cs)) >>> ((own_cod cs) &&& 31)))])) t_ → Steps p.tables e below (s₁.setTop (entryFrame m #[(.ref a)] 1)) t_ := fun t_ k_ => pre0 t_ (by
    show Steps p.tables e below (s₁.setTop (mkF m 0 #[.val (.ref a)] [])) t_
    refine XS.aloadN X0.here hx rfl (Jvm.hb hby d_jdk_42_method_54_0) rfl rfl ?_
    refine st1 _ ?_
    show Steps p.tables e below (T1.setTop (mkF m 4 #[.val (.ref a)] [(.ref b)])) _
    refine X1.arraylength hx (by rw [e1]; exact Ar2.1) (State.isArrayOf_alike hZ.alike Ar2.2.1) (g := (mkF m 4 #[.val (.ref a)] [(.ref b)])) rfl rfl (Jvm.hb hby d_jdk_42_method_54_4) _ ?_
    rw [len_of S2 M2]
    show Steps p.tables e below (T1.setTop (mkF m 5 #[.val (.ref a)] [(.int (Int32.ofNat (own_enl cs)))])) _
    refine XS.aloadN X1.here hx rfl (Jvm.hb hby d_jdk_42_method_54_5) rfl rfl ?_
    refine st4.trans ?_
    show Steps p.tables e below (T4.setTop (mkF m 9 #[.val (.ref a)] [(.int (own_cod cs)), (.int (Int32.ofNat (own_enl cs)))])) _
    refine XS.ishr X4.here hx rfl (Jvm.hb hby d_jdk_42_method_54_9) rfl ?_
    show Steps p.tables e below (T4.setTop (mkF m 10 #[.val (.ref a)] [(.int ((Int32.ofNat (own_enl cs)) >>> ((own_cod cs) &&& 31)))])) t_
    exact k_)
  obtain ⟨fs, hr, hrun, hended, hW, hsame⟩ := X4.leave (v := some (.int ((Int32.ofNat (own_enl cs)) >>> ((own_cod cs) &&& 31)))) (fun h => by rw [Bd.returns] at h; cases h)
  refine ⟨_, _, s5 _ ?_, hrun, hended, _, _, rfl, ?_, ⟨_, rfl⟩, hW, hsame.mono (by decide) (by decide)⟩
  · show Steps p.tables e below (T4.setTop (mkF m 10 #[.val (.ref a)] [(.int ((Int32.ofNat (own_enl cs)) >>> ((own_cod cs) &&& 31)))])) _
    exact retI X4 hx Bd.returns (Jvm.hb hby d_jdk_42_method_54_10) hr
  · show Q_rmLen Z _ _ _ _ _ h0 n0 _ T4.heap _
    rw [e4]
    exact ⟨(by rw [own_lenq cs (by omega)]), N4, rfl⟩
theorem d_jdk_42_method_154_0 : decode jdk_42_method_154_code 0 = .ok (.getstatic 38, 3) := by decide +kernel
theorem d_jdk_42_method_154_3 : decode jdk_42_method_154_code 3 = .ok (.ifCond .eq 14, 3) := by decide +kernel
theorem d_jdk_42_method_154_6 : decode jdk_42_method_154_code 6 = .ok (.aload_n 0, 1) := by decide +kernel
theorem d_jdk_42_method_154_7 : decode jdk_42_method_154_code 7 = .ok (.getfield 15, 3) := by decide +kernel
theorem d_jdk_42_method_154_10 : decode jdk_42_method_154_code 10 = .ok (.ifCond .ne 7, 3) := by decide +kernel
theorem d_jdk_42_method_154_13 : decode jdk_42_method_154_code 13 = .ok (.iconst 1, 1) := by decide +kernel
theorem d_jdk_42_method_154_14 : decode jdk_42_method_154_code 14 = .ok (.goto 4, 3) := by decide +kernel
theorem d_jdk_42_method_154_18 : decode jdk_42_method_154_code 18 = .ok (.ireturn, 1) := by decide +kernel
theorem d_jdk_42_method_154_17 : decode jdk_42_method_154_code 17 = .ok (.iconst 0, 1) := by decide +kernel
theorem ef_rmIsL (m : MethodId) (x0 : Addr) : entryFrame m #[(.ref x0)] 1 = mkF m 0 #[.val (.ref x0)] [] := by first | (simp [entryFrame, mkF, argsToLocals, Value.category]; done) | rfl
def Q_rmIsL (Z : State) (a : Addr) (cst : Int32) (cs : List Int32) (h0 : Heap) (n0 : Nat) (v : Option Value) (h : Heap) (L : List Loc) : Prop := (v = some (.int (if own_cod cs = (0 : Int32) then (1 : Int32) else (0 : Int32)))) ∧ (Fr n0 L) ∧ (h = h0)
set_option maxRecDepth 65536 in
set_option maxHeartbeats 40000000 in
theorem rmIsL (l : Launch) (Z : State) (a0 : Array Value) (hw : ∀ d ∈ tables_1, d.before a0 Z = true) (ws : List Jvm.Cond) (a : Addr) (cst : Int32) (cs : List Int32) (h0 : Heap) (n0 : Nat) (Z0 : n0 ≤ h0.size) (I1 : Sta Z Z.heap "java/lang/String" "COMPACT_STRINGS" "Z" (.int cst)) (OX : Old Z n0 h0) (hcst : ¬ (cst = (0 : Int32))) (I2 : Fld Z h0 a "java/lang/String" "coder" "B" (.int (own_cod cs))) :
    MetFree l (⟨"java/lang/String", "isLatin1", "()Z"⟩ : MethodName) (head1 (Jvm.Cond.code (⟨"java/lang/String", "isLatin1", "()Z"⟩ : MethodName) jdk_42_method_154_code 1 (some .boolean) :: ws) ({ frames := 0, cells := 0, slots := 0, locals := 0 } : Room)) (fun ar_ U => ar_ = #[(.ref a)] ∧ Z.Warmed39 U.vm ∧ U.heap = h0) (fun _ _ _ _ _ => True) (fun _ U o U' => ∃ v L, o = .returned v ∧ Q_rmIsL Z a cst cs h0 n0 v U'.heap L ∧ FrameEnd U o U' L ({ frames := 0, cells := 0, slots := 0, locals := 0 } : Room).cells ({ frames := 0, cells := 0, slots := 0, locals := 0 } : Room).slots) := by
  refine MetFree.of_bodySF (plainFor_of_name pn_java_lang_String) hisR ?_
  intro p e s m args below meth c s₁ Bd hml0 hP hK
  obtain ⟨rfl, hZ, hh⟩ := hP
  have hx := Bd.exec
  have hby := Bd.bytes
  have hml : c.maxLocals = 1 := hml0
  have hown : s.vm.findClass "java/lang/String" = some m.cls := findClass_of_methodNamed Bd.named
  have hnm := (name_of_methodNamed Bd.named Bd.method).1
  have X0 : Stand p l e ({ frames := 0, cells := 0, slots := 0, locals := 0 } : Room) s m #[(.ref a)] below meth c s₁ [] 0 0 := Stand.of_body Bd
  have e0 : s₁.heap = h0 := by rw [← hh, Bd.state]; rfl
  have N0 := Fr.nil n0
  have pre0 : ∀ t_, Steps p.tables e below (s₁.setTop (mkF m 0 #[.val (.ref a)] [])) t_ → Steps p.tables e below (s₁.setTop (entryFrame m #[(.ref a)] 1)) t_ := fun t_ k_ => castTop (ef_rmIsL m a) k_
  have lt_I2 : @LT.lt Nat _ a h0.size := I2.lt
  obtain ⟨T1, X1, e1, st1⟩ := getS2 X0 hx hZ hown (host := "") (Or.inl (hw _ (List.mem_of_getElem? (i := 25) rfl))) Via.refl e0 (I1.ext OX.2) (g := (mkF m 0 #[.val (.ref a)] [])) rfl (Jvm.hb hby d_jdk_42_method_154_0)
  obtain ⟨T2, X2, e2, st2⟩ := getF X1 hx hZ hown (host := "") (Or.inl (hw _ (List.mem_of_getElem? (i := 37) rfl))) Via.refl e1 I2 (g := (mkF m 7 #[.val (.ref a)] [(.ref a)])) rfl rfl (Jvm.hb hby d_jdk_42_method_154_7)
  have s3 : ∀ t_, Steps p.tables e below (T2.setTop (mkF m 10 #[.val (.ref a)] [(.int (own_cod cs))])) t_ → Steps p.tables e below (s₁.setTop (entryFrame m #[(.ref a)] 1)) t_ := fun t_ k_ => pre0 t_ (by
    show Steps p.tables e below (s₁.setTop (mkF m 0 #[.val (.ref a)] [])) t_
    refine st1 _ ?_
    show Steps p.tables e below (T1.setTop (mkF m 3 #[.val (.ref a)] [(.int cst)])) _
    refine XS.ifNo X1.here hx rfl (Jvm.hb hby d_jdk_42_method_154_3) rfl ((if0 _ _).trans (feq hcst).1) ?_
    show Steps p.tables e below (T1.setTop (mkF m 6 #[.val (.ref a)] [])) _
    refine XS.aloadN X1.here hx rfl (Jvm.hb hby d_jdk_42_method_154_6) rfl rfl ?_
    refine st2 _ ?_
    show Steps p.tables e below (T2.setTop (mkF m 10 #[.val (.ref a)] [(.int (own_cod cs))])) _
    show Steps p.tables e below (T2.setTop (mkF m 10 #[.val (.ref a)] [(.int (own_cod cs))])) t_
    exact k_)
  by_cases h4 : (own_cod cs) = (0 : Int32)
  · have s5 : ∀ t_, Steps p.tables e below (T2.setTop (mkF m 18 #[.val (.ref a)] [(.int (1 : Int32))])) t_ → Steps p.tables e below (s₁.setTop (entryFrame m #[(.ref a)] 1)) t_ := fun t_ k_ => s3 t_ (by
      show Steps p.tables e below (T2.setTop (mkF m 10 #[.val (.ref a)] [(.int (own_cod cs))])) t_
      refine XS.ifNo X2.here hx rfl (Jvm.hb hby d_jdk_42_method_154_10) rfl ((if0 _ _).trans (teq h4).2) ?_
      show Steps p.tables e below (T2.setTop (mkF m 13 #[.val (.ref a)] [])) _
      refine XS.iconst X2.here hx rfl (Jvm.hb hby d_jdk_42_method_154_13) ?_
      refine XS.goto X2.here hx rfl (pc0 := 14) (pc' := 18) rfl (Jvm.hb hby d_jdk_42_method_154_14) (by decide) (by decide) ?_
      show Steps p.tables e below (T2.setTop (mkF m 18 #[.val (.ref a)] [(.int (1 : Int32))])) t_
      exact k_)
    obtain ⟨fs, hr, hrun, hended, hW, hsame⟩ := X2.leave (v := some (.int (1 : Int32))) (fun h => by rw [Bd.returns] at h; cases h)
    refine ⟨_, _, s5 _ ?_, hrun, hended, _, _, rfl, ?_, ⟨_, rfl⟩, hW, hsame.mono (by decide) (by decide)⟩
    · show Steps p.tables e below (T2.setTop (mkF m 18 #[.val (.ref a)] [(.int (1 : Int32))])) _
      exact retN X2 hx (t := .boolean) Bd.returns (by simp) (Jvm.hb hby d_jdk_42_method_154_18) hr
    · show Q_rmIsL Z _ _ _ h0 n0 _ T2.heap _
      rw [e2]
      exact ⟨(by first | rfl | (simp only [if_pos h4]; done) | (simp only [if_pos h4]; rfl) | (simp only [if_pos h4, own_narb]; done)), N0, rfl⟩
  · have s6 : ∀ t_, Steps p.tables e below (T2.setTop (mkF m 18 #[.val (.ref a)] [(.int (0 : Int32))])) t_ → Steps p.tables e below (s₁.setTop (entryFrame m #[(.ref a)] 1)) t_ := fun t_ k_ => s3 t_ (by
      show Steps p.tables e below (T2.setTop (mkF m 10 #[.val (.ref a)] [(.int (own_cod cs))])) t_
      refine XS.ifYes X2.here hx rfl (pc0 := 10) (pc' := 17) rfl (Jvm.hb hby d_jdk_42_method_154_10) rfl ((if0 _ _).trans (feq h4).2) (by decide) (by decide) ?_
      show Steps p.tables e below (T2.setTop (mkF m 17 #[.val (.ref a)] [])) _
      refine XS.iconst X2.here hx rfl (Jvm.hb hby d_jdk_42_method_154_17) ?_
      show Steps p.tables e below (T2.setTop (mkF m 18 #[.val (.ref a)] [(.int (0 : Int32))])) t_
      exact k_)
    obtain ⟨fs, hr, hrun, hended, hW, hsame⟩ := X2.leave (v := some (.int (0 : Int32))) (fun h => by rw [Bd.returns] at h; cases h)
    refine ⟨_, _, s6 _ ?_, hrun, hended, _, _, rfl, ?_, ⟨_, rfl⟩, hW, hsame.mono (by decide) (by decide)⟩
    · show Steps p.tables e below (T2.setTop (mkF m 18 #[.val (.ref a)] [(.int (0 : Int32))])) _
      exact retN X2 hx (t := .boolean) Bd.returns (by simp) (Jvm.hb hby d_jdk_42_method_154_18) hr
    · show Q_rmIsL Z _ _ _ h0 n0 _ T2.heap _
      rw [e2]
      exact ⟨(by first | rfl | (simp only [if_neg h4]; done) | (simp only [if_neg h4]; rfl) | (simp only [if_neg h4, own_narb]; done)), N0, rfl⟩
theorem d_jdk_42_method_55_0 : decode jdk_42_method_55_code 0 = .ok (.aload_n 0, 1) := by decide +kernel
theorem d_jdk_42_method_55_1 : decode jdk_42_method_55_code 1 = .ok (.getfield 9, 3) := by decide +kernel
theorem d_jdk_42_method_55_4 : decode jdk_42_method_55_code 4 = .ok (.arraylength, 1) := by decide +kernel
theorem d_jdk_42_method_55_5 : decode jdk_42_method_55_code 5 = .ok (.ifCond .ne 7, 3) := by decide +kernel
theorem d_jdk_42_method_55_8 : decode jdk_42_method_55_code 8 = .ok (.iconst 1, 1) := by decide +kernel
theorem d_jdk_42_method_55_9 : decode jdk_42_method_55_code 9 = .ok (.goto 4, 3) := by decide +kernel
theorem d_jdk_42_method_55_13 : decode jdk_42_method_55_code 13 = .ok (.ireturn, 1) := by decide +kernel
theorem d_jdk_42_method_55_12 : decode jdk_42_method_55_code 12 = .ok (.iconst 0, 1) := by decide +kernel
theorem ef_rmEmp (m : MethodId) (x0 : Addr) : entryFrame m #[(.ref x0)] 1 = mkF m 0 #[.val (.ref x0)] [] := by first | (simp [entryFrame, mkF, argsToLocals, Value.category]; done) | rfl
def Q_rmEmp (Z : State) (a : Addr) (b : Addr) (kb : ClassId) (cs : List Int32) (h0 : Heap) (n0 : Nat) (v : Option Value) (h : Heap) (L : List Loc) : Prop := (v = some (.int (if cs = [] then (1 : Int32) else (0 : Int32)))) ∧ (Fr n0 L) ∧ (h = h0)
set_option maxRecDepth 65536 in
set_option maxHeartbeats 40000000 in
theorem rmEmp (l : Launch) (Z : State) (a0 : Array Value) (hw : ∀ d ∈ tables_1, d.before a0 Z = true) (ws : List Jvm.Cond) (a : Addr) (b : Addr) (kb : ClassId) (cs : List Int32) (h0 : Heap) (n0 : Nat) (Z0 : n0 ≤ h0.size) (I1 : Exa Z h0 a "java/lang/String") (I2 : Fld Z h0 a "java/lang/String" "value" "[B" (.ref b)) (I3 : Arv Z h0 b kb .byte (Int32.ofNat (own_enl cs)) (own_enc cs) (.int (0 : Int32))) (hb : cs.length ≤ 2) :
    MetFree l (⟨"java/lang/String", "isEmpty", "()Z"⟩ : MethodName) (head1 (Jvm.Cond.code (⟨"java/lang/String", "isEmpty", "()Z"⟩ : MethodName) jdk_42_method_55_code 1 (some .boolean) :: ws) ({ frames := 0, cells := 0, slots := 0, locals := 0 } : Room)) (fun ar_ U => ar_ = #[(.ref a)] ∧ Z.Warmed39 U.vm ∧ U.heap = h0) (fun _ _ _ _ _ => True) (fun _ U o U' => ∃ v L, o = .returned v ∧ Q_rmEmp Z a b kb cs h0 n0 v U'.heap L ∧ FrameEnd U o U' L ({ frames := 0, cells := 0, slots := 0, locals := 0 } : Room).cells ({ frames := 0, cells := 0, slots := 0, locals := 0 } : Room).slots) := by
  refine MetFree.of_bodySF (plainFor_of_name pn_java_lang_String) hisR ?_
  intro p e s m args below meth c s₁ Bd hml0 hP hK
  obtain ⟨rfl, hZ, hh⟩ := hP
  have hx := Bd.exec
  have hby := Bd.bytes
  have hml : c.maxLocals = 1 := hml0
  have hown : s.vm.findClass "java/lang/String" = some m.cls := findClass_of_methodNamed Bd.named
  have hnm := (name_of_methodNamed Bd.named Bd.method).1
  have X0 : Stand p l e ({ frames := 0, cells := 0, slots := 0, locals := 0 } : Room) s m #[(.ref a)] below meth c s₁ [] 0 0 := Stand.of_body Bd
  have e0 : s₁.heap = h0 := by rw [← hh, Bd.state]; rfl
  have N0 := Fr.nil n0
  have pre0 : ∀ t_, Steps p.tables e below (s₁.setTop (mkF m 0 #[.val (.ref a)] [])) t_ → Steps p.tables e below (s₁.setTop (entryFrame m #[(.ref a)] 1)) t_ := fun t_ k_ => castTop (ef_rmEmp m a) k_
  have lt_I1 : @LT.lt Nat _ a h0.size := I1.lt
  have lt_I2 : @LT.lt Nat _ a h0.size := I2.lt
  have lt_I3 : @LT.lt Nat _ b h0.size := I3.lt
  obtain ⟨T1, X1, e1, st1⟩ := getF X0 hx hZ hown (host := "") (Or.inl (hw _ (List.mem_of_getElem? (i := 39) rfl))) Via.refl e0 I2 (g := (mkF m 1 #[.val (.ref a)] [(.ref a)])) rfl rfl (Jvm.hb hby d_jdk_42_method_55_1)
  obtain ⟨cl2, Ar2, -, S2, M2, -, -⟩ := id I3
  have s3 : ∀ t_, Steps p.tables e below (T1.setTop (mkF m 5 #[.val (.ref a)] [(.int (Int32.ofNat (own_enl cs)))])) t_ → Steps p.tables e below (s₁.setTop (entryFrame m #[(.ref a)] 1)) t_ := fun t_ k_ => pre0 t_ (by
    show Steps p.tables e below (s₁.setTop (mkF m 0 #[.val (.ref a)] [])) t_
    refine XS.aloadN X0.here hx rfl (Jvm.hb hby d_jdk_42_method_55_0) rfl rfl ?_
    refine st1 _ ?_
    show Steps p.tables e below (T1.setTop (mkF m 4 #[.val (.ref a)] [(.ref b)])) _
    refine X1.arraylength hx (by rw [e1]; exact Ar2.1) (State.isArrayOf_alike hZ.alike Ar2.2.1) (g := (mkF m 4 #[.val (.ref a)] [(.ref b)])) rfl rfl (Jvm.hb hby d_jdk_42_method_55_4) _ ?_
    rw [len_of S2 M2]
    show Steps p.tables e below (T1.setTop (mkF m 5 #[.val (.ref a)] [(.int (Int32.ofNat (own_enl cs)))])) _
    show Steps p.tables e below (T1.setTop (mkF m 5 #[.val (.ref a)] [(.int (Int32.ofNat (own_enl cs)))])) t_
    exact k_)
  by_cases h4 : (Int32.ofNat (own_enl cs)) = (0 : Int32)
  · have s5 : ∀ t_, Steps p.tables e below (T1.setTop (mkF m 13 #[.val (.ref a)] [(.int (1 : Int32))])) t_ → Steps p.tables e below (s₁.setTop (entryFrame m #[(.ref a)] 1)) t_ := fun t_ k_ => s3 t_ (by
      show Steps p.tables e below (T1.setTop (mkF m 5 #[.val (.ref a)] [(.int (Int32.ofNat (own_enl cs)))])) t_
      refine XS.ifNo X1.here hx rfl (Jvm.hb hby d_jdk_42_method_55_5) rfl ((if0 _ _).trans (teq h4).2) ?_
      show Steps p.tables e below (T1.setTop (mkF m 8 #[.val (.ref a)] [])) _
      refine XS.iconst X1.here hx rfl (Jvm.hb hby d_jdk_42_method_55_8) ?_
      refine XS.goto X1.here hx rfl (pc0 := 9) (pc' := 13) rfl (Jvm.hb hby d_jdk_42_method_55_9) (by decide) (by decide) ?_
      show Steps p.tables e below (T1.setTop (mkF m 13 #[.val (.ref a)] [(.int (1 : Int32))])) t_
      exact k_)
    obtain ⟨fs, hr, hrun, hended, hW, hsame⟩ := X1.leave (v := some (.int (1 : Int32))) (fun h => by rw [Bd.returns] at h; cases h)
    refine ⟨_, _, s5 _ ?_, hrun, hended, _, _, rfl, ?_, ⟨_, rfl⟩, hW, hsame.mono (by decide) (by decide)⟩
    · show Steps p.tables e below (T1.setTop (mkF m 13 #[.val (.ref a)] [(.int (1 : Int32))])) _
      exact retN X1 hx (t := .boolean) Bd.returns (by simp) (Jvm.hb hby d_jdk_42_method_55_13) hr
    · show Q_rmEmp Z _ _ _ _ h0 n0 _ T1.heap _
      rw [e1]
      exact ⟨(by rw [if_pos ((own_enl0 (by omega)).mp h4)]), N0, rfl⟩
  · have s6 : ∀ t_, Steps p.tables e below (T1.setTop (mkF m 13 #[.val (.ref a)] [(.int (0 : Int32))])) t_ → Steps p.tables e below (s₁.setTop (entryFrame m #[(.ref a)] 1)) t_ := fun t_ k_ => s3 t_ (by
      show Steps p.tables e below (T1.setTop (mkF m 5 #[.val (.ref a)] [(.int (Int32.ofNat (own_enl cs)))])) t_
      refine XS.ifYes X1.here hx rfl (pc0 := 5) (pc' := 12) rfl (Jvm.hb hby d_jdk_42_method_55_5) rfl ((if0 _ _).trans (feq h4).2) (by decide) (by decide) ?_
      show Steps p.tables e below (T1.setTop (mkF m 12 #[.val (.ref a)] [])) _
      refine XS.iconst X1.here hx rfl (Jvm.hb hby d_jdk_42_method_55_12) ?_
      show Steps p.tables e below (T1.setTop (mkF m 13 #[.val (.ref a)] [(.int (0 : Int32))])) t_
      exact k_)
    obtain ⟨fs, hr, hrun, hended, hW, hsame⟩ := X1.leave (v := some (.int (0 : Int32))) (fun h => by rw [Bd.returns] at h; cases h)
    refine ⟨_, _, s6 _ ?_, hrun, hended, _, _, rfl, ?_, ⟨_, rfl⟩, hW, hsame.mono (by decide) (by decide)⟩
    · show Steps p.tables e below (T1.setTop (mkF m 13 #[.val (.ref a)] [(.int (0 : Int32))])) _
      exact retN X1 hx (t := .boolean) Bd.returns (by simp) (Jvm.hb hby d_jdk_42_method_55_13) hr
    · show Q_rmEmp Z _ _ _ _ h0 n0 _ T1.heap _
      rw [e1]
      exact ⟨(by rw [if_neg (fun e => h4 ((own_enl0 (by omega)).mpr e))]), N0, rfl⟩
theorem pn_jdk_internal_util_Preconditions : plainName "jdk/internal/util/Preconditions" = true := by first | (simp [plainName, overriddenIn]; done) | decide +kernel
theorem d_jdk_41_method_11_0 : decode jdk_41_method_11_code 0 = .ok (.iload_n 0, 1) := by decide +kernel
theorem d_jdk_41_method_11_1 : decode jdk_41_method_11_code 1 = .ok (.ifCond .lt 8, 3) := by decide +kernel
theorem d_jdk_41_method_11_4 : decode jdk_41_method_11_code 4 = .ok (.iload_n 0, 1) := by decide +kernel
theorem d_jdk_41_method_11_5 : decode jdk_41_method_11_code 5 = .ok (.iload_n 1, 1) := by decide +kernel
theorem d_jdk_41_method_11_6 : decode jdk_41_method_11_code 6 = .ok (.if_icmp .lt 10, 3) := by decide +kernel
theorem d_jdk_41_method_11_16 : decode jdk_41_method_11_code 16 = .ok (.iload_n 0, 1) := by decide +kernel
theorem d_jdk_41_method_11_17 : decode jdk_41_method_11_code 17 = .ok (.ireturn, 1) := by decide +kernel
theorem ef_rmPCk (m : MethodId) (x0 : Int32) (x1 : Int32) (x2 : Value) (hr_x2 : x2.isRef = true) : entryFrame m #[(.int x0), (.int x1), x2] 3 = mkF m 0 #[.val (.int x0), .val (.int x1), .val x2] [] := by first | (simp [entryFrame, mkF, argsToLocals, Value.category]; done) | rfl | (cases x2 <;> simp [Value.isRef] at hr_x2 <;> rfl)
def Q_rmPCk (Z : State) (fmt : Value) (i : Nat) (n : Nat) (h0 : Heap) (n0 : Nat) (v : Option Value) (h : Heap) (L : List Loc) : Prop := (v = some (.int (Int32.ofNat i))) ∧ (Fr n0 L) ∧ (h = h0)
set_option maxRecDepth 65536 in
set_option maxHeartbeats 40000000 in
theorem rmPCk (l : Launch) (Z : State) (a0 : Array Value) (hw : ∀ d ∈ tables_1, d.before a0 Z = true) (ws : List Jvm.Cond) (fmt : Value) (i : Nat) (n : Nat) (h0 : Heap) (n0 : Nat) (Z0 : n0 ≤ h0.size) (hfmt : fmt.isRef = true) (hin : i < n) (hn8 : n ≤ 8000) :
    MetFree l (⟨"jdk/internal/util/Preconditions", "checkIndex", "(IILjava/util/function/BiFunction;)I"⟩ : MethodName) (head1 (Jvm.Cond.code (⟨"jdk/internal/util/Preconditions", "checkIndex", "(IILjava/util/function/BiFunction;)I"⟩ : MethodName) jdk_41_method_11_code 3 (some .int) :: ws) ({ frames := 0, cells := 0, slots := 0, locals := 0 } : Room)) (fun ar_ U => ar_ = #[(.int (Int32.ofNat i)), (.int (Int32.ofNat n)), fmt] ∧ Z.Warmed39 U.vm ∧ U.heap = h0) (fun _ _ _ _ _ => True) (fun _ U o U' => ∃ v L, o = .returned v ∧ Q_rmPCk Z fmt i n h0 n0 v U'.heap L ∧ FrameEnd U o U' L ({ frames := 0, cells := 0, slots := 0, locals := 0 } : Room).cells ({ frames := 0, cells := 0, slots := 0, locals := 0 } : Room).slots) := by
  refine MetFree.of_bodySF (plainFor_of_name pn_jdk_internal_util_Preconditions) hisR ?_
  intro p e s m args below meth c s₁ Bd hml0 hP hK
  obtain ⟨rfl, hZ, hh⟩ := hP
  have hx := Bd.exec
  have hby := Bd.bytes
  have hml : c.maxLocals = 3 := hml0
  have hown : s.vm.findClass "jdk/internal/util/Preconditions" = some m.cls := findClass_of_methodNamed Bd.named
  have hnm := (name_of_methodNamed Bd.named Bd.method).1
  have X0 : Stand p l e ({ frames := 0, cells := 0, slots := 0, locals := 0 } : Room) s m #[(.int (Int32.ofNat i)), (.int (Int32.ofNat n)), fmt] below meth c s₁ [] 0 0 := Stand.of_body Bd
  have e0 : s₁.heap = h0 := by rw [← hh, Bd.state]; rfl
  have N0 := Fr.nil n0
  have pre0 : ∀ t_, Steps p.tables e below (s₁.setTop (mkF m 0 #[.val (.int (Int32.ofNat i)), .val (.int (Int32.ofNat n)), .val fmt] [])) t_ → Steps p.tables e below (s₁.setTop (entryFrame m #[(.int (Int32.ofNat i)), (.int (Int32.ofNat n)), fmt] 3)) t_ := fun t_ k_ => castTop (ef_rmPCk m (Int32.ofNat i) (Int32.ofNat n) fmt hfmt) k_
  have s1 : ∀ t_, Steps p.tables e below (s₁.setTop (mkF m 17 #[.val (.int (Int32.ofNat i)), .val (.int (Int32.ofNat n)), .val fmt] [(.int (Int32.ofNat i))])) t_ → Steps p.tables e below (s₁.setTop (entryFrame m #[(.int (Int32.ofNat i)), (.int (Int32.ofNat n)), fmt] 3)) t_ := fun t_ k_ => pre0 t_ (by
    show Steps p.tables e below (s₁.setTop (mkF m 0 #[.val (.int (Int32.ofNat i)), .val (.int (Int32.ofNat n)), .val fmt] [])) t_
    refine XS.iloadN X0.here hx rfl (Jvm.hb hby d_jdk_41_method_11_0) rfl ?_
    refine XS.ifNo X0.here hx rfl (Jvm.hb hby d_jdk_41_method_11_1) rfl ((if0 _ _).trans (flt (own_nn (by omega))).1) ?_
    show Steps p.tables e below (s₁.setTop (mkF m 4 #[.val (.int (Int32.ofNat i)), .val (.int (Int32.ofNat n)), .val fmt] [])) _
    refine XS.iloadN X0.here hx rfl (Jvm.hb hby d_jdk_41_method_11_4) rfl ?_
    refine XS.iloadN X0.here hx rfl (Jvm.hb hby d_jdk_41_method_11_5) rfl ?_
    refine XS.icmpYes X0.here hx rfl (pc0 := 6) (pc' := 16) rfl (Jvm.hb hby d_jdk_41_method_11_6) rfl (tlt (own_lt (by omega) (by omega))).1 (by decide) (by decide) ?_
    show Steps p.tables e below (s₁.setTop (mkF m 16 #[.val (.int (Int32.ofNat i)), .val (.int (Int32.ofNat n)), .val fmt] [])) _
    refine XS.iloadN X0.here hx rfl (Jvm.hb hby d_jdk_41_method_11_16) rfl ?_
    show Steps p.tables e below (s₁.setTop (mkF m 17 #[.val (.int (Int32.ofNat i)), .val (.int (Int32.ofNat n)), .val fmt] [(.int (Int32.ofNat i))])) t_
    exact k_)
  obtain ⟨fs, hr, hrun, hended, hW, hsame⟩ := X0.leave (v := some (.int (Int32.ofNat i))) (fun h => by rw [Bd.returns] at h; cases h)
  refine ⟨_, _, s1 _ ?_, hrun, hended, _, _, rfl, ?_, ⟨_, rfl⟩, hW, hsame.mono (by decide) (by decide)⟩
  · show Steps p.tables e below (s₁.setTop (mkF m 17 #[.val (.int (Int32.ofNat i)), .val (.int (Int32.ofNat n)), .val fmt] [(.int (Int32.ofNat i))])) _
    exact retI X0 hx Bd.returns (Jvm.hb hby d_jdk_41_method_11_17) hr
  · show Q_rmPCk Z _ _ _ h0 n0 _ s₁.heap _
    rw [e0]
    exact ⟨rfl, N0, rfl⟩
theorem d_jdk_42_method_155_0 : decode jdk_42_method_155_code 0 = .ok (.iload_n 0, 1) := by decide +kernel
theorem d_jdk_42_method_155_1 : decode jdk_42_method_155_code 1 = .ok (.iload_n 1, 1) := by decide +kernel
theorem d_jdk_42_method_155_2 : decode jdk_42_method_155_code 2 = .ok (.getstatic 1053, 3) := by decide +kernel
theorem pd__IILjava_util_function_BiFunction__I : parseMethodDescriptor "(IILjava/util/function/BiFunction;)I" = some ⟨[.int, .int, (.object "java/util/function/BiFunction")], some .int⟩ := by decide +kernel
theorem d_jdk_42_method_155_5 : decode jdk_42_method_155_code 5 = .ok (.invokestatic 1059, 3) := by decide +kernel
theorem d_jdk_42_method_155_8 : decode jdk_42_method_155_code 8 = .ok (.pop, 1) := by decide +kernel
theorem d_jdk_42_method_155_9 : decode jdk_42_method_155_code 9 = .ok (.return_, 1) := by decide +kernel
theorem ef_rmSCk (m : MethodId) (x0 : Int32) (x1 : Int32) : entryFrame m #[(.int x0), (.int x1)] 2 = mkF m 0 #[.val (.int x0), .val (.int x1)] [] := by first | (simp [entryFrame, mkF, argsToLocals, Value.category]; done) | rfl
def Q_rmSCk (Z : State) (i : Nat) (n : Nat) (fmt : Value) (h0 : Heap) (n0 : Nat) (v : Option Value) (h : Heap) (L : List Loc) : Prop := (v = none) ∧ (Fr n0 L) ∧ (h = h0)
set_option maxRecDepth 65536 in
set_option maxHeartbeats 40000000 in
theorem rmSCk (l : Launch) (Z : State) (a0 : Array Value) (hw : ∀ d ∈ tables_1, d.before a0 Z = true) (ws : List Jvm.Cond) (i : Nat) (n : Nat) (fmt : Value) (h0 : Heap) (n0 : Nat) (Z0 : n0 ≤ h0.size) (hfmt : fmt.isRef = true) (I1 : Sta Z Z.heap "jdk/internal/util/Preconditions" "SIOOBE_FORMATTER" "Ljava/util/function/BiFunction;" fmt) (OX : Old Z n0 h0) (hin : i < n) (hn8 : n ≤ 8000) :
    MetFree l (⟨"java/lang/String", "checkIndex", "(II)V"⟩ : MethodName) (head1 (Jvm.Cond.code (⟨"java/lang/String", "checkIndex", "(II)V"⟩ : MethodName) jdk_42_method_155_code 2 none :: ws) ({ frames := 1, cells := 0, slots := 0, locals := 14 } : Room)) (fun ar_ U => ar_ = #[(.int (Int32.ofNat i)), (.int (Int32.ofNat n))] ∧ Z.Warmed39 U.vm ∧ U.heap = h0) (fun _ _ _ _ _ => True) (fun _ U o U' => ∃ v L, o = .returned v ∧ Q_rmSCk Z i n fmt h0 n0 v U'.heap L ∧ FrameEnd U o U' L ({ frames := 1, cells := 0, slots := 0, locals := 14 } : Room).cells ({ frames := 1, cells := 0, slots := 0, locals := 14 } : Room).slots) := by
  refine MetFree.of_bodySF (plainFor_of_name pn_java_lang_String) hisR ?_
  intro p e s m args below meth c s₁ Bd hml0 hP hK
  obtain ⟨rfl, hZ, hh⟩ := hP
  have hx := Bd.exec
  have hby := Bd.bytes
  have hml : c.maxLocals = 2 := hml0
  have hown : s.vm.findClass "java/lang/String" = some m.cls := findClass_of_methodNamed Bd.named
  have hnm := (name_of_methodNamed Bd.named Bd.method).1
  have X0 : Stand p l e ({ frames := 1, cells := 0, slots := 0, locals := 14 } : Room) s m #[(.int (Int32.ofNat i)), (.int (Int32.ofNat n))] below meth c s₁ [] 0 0 := Stand.of_body Bd
  have e0 : s₁.heap = h0 := by rw [← hh, Bd.state]; rfl
  have N0 := Fr.nil n0
  have pre0 : ∀ t_, Steps p.tables e below (s₁.setTop (mkF m 0 #[.val (.int (Int32.ofNat i)), .val (.int (Int32.ofNat n))] [])) t_ → Steps p.tables e below (s₁.setTop (entryFrame m #[(.int (Int32.ofNat i)), (.int (Int32.ofNat n))] 2)) t_ := fun t_ k_ => castTop (ef_rmSCk m (Int32.ofNat i) (Int32.ofNat n)) k_
  obtain ⟨T1, X1, e1, st1⟩ := getS2 X0 hx hZ hown (host := "") (Or.inl (hw _ (List.mem_of_getElem? (i := 87) rfl))) Via.refl e0 (I1.ext OX.2) (g := (mkF m 2 #[.val (.int (Int32.ofNat i)), .val (.int (Int32.ofNat n))] [(.int (Int32.ofNat n)), (.int (Int32.ofNat i))])) rfl (Jvm.hb hby d_jdk_42_method_155_2)
  have Zc2 : n0 ≤ h0.size := by omega
  obtain ⟨_, _, ⟨T3, L3, k3, n3⟩, -, X3, ⟨Lc3, hQ3, l3, y3, z3⟩, st3⟩ := Jvm.LawKit.callS X1 hx (y := (⟨"jdk/internal/util/Preconditions", "checkIndex", "(IILjava/util/function/BiFunction;)I"⟩ : MethodName)) hown (mvT hZ (hw _ (List.mem_of_getElem? (i := 89) rfl))) (mvT hZ (hw _ (List.mem_of_getElem? (i := 90) rfl))) (mvT hZ (hw _ (List.mem_of_getElem? (i := 88) rfl))) (mvT hZ (hw _ (List.mem_of_getElem? (i := 91) rfl))) (by decide) (backOf (W := 0) (rmPCk l Z a0 hw [] fmt i n h0 n0 Zc2 (hfmt : fmt.isRef = true) (hin : i < n) (hn8 : n ≤ 8000)) hZ (hw _ (List.mem_of_getElem? (i := 91) rfl)) (hw _ (List.mem_of_getElem? (i := 88) rfl)) (by decide) (by decide)) (g := (mkF m 5 #[.val (.int (Int32.ofNat i)), .val (.int (Int32.ofNat n))] [fmt, (.int (Int32.ofNat n)), (.int (Int32.ofNat i))])) rfl (by rw [hml]; rfl) (argsL := [(.int (Int32.ofNat i)), (.int (Int32.ofNat n)), fmt]) (rest := []) (lenOf pd__IILjava_util_function_BiFunction__I rfl) rfl (by show 2 * 0 + _ ≤ _; exact Nat.le_of_eq rfl) (Jvm.hb hby d_jdk_42_method_155_5) (fun _ _ => ⟨rfl, e1, (by decide : 0 + 0 ≤ _), (by decide : 0 + 0 ≤ _)⟩)
  dsimp only [Pt.U, Pt.locs, Pt.cells, Pt.slots] at X3 l3 y3 z3 st3 hQ3
  subst l3 y3 z3
  obtain ⟨rfl, N3q, e3⟩ := hQ3
  have N3 := Fr.app N0 N3q
  have s4 : ∀ t_, Steps p.tables e below (T3.setTop (mkF m 9 #[.val (.int (Int32.ofNat i)), .val (.int (Int32.ofNat n))] [])) t_ → Steps p.tables e below (s₁.setTop (entryFrame m #[(.int (Int32.ofNat i)), (.int (Int32.ofNat n))] 2)) t_ := fun t_ k_ => pre0 t_ (by
    show Steps p.tables e below (s₁.setTop (mkF m 0 #[.val (.int (Int32.ofNat i)), .val (.int (Int32.ofNat n))] [])) t_
    refine XS.iloadN X0.here hx rfl (Jvm.hb hby d_jdk_42_method_155_0) rfl ?_
    refine XS.iloadN X0.here hx rfl (Jvm.hb hby d_jdk_42_method_155_1) rfl ?_
    refine st1 _ ?_
    show Steps p.tables e below (T1.setTop (mkF m 5 #[.val (.int (Int32.ofNat i)), .val (.int (Int32.ofNat n))] [fmt, (.int (Int32.ofNat n)), (.int (Int32.ofNat i))])) _
    refine st3 _ ?_
    show Steps p.tables e below (T3.setTop (mkF m 8 #[.val (.int (Int32.ofNat i)), .val (.int (Int32.ofNat n))] [(.int (Int32.ofNat i))])) _
    refine XS.pop X3.here hx rfl (Jvm.hb hby d_jdk_42_method_155_8) rfl rfl ?_
    show Steps p.tables e below (T3.setTop (mkF m 9 #[.val (.int (Int32.ofNat i)), .val (.int (Int32.ofNat n))] [])) t_
    exact k_)
  obtain ⟨fs, hr, hrun, hended, hW, hsame⟩ := X3.leave (v := none) (fun _ => rfl)
  refine ⟨_, _, s4 _ ?_, hrun, hended, _, _, rfl, ?_, ⟨_, rfl⟩, hW, hsame.mono (by decide) (by decide)⟩
  · show Steps p.tables e below (T3.setTop (mkF m 9 #[.val (.int (Int32.ofNat i)), .val (.int (Int32.ofNat n))] [])) _
    exact X3.returnOut hx Bd.returns (Jvm.hb hby d_jdk_42_method_155_9) hr
  · show Q_rmSCk Z _ _ _ h0 n0 _ T3.heap _
    rw [e3]
    exact ⟨rfl, N3, rfl⟩
theorem pn_java_lang_StringLatin1 : plainName "java/lang/StringLatin1" = true := by first | (simp [plainName, overriddenIn]; done) | decide +kernel
theorem d_jdk_43_method_2_0 : decode jdk_43_method_2_code 0 = .ok (.iload_n 1, 1) := by decide +kernel
theorem d_jdk_43_method_2_1 : decode jdk_43_method_2_code 1 = .ok (.aload_n 0, 1) := by decide +kernel
theorem d_jdk_43_method_2_2 : decode jdk_43_method_2_code 2 = .ok (.arraylength, 1) := by decide +kernel
theorem pd__II_V : parseMethodDescriptor "(II)V" = some ⟨[.int, .int], none⟩ := by decide +kernel
theorem d_jdk_43_method_2_3 : decode jdk_43_method_2_code 3 = .ok (.invokestatic 9, 3) := by decide +kernel
theorem d_jdk_43_method_2_6 : decode jdk_43_method_2_code 6 = .ok (.aload_n 0, 1) := by decide +kernel
theorem d_jdk_43_method_2_7 : decode jdk_43_method_2_code 7 = .ok (.iload_n 1, 1) := by decide +kernel
theorem d_jdk_43_method_2_8 : decode jdk_43_method_2_code 8 = .ok (.baload, 1) := by decide +kernel
theorem d_jdk_43_method_2_9 : decode jdk_43_method_2_code 9 = .ok (.sipush 255, 3) := by decide +kernel
theorem d_jdk_43_method_2_12 : decode jdk_43_method_2_code 12 = .ok (.iand, 1) := by decide +kernel
theorem d_jdk_43_method_2_13 : decode jdk_43_method_2_code 13 = .ok (.i2c, 1) := by decide +kernel
theorem d_jdk_43_method_2_14 : decode jdk_43_method_2_code 14 = .ok (.ireturn, 1) := by decide +kernel
theorem ef_rmLCh (m : MethodId) (x0 : Addr) (x1 : Int32) : entryFrame m #[(.ref x0), (.int x1)] 2 = mkF m 0 #[.val (.ref x0), .val (.int x1)] [] := by first | (simp [entryFrame, mkF, argsToLocals, Value.category]; done) | rfl
def Q_rmLCh (Z : State) (b : Addr) (kb : ClassId) (cs : List Int32) (i : Nat) (fmt : Value) (h0 : Heap) (n0 : Nat) (v : Option Value) (h : Heap) (L : List Loc) : Prop := (v = some (.int (cs.getD i 0))) ∧ (Fr n0 L) ∧ (h = h0)
set_option maxRecDepth 65536 in
set_option maxHeartbeats 40000000 in
theorem rmLCh (l : Launch) (Z : State) (a0 : Array Value) (hw : ∀ d ∈ tables_1, d.before a0 Z = true) (ws : List Jvm.Cond) (b : Addr) (kb : ClassId) (cs : List Int32) (i : Nat) (fmt : Value) (h0 : Heap) (n0 : Nat) (Z0 : n0 ≤ h0.size) (hfmt : fmt.isRef = true) (I1 : Sta Z Z.heap "jdk/internal/util/Preconditions" "SIOOBE_FORMATTER" "Ljava/util/function/BiFunction;" fmt) (OX : Old Z n0 h0) (I2 : Arv Z h0 b kb .byte (Int32.ofNat cs.length) (own_enc cs) (.int (0 : Int32))) (hb : cs.length ≤ 2) (hi : i < cs.length) (hlat : own_lat cs) (hchs : own_chs cs) :
    MetFree l (⟨"java/lang/StringLatin1", "charAt", "([BI)C"⟩ : MethodName) (head1 (Jvm.Cond.code (⟨"java/lang/StringLatin1", "charAt", "([BI)C"⟩ : MethodName) jdk_43_method_2_code 2 (some .char) :: ws) ({ frames := 2, cells := 0, slots := 0, locals := 27 } : Room)) (fun ar_ U => ar_ = #[(.ref b), (.int (Int32.ofNat i))] ∧ Z.Warmed39 U.vm ∧ U.heap = h0) (fun _ _ _ _ _ => True) (fun _ U o U' => ∃ v L, o = .returned v ∧ Q_rmLCh Z b kb cs i fmt h0 n0 v U'.heap L ∧ FrameEnd U o U' L ({ frames := 2, cells := 0, slots := 0, locals := 27 } : Room).cells ({ frames := 2, cells := 0, slots := 0, locals := 27 } : Room).slots) := by
  refine MetFree.of_bodySF (plainFor_of_name pn_java_lang_StringLatin1) hisR ?_
  intro p e s m args below meth c s₁ Bd hml0 hP hK
  obtain ⟨rfl, hZ, hh⟩ := hP
  have hx := Bd.exec
  have hby := Bd.bytes
  have hml : c.maxLocals = 2 := hml0
  have hown : s.vm.findClass "java/lang/StringLatin1" = some m.cls := findClass_of_methodNamed Bd.named
  have hnm := (name_of_methodNamed Bd.named Bd.method).1
  have X0 : Stand p l e ({ frames := 2, cells := 0, slots := 0, locals := 27 } : Room) s m #[(.ref b), (.int (Int32.ofNat i))] below meth c s₁ [] 0 0 := Stand.of_body Bd
  have e0 : s₁.heap = h0 := by rw [← hh, Bd.state]; rfl
  have N0 := Fr.nil n0
  have pre0 : ∀ t_, Steps p.tables e below (s₁.setTop (mkF m 0 #[.val (.ref b), .val (.int (Int32.ofNat i))] [])) t_ → Steps p.tables e below (s₁.setTop (entryFrame m #[(.ref b), (.int (Int32.ofNat i))] 2)) t_ := fun t_ k_ => castTop (ef_rmLCh m b (Int32.ofNat i)) k_
  have lt_I2 : @LT.lt Nat _ b h0.size := I2.lt
  obtain ⟨cl1, Ar1, -, S1, M1, -, -⟩ := id I2
  have Zc2 : n0 ≤ h0.size := by omega
  obtain ⟨_, _, ⟨T3, L3, k3, n3⟩, -, X3, ⟨Lc3, hQ3, l3, y3, z3⟩, st3⟩ := Jvm.LawKit.callS X0 hx (y := (⟨"java/lang/String", "checkIndex", "(II)V"⟩ : MethodName)) hown (mvT hZ (hw _ (List.mem_of_getElem? (i := 84) rfl))) (mvT hZ (hw _ (List.mem_of_getElem? (i := 85) rfl))) (mvT hZ (hw _ (List.mem_of_getElem? (i := 13) rfl))) (mvT hZ (hw _ (List.mem_of_getElem? (i := 86) rfl))) (by decide) (backOf (W := 0) (rmSCk l Z a0 hw [] i cs.length fmt h0 n0 Zc2 (hfmt : fmt.isRef = true) I1 OX hi (by first | assumption | rfl | decide | omega : cs.length ≤ 8000)) hZ (hw _ (List.mem_of_getElem? (i := 86) rfl)) (hw _ (List.mem_of_getElem? (i := 13) rfl)) (by decide) (by decide)) (g := (mkF m 3 #[.val (.ref b), .val (.int (Int32.ofNat i))] [(.int (Int32.ofNat cs.length)), (.int (Int32.ofNat i))])) rfl (by rw [hml]; rfl) (argsL := [(.int (Int32.ofNat i)), (.int (Int32.ofNat cs.length))]) (rest := []) (lenOf pd__II_V rfl) rfl (by show 2 * 0 + _ ≤ _; exact Nat.le_of_eq rfl) (Jvm.hb hby d_jdk_43_method_2_3) (fun _ _ => ⟨rfl, e0, (by decide : 0 + 0 ≤ _), (by decide : 0 + 0 ≤ _)⟩)
  dsimp only [Pt.U, Pt.locs, Pt.cells, Pt.slots] at X3 l3 y3 z3 st3 hQ3
  subst l3 y3 z3
  obtain ⟨rfl, N3q, e3⟩ := hQ3
  have N3 := Fr.app N0 N3q
  obtain ⟨cl4, Ar4, -, S4, M4, H4, -⟩ := id I2
  have hin4 : ¬ ((Int32.ofNat i) < 0 ∨ cl4.slots.size ≤ ((Int32.ofNat i)).toNatClampNeg) := inb_of S4 (own_in hi (by omega))
  have hat4 : cl4.slots[((Int32.ofNat i)).toNatClampNeg]? = some (.int (own_lo (cs.getD i 0))) := H4.at hin4 (own_geth cs i _ hlat hi (by omega))
  have s5 : ∀ t_, Steps p.tables e below (T3.setTop (mkF m 14 #[.val (.ref b), .val (.int (Int32.ofNat i))] [(.int (i2c ((own_lo (cs.getD i 0)) &&& (255 : Int32))))])) t_ → Steps p.tables e below (s₁.setTop (entryFrame m #[(.ref b), (.int (Int32.ofNat i))] 2)) t_ := fun t_ k_ => pre0 t_ (by
    show Steps p.tables e below (s₁.setTop (mkF m 0 #[.val (.ref b), .val (.int (Int32.ofNat i))] [])) t_
    refine XS.iloadN X0.here hx rfl (Jvm.hb hby d_jdk_43_method_2_0) rfl ?_
    refine XS.aloadN X0.here hx rfl (Jvm.hb hby d_jdk_43_method_2_1) rfl rfl ?_
    refine X0.arraylength hx (by rw [e0]; exact Ar1.1) (State.isArrayOf_alike hZ.alike Ar1.2.1) (g := (mkF m 2 #[.val (.ref b), .val (.int (Int32.ofNat i))] [(.ref b), (.int (Int32.ofNat i))])) rfl rfl (Jvm.hb hby d_jdk_43_method_2_2) _ ?_
    rw [len_of S1 M1]
    show Steps p.tables e below (s₁.setTop (mkF m 3 #[.val (.ref b), .val (.int (Int32.ofNat i))] [(.int (Int32.ofNat cs.length)), (.int (Int32.ofNat i))])) _
    refine st3 _ ?_
    show Steps p.tables e below (T3.setTop (mkF m 6 #[.val (.ref b), .val (.int (Int32.ofNat i))] [])) _
    refine XS.aloadN X3.here hx rfl (Jvm.hb hby d_jdk_43_method_2_6) rfl rfl ?_
    refine XS.iloadN X3.here hx rfl (Jvm.hb hby d_jdk_43_method_2_7) rfl ?_
    refine X3.baloadBytes hx (j := (Int32.ofNat i)) (v := (.int (own_lo (cs.getD i 0)))) (by rw [e3]; exact Ar4.1) (State.isArrayOf_alike hZ.alike Ar4.2.1) Ar4.2.2 hin4 hat4 (g := (mkF m 8 #[.val (.ref b), .val (.int (Int32.ofNat i))] [(.int (Int32.ofNat i)), (.ref b)])) rfl rfl (Jvm.hb hby d_jdk_43_method_2_8) _ ?_
    show Steps p.tables e below (T3.setTop (mkF m 9 #[.val (.ref b), .val (.int (Int32.ofNat i))] [(.int (own_lo (cs.getD i 0)))])) _
    refine XS.sipush X3.here hx rfl (Jvm.hb hby d_jdk_43_method_2_9) ?_
    refine XS.iand X3.here hx rfl (Jvm.hb hby d_jdk_43_method_2_12) rfl ?_
    refine XS.i2c X3.here hx rfl (Jvm.hb hby d_jdk_43_method_2_13) rfl ?_
    show Steps p.tables e below (T3.setTop (mkF m 14 #[.val (.ref b), .val (.int (Int32.ofNat i))] [(.int (i2c ((own_lo (cs.getD i 0)) &&& (255 : Int32))))])) t_
    exact k_)
  obtain ⟨fs, hr, hrun, hended, hW, hsame⟩ := X3.leave (v := some (.int (nar .char (i2c ((own_lo (cs.getD i 0)) &&& (255 : Int32)))))) (fun h => by rw [Bd.returns] at h; cases h)
  refine ⟨_, _, s5 _ ?_, hrun, hended, _, _, rfl, ?_, ⟨_, rfl⟩, hW, hsame.mono (by decide) (by decide)⟩
  · show Steps p.tables e below (T3.setTop (mkF m 14 #[.val (.ref b), .val (.int (Int32.ofNat i))] [(.int (i2c ((own_lo (cs.getD i 0)) &&& (255 : Int32))))])) _
    exact retN X3 hx (t := .char) Bd.returns (by simp) (Jvm.hb hby d_jdk_43_method_2_14) hr
  · show Q_rmLCh Z _ _ _ _ _ h0 n0 _ T3.heap _
    rw [e3]
    exact ⟨(by rw [own_chr (hchs _ (own_mem cs i hi)).1 (hlat _ (own_mem cs i hi))]), N3, rfl⟩
theorem d_jdk_42_method_56_0 : decode jdk_42_method_56_code 0 = .ok (.aload_n 0, 1) := by decide +kernel
theorem pd___Z : parseMethodDescriptor "()Z" = some ⟨[], some .boolean⟩ := by decide +kernel
theorem d_jdk_42_method_56_1 : decode jdk_42_method_56_code 1 = .ok (.invokevirtual 492, 3) := by decide +kernel
theorem d_jdk_42_method_56_4 : decode jdk_42_method_56_code 4 = .ok (.ifCond .eq 12, 3) := by decide +kernel
theorem d_jdk_42_method_56_7 : decode jdk_42_method_56_code 7 = .ok (.aload_n 0, 1) := by decide +kernel
theorem d_jdk_42_method_56_8 : decode jdk_42_method_56_code 8 = .ok (.getfield 9, 3) := by decide +kernel
theorem d_jdk_42_method_56_11 : decode jdk_42_method_56_code 11 = .ok (.iload_n 1, 1) := by decide +kernel
theorem pd___BI_C : parseMethodDescriptor "([BI)C" = some ⟨[(.array .byte), .int], some .char⟩ := by decide +kernel
theorem d_jdk_42_method_56_12 : decode jdk_42_method_56_code 12 = .ok (.invokestatic 495, 3) := by decide +kernel
theorem d_jdk_42_method_56_15 : decode jdk_42_method_56_code 15 = .ok (.ireturn, 1) := by decide +kernel
theorem ef_rmChA (m : MethodId) (x0 : Addr) (x1 : Int32) : entryFrame m #[(.ref x0), (.int x1)] 2 = mkF m 0 #[.val (.ref x0), .val (.int x1)] [] := by first | (simp [entryFrame, mkF, argsToLocals, Value.category]; done) | rfl
def Q_rmChA (Z : State) (a : Addr) (cst : Int32) (b : Addr) (kb : ClassId) (cs : List Int32) (i : Nat) (fmt : Value) (h0 : Heap) (n0 : Nat) (v : Option Value) (h : Heap) (L : List Loc) : Prop := (v = some (.int (cs.getD i 0))) ∧ (Fr n0 L) ∧ (h = h0)
set_option maxRecDepth 65536 in
set_option maxHeartbeats 40000000 in
theorem rmChA (l : Launch) (Z : State) (a0 : Array Value) (hw : ∀ d ∈ tables_1, d.before a0 Z = true) (ws : List Jvm.Cond) (a : Addr) (cst : Int32) (b : Addr) (kb : ClassId) (cs : List Int32) (i : Nat) (fmt : Value) (h0 : Heap) (n0 : Nat) (Z0 : n0 ≤ h0.size) (I1 : Sta Z Z.heap "java/lang/String" "COMPACT_STRINGS" "Z" (.int cst)) (hfmt : fmt.isRef = true) (I2 : Sta Z Z.heap "jdk/internal/util/Preconditions" "SIOOBE_FORMATTER" "Ljava/util/function/BiFunction;" fmt) (OX : Old Z n0 h0) (hcst : ¬ (cst = (0 : Int32))) (I3 : Exa Z h0 a "java/lang/String") (I4 : Fld Z h0 a "java/lang/String" "value" "[B" (.ref b)) (I5 : Fld Z h0 a "java/lang/String" "coder" "B" (.int (own_cod cs))) (I6 : Arv Z h0 b kb .byte (Int32.ofNat (own_enl cs)) (own_enc cs) (.int (0 : Int32))) (hb : cs.length ≤ 2) (hi : i < cs.length) (hchs : own_chs cs) (hlat : own_lat cs) :
    MetFree l (⟨"java/lang/String", "charAt", "(I)C"⟩ : MethodName) (head1 (Jvm.Cond.code (⟨"java/lang/String", "charAt", "(I)C"⟩ : MethodName) jdk_42_method_56_code 2 (some .char) :: ws) ({ frames := 3, cells := 0, slots := 0, locals := 40 } : Room)) (fun ar_ U => ar_ = #[(.ref a), (.int (Int32.ofNat i))] ∧ Z.Warmed39 U.vm ∧ U.heap = h0) (fun _ _ _ _ _ => True) (fun _ U o U' => ∃ v L, o = .returned v ∧ Q_rmChA Z a cst b kb cs i fmt h0 n0 v U'.heap L ∧ FrameEnd U o U' L ({ frames := 3, cells := 0, slots := 0, locals := 40 } : Room).cells ({ frames := 3, cells := 0, slots := 0, locals := 40 } : Room).slots) := by
  refine MetFree.of_bodySF (plainFor_of_name pn_java_lang_String) hisR ?_
  intro p e s m args below meth c s₁ Bd hml0 hP hK
  obtain ⟨rfl, hZ, hh⟩ := hP
  have hx := Bd.exec
  have hby := Bd.bytes
  have hml : c.maxLocals = 2 := hml0
  have hown : s.vm.findClass "java/lang/String" = some m.cls := findClass_of_methodNamed Bd.named
  have hnm := (name_of_methodNamed Bd.named Bd.method).1
  have X0 : Stand p l e ({ frames := 3, cells := 0, slots := 0, locals := 40 } : Room) s m #[(.ref a), (.int (Int32.ofNat i))] below meth c s₁ [] 0 0 := Stand.of_body Bd
  have e0 : s₁.heap = h0 := by rw [← hh, Bd.state]; rfl
  have N0 := Fr.nil n0
  have pre0 : ∀ t_, Steps p.tables e below (s₁.setTop (mkF m 0 #[.val (.ref a), .val (.int (Int32.ofNat i))] [])) t_ → Steps p.tables e below (s₁.setTop (entryFrame m #[(.ref a), (.int (Int32.ofNat i))] 2)) t_ := fun t_ k_ => castTop (ef_rmChA m a (Int32.ofNat i)) k_
  have lt_I3 : @LT.lt Nat _ a h0.size := I3.lt
  have lt_I4 : @LT.lt Nat _ a h0.size := I4.lt
  have lt_I5 : @LT.lt Nat _ a h0.size := I5.lt
  have lt_I6 : @LT.lt Nat _ b h0.size := I6.lt
  have Zc1 : n0 ≤ h0.size := by omega
  obtain ⟨cq2, kq2, q2a, q2b, q2c⟩ := isOf hZ e0 I3
  obtain ⟨_, _, ⟨T2, L2, k2, n2⟩, -, X2, ⟨Lc2, hQ2, l2, y2, z2⟩, st2⟩ := X0.virtualBack hx (y := (⟨"java/lang/String", "isLatin1", "()Z"⟩ : MethodName)) (z := (⟨"java/lang/String", "isLatin1", "()Z"⟩ : MethodName)) hown (mvT hZ (hw _ (List.mem_of_getElem? (i := 75) rfl))) (mvT hZ (hw _ (List.mem_of_getElem? (i := 76) rfl))) (notFace_of_selects (args := #[]) (mvT hZ (hw _ (List.mem_of_getElem? (i := 78) rfl)))) (mvT hZ (hw _ (List.mem_of_getElem? (i := 78) rfl))) (mvT hZ (hw _ (List.mem_of_getElem? (i := 77) rfl))) (by decide) (backOf (W := 0) (rmIsL l Z a0 hw [] a cst cs h0 n0 Zc1 I1 OX (hcst : ¬ (cst = (0 : Int32))) I5) hZ (hw _ (List.mem_of_getElem? (i := 79) rfl)) (hw _ (List.mem_of_getElem? (i := 13) rfl)) (by decide) (by decide)) q2a q2c (g := (mkF m 1 #[.val (.ref a), .val (.int (Int32.ofNat i))] [(.ref a)])) rfl (by rw [hml]; rfl) (Steps.refl _) (argsL := []) (rest := []) (lenOf pd___Z rfl) rfl (by show 2 * 0 + _ ≤ _; exact Nat.le_of_eq rfl) (Jvm.hb hby d_jdk_42_method_56_1) (fun _ _ => ⟨rfl, e0, (by decide : 0 + 0 ≤ _), (by decide : 0 + 0 ≤ _)⟩)
  dsimp only [Pt.U, Pt.locs, Pt.cells, Pt.slots] at X2 l2 y2 z2 st2 hQ2
  subst l2 y2 z2
  obtain ⟨rfl, N2q, e2⟩ := hQ2
  have N2 := Fr.app N0 N2q
  obtain ⟨T3, X3, e3, st3⟩ := getF X2 hx hZ hown (host := "") (Or.inl (hw _ (List.mem_of_getElem? (i := 39) rfl))) Via.refl e2 I4 (g := (mkF m 8 #[.val (.ref a), .val (.int (Int32.ofNat i))] [(.ref a)])) rfl rfl (Jvm.hb hby d_jdk_42_method_56_8)
  have V4 : Arv Z h0 b kb .byte (Int32.ofNat cs.length) (own_enc cs) (.int (0 : Int32)) := by have q := I6; rw [own_enl, if_pos hlat] at q; exact q
  have Zc5 : n0 ≤ h0.size := by omega
  obtain ⟨_, _, ⟨T6, L6, k6, n6⟩, -, X6, ⟨Lc6, hQ6, l6, y6, z6⟩, st6⟩ := Jvm.LawKit.callS X3 hx (y := (⟨"java/lang/StringLatin1", "charAt", "([BI)C"⟩ : MethodName)) hown (mvT hZ (hw _ (List.mem_of_getElem? (i := 80) rfl))) (mvT hZ (hw _ (List.mem_of_getElem? (i := 81) rfl))) (mvT hZ (hw _ (List.mem_of_getElem? (i := 82) rfl))) (mvT hZ (hw _ (List.mem_of_getElem? (i := 83) rfl))) (by decide) (backOf (W := 0) (rmLCh l Z a0 hw [] b kb cs i fmt h0 n0 Zc5 (hfmt : fmt.isRef = true) I2 OX V4 (hb : cs.length ≤ 2) (hi : i < cs.length) (hlat : own_lat cs) (hchs : own_chs cs)) hZ (hw _ (List.mem_of_getElem? (i := 83) rfl)) (hw _ (List.mem_of_getElem? (i := 82) rfl)) (by decide) (by decide)) (g := (mkF m 12 #[.val (.ref a), .val (.int (Int32.ofNat i))] [(.int (Int32.ofNat i)), (.ref b)])) rfl (by rw [hml]; rfl) (argsL := [(.ref b), (.int (Int32.ofNat i))]) (rest := []) (lenOf pd___BI_C rfl) rfl (by show 2 * 0 + _ ≤ _; exact Nat.le_of_eq rfl) (Jvm.hb hby d_jdk_42_method_56_12) (fun _ _ => ⟨rfl, e3, (by decide : 0 + 0 ≤ _), (by decide : 0 + 0 ≤ _)⟩)
  dsimp only [Pt.U, Pt.locs, Pt.cells, Pt.slots] at X6 l6 y6 z6 st6 hQ6
  subst l6 y6 z6
  obtain ⟨rfl, N6q, e6⟩ := hQ6
  have N6 := Fr.app N2 N6q
  have s7 : ∀ t_, Steps p.tables e below (T6.setTop (mkF m 15 #[.val (.ref a), .val (.int (Int32.ofNat i))] [(.int (cs.getD i 0))])) t_ → Steps p.tables e below (s₁.setTop (entryFrame m #[(.ref a), (.int (Int32.ofNat i))] 2)) t_ := fun t_ k_ => pre0 t_ (by
    show Steps p.tables e below (s₁.setTop (mkF m 0 #[.val (.ref a), .val (.int (Int32.ofNat i))] [])) t_
    refine XS.aloadN X0.here hx rfl (Jvm.hb hby d_jdk_42_method_56_0) rfl rfl ?_
    refine st2.trans ?_
    show Steps p.tables e below (T2.setTop (mkF m 4 #[.val (.ref a), .val (.int (Int32.ofNat i))] [(.int (if own_cod cs = (0 : Int32) then (1 : Int32) else (0 : Int32)))])) _
    refine castTop (g' := (mkF m 4 #[.val (.ref a), .val (.int (Int32.ofNat i))] [(.int (1 : Int32))])) (by rw [if_pos (own_cod0 hlat)]) ?_
    show Steps p.tables e below (T2.setTop (mkF m 4 #[.val (.ref a), .val (.int (Int32.ofNat i))] [(.int (1 : Int32))])) _
    refine XS.ifNo X2.here hx rfl (Jvm.hb hby d_jdk_42_method_56_4) rfl ((if0 _ _).trans (feq (by decide : ¬ ((1 : Int32) = (0 : Int32)))).1) ?_
    show Steps p.tables e below (T2.setTop (mkF m 7 #[.val (.ref a), .val (.int (Int32.ofNat i))] [])) _
    refine XS.aloadN X2.here hx rfl (Jvm.hb hby d_jdk_42_method_56_7) rfl rfl ?_
    refine st3 _ ?_
    show Steps p.tables e below (T3.setTop (mkF m 11 #[.val (.ref a), .val (.int (Int32.ofNat i))] [(.ref b)])) _
    refine XS.iloadN X3.here hx rfl (Jvm.hb hby d_jdk_42_method_56_11) rfl ?_
    refine st6 _ ?_
    show Steps p.tables e below (T6.setTop (mkF m 15 #[.val (.ref a), .val (.int (Int32.ofNat i))] [(.int (cs.getD i 0))])) _
    show Steps p.tables e below (T6.setTop (mkF m 15 #[.val (.ref a), .val (.int (Int32.ofNat i))] [(.int (cs.getD i 0))])) t_
    exact k_)
  obtain ⟨fs, hr, hrun, hended, hW, hsame⟩ := X6.leave (v := some (.int (nar .char (cs.getD i 0)))) (fun h => by rw [Bd.returns] at h; cases h)
  refine ⟨_, _, s7 _ ?_, hrun, hended, _, _, rfl, ?_, ⟨_, rfl⟩, hW, hsame.mono (by decide) (by decide)⟩
  · show Steps p.tables e below (T6.setTop (mkF m 15 #[.val (.ref a), .val (.int (Int32.ofNat i))] [(.int (cs.getD i 0))])) _
    exact retN X6 hx (t := .char) Bd.returns (by simp) (Jvm.hb hby d_jdk_42_method_56_15) hr
  · show Q_rmChA Z _ _ _ _ _ _ _ h0 n0 _ T6.heap _
    rw [e6]
    exact ⟨(by rw [own_narc (hchs _ (own_mem cs i hi)).1 (hchs _ (own_mem cs i hi)).2]), N6, rfl⟩
theorem d_jdk_43_method_13_0 : decode jdk_43_method_13_code 0 = .ok (.aload_n 0, 1) := by decide +kernel
theorem d_jdk_43_method_13_1 : decode jdk_43_method_13_code 1 = .ok (.arraylength, 1) := by decide +kernel
theorem d_jdk_43_method_13_2 : decode jdk_43_method_13_code 2 = .ok (.aload_n 1, 1) := by decide +kernel
theorem d_jdk_43_method_13_3 : decode jdk_43_method_13_code 3 = .ok (.arraylength, 1) := by decide +kernel
theorem d_jdk_43_method_13_4 : decode jdk_43_method_13_code 4 = .ok (.if_icmp .ne 30, 3) := by decide +kernel
theorem d_jdk_43_method_13_7 : decode jdk_43_method_13_code 7 = .ok (.iconst 0, 1) := by decide +kernel
theorem d_jdk_43_method_13_8 : decode jdk_43_method_13_code 8 = .ok (.istore_n 2, 1) := by decide +kernel
theorem d_jdk_43_method_13_9 : decode jdk_43_method_13_code 9 = .ok (.iload_n 2, 1) := by decide +kernel
theorem d_jdk_43_method_13_10 : decode jdk_43_method_13_code 10 = .ok (.aload_n 0, 1) := by decide +kernel
theorem d_jdk_43_method_13_11 : decode jdk_43_method_13_code 11 = .ok (.arraylength, 1) := by decide +kernel
theorem d_jdk_43_method_13_12 : decode jdk_43_method_13_code 12 = .ok (.if_icmp .ge 20, 3) := by decide +kernel
theorem d_jdk_43_method_13_15 : decode jdk_43_method_13_code 15 = .ok (.aload_n 0, 1) := by decide +kernel
theorem d_jdk_43_method_13_16 : decode jdk_43_method_13_code 16 = .ok (.iload_n 2, 1) := by decide +kernel
theorem d_jdk_43_method_13_17 : decode jdk_43_method_13_code 17 = .ok (.baload, 1) := by decide +kernel
theorem d_jdk_43_method_13_18 : decode jdk_43_method_13_code 18 = .ok (.aload_n 1, 1) := by decide +kernel
theorem d_jdk_43_method_13_19 : decode jdk_43_method_13_code 19 = .ok (.iload_n 2, 1) := by decide +kernel
theorem d_jdk_43_method_13_20 : decode jdk_43_method_13_code 20 = .ok (.baload, 1) := by decide +kernel
theorem d_jdk_43_method_13_21 : decode jdk_43_method_13_code 21 = .ok (.if_icmp .eq 5, 3) := by decide +kernel
theorem d_jdk_43_method_13_26 : decode jdk_43_method_13_code 26 = .ok (.iinc 2 1, 3) := by decide +kernel
theorem d_jdk_43_method_13_29 : decode jdk_43_method_13_code 29 = .ok (.goto (-20), 3) := by decide +kernel
theorem d_jdk_43_method_13_32 : decode jdk_43_method_13_code 32 = .ok (.iconst 1, 1) := by decide +kernel
theorem d_jdk_43_method_13_33 : decode jdk_43_method_13_code 33 = .ok (.ireturn, 1) := by decide +kernel
theorem d_jdk_43_method_13_24 : decode jdk_43_method_13_code 24 = .ok (.iconst 0, 1) := by decide +kernel
theorem d_jdk_43_method_13_25 : decode jdk_43_method_13_code 25 = .ok (.ireturn, 1) := by decide +kernel
theorem d_jdk_43_method_13_34 : decode jdk_43_method_13_code 34 = .ok (.iconst 0, 1) := by decide +kernel
theorem d_jdk_43_method_13_35 : decode jdk_43_method_13_code 35 = .ok (.ireturn, 1) := by decide +kernel
theorem ef_rmLEq (m : MethodId) (x0 : Addr) (x1 : Addr) : entryFrame m #[(.ref x0), (.ref x1)] 3 = mkF m 0 #[.val (.ref x0), .val (.ref x1), .unset] [] := by first | (simp [entryFrame, mkF, argsToLocals, Value.category]; done) | rfl
def Q_rmLEq (Z : State) (bx : Addr) (by_ : Addr) (kx : ClassId) (ky : ClassId) (xs : List Int32) (ys : List Int32) (h0 : Heap) (n0 : Nat) (v : Option Value) (h : Heap) (L : List Loc) : Prop := (v = some (.int (if xs = ys then (1 : Int32) else (0 : Int32)))) ∧ (Fr n0 L) ∧ (h = h0)
set_option maxRecDepth 65536 in
set_option maxHeartbeats 40000000 in
theorem rmLEq (l : Launch) (Z : State) (a0 : Array Value) (hw : ∀ d ∈ tables_1, d.before a0 Z = true) (ws : List Jvm.Cond) (bx : Addr) (by_ : Addr) (kx : ClassId) (ky : ClassId) (xs : List Int32) (ys : List Int32) (h0 : Heap) (n0 : Nat) (Z0 : n0 ≤ h0.size) (I1 : Arv Z h0 bx kx .byte (Int32.ofNat xs.length) (xs.map Value.int) (.int (0 : Int32))) (I2 : Arv Z h0 by_ ky .byte (Int32.ofNat ys.length) (ys.map Value.int) (.int (0 : Int32))) (hb1 : xs.length ≤ 8000) (hb2 : ys.length ≤ 8000) :
    MetFree l (⟨"java/lang/StringLatin1", "equals", "([B[B)Z"⟩ : MethodName) (head1 (Jvm.Cond.code (⟨"java/lang/StringLatin1", "equals", "([B[B)Z"⟩ : MethodName) jdk_43_method_13_code 3 (some .boolean) :: ws) ({ frames := 0, cells := 0, slots := 0, locals := 0 } : Room)) (fun ar_ U => ar_ = #[(.ref bx), (.ref by_)] ∧ Z.Warmed39 U.vm ∧ U.heap = h0) (fun _ _ _ _ _ => True) (fun _ U o U' => ∃ v L, o = .returned v ∧ Q_rmLEq Z bx by_ kx ky xs ys h0 n0 v U'.heap L ∧ FrameEnd U o U' L ({ frames := 0, cells := 0, slots := 0, locals := 0 } : Room).cells ({ frames := 0, cells := 0, slots := 0, locals := 0 } : Room).slots) := by
  refine MetFree.of_bodySF (plainFor_of_name pn_java_lang_StringLatin1) hisR ?_
  intro p e s m args below meth c s₁ Bd hml0 hP hK
  obtain ⟨rfl, hZ, hh⟩ := hP
  have hx := Bd.exec
  have hby := Bd.bytes
  have hml : c.maxLocals = 3 := hml0
  have hown : s.vm.findClass "java/lang/StringLatin1" = some m.cls := findClass_of_methodNamed Bd.named
  have hnm := (name_of_methodNamed Bd.named Bd.method).1
  have X0 : Stand p l e ({ frames := 0, cells := 0, slots := 0, locals := 0 } : Room) s m #[(.ref bx), (.ref by_)] below meth c s₁ [] 0 0 := Stand.of_body Bd
  have e0 : s₁.heap = h0 := by rw [← hh, Bd.state]; rfl
  have N0 := Fr.nil n0
  have pre0 : ∀ t_, Steps p.tables e below (s₁.setTop (mkF m 0 #[.val (.ref bx), .val (.ref by_), .unset] [])) t_ → Steps p.tables e below (s₁.setTop (entryFrame m #[(.ref bx), (.ref by_)] 3)) t_ := fun t_ k_ => castTop (ef_rmLEq m bx by_) k_
  have lt_I1 : @LT.lt Nat _ bx h0.size := I1.lt
  have lt_I2 : @LT.lt Nat _ by_ h0.size := I2.lt
  obtain ⟨cl1, Ar1, -, S1, M1, -, -⟩ := id I1
  obtain ⟨cl2, Ar2, -, S2, M2, -, -⟩ := id I2
  have s3 : ∀ t_, Steps p.tables e below (s₁.setTop (mkF m 4 #[.val (.ref bx), .val (.ref by_), .unset] [(.int (Int32.ofNat ys.length)), (.int (Int32.ofNat xs.length))])) t_ → Steps p.tables e below (s₁.setTop (entryFrame m #[(.ref bx), (.ref by_)] 3)) t_ := fun t_ k_ => pre0 t_ (by
    show Steps p.tables e below (s₁.setTop (mkF m 0 #[.val (.ref bx), .val (.ref by_), .unset] [])) t_
    refine XS.aloadN X0.here hx rfl (Jvm.hb hby d_jdk_43_method_13_0) rfl rfl ?_
    refine X0.arraylength hx (by rw [e0]; exact Ar1.1) (State.isArrayOf_alike hZ.alike Ar1.2.1) (g := (mkF m 1 #[.val (.ref bx), .val (.ref by_), .unset] [(.ref bx)])) rfl rfl (Jvm.hb hby d_jdk_43_method_13_1) _ ?_
    rw [len_of S1 M1]
    show Steps p.tables e below (s₁.setTop (mkF m 2 #[.val (.ref bx), .val (.ref by_), .unset] [(.int (Int32.ofNat xs.length))])) _
    refine XS.aloadN X0.here hx rfl (Jvm.hb hby d_jdk_43_method_13_2) rfl rfl ?_
    refine X0.arraylength hx (by rw [e0]; exact Ar2.1) (State.isArrayOf_alike hZ.alike Ar2.2.1) (g := (mkF m 3 #[.val (.ref bx), .val (.ref by_), .unset] [(.ref by_), (.int (Int32.ofNat xs.length))])) rfl rfl (Jvm.hb hby d_jdk_43_method_13_3) _ ?_
    rw [len_of S2 M2]
    show Steps p.tables e below (s₁.setTop (mkF m 4 #[.val (.ref bx), .val (.ref by_), .unset] [(.int (Int32.ofNat ys.length)), (.int (Int32.ofNat xs.length))])) _
    show Steps p.tables e below (s₁.setTop (mkF m 4 #[.val (.ref bx), .val (.ref by_), .unset] [(.int (Int32.ofNat ys.length)), (.int (Int32.ofNat xs.length))])) t_
    exact k_)
  by_cases h4 : (Int32.ofNat xs.length) = (Int32.ofNat ys.length)
  · have s5 : ∀ t_, Steps p.tables e below (s₁.setTop (mkF m 9 #[.val (.ref bx), .val (.ref by_), .val (.int (0 : Int32))] [])) t_ → Steps p.tables e below (s₁.setTop (entryFrame m #[(.ref bx), (.ref by_)] 3)) t_ := fun t_ k_ => s3 t_ (by
      show Steps p.tables e below (s₁.setTop (mkF m 4 #[.val (.ref bx), .val (.ref by_), .unset] [(.int (Int32.ofNat ys.length)), (.int (Int32.ofNat xs.length))])) t_
      refine XS.icmpNo X0.here hx rfl (Jvm.hb hby d_jdk_43_method_13_4) rfl (teq h4).2 ?_
      show Steps p.tables e below (s₁.setTop (mkF m 7 #[.val (.ref bx), .val (.ref by_), .unset] [])) _
      refine XS.iconst X0.here hx rfl (Jvm.hb hby d_jdk_43_method_13_7) ?_
      refine XS.istoreN X0.here hx rfl (Jvm.hb hby d_jdk_43_method_13_8) rfl (l' := #[.val (.ref bx), .val (.ref by_), .val (.int (0 : Int32))]) rfl ?_
      show Steps p.tables e below (s₁.setTop (mkF m 9 #[.val (.ref bx), .val (.ref by_), .val (.int (0 : Int32))] [])) t_
      exact k_)
    have lp6 : ∀ (k_ : Nat) (j : Nat) (T_ : State) (lo_ : List Loc), j + k_ = xs.length → Stand p l e ({ frames := 0, cells := 0, slots := 0, locals := 0 } : Room) s m #[(.ref bx), (.ref by_)] below meth c T_ lo_ 0 0 → T_.heap = h0 → Fr n0 lo_ → (∀ i, i < j → xs.getD i 0 = ys.getD i 0) → (xs.length = ys.length) → ∃ (T' : State) (lo' : List Loc) (fe_ : JFrame), Stand p l e ({ frames := 0, cells := 0, slots := 0, locals := 0 } : Room) s m #[(.ref bx), (.ref by_)] below meth c T' lo' 0 0 ∧ T'.heap = h0 ∧ Fr n0 lo' ∧ ((fe_ = (mkF m 32 #[.val (.ref bx), .val (.ref by_), .val (.int (Int32.ofNat xs.length))] []) ∧ (xs = ys)) ∨ (∃ (jj : Nat), fe_ = (mkF m 24 #[.val (.ref bx), .val (.ref by_), .val (.int (Int32.ofNat jj))] []) ∧ (¬ (xs = ys)))) ∧ ∀ t_, Steps p.tables e below (T'.setTop fe_) t_ → Steps p.tables e below (T_.setTop (mkF m 9 #[.val (.ref bx), .val (.ref by_), .val (.int (Int32.ofNat j))] [])) t_ := by
      intro k_
      induction k_ with
      | zero => 
        intro j T_ lo_ hm_ X_ e_ N_ hp hlen
        obtain ⟨cl7, Ar7, -, S7, M7, -, -⟩ := id I1
        have s8 : ∀ t_, Steps p.tables e below (T_.setTop (mkF m 32 #[.val (.ref bx), .val (.ref by_), .val (.int (Int32.ofNat j))] [])) t_ → Steps p.tables e below (T_.setTop (mkF m 9 #[.val (.ref bx), .val (.ref by_), .val (.int (Int32.ofNat j))] [])) t_ := fun t_ k_ => (fun _ k_ => k_) t_ (by
          show Steps p.tables e below (T_.setTop (mkF m 9 #[.val (.ref bx), .val (.ref by_), .val (.int (Int32.ofNat j))] [])) t_
          refine XS.iloadN X_.here hx rfl (Jvm.hb hby d_jdk_43_method_13_9) rfl ?_
          refine XS.aloadN X_.here hx rfl (Jvm.hb hby d_jdk_43_method_13_10) rfl rfl ?_
          refine X_.arraylength hx (by rw [e_]; exact Ar7.1) (State.isArrayOf_alike hZ.alike Ar7.2.1) (g := (mkF m 11 #[.val (.ref bx), .val (.ref by_), .val (.int (Int32.ofNat j))] [(.ref bx), (.int (Int32.ofNat j))])) rfl rfl (Jvm.hb hby d_jdk_43_method_13_11) _ ?_
          rw [len_of S7 M7]
          show Steps p.tables e below (T_.setTop (mkF m 12 #[.val (.ref bx), .val (.ref by_), .val (.int (Int32.ofNat j))] [(.int (Int32.ofNat xs.length)), (.int (Int32.ofNat j))])) _
          refine XS.icmpYes X_.here hx rfl (pc0 := 12) (pc' := 32) rfl (Jvm.hb hby d_jdk_43_method_13_12) rfl (flt (own_nlt (by omega) (by omega))).2.1 (by decide) (by decide) ?_
          show Steps p.tables e below (T_.setTop (mkF m 32 #[.val (.ref bx), .val (.ref by_), .val (.int (Int32.ofNat j))] [])) _
          show Steps p.tables e below (T_.setTop (mkF m 32 #[.val (.ref bx), .val (.ref by_), .val (.int (Int32.ofNat j))] [])) t_
          exact k_)
        exact ⟨T_, _, _, X_, e_, N_, (Or.inl ⟨(by rw [show j = xs.length by omega]), (own_ext hlen fun i hi => hp i (by omega))⟩), s8⟩
      | succ k_ ih => 
        intro j T_ lo_ hm_ X_ e_ N_ hp hlen
        obtain ⟨cl9, Ar9, -, S9, M9, -, -⟩ := id I1
        obtain ⟨cl10, Ar10, -, S10, M10, H10, -⟩ := id I1
        have hin10 : ¬ ((Int32.ofNat j) < 0 ∨ cl10.slots.size ≤ ((Int32.ofNat j)).toNatClampNeg) := inb_of S10 (own_in (by omega) (by omega))
        have hat10 : cl10.slots[((Int32.ofNat j)).toNatClampNeg]? = some (.int (xs.getD j 0)) := H10.at hin10 (own_getc xs j _ (by omega) (by omega))
        obtain ⟨cl11, Ar11, -, S11, M11, H11, -⟩ := id I2
        have hin11 : ¬ ((Int32.ofNat j) < 0 ∨ cl11.slots.size ≤ ((Int32.ofNat j)).toNatClampNeg) := inb_of S11 (own_in (by omega) (by omega))
        have hat11 : cl11.slots[((Int32.ofNat j)).toNatClampNeg]? = some (.int (ys.getD j 0)) := H11.at hin11 (own_getc ys j _ (by omega) (by omega))
        have s12 : ∀ t_, Steps p.tables e below (T_.setTop (mkF m 21 #[.val (.ref bx), .val (.ref by_), .val (.int (Int32.ofNat j))] [(.int (ys.getD j 0)), (.int (xs.getD j 0))])) t_ → Steps p.tables e below (T_.setTop (mkF m 9 #[.val (.ref bx), .val (.ref by_), .val (.int (Int32.ofNat j))] [])) t_ := fun t_ k_ => (fun _ k_ => k_) t_ (by
          show Steps p.tables e below (T_.setTop (mkF m 9 #[.val (.ref bx), .val (.ref by_), .val (.int (Int32.ofNat j))] [])) t_
          refine XS.iloadN X_.here hx rfl (Jvm.hb hby d_jdk_43_method_13_9) rfl ?_
          refine XS.aloadN X_.here hx rfl (Jvm.hb hby d_jdk_43_method_13_10) rfl rfl ?_
          refine X_.arraylength hx (by rw [e_]; exact Ar9.1) (State.isArrayOf_alike hZ.alike Ar9.2.1) (g := (mkF m 11 #[.val (.ref bx), .val (.ref by_), .val (.int (Int32.ofNat j))] [(.ref bx), (.int (Int32.ofNat j))])) rfl rfl (Jvm.hb hby d_jdk_43_method_13_11) _ ?_
          rw [len_of S9 M9]
          show Steps p.tables e below (T_.setTop (mkF m 12 #[.val (.ref bx), .val (.ref by_), .val (.int (Int32.ofNat j))] [(.int (Int32.ofNat xs.length)), (.int (Int32.ofNat j))])) _
          refine XS.icmpNo X_.here hx rfl (Jvm.hb hby d_jdk_43_method_13_12) rfl (tlt (own_lt (by omega) (by omega))).2.1 ?_
          show Steps p.tables e below (T_.setTop (mkF m 15 #[.val (.ref bx), .val (.ref by_), .val (.int (Int32.ofNat j))] [])) _
          refine XS.aloadN X_.here hx rfl (Jvm.hb hby d_jdk_43_method_13_15) rfl rfl ?_
          refine XS.iloadN X_.here hx rfl (Jvm.hb hby d_jdk_43_method_13_16) rfl ?_
          refine X_.baloadBytes hx (j := (Int32.ofNat j)) (v := (.int (xs.getD j 0))) (by rw [e_]; exact Ar10.1) (State.isArrayOf_alike hZ.alike Ar10.2.1) Ar10.2.2 hin10 hat10 (g := (mkF m 17 #[.val (.ref bx), .val (.ref by_), .val (.int (Int32.ofNat j))] [(.int (Int32.ofNat j)), (.ref bx)])) rfl rfl (Jvm.hb hby d_jdk_43_method_13_17) _ ?_
          show Steps p.tables e below (T_.setTop (mkF m 18 #[.val (.ref bx), .val (.ref by_), .val (.int (Int32.ofNat j))] [(.int (xs.getD j 0))])) _
          refine XS.aloadN X_.here hx rfl (Jvm.hb hby d_jdk_43_method_13_18) rfl rfl ?_
          refine XS.iloadN X_.here hx rfl (Jvm.hb hby d_jdk_43_method_13_19) rfl ?_
          refine X_.baloadBytes hx (j := (Int32.ofNat j)) (v := (.int (ys.getD j 0))) (by rw [e_]; exact Ar11.1) (State.isArrayOf_alike hZ.alike Ar11.2.1) Ar11.2.2 hin11 hat11 (g := (mkF m 20 #[.val (.ref bx), .val (.ref by_), .val (.int (Int32.ofNat j))] [(.int (Int32.ofNat j)), (.ref by_), (.int (xs.getD j 0))])) rfl rfl (Jvm.hb hby d_jdk_43_method_13_20) _ ?_
          show Steps p.tables e below (T_.setTop (mkF m 21 #[.val (.ref bx), .val (.ref by_), .val (.int (Int32.ofNat j))] [(.int (ys.getD j 0)), (.int (xs.getD j 0))])) _
          show Steps p.tables e below (T_.setTop (mkF m 21 #[.val (.ref bx), .val (.ref by_), .val (.int (Int32.ofNat j))] [(.int (ys.getD j 0)), (.int (xs.getD j 0))])) t_
          exact k_)
        by_cases h13 : (xs.getD j 0) = (ys.getD j 0)
        · have s14 : ∀ t_, Steps p.tables e below (T_.setTop (mkF m 9 #[.val (.ref bx), .val (.ref by_), .val (.int ((Int32.ofNat j) + (1 : Int32)))] [])) t_ → Steps p.tables e below (T_.setTop (mkF m 9 #[.val (.ref bx), .val (.ref by_), .val (.int (Int32.ofNat j))] [])) t_ := fun t_ k_ => s12 t_ (by
            show Steps p.tables e below (T_.setTop (mkF m 21 #[.val (.ref bx), .val (.ref by_), .val (.int (Int32.ofNat j))] [(.int (ys.getD j 0)), (.int (xs.getD j 0))])) t_
            refine XS.icmpYes X_.here hx rfl (pc0 := 21) (pc' := 26) rfl (Jvm.hb hby d_jdk_43_method_13_21) rfl (teq h13).1 (by decide) (by decide) ?_
            show Steps p.tables e below (T_.setTop (mkF m 26 #[.val (.ref bx), .val (.ref by_), .val (.int (Int32.ofNat j))] [])) _
            refine XS.iinc X_.here hx rfl (Jvm.hb hby d_jdk_43_method_13_26) rfl (l' := #[.val (.ref bx), .val (.ref by_), .val (.int ((Int32.ofNat j) + (1 : Int32)))]) rfl ?_
            refine XS.goto X_.here hx rfl (pc0 := 29) (pc' := 9) rfl (Jvm.hb hby d_jdk_43_method_13_29) (by decide) (by decide) ?_
            show Steps p.tables e below (T_.setTop (mkF m 9 #[.val (.ref bx), .val (.ref by_), .val (.int ((Int32.ofNat j) + (1 : Int32)))] [])) t_
            exact k_)
          obtain ⟨T15, lo15, fe15, X15, e15, N15, A15, st15⟩ := ih (j + 1) T_ _  (by omega) X_ e_ N_   (fun i hi => by rcases Nat.lt_succ_iff_lt_or_eq.mp hi with q | q; exact hp i q; rw [q]; exact h13) hlen
          exact ⟨T15, lo15, fe15, X15, e15, N15, A15, fun t_ k_ => s14 t_ (castTop (by rw [own_up]) (st15 t_ k_))⟩
        · have s16 : ∀ t_, Steps p.tables e below (T_.setTop (mkF m 24 #[.val (.ref bx), .val (.ref by_), .val (.int (Int32.ofNat j))] [])) t_ → Steps p.tables e below (T_.setTop (mkF m 9 #[.val (.ref bx), .val (.ref by_), .val (.int (Int32.ofNat j))] [])) t_ := fun t_ k_ => s12 t_ (by
            show Steps p.tables e below (T_.setTop (mkF m 21 #[.val (.ref bx), .val (.ref by_), .val (.int (Int32.ofNat j))] [(.int (ys.getD j 0)), (.int (xs.getD j 0))])) t_
            refine XS.icmpNo X_.here hx rfl (Jvm.hb hby d_jdk_43_method_13_21) rfl (feq h13).1 ?_
            show Steps p.tables e below (T_.setTop (mkF m 24 #[.val (.ref bx), .val (.ref by_), .val (.int (Int32.ofNat j))] [])) _
            show Steps p.tables e below (T_.setTop (mkF m 24 #[.val (.ref bx), .val (.ref by_), .val (.int (Int32.ofNat j))] [])) t_
            exact k_)
          exact ⟨T_, _, _, X_, e_, N_, (Or.inr ⟨j, rfl, (fun e => h13 (by rw [e]))⟩), s16⟩
    obtain ⟨T17, lo17, fe17, X17, e17, N17, A17, st17⟩ := lp6 xs.length 0 s₁ _  (by omega) X0 e0 N0   (fun i hi => absurd hi (Nat.not_lt_zero i)) (own_inj (by omega) (by omega) h4)
    rcases A17 with ⟨rfl, J17_0⟩ | ⟨jj_17, rfl, J17_0⟩
    · have s18 : ∀ t_, Steps p.tables e below (T17.setTop (mkF m 32 #[.val (.ref bx), .val (.ref by_), .val (.int (Int32.ofNat xs.length))] [])) t_ → Steps p.tables e below (s₁.setTop (entryFrame m #[(.ref bx), (.ref by_)] 3)) t_ := fun t_ k_ => s5 t_ (st17 t_ k_)
      have s19 : ∀ t_, Steps p.tables e below (T17.setTop (mkF m 33 #[.val (.ref bx), .val (.ref by_), .val (.int (Int32.ofNat xs.length))] [(.int (1 : Int32))])) t_ → Steps p.tables e below (s₁.setTop (entryFrame m #[(.ref bx), (.ref by_)] 3)) t_ := fun t_ k_ => s18 t_ (by
        show Steps p.tables e below (T17.setTop (mkF m 32 #[.val (.ref bx), .val (.ref by_), .val (.int (Int32.ofNat xs.length))] [])) t_
        refine XS.iconst X17.here hx rfl (Jvm.hb hby d_jdk_43_method_13_32) ?_
        show Steps p.tables e below (T17.setTop (mkF m 33 #[.val (.ref bx), .val (.ref by_), .val (.int (Int32.ofNat xs.length))] [(.int (1 : Int32))])) t_
        exact k_)
      obtain ⟨fs, hr, hrun, hended, hW, hsame⟩ := X17.leave (v := some (.int (1 : Int32))) (fun h => by rw [Bd.returns] at h; cases h)
      refine ⟨_, _, s19 _ ?_, hrun, hended, _, _, rfl, ?_, ⟨_, rfl⟩, hW, hsame.mono (by decide) (by decide)⟩
      · show Steps p.tables e below (T17.setTop (mkF m 33 #[.val (.ref bx), .val (.ref by_), .val (.int (Int32.ofNat xs.length))] [(.int (1 : Int32))])) _
        exact retN X17 hx (t := .boolean) Bd.returns (by simp) (Jvm.hb hby d_jdk_43_method_13_33) hr
      · show Q_rmLEq Z _ _ _ _ _ _ h0 n0 _ T17.heap _
        rw [e17]
        exact ⟨(by rw [if_pos J17_0]), N17, rfl⟩
    · have s20 : ∀ t_, Steps p.tables e below (T17.setTop (mkF m 24 #[.val (.ref bx), .val (.ref by_), .val (.int (Int32.ofNat jj_17))] [])) t_ → Steps p.tables e below (s₁.setTop (entryFrame m #[(.ref bx), (.ref by_)] 3)) t_ := fun t_ k_ => s5 t_ (st17 t_ k_)
      have s21 : ∀ t_, Steps p.tables e below (T17.setTop (mkF m 25 #[.val (.ref bx), .val (.ref by_), .val (.int (Int32.ofNat jj_17))] [(.int (0 : Int32))])) t_ → Steps p.tables e below (s₁.setTop (entryFrame m #[(.ref bx), (.ref by_)] 3)) t_ := fun t_ k_ => s20 t_ (by
        show Steps p.tables e below (T17.setTop (mkF m 24 #[.val (.ref bx), .val (.ref by_), .val (.int (Int32.ofNat jj_17))] [])) t_
        refine XS.iconst X17.here hx rfl (Jvm.hb hby d_jdk_43_method_13_24) ?_
        show Steps p.tables e below (T17.setTop (mkF m 25 #[.val (.ref bx), .val (.ref by_), .val (.int (Int32.ofNat jj_17))] [(.int (0 : Int32))])) t_
        exact k_)
      obtain ⟨fs, hr, hrun, hended, hW, hsame⟩ := X17.leave (v := some (.int (0 : Int32))) (fun h => by rw [Bd.returns] at h; cases h)
      refine ⟨_, _, s21 _ ?_, hrun, hended, _, _, rfl, ?_, ⟨_, rfl⟩, hW, hsame.mono (by decide) (by decide)⟩
      · show Steps p.tables e below (T17.setTop (mkF m 25 #[.val (.ref bx), .val (.ref by_), .val (.int (Int32.ofNat jj_17))] [(.int (0 : Int32))])) _
        exact retN X17 hx (t := .boolean) Bd.returns (by simp) (Jvm.hb hby d_jdk_43_method_13_25) hr
      · show Q_rmLEq Z _ _ _ _ _ _ h0 n0 _ T17.heap _
        rw [e17]
        exact ⟨(by rw [if_neg J17_0]), N17, rfl⟩
  · have s22 : ∀ t_, Steps p.tables e below (s₁.setTop (mkF m 35 #[.val (.ref bx), .val (.ref by_), .unset] [(.int (0 : Int32))])) t_ → Steps p.tables e below (s₁.setTop (entryFrame m #[(.ref bx), (.ref by_)] 3)) t_ := fun t_ k_ => s3 t_ (by
      show Steps p.tables e below (s₁.setTop (mkF m 4 #[.val (.ref bx), .val (.ref by_), .unset] [(.int (Int32.ofNat ys.length)), (.int (Int32.ofNat xs.length))])) t_
      refine XS.icmpYes X0.here hx rfl (pc0 := 4) (pc' := 34) rfl (Jvm.hb hby d_jdk_43_method_13_4) rfl (feq h4).2 (by decide) (by decide) ?_
      show Steps p.tables e below (s₁.setTop (mkF m 34 #[.val (.ref bx), .val (.ref by_), .unset] [])) _
      refine XS.iconst X0.here hx rfl (Jvm.hb hby d_jdk_43_method_13_34) ?_
      show Steps p.tables e below (s₁.setTop (mkF m 35 #[.val (.ref bx), .val (.ref by_), .unset] [(.int (0 : Int32))])) t_
      exact k_)
    obtain ⟨fs, hr, hrun, hended, hW, hsame⟩ := X0.leave (v := some (.int (0 : Int32))) (fun h => by rw [Bd.returns] at h; cases h)
    refine ⟨_, _, s22 _ ?_, hrun, hended, _, _, rfl, ?_, ⟨_, rfl⟩, hW, hsame.mono (by decide) (by decide)⟩
    · show Steps p.tables e below (s₁.setTop (mkF m 35 #[.val (.ref bx), .val (.ref by_), .unset] [(.int (0 : Int32))])) _
      exact retN X0 hx (t := .boolean) Bd.returns (by simp) (Jvm.hb hby d_jdk_43_method_13_35) hr
    · show Q_rmLEq Z _ _ _ _ _ _ h0 n0 _ s₁.heap _
      rw [e0]
      exact ⟨(by rw [if_neg (fun e => h4 (by rw [e]))]), N0, rfl⟩
theorem d_jdk_42_method_66_0 : decode jdk_42_method_66_code 0 = .ok (.aload_n 0, 1) := by decide +kernel
theorem d_jdk_42_method_66_1 : decode jdk_42_method_66_code 1 = .ok (.aload_n 1, 1) := by decide +kernel
theorem d_jdk_42_method_66_2 : decode jdk_42_method_66_code 2 = .ok (.if_acmp .ne 5, 3) := by decide +kernel
theorem d_jdk_42_method_66_7 : decode jdk_42_method_66_code 7 = .ok (.aload_n 1, 1) := by decide +kernel
theorem d_jdk_42_method_66_8 : decode jdk_42_method_66_code 8 = .ok (.instanceof 10, 3) := by decide +kernel
theorem d_jdk_42_method_66_11 : decode jdk_42_method_66_code 11 = .ok (.ifCond .eq 43, 3) := by decide +kernel
theorem d_jdk_42_method_66_14 : decode jdk_42_method_66_code 14 = .ok (.aload_n 1, 1) := by decide +kernel
theorem d_jdk_42_method_66_15 : decode jdk_42_method_66_code 15 = .ok (.checkcast 10, 3) := by decide +kernel
theorem d_jdk_42_method_66_18 : decode jdk_42_method_66_code 18 = .ok (.astore_n 2, 1) := by decide +kernel
theorem d_jdk_42_method_66_19 : decode jdk_42_method_66_code 19 = .ok (.getstatic 38, 3) := by decide +kernel
theorem d_jdk_42_method_66_22 : decode jdk_42_method_66_code 22 = .ok (.ifCond .eq 14, 3) := by decide +kernel
theorem d_jdk_42_method_66_25 : decode jdk_42_method_66_code 25 = .ok (.aload_n 0, 1) := by decide +kernel
theorem d_jdk_42_method_66_26 : decode jdk_42_method_66_code 26 = .ok (.getfield 15, 3) := by decide +kernel
theorem d_jdk_42_method_66_29 : decode jdk_42_method_66_code 29 = .ok (.aload_n 2, 1) := by decide +kernel
theorem d_jdk_42_method_66_30 : decode jdk_42_method_66_code 30 = .ok (.getfield 15, 3) := by decide +kernel
theorem d_jdk_42_method_66_33 : decode jdk_42_method_66_code 33 = .ok (.if_icmp .ne 21, 3) := by decide +kernel
theorem d_jdk_42_method_66_36 : decode jdk_42_method_66_code 36 = .ok (.aload_n 0, 1) := by decide +kernel
theorem d_jdk_42_method_66_37 : decode jdk_42_method_66_code 37 = .ok (.getfield 9, 3) := by decide +kernel
theorem d_jdk_42_method_66_40 : decode jdk_42_method_66_code 40 = .ok (.aload_n 2, 1) := by decide +kernel
theorem d_jdk_42_method_66_41 : decode jdk_42_method_66_code 41 = .ok (.getfield 9, 3) := by decide +kernel
theorem pd___B_B_Z : parseMethodDescriptor "([B[B)Z" = some ⟨[(.array .byte), (.array .byte)], some .boolean⟩ := by decide +kernel
theorem d_jdk_42_method_66_44 : decode jdk_42_method_66_code 44 = .ok (.invokestatic 541, 3) := by decide +kernel
theorem d_jdk_42_method_66_47 : decode jdk_42_method_66_code 47 = .ok (.ifCond .eq 7, 3) := by decide +kernel
theorem d_jdk_42_method_66_50 : decode jdk_42_method_66_code 50 = .ok (.iconst 1, 1) := by decide +kernel
theorem d_jdk_42_method_66_51 : decode jdk_42_method_66_code 51 = .ok (.goto 4, 3) := by decide +kernel
theorem d_jdk_42_method_66_55 : decode jdk_42_method_66_code 55 = .ok (.ireturn, 1) := by decide +kernel
theorem d_jdk_42_method_66_54 : decode jdk_42_method_66_code 54 = .ok (.iconst 0, 1) := by decide +kernel
theorem ef_rmSEq (m : MethodId) (x0 : Addr) (x1 : Addr) : entryFrame m #[(.ref x0), (.ref x1)] 3 = mkF m 0 #[.val (.ref x0), .val (.ref x1), .unset] [] := by first | (simp [entryFrame, mkF, argsToLocals, Value.category]; done) | rfl
def Q_rmSEq (Z : State) (ax : Addr) (ay : Addr) (cst : Int32) (bx : Addr) (kx : ClassId) (cs : List Int32) (by_ : Addr) (ky : ClassId) (ds : List Int32) (h0 : Heap) (n0 : Nat) (v : Option Value) (h : Heap) (L : List Loc) : Prop := (v = some (.int (if cs = ds then (1 : Int32) else (0 : Int32)))) ∧ (Fr n0 L) ∧ (h = h0)
set_option maxRecDepth 65536 in
set_option maxHeartbeats 40000000 in
theorem rmSEq (l : Launch) (Z : State) (a0 : Array Value) (hw : ∀ d ∈ tables_1, d.before a0 Z = true) (ws : List Jvm.Cond) (ax : Addr) (ay : Addr) (cst : Int32) (bx : Addr) (kx : ClassId) (cs : List Int32) (by_ : Addr) (ky : ClassId) (ds : List Int32) (h0 : Heap) (n0 : Nat) (Z0 : n0 ≤ h0.size) (I1 : Sta Z Z.heap "java/lang/String" "COMPACT_STRINGS" "Z" (.int cst)) (OX : Old Z n0 h0) (hcst : ¬ (cst = (0 : Int32))) (I2 : Exa Z h0 ax "java/lang/String") (I3 : Fld Z h0 ax "java/lang/String" "value" "[B" (.ref bx)) (I4 : Fld Z h0 ax "java/lang/String" "coder" "B" (.int (own_cod cs))) (I5 : Arv Z h0 bx kx .byte (Int32.ofNat (own_enl cs)) (own_enc cs) (.int (0 : Int32))) (I6 : Exa Z h0 ay "java/lang/String") (I7 : Fld Z h0 ay "java/lang/String" "value" "[B" (.ref by_)) (I8 : Fld Z h0 ay "java/lang/String" "coder" "B" (.int (own_cod ds))) (I9 : Arv Z h0 by_ ky .byte (Int32.ofNat (own_enl ds)) (own_enc ds) (.int (0 : Int32))) (hne : ¬ (ax = ay)) (hchc : own_chs cs) (hchd : own_chs ds) (hbc : cs.length ≤ 2) (hbd : ds.length ≤ 2) :
    MetFree l (⟨"java/lang/String", "equals", "(Ljava/lang/Object;)Z"⟩ : MethodName) (head1 (Jvm.Cond.code (⟨"java/lang/String", "equals", "(Ljava/lang/Object;)Z"⟩ : MethodName) jdk_42_method_66_code 3 (some .boolean) :: ws) ({ frames := 1, cells := 0, slots := 0, locals := 14 } : Room)) (fun ar_ U => ar_ = #[(.ref ax), (.ref ay)] ∧ Z.Warmed39 U.vm ∧ U.heap = h0) (fun _ _ _ _ _ => True) (fun _ U o U' => ∃ v L, o = .returned v ∧ Q_rmSEq Z ax ay cst bx kx cs by_ ky ds h0 n0 v U'.heap L ∧ FrameEnd U o U' L ({ frames := 1, cells := 0, slots := 0, locals := 14 } : Room).cells ({ frames := 1, cells := 0, slots := 0, locals := 14 } : Room).slots) := by
  refine MetFree.of_bodySF (plainFor_of_name pn_java_lang_String) hisR ?_
  intro p e s m args below meth c s₁ Bd hml0 hP hK
  obtain ⟨rfl, hZ, hh⟩ := hP
  have hx := Bd.exec
  have hby := Bd.bytes
  have hml : c.maxLocals = 3 := hml0
  have hown : s.vm.findClass "java/lang/String" = some m.cls := findClass_of_methodNamed Bd.named
  have hnm := (name_of_methodNamed Bd.named Bd.method).1
  have X0 : Stand p l e ({ frames := 1, cells := 0, slots := 0, locals := 14 } : Room) s m #[(.ref ax), (.ref ay)] below meth c s₁ [] 0 0 := Stand.of_body Bd
  have e0 : s₁.heap = h0 := by rw [← hh, Bd.state]; rfl
  have N0 := Fr.nil n0
  have pre0 : ∀ t_, Steps p.tables e below (s₁.setTop (mkF m 0 #[.val (.ref ax), .val (.ref ay), .unset] [])) t_ → Steps p.tables e below (s₁.setTop (entryFrame m #[(.ref ax), (.ref ay)] 3)) t_ := fun t_ k_ => castTop (ef_rmSEq m ax ay) k_
  have lt_I2 : @LT.lt Nat _ ax h0.size := I2.lt
  have lt_I3 : @LT.lt Nat _ ax h0.size := I3.lt
  have lt_I4 : @LT.lt Nat _ ax h0.size := I4.lt
  have lt_I5 : @LT.lt Nat _ bx h0.size := I5.lt
  have lt_I6 : @LT.lt Nat _ ay h0.size := I6.lt
  have lt_I7 : @LT.lt Nat _ ay h0.size := I7.lt
  have lt_I8 : @LT.lt Nat _ ay h0.size := I8.lt
  have lt_I9 : @LT.lt Nat _ by_ h0.size := I9.lt
  obtain ⟨T1, X1, e1, st1⟩ := instY X0 hx hZ hown (hw _ (List.mem_of_getElem? (i := 115) rfl)) e0 (Ins.self I6) (g := (mkF m 8 #[.val (.ref ax), .val (.ref ay), .unset] [(.ref ay)])) rfl rfl (Jvm.hb hby d_jdk_42_method_66_8)
  obtain ⟨T2, X2, e2, st2⟩ := castY X1 hx hZ hown (hw _ (List.mem_of_getElem? (i := 115) rfl)) e1 (Ins.self I6) (g := (mkF m 15 #[.val (.ref ax), .val (.ref ay), .unset] [(.ref ay)])) rfl rfl (Jvm.hb hby d_jdk_42_method_66_15)
  obtain ⟨T3, X3, e3, st3⟩ := getS2 X2 hx hZ hown (host := "") (Or.inl (hw _ (List.mem_of_getElem? (i := 25) rfl))) Via.refl e2 (I1.ext OX.2) (g := (mkF m 19 #[.val (.ref ax), .val (.ref ay), .val (.ref ay)] [])) rfl (Jvm.hb hby d_jdk_42_method_66_19)
  obtain ⟨T4, X4, e4, st4⟩ := getF X3 hx hZ hown (host := "") (Or.inl (hw _ (List.mem_of_getElem? (i := 37) rfl))) Via.refl e3 I4 (g := (mkF m 26 #[.val (.ref ax), .val (.ref ay), .val (.ref ay)] [(.ref ax)])) rfl rfl (Jvm.hb hby d_jdk_42_method_66_26)
  obtain ⟨T5, X5, e5, st5⟩ := getF X4 hx hZ hown (host := "") (Or.inl (hw _ (List.mem_of_getElem? (i := 37) rfl))) Via.refl e4 I8 (g := (mkF m 30 #[.val (.ref ax), .val (.ref ay), .val (.ref ay)] [(.ref ay), (.int (own_cod cs))])) rfl rfl (Jvm.hb hby d_jdk_42_method_66_30)
  have s6 : ∀ t_, Steps p.tables e below (T5.setTop (mkF m 33 #[.val (.ref ax), .val (.ref ay), .val (.ref ay)] [(.int (own_cod ds)), (.int (own_cod cs))])) t_ → Steps p.tables e below (s₁.setTop (entryFrame m #[(.ref ax), (.ref ay)] 3)) t_ := fun t_ k_ => pre0 t_ (by
    show Steps p.tables e below (s₁.setTop (mkF m 0 #[.val (.ref ax), .val (.ref ay), .unset] [])) t_
    refine XS.aloadN X0.here hx rfl (Jvm.hb hby d_jdk_42_method_66_0) rfl rfl ?_
    refine XS.aloadN X0.here hx rfl (Jvm.hb hby d_jdk_42_method_66_1) rfl rfl ?_
    refine Jvm.RoadKit.acmp (g := (mkF m 2 #[.val (.ref ax), .val (.ref ay), .unset] [(.ref ay), (.ref ax)])) X0 hx rfl rfl rfl (pc0 := 2) (pc' := 7) (same := false) rfl (Jvm.hb hby d_jdk_42_method_66_2) rfl (decide_eq_false fun q => hne (Value.ref.inj q)) (by decide) (by decide) ?_
    show Steps p.tables e below (s₁.setTop (mkF m 7 #[.val (.ref ax), .val (.ref ay), .unset] [])) _
    refine XS.aloadN X0.here hx rfl (Jvm.hb hby d_jdk_42_method_66_7) rfl rfl ?_
    refine st1 _ ?_
    show Steps p.tables e below (T1.setTop (mkF m 11 #[.val (.ref ax), .val (.ref ay), .unset] [(.int (1 : Int32))])) _
    refine XS.ifNo X1.here hx rfl (Jvm.hb hby d_jdk_42_method_66_11) rfl ((if0 _ _).trans (feq (by decide : ¬ ((1 : Int32) = (0 : Int32)))).1) ?_
    show Steps p.tables e below (T1.setTop (mkF m 14 #[.val (.ref ax), .val (.ref ay), .unset] [])) _
    refine XS.aloadN X1.here hx rfl (Jvm.hb hby d_jdk_42_method_66_14) rfl rfl ?_
    refine st2 _ ?_
    show Steps p.tables e below (T2.setTop (mkF m 18 #[.val (.ref ax), .val (.ref ay), .unset] [(.ref ay)])) _
    refine XS.astoreN X2.here hx rfl (Jvm.hb hby d_jdk_42_method_66_18) rfl rfl (l' := #[.val (.ref ax), .val (.ref ay), .val (.ref ay)]) rfl ?_
    refine st3 _ ?_
    show Steps p.tables e below (T3.setTop (mkF m 22 #[.val (.ref ax), .val (.ref ay), .val (.ref ay)] [(.int cst)])) _
    refine XS.ifNo X3.here hx rfl (Jvm.hb hby d_jdk_42_method_66_22) rfl ((if0 _ _).trans (feq hcst).1) ?_
    show Steps p.tables e below (T3.setTop (mkF m 25 #[.val (.ref ax), .val (.ref ay), .val (.ref ay)] [])) _
    refine XS.aloadN X3.here hx rfl (Jvm.hb hby d_jdk_42_method_66_25) rfl rfl ?_
    refine st4 _ ?_
    show Steps p.tables e below (T4.setTop (mkF m 29 #[.val (.ref ax), .val (.ref ay), .val (.ref ay)] [(.int (own_cod cs))])) _
    refine XS.aloadN X4.here hx rfl (Jvm.hb hby d_jdk_42_method_66_29) rfl rfl ?_
    refine st5 _ ?_
    show Steps p.tables e below (T5.setTop (mkF m 33 #[.val (.ref ax), .val (.ref ay), .val (.ref ay)] [(.int (own_cod ds)), (.int (own_cod cs))])) _
    show Steps p.tables e below (T5.setTop (mkF m 33 #[.val (.ref ax), .val (.ref ay), .val (.ref ay)] [(.int (own_cod ds)), (.int (own_cod cs))])) t_
    exact k_)
  by_cases h7 : (own_cod cs) = (own_cod ds)
  · obtain ⟨T8, X8, e8, st8⟩ := getF X5 hx hZ hown (host := "") (Or.inl (hw _ (List.mem_of_getElem? (i := 39) rfl))) Via.refl e5 I3 (g := (mkF m 37 #[.val (.ref ax), .val (.ref ay), .val (.ref ay)] [(.ref ax)])) rfl rfl (Jvm.hb hby d_jdk_42_method_66_37)
    obtain ⟨T9, X9, e9, st9⟩ := getF X8 hx hZ hown (host := "") (Or.inl (hw _ (List.mem_of_getElem? (i := 39) rfl))) Via.refl e8 I7 (g := (mkF m 41 #[.val (.ref ax), .val (.ref ay), .val (.ref ay)] [(.ref ay), (.ref bx)])) rfl rfl (Jvm.hb hby d_jdk_42_method_66_41)
    have V10 : Arv Z h0 bx kx .byte (Int32.ofNat (own_eb cs).length) ((own_eb cs).map Value.int) (.int (0 : Int32)) := by rw [own_ebl, ← own_encb]; exact I5
    have V11 : Arv Z h0 by_ ky .byte (Int32.ofNat (own_eb ds).length) ((own_eb ds).map Value.int) (.int (0 : Int32)) := by rw [own_ebl, ← own_encb]; exact I9
    have Zc12 : n0 ≤ h0.size := by omega
    obtain ⟨_, _, ⟨T13, L13, k13, n13⟩, -, X13, ⟨Lc13, hQ13, l13, y13, z13⟩, st13⟩ := Jvm.LawKit.callS X9 hx (y := (⟨"java/lang/StringLatin1", "equals", "([B[B)Z"⟩ : MethodName)) hown (mvT hZ (hw _ (List.mem_of_getElem? (i := 116) rfl))) (mvT hZ (hw _ (List.mem_of_getElem? (i := 117) rfl))) (mvT hZ (hw _ (List.mem_of_getElem? (i := 82) rfl))) (mvT hZ (hw _ (List.mem_of_getElem? (i := 118) rfl))) (by decide) (backOf (W := 0) (rmLEq l Z a0 hw [] bx by_ kx ky (own_eb cs) (own_eb ds) h0 n0 Zc12 V10 V11 (by rw [own_ebl]; have := own_enll cs; omega) (by rw [own_ebl]; have := own_enll ds; omega)) hZ (hw _ (List.mem_of_getElem? (i := 118) rfl)) (hw _ (List.mem_of_getElem? (i := 82) rfl)) (by decide) (by decide)) (g := (mkF m 44 #[.val (.ref ax), .val (.ref ay), .val (.ref ay)] [(.ref by_), (.ref bx)])) rfl (by rw [hml]; rfl) (argsL := [(.ref bx), (.ref by_)]) (rest := []) (lenOf pd___B_B_Z rfl) rfl (by show 2 * 0 + _ ≤ _; exact Nat.le_of_eq rfl) (Jvm.hb hby d_jdk_42_method_66_44) (fun _ _ => ⟨rfl, e9, (by decide : 0 + 0 ≤ _), (by decide : 0 + 0 ≤ _)⟩)
    dsimp only [Pt.U, Pt.locs, Pt.cells, Pt.slots] at X13 l13 y13 z13 st13 hQ13
    subst l13 y13 z13
    obtain ⟨rfl, N13q, e13⟩ := hQ13
    have N13 := Fr.app N0 N13q
    have s14 : ∀ t_, Steps p.tables e below (T13.setTop (mkF m 47 #[.val (.ref ax), .val (.ref ay), .val (.ref ay)] [(.int (if (own_eb cs) = (own_eb ds) then (1 : Int32) else (0 : Int32)))])) t_ → Steps p.tables e below (s₁.setTop (entryFrame m #[(.ref ax), (.ref ay)] 3)) t_ := fun t_ k_ => s6 t_ (by
      show Steps p.tables e below (T5.setTop (mkF m 33 #[.val (.ref ax), .val (.ref ay), .val (.ref ay)] [(.int (own_cod ds)), (.int (own_cod cs))])) t_
      refine XS.icmpNo X5.here hx rfl (Jvm.hb hby d_jdk_42_method_66_33) rfl (teq h7).2 ?_
      show Steps p.tables e below (T5.setTop (mkF m 36 #[.val (.ref ax), .val (.ref ay), .val (.ref ay)] [])) _
      refine XS.aloadN X5.here hx rfl (Jvm.hb hby d_jdk_42_method_66_36) rfl rfl ?_
      refine st8 _ ?_
      show Steps p.tables e below (T8.setTop (mkF m 40 #[.val (.ref ax), .val (.ref ay), .val (.ref ay)] [(.ref bx)])) _
      refine XS.aloadN X8.here hx rfl (Jvm.hb hby d_jdk_42_method_66_40) rfl rfl ?_
      refine st9 _ ?_
      show Steps p.tables e below (T9.setTop (mkF m 44 #[.val (.ref ax), .val (.ref ay), .val (.ref ay)] [(.ref by_), (.ref bx)])) _
      refine st13 _ ?_
      show Steps p.tables e below (T13.setTop (mkF m 47 #[.val (.ref ax), .val (.ref ay), .val (.ref ay)] [(.int (if (own_eb cs) = (own_eb ds) then (1 : Int32) else (0 : Int32)))])) _
      show Steps p.tables e below (T13.setTop (mkF m 47 #[.val (.ref ax), .val (.ref ay), .val (.ref ay)] [(.int (if (own_eb cs) = (own_eb ds) then (1 : Int32) else (0 : Int32)))])) t_
      exact k_)
    by_cases h15 : own_eb cs = own_eb ds
    · have s16 : ∀ t_, Steps p.tables e below (T13.setTop (mkF m 47 #[.val (.ref ax), .val (.ref ay), .val (.ref ay)] [(.int (1 : Int32))])) t_ → Steps p.tables e below (s₁.setTop (entryFrame m #[(.ref ax), (.ref ay)] 3)) t_ := fun t_ k_ => s14 t_ (castTop (by simp only [if_pos h15]) k_)
      have s17 : ∀ t_, Steps p.tables e below (T13.setTop (mkF m 55 #[.val (.ref ax), .val (.ref ay), .val (.ref ay)] [(.int (1 : Int32))])) t_ → Steps p.tables e below (s₁.setTop (entryFrame m #[(.ref ax), (.ref ay)] 3)) t_ := fun t_ k_ => s16 t_ (by
        show Steps p.tables e below (T13.setTop (mkF m 47 #[.val (.ref ax), .val (.ref ay), .val (.ref ay)] [(.int (1 : Int32))])) t_
        refine XS.ifNo X13.here hx rfl (Jvm.hb hby d_jdk_42_method_66_47) rfl ((if0 _ _).trans (feq (by decide : ¬ ((1 : Int32) = (0 : Int32)))).1) ?_
        show Steps p.tables e below (T13.setTop (mkF m 50 #[.val (.ref ax), .val (.ref ay), .val (.ref ay)] [])) _
        refine XS.iconst X13.here hx rfl (Jvm.hb hby d_jdk_42_method_66_50) ?_
        refine XS.goto X13.here hx rfl (pc0 := 51) (pc' := 55) rfl (Jvm.hb hby d_jdk_42_method_66_51) (by decide) (by decide) ?_
        show Steps p.tables e below (T13.setTop (mkF m 55 #[.val (.ref ax), .val (.ref ay), .val (.ref ay)] [(.int (1 : Int32))])) t_
        exact k_)
      obtain ⟨fs, hr, hrun, hended, hW, hsame⟩ := X13.leave (v := some (.int (1 : Int32))) (fun h => by rw [Bd.returns] at h; cases h)
      refine ⟨_, _, s17 _ ?_, hrun, hended, _, _, rfl, ?_, ⟨_, rfl⟩, hW, hsame.mono (by decide) (by decide)⟩
      · show Steps p.tables e below (T13.setTop (mkF m 55 #[.val (.ref ax), .val (.ref ay), .val (.ref ay)] [(.int (1 : Int32))])) _
        exact retN X13 hx (t := .boolean) Bd.returns (by simp) (Jvm.hb hby d_jdk_42_method_66_55) hr
      · show Q_rmSEq Z _ _ _ _ _ _ _ _ _ h0 n0 _ T13.heap _
        rw [e13]
        exact ⟨(by rw [if_pos (own_encinj hchc hchd h7 h15)]), N13, rfl⟩
    · have s18 : ∀ t_, Steps p.tables e below (T13.setTop (mkF m 47 #[.val (.ref ax), .val (.ref ay), .val (.ref ay)] [(.int (0 : Int32))])) t_ → Steps p.tables e below (s₁.setTop (entryFrame m #[(.ref ax), (.ref ay)] 3)) t_ := fun t_ k_ => s14 t_ (castTop (by simp only [if_neg h15]) k_)
      have s19 : ∀ t_, Steps p.tables e below (T13.setTop (mkF m 55 #[.val (.ref ax), .val (.ref ay), .val (.ref ay)] [(.int (0 : Int32))])) t_ → Steps p.tables e below (s₁.setTop (entryFrame m #[(.ref ax), (.ref ay)] 3)) t_ := fun t_ k_ => s18 t_ (by
        show Steps p.tables e below (T13.setTop (mkF m 47 #[.val (.ref ax), .val (.ref ay), .val (.ref ay)] [(.int (0 : Int32))])) t_
        refine XS.ifYes X13.here hx rfl (pc0 := 47) (pc' := 54) rfl (Jvm.hb hby d_jdk_42_method_66_47) rfl ((if0 _ _).trans (teq (rfl : (0 : Int32) = (0 : Int32))).1) (by decide) (by decide) ?_
        show Steps p.tables e below (T13.setTop (mkF m 54 #[.val (.ref ax), .val (.ref ay), .val (.ref ay)] [])) _
        refine XS.iconst X13.here hx rfl (Jvm.hb hby d_jdk_42_method_66_54) ?_
        show Steps p.tables e below (T13.setTop (mkF m 55 #[.val (.ref ax), .val (.ref ay), .val (.ref ay)] [(.int (0 : Int32))])) t_
        exact k_)
      obtain ⟨fs, hr, hrun, hended, hW, hsame⟩ := X13.leave (v := some (.int (0 : Int32))) (fun h => by rw [Bd.returns] at h; cases h)
      refine ⟨_, _, s19 _ ?_, hrun, hended, _, _, rfl, ?_, ⟨_, rfl⟩, hW, hsame.mono (by decide) (by decide)⟩
      · show Steps p.tables e below (T13.setTop (mkF m 55 #[.val (.ref ax), .val (.ref ay), .val (.ref ay)] [(.int (0 : Int32))])) _
        exact retN X13 hx (t := .boolean) Bd.returns (by simp) (Jvm.hb hby d_jdk_42_method_66_55) hr
      · show Q_rmSEq Z _ _ _ _ _ _ _ _ _ h0 n0 _ T13.heap _
        rw [e13]
        exact ⟨(by rw [if_neg (fun e => h15 (by rw [e]))]), N13, rfl⟩
  · have s20 : ∀ t_, Steps p.tables e below (T5.setTop (mkF m 55 #[.val (.ref ax), .val (.ref ay), .val (.ref ay)] [(.int (0 : Int32))])) t_ → Steps p.tables e below (s₁.setTop (entryFrame m #[(.ref ax), (.ref ay)] 3)) t_ := fun t_ k_ => s6 t_ (by
      show Steps p.tables e below (T5.setTop (mkF m 33 #[.val (.ref ax), .val (.ref ay), .val (.ref ay)] [(.int (own_cod ds)), (.int (own_cod cs))])) t_
      refine XS.icmpYes X5.here hx rfl (pc0 := 33) (pc' := 54) rfl (Jvm.hb hby d_jdk_42_method_66_33) rfl (feq h7).2 (by decide) (by decide) ?_
      show Steps p.tables e below (T5.setTop (mkF m 54 #[.val (.ref ax), .val (.ref ay), .val (.ref ay)] [])) _
      refine XS.iconst X5.here hx rfl (Jvm.hb hby d_jdk_42_method_66_54) ?_
      show Steps p.tables e below (T5.setTop (mkF m 55 #[.val (.ref ax), .val (.ref ay), .val (.ref ay)] [(.int (0 : Int32))])) t_
      exact k_)
    obtain ⟨fs, hr, hrun, hended, hW, hsame⟩ := X5.leave (v := some (.int (0 : Int32))) (fun h => by rw [Bd.returns] at h; cases h)
    refine ⟨_, _, s20 _ ?_, hrun, hended, _, _, rfl, ?_, ⟨_, rfl⟩, hW, hsame.mono (by decide) (by decide)⟩
    · show Steps p.tables e below (T5.setTop (mkF m 55 #[.val (.ref ax), .val (.ref ay), .val (.ref ay)] [(.int (0 : Int32))])) _
      exact retN X5 hx (t := .boolean) Bd.returns (by simp) (Jvm.hb hby d_jdk_42_method_66_55) hr
    · show Q_rmSEq Z _ _ _ _ _ _ _ _ _ h0 n0 _ T5.heap _
      rw [e5]
      exact ⟨(by rw [if_neg (fun e => h7 (by rw [e]))]), N0, rfl⟩
theorem d_jdk_42_method_66_5 : decode jdk_42_method_66_code 5 = .ok (.iconst 1, 1) := by decide +kernel
theorem d_jdk_42_method_66_6 : decode jdk_42_method_66_code 6 = .ok (.ireturn, 1) := by decide +kernel
theorem ef_rmSEqS (m : MethodId) (x0 : Addr) (x1 : Addr) : entryFrame m #[(.ref x0), (.ref x1)] 3 = mkF m 0 #[.val (.ref x0), .val (.ref x1), .unset] [] := by first | (simp [entryFrame, mkF, argsToLocals, Value.category]; done) | rfl
def Q_rmSEqS (Z : State) (ax : Addr) (h0 : Heap) (n0 : Nat) (v : Option Value) (h : Heap) (L : List Loc) : Prop := (v = some (.int (1 : Int32))) ∧ (Fr n0 L) ∧ (h = h0)
set_option maxRecDepth 65536 in
set_option maxHeartbeats 40000000 in
theorem rmSEqS (l : Launch) (Z : State) (a0 : Array Value) (hw : ∀ d ∈ tables_1, d.before a0 Z = true) (ws : List Jvm.Cond) (ax : Addr) (h0 : Heap) (n0 : Nat) (Z0 : n0 ≤ h0.size)  :
    MetFree l (⟨"java/lang/String", "equals", "(Ljava/lang/Object;)Z"⟩ : MethodName) (head1 (Jvm.Cond.code (⟨"java/lang/String", "equals", "(Ljava/lang/Object;)Z"⟩ : MethodName) jdk_42_method_66_code 3 (some .boolean) :: ws) ({ frames := 0, cells := 0, slots := 0, locals := 0 } : Room)) (fun ar_ U => ar_ = #[(.ref ax), (.ref ax)] ∧ Z.Warmed39 U.vm ∧ U.heap = h0) (fun _ _ _ _ _ => True) (fun _ U o U' => ∃ v L, o = .returned v ∧ Q_rmSEqS Z ax h0 n0 v U'.heap L ∧ FrameEnd U o U' L ({ frames := 0, cells := 0, slots := 0, locals := 0 } : Room).cells ({ frames := 0, cells := 0, slots := 0, locals := 0 } : Room).slots) := by
  refine MetFree.of_bodySF (plainFor_of_name pn_java_lang_String) hisR ?_
  intro p e s m args below meth c s₁ Bd hml0 hP hK
  obtain ⟨rfl, hZ, hh⟩ := hP
  have hx := Bd.exec
  have hby := Bd.bytes
  have hml : c.maxLocals = 3 := hml0
  have hown : s.vm.findClass "java/lang/String" = some m.cls := findClass_of_methodNamed Bd.named
  have hnm := (name_of_methodNamed Bd.named Bd.method).1
  have X0 : Stand p l e ({ frames := 0, cells := 0, slots := 0, locals := 0 } : Room) s m #[(.ref ax), (.ref ax)] below meth c s₁ [] 0 0 := Stand.of_body Bd
  have e0 : s₁.heap = h0 := by rw [← hh, Bd.state]; rfl
  have N0 := Fr.nil n0
  have pre0 : ∀ t_, Steps p.tables e below (s₁.setTop (mkF m 0 #[.val (.ref ax), .val (.ref ax), .unset] [])) t_ → Steps p.tables e below (s₁.setTop (entryFrame m #[(.ref ax), (.ref ax)] 3)) t_ := fun t_ k_ => castTop (ef_rmSEqS m ax ax) k_
  have s1 : ∀ t_, Steps p.tables e below (s₁.setTop (mkF m 6 #[.val (.ref ax), .val (.ref ax), .unset] [(.int (1 : Int32))])) t_ → Steps p.tables e below (s₁.setTop (entryFrame m #[(.ref ax), (.ref ax)] 3)) t_ := fun t_ k_ => pre0 t_ (by
    show Steps p.tables e below (s₁.setTop (mkF m 0 #[.val (.ref ax), .val (.ref ax), .unset] [])) t_
    refine XS.aloadN X0.here hx rfl (Jvm.hb hby d_jdk_42_method_66_0) rfl rfl ?_
    refine XS.aloadN X0.here hx rfl (Jvm.hb hby d_jdk_42_method_66_1) rfl rfl ?_
    refine Jvm.RoadKit.acmp (g := (mkF m 2 #[.val (.ref ax), .val (.ref ax), .unset] [(.ref ax), (.ref ax)])) X0 hx rfl rfl rfl (pc0 := 2) (pc' := 5) (same := true) rfl (Jvm.hb hby d_jdk_42_method_66_2) rfl (decide_eq_true rfl) (by decide) (by decide) ?_
    show Steps p.tables e below (s₁.setTop (mkF m 5 #[.val (.ref ax), .val (.ref ax), .unset] [])) _
    refine XS.iconst X0.here hx rfl (Jvm.hb hby d_jdk_42_method_66_5) ?_
    show Steps p.tables e below (s₁.setTop (mkF m 6 #[.val (.ref ax), .val (.ref ax), .unset] [(.int (1 : Int32))])) t_
    exact k_)
  obtain ⟨fs, hr, hrun, hended, hW, hsame⟩ := X0.leave (v := some (.int (1 : Int32))) (fun h => by rw [Bd.returns] at h; cases h)
  refine ⟨_, _, s1 _ ?_, hrun, hended, _, _, rfl, ?_, ⟨_, rfl⟩, hW, hsame.mono (by decide) (by decide)⟩
  · show Steps p.tables e below (s₁.setTop (mkF m 6 #[.val (.ref ax), .val (.ref ax), .unset] [(.int (1 : Int32))])) _
    exact retN X0 hx (t := .boolean) Bd.returns (by simp) (Jvm.hb hby d_jdk_42_method_66_6) hr
  · show Q_rmSEqS Z _ h0 n0 _ s₁.heap _
    rw [e0]
    exact ⟨rfl, N0, rfl⟩
theorem pn_com_example_zastupnik_zastupnik_protocol_JipsEqualsPinLaw : plainName "com/example/zastupnik/zastupnik/protocol/JipsEqualsPinLaw" = true := by first | (simp [plainName, overriddenIn]; done) | decide +kernel
theorem d_method_3_0 : decode method_3_code 0 = .ok (.iload_n 0, 1) := by decide +kernel
theorem d_method_3_1 : decode method_3_code 1 = .ok (.iconst 1, 1) := by decide +kernel
theorem d_method_3_2 : decode method_3_code 2 = .ok (.if_icmp .ne 18, 3) := by decide +kernel
theorem d_method_3_5 : decode method_3_code 5 = .ok (.new 8, 3) := by decide +kernel
theorem d_method_3_8 : decode method_3_code 8 = .ok (.dup, 1) := by decide +kernel
theorem d_method_3_9 : decode method_3_code 9 = .ok (.iconst 1, 1) := by decide +kernel
theorem d_method_3_10 : decode method_3_code 10 = .ok (.newarray .char, 2) := by decide +kernel
theorem d_method_3_12 : decode method_3_code 12 = .ok (.dup, 1) := by decide +kernel
theorem d_method_3_13 : decode method_3_code 13 = .ok (.iconst 0, 1) := by decide +kernel
theorem d_method_3_14 : decode method_3_code 14 = .ok (.iload_n 1, 1) := by decide +kernel
theorem d_method_3_15 : decode method_3_code 15 = .ok (.castore, 1) := by decide +kernel
theorem pd___C_V : parseMethodDescriptor "([C)V" = some ⟨[(.array .char)], none⟩ := by decide +kernel
theorem d_method_3_16 : decode method_3_code 16 = .ok (.invokespecial 10, 3) := by decide +kernel
theorem d_method_3_19 : decode method_3_code 19 = .ok (.areturn, 1) := by decide +kernel
theorem d_method_3_20 : decode method_3_code 20 = .ok (.new 8, 3) := by decide +kernel
theorem d_method_3_23 : decode method_3_code 23 = .ok (.dup, 1) := by decide +kernel
theorem d_method_3_24 : decode method_3_code 24 = .ok (.iconst 2, 1) := by decide +kernel
theorem d_method_3_25 : decode method_3_code 25 = .ok (.newarray .char, 2) := by decide +kernel
theorem d_method_3_27 : decode method_3_code 27 = .ok (.dup, 1) := by decide +kernel
theorem d_method_3_28 : decode method_3_code 28 = .ok (.iconst 0, 1) := by decide +kernel
theorem d_method_3_29 : decode method_3_code 29 = .ok (.iload_n 1, 1) := by decide +kernel
theorem d_method_3_30 : decode method_3_code 30 = .ok (.castore, 1) := by decide +kernel
theorem d_method_3_31 : decode method_3_code 31 = .ok (.dup, 1) := by decide +kernel
theorem d_method_3_32 : decode method_3_code 32 = .ok (.iconst 1, 1) := by decide +kernel
theorem d_method_3_33 : decode method_3_code 33 = .ok (.iload_n 2, 1) := by decide +kernel
theorem d_method_3_34 : decode method_3_code 34 = .ok (.castore, 1) := by decide +kernel
theorem d_method_3_35 : decode method_3_code 35 = .ok (.invokespecial 10, 3) := by decide +kernel
theorem d_method_3_38 : decode method_3_code 38 = .ok (.areturn, 1) := by decide +kernel
theorem ef_rmWord (m : MethodId) (x0 : Int32) (x1 : Int32) (x2 : Int32) : entryFrame m #[(.int x0), (.int x1), (.int x2)] 3 = mkF m 0 #[.val (.int x0), .val (.int x1), .val (.int x2)] [] := by first | (simp [entryFrame, mkF, argsToLocals, Value.category]; done) | rfl
def Q_rmWord (Z : State) (cx : Int32) (cy : Int32) (cst : Int32) (n : Nat) (h0 : Heap) (n0 : Nat) (v : Option Value) (h : Heap) (L : List Loc) : Prop := ∃ (a : Addr), ∃ (b : Addr), ∃ (kb : ClassId), (v = some (.ref a)) ∧ (Fr n0 L) ∧ (Keep h0 h []) ∧ (Exa Z h a "java/lang/String") ∧ (Fld Z h a "java/lang/String" "value" "[B" (.ref b)) ∧ (Fld Z h a "java/lang/String" "coder" "B" (.int (own_cod (own_mk2 n cx cy)))) ∧ (Arv Z h b kb .byte (Int32.ofNat (own_enl (own_mk2 n cx cy))) (own_enc (own_mk2 n cx cy)) (.int (0 : Int32))) ∧ (h0.size ≤ a) ∧ (h0.size ≤ b)
set_option maxRecDepth 65536 in
set_option maxHeartbeats 40000000 in
theorem rmWord (l : Launch) (Z : State) (a0 : Array Value) (hw : ∀ d ∈ tables_1, d.before a0 Z = true) (ws : List Jvm.Cond) (cx : Int32) (cy : Int32) (cst : Int32) (n : Nat) (h0 : Heap) (n0 : Nat) (Z0 : n0 ≤ h0.size) (I1 : Sta Z Z.heap "java/lang/String" "COMPACT_STRINGS" "Z" (.int cst)) (OX : Old Z n0 h0) (hcst : ¬ (cst = (0 : Int32))) (hlen : n = 1 ∨ n = 2) (r0a : ¬ (cx < (0 : Int32))) (r0b : ¬ ((255 : Int32) < cx)) (r1a : ¬ (cy < (0 : Int32))) (r1b : ¬ ((255 : Int32) < cy)) :
    MetFree l (⟨"com/example/zastupnik/zastupnik/protocol/JipsEqualsPinLaw", "word", "(ICC)Ljava/lang/String;"⟩ : MethodName) (head1 (Jvm.Cond.code (⟨"com/example/zastupnik/zastupnik/protocol/JipsEqualsPinLaw", "word", "(ICC)Ljava/lang/String;"⟩ : MethodName) method_3_code 3 (some (.object "java/lang/String")) :: ws) ({ frames := 4, cells := 3, slots := 8, locals := 66 } : Room)) (fun ar_ U => ar_ = #[(.int (Int32.ofNat n)), (.int cx), (.int cy)] ∧ Z.Warmed39 U.vm ∧ U.heap = h0) (fun _ _ _ _ _ => True) (fun _ U o U' => ∃ v L, o = .returned v ∧ Q_rmWord Z cx cy cst n h0 n0 v U'.heap L ∧ FrameEnd U o U' L ({ frames := 4, cells := 3, slots := 8, locals := 66 } : Room).cells ({ frames := 4, cells := 3, slots := 8, locals := 66 } : Room).slots) := by
  refine MetFree.of_bodySF (plainFor_of_name pn_com_example_zastupnik_zastupnik_protocol_JipsEqualsPinLaw) hisR ?_
  intro p e s m args below meth c s₁ Bd hml0 hP hK
  obtain ⟨rfl, hZ, hh⟩ := hP
  have hx := Bd.exec
  have hby := Bd.bytes
  have hml : c.maxLocals = 3 := hml0
  have hown : s.vm.findClass "com/example/zastupnik/zastupnik/protocol/JipsEqualsPinLaw" = some m.cls := findClass_of_methodNamed Bd.named
  have hnm := (name_of_methodNamed Bd.named Bd.method).1
  have X0 : Stand p l e ({ frames := 4, cells := 3, slots := 8, locals := 66 } : Room) s m #[(.int (Int32.ofNat n)), (.int cx), (.int cy)] below meth c s₁ [] 0 0 := Stand.of_body Bd
  have e0 : s₁.heap = h0 := by rw [← hh, Bd.state]; rfl
  have N0 := Fr.nil n0
  have pre0 : ∀ t_, Steps p.tables e below (s₁.setTop (mkF m 0 #[.val (.int (Int32.ofNat n)), .val (.int cx), .val (.int cy)] [])) t_ → Steps p.tables e below (s₁.setTop (entryFrame m #[(.int (Int32.ofNat n)), (.int cx), (.int cy)] 3)) t_ := fun t_ k_ => castTop (ef_rmWord m (Int32.ofNat n) cx cy) k_
  obtain rfl | rfl := hlen
  · have hcase := trivial
    obtain ⟨T1, h1, X1, e1, E1, A1, D1, -, st1⟩ := newO X0 hx hZ hown (hw _ (List.mem_of_getElem? (i := 11) rfl)) (hw _ (List.mem_of_getElem? (i := 12) rfl)) (hw _ (List.mem_of_getElem? (i := 13) rfl)) e0 (g := (mkF m 5 #[.val (.int (1 : Int32)), .val (.int cx), .val (.int cy)] [])) rfl (Jvm.hb hby d_method_3_5) (by decide) (by decide)
    obtain ⟨b1, g1⟩ : ∃ z, z = h0.size := ⟨_, rfl⟩
    rw [← g1] at A1 D1 st1
    have z2 : h0.size ≤ h1.size := E1.1
    have l1 : b1 < h1.size := A1.lt
    have F3 : Fld Z h1 b1 "java/lang/String" "coder" "B" (.int (0 : Int32)) := D1 (Or.inr (hw _ (List.mem_of_getElem? (i := 38) rfl))) (ty := .byte) (by decide)
    have F4 : Fld Z h1 b1 "java/lang/String" "value" "[B" .null := D1 (Or.inr (hw _ (List.mem_of_getElem? (i := 40) rfl))) (ty := (.array .byte)) (by decide)
    obtain ⟨T5, h5, k5, X5, e5, E5, A5, st5⟩ := newP X1 hx hZ (hw _ (List.mem_of_getElem? (i := 14) rfl)) e1 (g := (mkF m 10 #[.val (.int (1 : Int32)), .val (.int cx), .val (.int cy)] [(.int (1 : Int32)), (.ref b1), (.ref b1)])) rfl (Jvm.hb hby d_method_3_10) rfl (by decide) (cap := 1) (by decide) (by decide) (by decide) (by decide)
    obtain ⟨b5, g5⟩ : ∃ z, z = h1.size := ⟨_, rfl⟩
    rw [← g5] at A5 st5
    have z6 : h1.size ≤ h5.size := E5.1
    have l5 : b5 < h5.size := A5.lt
    have V5 : Arv Z h5 b5 k5 .char (1 : Int32) [(.int (0 : Int32))] (.int (0 : Int32)) := (Arv.new A5 (by decide)).pad (pad_rep [] (.int (0 : Int32)) 1)
    obtain ⟨cl7, Ar7, q7, S7, M7, H7, G7⟩ := id V5
    have hin7 : ¬ ((0 : Int32) < 0 ∨ cl7.slots.size ≤ ((0 : Int32)).toNatClampNeg) := inb_of S7 ⟨by decide, by decide⟩
    obtain ⟨T8, h8, X8, e8, W8, st8⟩ := stC X5 hx hZ e5 Ar7 (j := (0 : Int32)) hin7 (g := (mkF m 15 #[.val (.int (1 : Int32)), .val (.int cx), .val (.int cy)] [(.int cx), (.int (0 : Int32)), (.ref b5), (.ref b5), (.ref b1), (.ref b1)])) rfl rfl (Jvm.hb hby d_method_3_15)
    have z9 : h5.size ≤ h8.size := Nat.le_of_eq W8.size.symm
    have V8 : Arv Z h8 b5 k5 .char (1 : Int32) [(.int cx)] (.int (0 : Int32)) := by have q : Arv Z h8 b5 k5 .char (1 : Int32) [(.int (nar .char cx))] (.int (0 : Int32)) := Arv.set Ar7 q7 S7 M7 H7 G7 (fits_nar_char _) W8 0 rfl (Nat.le_of_ble_eq_true rfl); rw [show nar .char cx = cx from own_narc r0a (own_le64k r0b)] at q; exact q
    have N8 := Fr.snoc X8 N0 (show n0 ≤ b5 by omega)
    have O10 : Old Z n0 h8 := (((OX.ext E1).ext E5).wr W8 (show n0 ≤ b5 by omega))
    have f11 : Exa Z h8 b1 "java/lang/String" := ((A1.ext E5).wr W8)
    have f12 : Fld Z h8 b1 "java/lang/String" "value" "[B" .null := ((F4.ext E5).other W8 (Or.inl (show @Ne Nat b1 b5 by omega)))
    have f13 : Fld Z h8 b1 "java/lang/String" "coder" "B" (.int (0 : Int32)) := ((F3.ext E5).other W8 (Or.inl (show @Ne Nat b1 b5 by omega)))
    have Zc14 : n0 ≤ h8.size := by omega
    obtain ⟨_, _, ⟨T15, L15, k15, n15⟩, -, X15, ⟨Lc15, hQ15, l15, y15, z15⟩, st15⟩ := X8.specialBack hx (y := (⟨"java/lang/String", "<init>", "([C)V"⟩ : MethodName)) rfl hown (mvT hZ (hw _ (List.mem_of_getElem? (i := 15) rfl))) (mvT hZ (hw _ (List.mem_of_getElem? (i := 16) rfl))) (mvT hZ (hw _ (List.mem_of_getElem? (i := 17) rfl))) (by decide) (backOf (W := 1) (rmIni1 l Z a0 hw [] b1 b5 cst [cx] k5 1 h8 n0 Zc14 I1 O10 (hcst : ¬ (cst = (0 : Int32))) f11 f12 f13 V8 rfl (by first | assumption | rfl | decide | omega : 1 ≤ 2) (by first | assumption | rfl | decide | omega : 0 < 1) (own_latS r0b own_lat0) (by first | assumption | rfl | decide | omega : n0 ≤ b1) (by first | assumption | rfl | decide | omega : @Ne Nat b1 b5)) hZ (hw _ (List.mem_of_getElem? (i := 17) rfl)) (hw _ (List.mem_of_getElem? (i := 13) rfl)) (by decide) (by decide)) (g := (mkF m 16 #[.val (.int (1 : Int32)), .val (.int cx), .val (.int cy)] [(.ref b5), (.ref b1), (.ref b1)])) rfl (by rw [hml]; rfl) (Steps.refl _) (a := b1) (argsL := [(.ref b5)]) (rest := [(.ref b1)]) (lenOf pd___C_V rfl) rfl (by show 2 * 0 + _ ≤ _; exact Nat.le_of_eq rfl) (Jvm.hb hby d_method_3_16) (fun _ _ => ⟨rfl, e8, (by decide : 2 + 1 ≤ _), (by decide : 5 + 2 ≤ _)⟩)
    dsimp only [Pt.U, Pt.locs, Pt.cells, Pt.slots] at X15 l15 y15 z15 st15 hQ15
    subst l15 y15 z15
    obtain ⟨b_15, kb_15, rfl, N15q, K15, Fq15_0, Fq15_1, Fq15_2, Fq15_3, P15_0⟩ := hQ15
    have N15 := Fr.app N8 N15q
    obtain ⟨h15, e15⟩ : ∃ z, T15.heap = z := ⟨_, rfl⟩
    rw [e15] at K15 Fq15_0 Fq15_1 Fq15_2 Fq15_3
    have z16 : h8.size ≤ h15.size := K15.1
    have lt15_0 : @LT.lt Nat _ b1 h15.size := Fq15_0.lt
    have lt15_3 : @LT.lt Nat _ b_15 h15.size := Fq15_3.lt
    have s17 : ∀ t_, Steps p.tables e below (T15.setTop (mkF m 19 #[.val (.int (1 : Int32)), .val (.int cx), .val (.int cy)] [(.ref b1)])) t_ → Steps p.tables e below (s₁.setTop (entryFrame m #[(.int (1 : Int32)), (.int cx), (.int cy)] 3)) t_ := fun t_ k_ => pre0 t_ (by
      show Steps p.tables e below (s₁.setTop (mkF m 0 #[.val (.int (1 : Int32)), .val (.int cx), .val (.int cy)] [])) t_
      refine XS.iloadN X0.here hx rfl (Jvm.hb hby d_method_3_0) rfl ?_
      refine XS.iconst X0.here hx rfl (Jvm.hb hby d_method_3_1) ?_
      refine XS.icmpNo X0.here hx rfl (Jvm.hb hby d_method_3_2) rfl (teq (rfl : (1 : Int32) = (1 : Int32))).2 ?_
      show Steps p.tables e below (s₁.setTop (mkF m 5 #[.val (.int (1 : Int32)), .val (.int cx), .val (.int cy)] [])) _
      refine st1 _ ?_
      show Steps p.tables e below (T1.setTop (mkF m 8 #[.val (.int (1 : Int32)), .val (.int cx), .val (.int cy)] [(.ref b1)])) _
      refine XS.dup X1.here hx rfl (Jvm.hb hby d_method_3_8) rfl rfl ?_
      refine XS.iconst X1.here hx rfl (Jvm.hb hby d_method_3_9) ?_
      refine st5 _ ?_
      show Steps p.tables e below (T5.setTop (mkF m 12 #[.val (.int (1 : Int32)), .val (.int cx), .val (.int cy)] [(.ref b5), (.ref b1), (.ref b1)])) _
      refine XS.dup X5.here hx rfl (Jvm.hb hby d_method_3_12) rfl rfl ?_
      refine XS.iconst X5.here hx rfl (Jvm.hb hby d_method_3_13) ?_
      refine XS.iloadN X5.here hx rfl (Jvm.hb hby d_method_3_14) rfl ?_
      refine st8 _ ?_
      show Steps p.tables e below (T8.setTop (mkF m 16 #[.val (.int (1 : Int32)), .val (.int cx), .val (.int cy)] [(.ref b5), (.ref b1), (.ref b1)])) _
      refine st15.trans ?_
      show Steps p.tables e below (T15.setTop (mkF m 19 #[.val (.int (1 : Int32)), .val (.int cx), .val (.int cy)] [(.ref b1)])) _
      show Steps p.tables e below (T15.setTop (mkF m 19 #[.val (.int (1 : Int32)), .val (.int cx), .val (.int cy)] [(.ref b1)])) t_
      exact k_)
    obtain ⟨fs, hr, hrun, hended, hW, hsame⟩ := X15.leave (v := some (.ref b1)) (fun h => by rw [Bd.returns] at h; cases h)
    refine ⟨_, _, s17 _ ?_, hrun, hended, _, _, rfl, ?_, ⟨_, rfl⟩, hW, hsame.mono (by decide) (by decide)⟩
    · show Steps p.tables e below (T15.setTop (mkF m 19 #[.val (.int (1 : Int32)), .val (.int cx), .val (.int cy)] [(.ref b1)])) _
      jvm_step X15.here [X15.here.top, hx, (Jvm.hb hby d_method_3_19), X15.method', Bd.returns, Value.isRef, FieldType.isReference]
      first | (intro acts; rw [hr _ acts rfl rfl rfl]) | rw [hr _ _ rfl rfl rfl]
      exact Steps.refl _
    · show Q_rmWord Z _ _ _ _ h0 n0 _ T15.heap _
      rw [e15]
      exact ⟨b1, b_15, kb_15, rfl, N15, (((((Keep.refl h0 []).ext E1).ext E5).wr W8 (Or.inr (show h0.size ≤ b5 by omega))).trans K15 (allS (Or.inr (show h0.size ≤ b1 by omega)) all0)), Fq15_0, Fq15_1, Fq15_2, Fq15_3, by omega, by omega⟩
  · have hcase := trivial
    obtain ⟨T18, h18, X18, e18, E18, A18, D18, -, st18⟩ := newO X0 hx hZ hown (hw _ (List.mem_of_getElem? (i := 11) rfl)) (hw _ (List.mem_of_getElem? (i := 12) rfl)) (hw _ (List.mem_of_getElem? (i := 13) rfl)) e0 (g := (mkF m 20 #[.val (.int (2 : Int32)), .val (.int cx), .val (.int cy)] [])) rfl (Jvm.hb hby d_method_3_20) (by decide) (by decide)
    obtain ⟨b18, g18⟩ : ∃ z, z = h0.size := ⟨_, rfl⟩
    rw [← g18] at A18 D18 st18
    have z19 : h0.size ≤ h18.size := E18.1
    have l18 : b18 < h18.size := A18.lt
    have F20 : Fld Z h18 b18 "java/lang/String" "coder" "B" (.int (0 : Int32)) := D18 (Or.inr (hw _ (List.mem_of_getElem? (i := 38) rfl))) (ty := .byte) (by decide)
    have F21 : Fld Z h18 b18 "java/lang/String" "value" "[B" .null := D18 (Or.inr (hw _ (List.mem_of_getElem? (i := 40) rfl))) (ty := (.array .byte)) (by decide)
    obtain ⟨T22, h22, k22, X22, e22, E22, A22, st22⟩ := newP X18 hx hZ (hw _ (List.mem_of_getElem? (i := 14) rfl)) e18 (g := (mkF m 25 #[.val (.int (2 : Int32)), .val (.int cx), .val (.int cy)] [(.int (2 : Int32)), (.ref b18), (.ref b18)])) rfl (Jvm.hb hby d_method_3_25) rfl (by decide) (cap := 2) (by decide) (by decide) (by decide) (by decide)
    obtain ⟨b22, g22⟩ : ∃ z, z = h18.size := ⟨_, rfl⟩
    rw [← g22] at A22 st22
    have z23 : h18.size ≤ h22.size := E22.1
    have l22 : b22 < h22.size := A22.lt
    have V22 : Arv Z h22 b22 k22 .char (2 : Int32) [(.int (0 : Int32)), (.int (0 : Int32))] (.int (0 : Int32)) := (Arv.new A22 (by decide)).pad (pad_rep [] (.int (0 : Int32)) 2)
    obtain ⟨cl24, Ar24, q24, S24, M24, H24, G24⟩ := id V22
    have hin24 : ¬ ((0 : Int32) < 0 ∨ cl24.slots.size ≤ ((0 : Int32)).toNatClampNeg) := inb_of S24 ⟨by decide, by decide⟩
    obtain ⟨T25, h25, X25, e25, W25, st25⟩ := stC X22 hx hZ e22 Ar24 (j := (0 : Int32)) hin24 (g := (mkF m 30 #[.val (.int (2 : Int32)), .val (.int cx), .val (.int cy)] [(.int cx), (.int (0 : Int32)), (.ref b22), (.ref b22), (.ref b18), (.ref b18)])) rfl rfl (Jvm.hb hby d_method_3_30)
    have z26 : h22.size ≤ h25.size := Nat.le_of_eq W25.size.symm
    have V25 : Arv Z h25 b22 k22 .char (2 : Int32) [(.int cx), (.int (0 : Int32))] (.int (0 : Int32)) := by have q : Arv Z h25 b22 k22 .char (2 : Int32) [(.int (nar .char cx)), (.int (0 : Int32))] (.int (0 : Int32)) := Arv.set Ar24 q24 S24 M24 H24 G24 (fits_nar_char _) W25 0 rfl (Nat.le_of_ble_eq_true rfl); rw [show nar .char cx = cx from own_narc r0a (own_le64k r0b)] at q; exact q
    have N25 := Fr.snoc X25 N0 (show n0 ≤ b22 by omega)
    obtain ⟨cl27, Ar27, q27, S27, M27, H27, G27⟩ := id V25
    have hin27 : ¬ ((1 : Int32) < 0 ∨ cl27.slots.size ≤ ((1 : Int32)).toNatClampNeg) := inb_of S27 ⟨by decide, by decide⟩
    obtain ⟨T28, h28, X28, e28, W28, st28⟩ := stC X25 hx hZ e25 Ar27 (j := (1 : Int32)) hin27 (g := (mkF m 34 #[.val (.int (2 : Int32)), .val (.int cx), .val (.int cy)] [(.int cy), (.int (1 : Int32)), (.ref b22), (.ref b22), (.ref b18), (.ref b18)])) rfl rfl (Jvm.hb hby d_method_3_34)
    have z29 : h25.size ≤ h28.size := Nat.le_of_eq W28.size.symm
    have V28 : Arv Z h28 b22 k22 .char (2 : Int32) [(.int cx), (.int cy)] (.int (0 : Int32)) := by have q : Arv Z h28 b22 k22 .char (2 : Int32) [(.int cx), (.int (nar .char cy))] (.int (0 : Int32)) := Arv.set Ar27 q27 S27 M27 H27 G27 (fits_nar_char _) W28 1 rfl (Nat.le_of_ble_eq_true rfl); rw [show nar .char cy = cy from own_narc r1a (own_le64k r1b)] at q; exact q
    have N28 := Fr.snoc X28 N25 (show n0 ≤ b22 by omega)
    have O30 : Old Z n0 h28 := ((((OX.ext E18).ext E22).wr W25 (show n0 ≤ b22 by omega)).wr W28 (show n0 ≤ b22 by omega))
    have f31 : Exa Z h28 b18 "java/lang/String" := (((A18.ext E22).wr W25).wr W28)
    have f32 : Fld Z h28 b18 "java/lang/String" "value" "[B" .null := (((F21.ext E22).other W25 (Or.inl (show @Ne Nat b18 b22 by omega))).other W28 (Or.inl (show @Ne Nat b18 b22 by omega)))
    have f33 : Fld Z h28 b18 "java/lang/String" "coder" "B" (.int (0 : Int32)) := (((F20.ext E22).other W25 (Or.inl (show @Ne Nat b18 b22 by omega))).other W28 (Or.inl (show @Ne Nat b18 b22 by omega)))
    have Zc34 : n0 ≤ h28.size := by omega
    obtain ⟨_, _, ⟨T35, L35, k35, n35⟩, -, X35, ⟨Lc35, hQ35, l35, y35, z35⟩, st35⟩ := X28.specialBack hx (y := (⟨"java/lang/String", "<init>", "([C)V"⟩ : MethodName)) rfl hown (mvT hZ (hw _ (List.mem_of_getElem? (i := 15) rfl))) (mvT hZ (hw _ (List.mem_of_getElem? (i := 16) rfl))) (mvT hZ (hw _ (List.mem_of_getElem? (i := 17) rfl))) (by decide) (backOf (W := 1) (rmIni1 l Z a0 hw [] b18 b22 cst [cx, cy] k22 2 h28 n0 Zc34 I1 O30 (hcst : ¬ (cst = (0 : Int32))) f31 f32 f33 V28 rfl (by first | assumption | rfl | decide | omega : 2 ≤ 2) (by first | assumption | rfl | decide | omega : 0 < 2) (own_latS r0b (own_latS r1b own_lat0)) (by first | assumption | rfl | decide | omega : n0 ≤ b18) (by first | assumption | rfl | decide | omega : @Ne Nat b18 b22)) hZ (hw _ (List.mem_of_getElem? (i := 17) rfl)) (hw _ (List.mem_of_getElem? (i := 13) rfl)) (by decide) (by decide)) (g := (mkF m 35 #[.val (.int (2 : Int32)), .val (.int cx), .val (.int cy)] [(.ref b22), (.ref b18), (.ref b18)])) rfl (by rw [hml]; rfl) (Steps.refl _) (a := b18) (argsL := [(.ref b22)]) (rest := [(.ref b18)]) (lenOf pd___C_V rfl) rfl (by show 2 * 0 + _ ≤ _; exact Nat.le_of_eq rfl) (Jvm.hb hby d_method_3_35) (fun _ _ => ⟨rfl, e28, (by decide : 2 + 1 ≤ _), (by decide : 6 + 2 ≤ _)⟩)
    dsimp only [Pt.U, Pt.locs, Pt.cells, Pt.slots] at X35 l35 y35 z35 st35 hQ35
    subst l35 y35 z35
    obtain ⟨b_35, kb_35, rfl, N35q, K35, Fq35_0, Fq35_1, Fq35_2, Fq35_3, P35_0⟩ := hQ35
    have N35 := Fr.app N28 N35q
    obtain ⟨h35, e35⟩ : ∃ z, T35.heap = z := ⟨_, rfl⟩
    rw [e35] at K35 Fq35_0 Fq35_1 Fq35_2 Fq35_3
    have z36 : h28.size ≤ h35.size := K35.1
    have lt35_0 : @LT.lt Nat _ b18 h35.size := Fq35_0.lt
    have lt35_3 : @LT.lt Nat _ b_35 h35.size := Fq35_3.lt
    have s37 : ∀ t_, Steps p.tables e below (T35.setTop (mkF m 38 #[.val (.int (2 : Int32)), .val (.int cx), .val (.int cy)] [(.ref b18)])) t_ → Steps p.tables e below (s₁.setTop (entryFrame m #[(.int (2 : Int32)), (.int cx), (.int cy)] 3)) t_ := fun t_ k_ => pre0 t_ (by
      show Steps p.tables e below (s₁.setTop (mkF m 0 #[.val (.int (2 : Int32)), .val (.int cx), .val (.int cy)] [])) t_
      refine XS.iloadN X0.here hx rfl (Jvm.hb hby d_method_3_0) rfl ?_
      refine XS.iconst X0.here hx rfl (Jvm.hb hby d_method_3_1) ?_
      refine XS.icmpYes X0.here hx rfl (pc0 := 2) (pc' := 20) rfl (Jvm.hb hby d_method_3_2) rfl (feq (by decide : ¬ ((2 : Int32) = (1 : Int32)))).2 (by decide) (by decide) ?_
      show Steps p.tables e below (s₁.setTop (mkF m 20 #[.val (.int (2 : Int32)), .val (.int cx), .val (.int cy)] [])) _
      refine st18 _ ?_
      show Steps p.tables e below (T18.setTop (mkF m 23 #[.val (.int (2 : Int32)), .val (.int cx), .val (.int cy)] [(.ref b18)])) _
      refine XS.dup X18.here hx rfl (Jvm.hb hby d_method_3_23) rfl rfl ?_
      refine XS.iconst X18.here hx rfl (Jvm.hb hby d_method_3_24) ?_
      refine st22 _ ?_
      show Steps p.tables e below (T22.setTop (mkF m 27 #[.val (.int (2 : Int32)), .val (.int cx), .val (.int cy)] [(.ref b22), (.ref b18), (.ref b18)])) _
      refine XS.dup X22.here hx rfl (Jvm.hb hby d_method_3_27) rfl rfl ?_
      refine XS.iconst X22.here hx rfl (Jvm.hb hby d_method_3_28) ?_
      refine XS.iloadN X22.here hx rfl (Jvm.hb hby d_method_3_29) rfl ?_
      refine st25 _ ?_
      show Steps p.tables e below (T25.setTop (mkF m 31 #[.val (.int (2 : Int32)), .val (.int cx), .val (.int cy)] [(.ref b22), (.ref b18), (.ref b18)])) _
      refine XS.dup X25.here hx rfl (Jvm.hb hby d_method_3_31) rfl rfl ?_
      refine XS.iconst X25.here hx rfl (Jvm.hb hby d_method_3_32) ?_
      refine XS.iloadN X25.here hx rfl (Jvm.hb hby d_method_3_33) rfl ?_
      refine st28 _ ?_
      show Steps p.tables e below (T28.setTop (mkF m 35 #[.val (.int (2 : Int32)), .val (.int cx), .val (.int cy)] [(.ref b22), (.ref b18), (.ref b18)])) _
      refine st35.trans ?_
      show Steps p.tables e below (T35.setTop (mkF m 38 #[.val (.int (2 : Int32)), .val (.int cx), .val (.int cy)] [(.ref b18)])) _
      show Steps p.tables e below (T35.setTop (mkF m 38 #[.val (.int (2 : Int32)), .val (.int cx), .val (.int cy)] [(.ref b18)])) t_
      exact k_)
    obtain ⟨fs, hr, hrun, hended, hW, hsame⟩ := X35.leave (v := some (.ref b18)) (fun h => by rw [Bd.returns] at h; cases h)
    refine ⟨_, _, s37 _ ?_, hrun, hended, _, _, rfl, ?_, ⟨_, rfl⟩, hW, hsame.mono (by decide) (by decide)⟩
    · show Steps p.tables e below (T35.setTop (mkF m 38 #[.val (.int (2 : Int32)), .val (.int cx), .val (.int cy)] [(.ref b18)])) _
      jvm_step X35.here [X35.here.top, hx, (Jvm.hb hby d_method_3_38), X35.method', Bd.returns, Value.isRef, FieldType.isReference]
      first | (intro acts; rw [hr _ acts rfl rfl rfl]) | rw [hr _ _ rfl rfl rfl]
      exact Steps.refl _
    · show Q_rmWord Z _ _ _ _ h0 n0 _ T35.heap _
      rw [e35]
      exact ⟨b18, b_35, kb_35, rfl, N35, ((((((Keep.refl h0 []).ext E18).ext E22).wr W25 (Or.inr (show h0.size ≤ b22 by omega))).wr W28 (Or.inr (show h0.size ≤ b22 by omega))).trans K35 (allS (Or.inr (show h0.size ≤ b18 by omega)) all0)), Fq35_0, Fq35_1, Fq35_2, Fq35_3, by omega, by omega⟩
theorem pn_java_util_Objects : plainName "java/util/Objects" = true := by first | (simp [plainName, overriddenIn]; done) | decide +kernel
theorem d_jdk_31_method_11_0 : decode jdk_31_method_11_code 0 = .ok (.aload_n 0, 1) := by decide +kernel
theorem d_jdk_31_method_11_1 : decode jdk_31_method_11_code 1 = .ok (.ifnonnull 12, 3) := by decide +kernel
theorem d_jdk_31_method_11_13 : decode jdk_31_method_11_code 13 = .ok (.aload_n 0, 1) := by decide +kernel
theorem d_jdk_31_method_11_14 : decode jdk_31_method_11_code 14 = .ok (.areturn, 1) := by decide +kernel
theorem ef_rmReq (m : MethodId) (x0 : Addr) (x1 : Addr) : entryFrame m #[(.ref x0), (.ref x1)] 2 = mkF m 0 #[.val (.ref x0), .val (.ref x1)] [] := by first | (simp [entryFrame, mkF, argsToLocals, Value.category]; done) | rfl
def Q_rmReq (Z : State) (ob : Addr) (msg : Addr) (h0 : Heap) (n0 : Nat) (v : Option Value) (h : Heap) (L : List Loc) : Prop := (v = some (.ref ob)) ∧ (Fr n0 L) ∧ (h = h0)
set_option maxRecDepth 65536 in
set_option maxHeartbeats 40000000 in
theorem rmReq (l : Launch) (Z : State) (a0 : Array Value) (hw : ∀ d ∈ tables_1, d.before a0 Z = true) (ws : List Jvm.Cond) (ob : Addr) (msg : Addr) (h0 : Heap) (n0 : Nat) (Z0 : n0 ≤ h0.size)  :
    MetFree l (⟨"java/util/Objects", "requireNonNull", "(Ljava/lang/Object;Ljava/lang/String;)Ljava/lang/Object;"⟩ : MethodName) (head1 (Jvm.Cond.code (⟨"java/util/Objects", "requireNonNull", "(Ljava/lang/Object;Ljava/lang/String;)Ljava/lang/Object;"⟩ : MethodName) jdk_31_method_11_code 2 (some (.object "java/lang/Object")) :: ws) ({ frames := 0, cells := 0, slots := 0, locals := 0 } : Room)) (fun ar_ U => ar_ = #[(.ref ob), (.ref msg)] ∧ Z.Warmed39 U.vm ∧ U.heap = h0) (fun _ _ _ _ _ => True) (fun _ U o U' => ∃ v L, o = .returned v ∧ Q_rmReq Z ob msg h0 n0 v U'.heap L ∧ FrameEnd U o U' L ({ frames := 0, cells := 0, slots := 0, locals := 0 } : Room).cells ({ frames := 0, cells := 0, slots := 0, locals := 0 } : Room).slots) := by
  refine MetFree.of_bodySF (plainFor_of_name pn_java_util_Objects) hisR ?_
  intro p e s m args below meth c s₁ Bd hml0 hP hK
  obtain ⟨rfl, hZ, hh⟩ := hP
  have hx := Bd.exec
  have hby := Bd.bytes
  have hml : c.maxLocals = 2 := hml0
  have hown : s.vm.findClass "java/util/Objects" = some m.cls := findClass_of_methodNamed Bd.named
  have hnm := (name_of_methodNamed Bd.named Bd.method).1
  have X0 : Stand p l e ({ frames := 0, cells := 0, slots := 0, locals := 0 } : Room) s m #[(.ref ob), (.ref msg)] below meth c s₁ [] 0 0 := Stand.of_body Bd
  have e0 : s₁.heap = h0 := by rw [← hh, Bd.state]; rfl
  have N0 := Fr.nil n0
  have pre0 : ∀ t_, Steps p.tables e below (s₁.setTop (mkF m 0 #[.val (.ref ob), .val (.ref msg)] [])) t_ → Steps p.tables e below (s₁.setTop (entryFrame m #[(.ref ob), (.ref msg)] 2)) t_ := fun t_ k_ => castTop (ef_rmReq m ob msg) k_
  have s1 : ∀ t_, Steps p.tables e below (s₁.setTop (mkF m 14 #[.val (.ref ob), .val (.ref msg)] [(.ref ob)])) t_ → Steps p.tables e below (s₁.setTop (entryFrame m #[(.ref ob), (.ref msg)] 2)) t_ := fun t_ k_ => pre0 t_ (by
    show Steps p.tables e below (s₁.setTop (mkF m 0 #[.val (.ref ob), .val (.ref msg)] [])) t_
    refine XS.aloadN X0.here hx rfl (Jvm.hb hby d_jdk_31_method_11_0) rfl rfl ?_
    refine XS.ifnonnullYes X0.here hx rfl (pc0 := 1) (pc' := 13) rfl (Jvm.hb hby d_jdk_31_method_11_1) rfl (by decide) (by decide) ?_
    show Steps p.tables e below (s₁.setTop (mkF m 13 #[.val (.ref ob), .val (.ref msg)] [])) _
    refine XS.aloadN X0.here hx rfl (Jvm.hb hby d_jdk_31_method_11_13) rfl rfl ?_
    show Steps p.tables e below (s₁.setTop (mkF m 14 #[.val (.ref ob), .val (.ref msg)] [(.ref ob)])) t_
    exact k_)
  obtain ⟨fs, hr, hrun, hended, hW, hsame⟩ := X0.leave (v := some (.ref ob)) (fun h => by rw [Bd.returns] at h; cases h)
  refine ⟨_, _, s1 _ ?_, hrun, hended, _, _, rfl, ?_, ⟨_, rfl⟩, hW, hsame.mono (by decide) (by decide)⟩
  · show Steps p.tables e below (s₁.setTop (mkF m 14 #[.val (.ref ob), .val (.ref msg)] [(.ref ob)])) _
    jvm_step X0.here [X0.here.top, hx, (Jvm.hb hby d_jdk_31_method_11_14), X0.method', Bd.returns, Value.isRef, FieldType.isReference]
    first | (intro acts; rw [hr _ acts rfl rfl rfl]) | rw [hr _ _ rfl rfl rfl]
    exact Steps.refl _
  · show Q_rmReq Z _ _ h0 n0 _ s₁.heap _
    rw [e0]
    exact ⟨rfl, N0, rfl⟩
theorem d_method_2_0 : decode method_2_code 0 = .ok (.bipush 33, 2) := by decide +kernel
theorem d_method_2_2 : decode method_2_code 2 = .ok (.iload_n 0, 1) := by decide +kernel
theorem d_method_2_3 : decode method_2_code 3 = .ok (.ldc 7, 2) := by decide +kernel
theorem d_method_2_5 : decode method_2_code 5 = .ok (.iand, 1) := by decide +kernel
theorem d_method_2_6 : decode method_2_code 6 = .ok (.bipush 94, 2) := by decide +kernel
theorem d_method_2_8 : decode method_2_code 8 = .ok (.irem, 1) := by decide +kernel
theorem d_method_2_9 : decode method_2_code 9 = .ok (.iadd, 1) := by decide +kernel
theorem d_method_2_10 : decode method_2_code 10 = .ok (.i2c, 1) := by decide +kernel
theorem d_method_2_11 : decode method_2_code 11 = .ok (.ireturn, 1) := by decide +kernel
theorem ef_rmPc (m : MethodId) (x0 : Int32) : entryFrame m #[(.int x0)] 1 = mkF m 0 #[.val (.int x0)] [] := by first | (simp [entryFrame, mkF, argsToLocals, Value.category]; done) | rfl
def Q_rmPc (Z : State) (pz : Int32) (h0 : Heap) (n0 : Nat) (v : Option Value) (h : Heap) (L : List Loc) : Prop := (v = some (.int (own_print_of pz))) ∧ (Fr n0 L) ∧ (h = h0)
set_option maxRecDepth 65536 in
set_option maxHeartbeats 40000000 in
theorem rmPc (l : Launch) (Z : State) (a0 : Array Value) (hw : ∀ d ∈ tables_1, d.before a0 Z = true) (ws : List Jvm.Cond) (pz : Int32) (h0 : Heap) (n0 : Nat) (Z0 : n0 ≤ h0.size)  :
    MetFree l (⟨"com/example/zastupnik/zastupnik/protocol/JipsEqualsPinLaw", "pc", "(I)C"⟩ : MethodName) (head1 (Jvm.Cond.code (⟨"com/example/zastupnik/zastupnik/protocol/JipsEqualsPinLaw", "pc", "(I)C"⟩ : MethodName) method_2_code 1 (some .char) :: ws) ({ frames := 0, cells := 0, slots := 0, locals := 0 } : Room)) (fun ar_ U => ar_ = #[(.int pz)] ∧ Z.Warmed39 U.vm ∧ U.heap = h0) (fun _ _ _ _ _ => True) (fun _ U o U' => ∃ v L, o = .returned v ∧ Q_rmPc Z pz h0 n0 v U'.heap L ∧ FrameEnd U o U' L ({ frames := 0, cells := 0, slots := 0, locals := 0 } : Room).cells ({ frames := 0, cells := 0, slots := 0, locals := 0 } : Room).slots) := by
  refine MetFree.of_bodySF (plainFor_of_name pn_com_example_zastupnik_zastupnik_protocol_JipsEqualsPinLaw) hisR ?_
  intro p e s m args below meth c s₁ Bd hml0 hP hK
  obtain ⟨rfl, hZ, hh⟩ := hP
  have hx := Bd.exec
  have hby := Bd.bytes
  have hml : c.maxLocals = 1 := hml0
  have hown : s.vm.findClass "com/example/zastupnik/zastupnik/protocol/JipsEqualsPinLaw" = some m.cls := findClass_of_methodNamed Bd.named
  have hnm := (name_of_methodNamed Bd.named Bd.method).1
  have X0 : Stand p l e ({ frames := 0, cells := 0, slots := 0, locals := 0 } : Room) s m #[(.int pz)] below meth c s₁ [] 0 0 := Stand.of_body Bd
  have e0 : s₁.heap = h0 := by rw [← hh, Bd.state]; rfl
  have N0 := Fr.nil n0
  have pre0 : ∀ t_, Steps p.tables e below (s₁.setTop (mkF m 0 #[.val (.int pz)] [])) t_ → Steps p.tables e below (s₁.setTop (entryFrame m #[(.int pz)] 1)) t_ := fun t_ k_ => castTop (ef_rmPc m pz) k_
  have s1 : ∀ t_, Steps p.tables e below (s₁.setTop (mkF m 11 #[.val (.int pz)] [(.int (i2c ((33 : Int32) + ((pz &&& (2147483647 : Int32)) % (94 : Int32)))))])) t_ → Steps p.tables e below (s₁.setTop (entryFrame m #[(.int pz)] 1)) t_ := fun t_ k_ => pre0 t_ (by
    show Steps p.tables e below (s₁.setTop (mkF m 0 #[.val (.int pz)] [])) t_
    refine XS.bipush X0.here hx rfl (Jvm.hb hby d_method_2_0) ?_
    refine XS.iloadN X0.here hx rfl (Jvm.hb hby d_method_2_2) rfl ?_
    refine X0.ldcInt hx hown (mvT hZ (hw _ (List.mem_of_getElem? (i := 0) rfl))) (g := (mkF m 3 #[.val (.int pz)] [(.int pz), (.int (33 : Int32))])) rfl (Jvm.hb hby d_method_2_3) _ ?_
    show Steps p.tables e below (s₁.setTop (mkF m 5 #[.val (.int pz)] [(.int (2147483647 : Int32)), (.int pz), (.int (33 : Int32))])) _
    refine XS.iand X0.here hx rfl (Jvm.hb hby d_method_2_5) rfl ?_
    refine XS.bipush X0.here hx rfl (Jvm.hb hby d_method_2_6) ?_
    refine iremM (g := (mkF m 8 #[.val (.int pz)] [(.int (94 : Int32)), (.int (pz &&& (2147483647 : Int32))), (.int (33 : Int32))])) X0 hx rfl (Jvm.hb hby d_method_2_8) rfl (by decide) ?_
    show Steps p.tables e below (s₁.setTop (mkF m 9 #[.val (.int pz)] [(.int ((pz &&& (2147483647 : Int32)) % (94 : Int32))), (.int (33 : Int32))])) _
    refine XS.iadd X0.here hx rfl (Jvm.hb hby d_method_2_9) rfl ?_
    refine XS.i2c X0.here hx rfl (Jvm.hb hby d_method_2_10) rfl ?_
    show Steps p.tables e below (s₁.setTop (mkF m 11 #[.val (.int pz)] [(.int (i2c ((33 : Int32) + ((pz &&& (2147483647 : Int32)) % (94 : Int32)))))])) t_
    exact k_)
  obtain ⟨fs, hr, hrun, hended, hW, hsame⟩ := X0.leave (v := some (.int (nar .char (i2c ((33 : Int32) + ((pz &&& (2147483647 : Int32)) % (94 : Int32))))))) (fun h => by rw [Bd.returns] at h; cases h)
  refine ⟨_, _, s1 _ ?_, hrun, hended, _, _, rfl, ?_, ⟨_, rfl⟩, hW, hsame.mono (by decide) (by decide)⟩
  · show Steps p.tables e below (s₁.setTop (mkF m 11 #[.val (.int pz)] [(.int (i2c ((33 : Int32) + ((pz &&& (2147483647 : Int32)) % (94 : Int32)))))])) _
    exact retN X0 hx (t := .char) Bd.returns (by simp) (Jvm.hb hby d_method_2_11) hr
  · show Q_rmPc Z _ h0 n0 _ s₁.heap _
    rw [e0]
    exact ⟨(by rw [own_nari2c]; rfl), N0, rfl⟩
theorem pn_com_example_zastupnik_zastupnik_protocol_Jips : plainName "com/example/zastupnik/zastupnik/protocol/Jips" = true := by first | (simp [plainName, overriddenIn]; done) | decide +kernel
theorem d_prog_42_method_10_0 : decode prog_42_method_10_code 0 = .ok (.aload_n 0, 1) := by decide +kernel
theorem d_prog_42_method_10_1 : decode prog_42_method_10_code 1 = .ok (.invokevirtual 139, 3) := by decide +kernel
theorem d_prog_42_method_10_4 : decode prog_42_method_10_code 4 = .ok (.ifCond .eq 5, 3) := by decide +kernel
theorem d_prog_42_method_10_9 : decode prog_42_method_10_code 9 = .ok (.iconst 0, 1) := by decide +kernel
theorem d_prog_42_method_10_10 : decode prog_42_method_10_code 10 = .ok (.istore_n 1, 1) := by decide +kernel
theorem d_prog_42_method_10_11 : decode prog_42_method_10_code 11 = .ok (.iload_n 1, 1) := by decide +kernel
theorem d_prog_42_method_10_12 : decode prog_42_method_10_code 12 = .ok (.aload_n 0, 1) := by decide +kernel
theorem pd___I : parseMethodDescriptor "()I" = some ⟨[], some .int⟩ := by decide +kernel
theorem d_prog_42_method_10_13 : decode prog_42_method_10_code 13 = .ok (.invokevirtual 142, 3) := by decide +kernel
theorem d_prog_42_method_10_16 : decode prog_42_method_10_code 16 = .ok (.if_icmp .ge 60, 3) := by decide +kernel
theorem d_prog_42_method_10_19 : decode prog_42_method_10_code 19 = .ok (.aload_n 0, 1) := by decide +kernel
theorem d_prog_42_method_10_20 : decode prog_42_method_10_code 20 = .ok (.iload_n 1, 1) := by decide +kernel
theorem pd__I_C : parseMethodDescriptor "(I)C" = some ⟨[.int], some .char⟩ := by decide +kernel
theorem d_prog_42_method_10_21 : decode prog_42_method_10_code 21 = .ok (.invokevirtual 145, 3) := by decide +kernel
theorem os_rmIPW_24 {z0 : Value} {z1 : Value} {s2 : Slot} {s3 : Slot} {v : Int32} (h : One s2) : storeLocals #[.val z0, .val z1, s2, s3] 2 (.int v) = some #[.val z0, .val z1, .val (.int v), s3] := by
  rcases h with rfl | ⟨w, rfl, hw⟩
  · rfl
  · cases w <;> first | rfl | (simp [Value.category] at hw)
theorem d_prog_42_method_10_24 : decode prog_42_method_10_code 24 = .ok (.istore_n 2, 1) := by decide +kernel
theorem d_prog_42_method_10_25 : decode prog_42_method_10_code 25 = .ok (.iload_n 2, 1) := by decide +kernel
theorem d_prog_42_method_10_26 : decode prog_42_method_10_code 26 = .ok (.bipush 32, 2) := by decide +kernel
theorem d_prog_42_method_10_28 : decode prog_42_method_10_code 28 = .ok (.if_icmp .le 13, 3) := by decide +kernel
theorem d_prog_42_method_10_31 : decode prog_42_method_10_code 31 = .ok (.iload_n 2, 1) := by decide +kernel
theorem d_prog_42_method_10_32 : decode prog_42_method_10_code 32 = .ok (.bipush 127, 2) := by decide +kernel
theorem d_prog_42_method_10_34 : decode prog_42_method_10_code 34 = .ok (.if_icmp .ge 7, 3) := by decide +kernel
theorem d_prog_42_method_10_37 : decode prog_42_method_10_code 37 = .ok (.iconst 1, 1) := by decide +kernel
theorem d_prog_42_method_10_38 : decode prog_42_method_10_code 38 = .ok (.goto 4, 3) := by decide +kernel
theorem os_rmIPW_42 {z0 : Value} {z1 : Value} {z2 : Value} {s3 : Slot} {v : Int32} (h : One s3) : storeLocals #[.val z0, .val z1, .val z2, s3] 3 (.int v) = some #[.val z0, .val z1, .val z2, .val (.int v)] := by
  rcases h with rfl | ⟨w, rfl, hw⟩
  · rfl
  · cases w <;> first | rfl | (simp [Value.category] at hw)
theorem d_prog_42_method_10_42 : decode prog_42_method_10_code 42 = .ok (.istore_n 3, 1) := by decide +kernel
theorem d_prog_42_method_10_43 : decode prog_42_method_10_code 43 = .ok (.iload_n 3, 1) := by decide +kernel
theorem d_prog_42_method_10_44 : decode prog_42_method_10_code 44 = .ok (.ifCond .ne 26, 3) := by decide +kernel
theorem d_prog_42_method_10_70 : decode prog_42_method_10_code 70 = .ok (.iinc 1 1, 3) := by decide +kernel
theorem d_prog_42_method_10_73 : decode prog_42_method_10_code 73 = .ok (.goto (-62), 3) := by decide +kernel
theorem d_prog_42_method_10_76 : decode prog_42_method_10_code 76 = .ok (.iconst 1, 1) := by decide +kernel
theorem d_prog_42_method_10_77 : decode prog_42_method_10_code 77 = .ok (.ireturn, 1) := by decide +kernel
theorem ef_rmIPW (m : MethodId) (x0 : Addr) : entryFrame m #[(.ref x0)] 4 = mkF m 0 #[.val (.ref x0), .unset, .unset, .unset] [] := by first | (simp [entryFrame, mkF, argsToLocals, Value.category]; done) | rfl
def Q_rmIPW (Z : State) (a : Addr) (cst : Int32) (b : Addr) (kb : ClassId) (cs : List Int32) (fmt : Value) (h0 : Heap) (n0 : Nat) (v : Option Value) (h : Heap) (L : List Loc) : Prop := (v = some (.int (1 : Int32))) ∧ (Fr n0 L) ∧ (h = h0)
set_option maxRecDepth 65536 in
set_option maxHeartbeats 40000000 in
theorem rmIPW (l : Launch) (Z : State) (a0 : Array Value) (hw : ∀ d ∈ tables_1, d.before a0 Z = true) (ws : List Jvm.Cond) (a : Addr) (cst : Int32) (b : Addr) (kb : ClassId) (cs : List Int32) (fmt : Value) (h0 : Heap) (n0 : Nat) (Z0 : n0 ≤ h0.size) (I1 : Sta Z Z.heap "java/lang/String" "COMPACT_STRINGS" "Z" (.int cst)) (hfmt : fmt.isRef = true) (I2 : Sta Z Z.heap "jdk/internal/util/Preconditions" "SIOOBE_FORMATTER" "Ljava/util/function/BiFunction;" fmt) (OX : Old Z n0 h0) (hcst : ¬ (cst = (0 : Int32))) (I3 : Exa Z h0 a "java/lang/String") (I4 : Fld Z h0 a "java/lang/String" "value" "[B" (.ref b)) (I5 : Fld Z h0 a "java/lang/String" "coder" "B" (.int (own_cod cs))) (I6 : Arv Z h0 b kb .byte (Int32.ofNat (own_enl cs)) (own_enc cs) (.int (0 : Int32))) (hb : cs.length ≤ 2) (hchs : own_chs cs) (hlat : own_lat cs) (hne : ¬ (cs = [])) (hpr : ∀ c ∈ cs, own_prt c) :
    MetFree l (⟨"com/example/zastupnik/zastupnik/protocol/Jips", "isPrintableWord", "(Ljava/lang/String;)Z"⟩ : MethodName) (head1 (Jvm.Cond.code (⟨"com/example/zastupnik/zastupnik/protocol/Jips", "isPrintableWord", "(Ljava/lang/String;)Z"⟩ : MethodName) prog_42_method_10_code 4 (some .boolean) :: ws) ({ frames := 4, cells := 0, slots := 0, locals := 53 } : Room)) (fun ar_ U => ar_ = #[(.ref a)] ∧ Z.Warmed39 U.vm ∧ U.heap = h0) (fun _ _ _ _ _ => True) (fun _ U o U' => ∃ v L, o = .returned v ∧ Q_rmIPW Z a cst b kb cs fmt h0 n0 v U'.heap L ∧ FrameEnd U o U' L ({ frames := 4, cells := 0, slots := 0, locals := 53 } : Room).cells ({ frames := 4, cells := 0, slots := 0, locals := 53 } : Room).slots) := by
  refine MetFree.of_bodySF (plainFor_of_name pn_com_example_zastupnik_zastupnik_protocol_Jips) hisR ?_
  intro p e s m args below meth c s₁ Bd hml0 hP hK
  obtain ⟨rfl, hZ, hh⟩ := hP
  have hx := Bd.exec
  have hby := Bd.bytes
  have hml : c.maxLocals = 4 := hml0
  have hown : s.vm.findClass "com/example/zastupnik/zastupnik/protocol/Jips" = some m.cls := findClass_of_methodNamed Bd.named
  have hnm := (name_of_methodNamed Bd.named Bd.method).1
  have X0 : Stand p l e ({ frames := 4, cells := 0, slots := 0, locals := 53 } : Room) s m #[(.ref a)] below meth c s₁ [] 0 0 := Stand.of_body Bd
  have e0 : s₁.heap = h0 := by rw [← hh, Bd.state]; rfl
  have N0 := Fr.nil n0
  have pre0 : ∀ t_, Steps p.tables e below (s₁.setTop (mkF m 0 #[.val (.ref a), .unset, .unset, .unset] [])) t_ → Steps p.tables e below (s₁.setTop (entryFrame m #[(.ref a)] 4)) t_ := fun t_ k_ => castTop (ef_rmIPW m a) k_
  have lt_I3 : @LT.lt Nat _ a h0.size := I3.lt
  have lt_I4 : @LT.lt Nat _ a h0.size := I4.lt
  have lt_I5 : @LT.lt Nat _ a h0.size := I5.lt
  have lt_I6 : @LT.lt Nat _ b h0.size := I6.lt
  have Zc1 : n0 ≤ h0.size := by omega
  obtain ⟨cq2, kq2, q2a, q2b, q2c⟩ := isOf hZ e0 I3
  obtain ⟨_, _, ⟨T2, L2, k2, n2⟩, -, X2, ⟨Lc2, hQ2, l2, y2, z2⟩, st2⟩ := X0.virtualBack hx (y := (⟨"java/lang/String", "isEmpty", "()Z"⟩ : MethodName)) (z := (⟨"java/lang/String", "isEmpty", "()Z"⟩ : MethodName)) hown (mvT hZ (hw _ (List.mem_of_getElem? (i := 55) rfl))) (mvT hZ (hw _ (List.mem_of_getElem? (i := 56) rfl))) (notFace_of_selects (args := #[]) (mvT hZ (hw _ (List.mem_of_getElem? (i := 58) rfl)))) (mvT hZ (hw _ (List.mem_of_getElem? (i := 58) rfl))) (mvT hZ (hw _ (List.mem_of_getElem? (i := 57) rfl))) (by decide) (backOf (W := 0) (rmEmp l Z a0 hw [] a b kb cs h0 n0 Zc1 I3 I4 I6 (hb : cs.length ≤ 2)) hZ (hw _ (List.mem_of_getElem? (i := 59) rfl)) (hw _ (List.mem_of_getElem? (i := 13) rfl)) (by decide) (by decide)) q2a q2c (g := (mkF m 1 #[.val (.ref a), .unset, .unset, .unset] [(.ref a)])) rfl (by rw [hml]; rfl) (Steps.refl _) (argsL := []) (rest := []) (lenOf pd___Z rfl) rfl (by show 2 * 0 + _ ≤ _; exact Nat.le_of_eq rfl) (Jvm.hb hby d_prog_42_method_10_1) (fun _ _ => ⟨rfl, e0, (by decide : 0 + 0 ≤ _), (by decide : 0 + 0 ≤ _)⟩)
  dsimp only [Pt.U, Pt.locs, Pt.cells, Pt.slots] at X2 l2 y2 z2 st2 hQ2
  subst l2 y2 z2
  obtain ⟨rfl, N2q, e2⟩ := hQ2
  have N2 := Fr.app N0 N2q
  have s3 : ∀ t_, Steps p.tables e below (T2.setTop (mkF m 11 #[.val (.ref a), .val (.int (0 : Int32)), .unset, .unset] [])) t_ → Steps p.tables e below (s₁.setTop (entryFrame m #[(.ref a)] 4)) t_ := fun t_ k_ => pre0 t_ (by
    show Steps p.tables e below (s₁.setTop (mkF m 0 #[.val (.ref a), .unset, .unset, .unset] [])) t_
    refine XS.aloadN X0.here hx rfl (Jvm.hb hby d_prog_42_method_10_0) rfl rfl ?_
    refine st2.trans ?_
    show Steps p.tables e below (T2.setTop (mkF m 4 #[.val (.ref a), .unset, .unset, .unset] [(.int (if cs = [] then (1 : Int32) else (0 : Int32)))])) _
    refine castTop (g' := (mkF m 4 #[.val (.ref a), .unset, .unset, .unset] [(.int (0 : Int32))])) (by rw [if_neg hne]) ?_
    show Steps p.tables e below (T2.setTop (mkF m 4 #[.val (.ref a), .unset, .unset, .unset] [(.int (0 : Int32))])) _
    refine XS.ifYes X2.here hx rfl (pc0 := 4) (pc' := 9) rfl (Jvm.hb hby d_prog_42_method_10_4) rfl ((if0 _ _).trans (teq (rfl : (0 : Int32) = (0 : Int32))).1) (by decide) (by decide) ?_
    show Steps p.tables e below (T2.setTop (mkF m 9 #[.val (.ref a), .unset, .unset, .unset] [])) _
    refine XS.iconst X2.here hx rfl (Jvm.hb hby d_prog_42_method_10_9) ?_
    refine XS.istoreN X2.here hx rfl (Jvm.hb hby d_prog_42_method_10_10) rfl (l' := #[.val (.ref a), .val (.int (0 : Int32)), .unset, .unset]) rfl ?_
    show Steps p.tables e below (T2.setTop (mkF m 11 #[.val (.ref a), .val (.int (0 : Int32)), .unset, .unset] [])) t_
    exact k_)
  have lp4 : ∀ (k_ : Nat) (j : Nat) (s2 : Slot) (s3 : Slot) (T_ : State) (lo_ : List Loc), j + k_ = cs.length → Stand p l e ({ frames := 4, cells := 0, slots := 0, locals := 53 } : Room) s m #[(.ref a)] below meth c T_ lo_ 0 0 → T_.heap = h0 → Fr n0 lo_ → (One s2) → (One s3) → ∃ (T' : State) (lo' : List Loc) (fe_ : JFrame), Stand p l e ({ frames := 4, cells := 0, slots := 0, locals := 53 } : Room) s m #[(.ref a)] below meth c T' lo' 0 0 ∧ T'.heap = h0 ∧ Fr n0 lo' ∧ ((∃ (s2 : Slot), ∃ (s3 : Slot), fe_ = (mkF m 76 #[.val (.ref a), .val (.int (Int32.ofNat cs.length)), s2, s3] []))) ∧ ∀ t_, Steps p.tables e below (T'.setTop fe_) t_ → Steps p.tables e below (T_.setTop (mkF m 11 #[.val (.ref a), .val (.int (Int32.ofNat j)), s2, s3] [])) t_ := by
    intro k_
    induction k_ with
    | zero => 
      intro j s2 s3 T_ lo_ hm_ X_ e_ N_ hs2 hs3
      have Zc5 : n0 ≤ h0.size := by omega
      obtain ⟨cq6, kq6, q6a, q6b, q6c⟩ := isOf hZ e_ I3
      obtain ⟨_, _, ⟨T6, L6, k6, n6⟩, -, X6, ⟨Lc6, hQ6, l6, y6, z6⟩, st6⟩ := X_.virtualBack hx (y := (⟨"java/lang/String", "length", "()I"⟩ : MethodName)) (z := (⟨"java/lang/String", "length", "()I"⟩ : MethodName)) hown (mvT hZ (hw _ (List.mem_of_getElem? (i := 60) rfl))) (mvT hZ (hw _ (List.mem_of_getElem? (i := 61) rfl))) (notFace_of_selects (args := #[]) (mvT hZ (hw _ (List.mem_of_getElem? (i := 63) rfl)))) (mvT hZ (hw _ (List.mem_of_getElem? (i := 63) rfl))) (mvT hZ (hw _ (List.mem_of_getElem? (i := 62) rfl))) (by decide) (backOf (W := 1) (rmLen l Z a0 hw [] a cst b kb cs h0 n0 Zc5 I1 OX (hcst : ¬ (cst = (0 : Int32))) I3 I4 I5 I6 (hb : cs.length ≤ 2)) hZ (hw _ (List.mem_of_getElem? (i := 64) rfl)) (hw _ (List.mem_of_getElem? (i := 13) rfl)) (by decide) (by decide)) q6a q6c (g := (mkF m 13 #[.val (.ref a), .val (.int (Int32.ofNat j)), s2, s3] [(.ref a), (.int (Int32.ofNat j))])) rfl (by rw [hml]; rfl) (Steps.refl _) (argsL := []) (rest := [(.int (Int32.ofNat j))]) (lenOf pd___I rfl) rfl (by show 2 * 0 + _ ≤ _; exact Nat.le_of_eq rfl) (Jvm.hb hby d_prog_42_method_10_13) (fun _ _ => ⟨rfl, e_, (by decide : 0 + 0 ≤ _), (by decide : 0 + 0 ≤ _)⟩)
      dsimp only [Pt.U, Pt.locs, Pt.cells, Pt.slots] at X6 l6 y6 z6 st6 hQ6
      subst l6 y6 z6
      obtain ⟨rfl, N6q, e6⟩ := hQ6
      have N6 := Fr.app N_ N6q
      have s7 : ∀ t_, Steps p.tables e below (T6.setTop (mkF m 76 #[.val (.ref a), .val (.int (Int32.ofNat j)), s2, s3] [])) t_ → Steps p.tables e below (T_.setTop (mkF m 11 #[.val (.ref a), .val (.int (Int32.ofNat j)), s2, s3] [])) t_ := fun t_ k_ => (fun _ k_ => k_) t_ (by
        show Steps p.tables e below (T_.setTop (mkF m 11 #[.val (.ref a), .val (.int (Int32.ofNat j)), s2, s3] [])) t_
        refine XS.iloadN X_.here hx rfl (Jvm.hb hby d_prog_42_method_10_11) rfl ?_
        refine XS.aloadN X_.here hx rfl (Jvm.hb hby d_prog_42_method_10_12) rfl rfl ?_
        refine st6.trans ?_
        show Steps p.tables e below (T6.setTop (mkF m 16 #[.val (.ref a), .val (.int (Int32.ofNat j)), s2, s3] [(.int (Int32.ofNat cs.length)), (.int (Int32.ofNat j))])) _
        refine XS.icmpYes X6.here hx rfl (pc0 := 16) (pc' := 76) rfl (Jvm.hb hby d_prog_42_method_10_16) rfl (flt (own_nlt (by omega) (by omega))).2.1 (by decide) (by decide) ?_
        show Steps p.tables e below (T6.setTop (mkF m 76 #[.val (.ref a), .val (.int (Int32.ofNat j)), s2, s3] [])) _
        show Steps p.tables e below (T6.setTop (mkF m 76 #[.val (.ref a), .val (.int (Int32.ofNat j)), s2, s3] [])) t_
        exact k_)
      exact ⟨T6, _, _, X6, e6, N6, ⟨s2, s3, (by rw [show j = cs.length by omega])⟩, s7⟩
    | succ k_ ih => 
      intro j s2 s3 T_ lo_ hm_ X_ e_ N_ hs2 hs3
      have Zc8 : n0 ≤ h0.size := by omega
      obtain ⟨cq9, kq9, q9a, q9b, q9c⟩ := isOf hZ e_ I3
      obtain ⟨_, _, ⟨T9, L9, k9, n9⟩, -, X9, ⟨Lc9, hQ9, l9, y9, z9⟩, st9⟩ := X_.virtualBack hx (y := (⟨"java/lang/String", "length", "()I"⟩ : MethodName)) (z := (⟨"java/lang/String", "length", "()I"⟩ : MethodName)) hown (mvT hZ (hw _ (List.mem_of_getElem? (i := 60) rfl))) (mvT hZ (hw _ (List.mem_of_getElem? (i := 61) rfl))) (notFace_of_selects (args := #[]) (mvT hZ (hw _ (List.mem_of_getElem? (i := 63) rfl)))) (mvT hZ (hw _ (List.mem_of_getElem? (i := 63) rfl))) (mvT hZ (hw _ (List.mem_of_getElem? (i := 62) rfl))) (by decide) (backOf (W := 1) (rmLen l Z a0 hw [] a cst b kb cs h0 n0 Zc8 I1 OX (hcst : ¬ (cst = (0 : Int32))) I3 I4 I5 I6 (hb : cs.length ≤ 2)) hZ (hw _ (List.mem_of_getElem? (i := 64) rfl)) (hw _ (List.mem_of_getElem? (i := 13) rfl)) (by decide) (by decide)) q9a q9c (g := (mkF m 13 #[.val (.ref a), .val (.int (Int32.ofNat j)), s2, s3] [(.ref a), (.int (Int32.ofNat j))])) rfl (by rw [hml]; rfl) (Steps.refl _) (argsL := []) (rest := [(.int (Int32.ofNat j))]) (lenOf pd___I rfl) rfl (by show 2 * 0 + _ ≤ _; exact Nat.le_of_eq rfl) (Jvm.hb hby d_prog_42_method_10_13) (fun _ _ => ⟨rfl, e_, (by decide : 0 + 0 ≤ _), (by decide : 0 + 0 ≤ _)⟩)
      dsimp only [Pt.U, Pt.locs, Pt.cells, Pt.slots] at X9 l9 y9 z9 st9 hQ9
      subst l9 y9 z9
      obtain ⟨rfl, N9q, e9⟩ := hQ9
      have N9 := Fr.app N_ N9q
      have Zc10 : n0 ≤ h0.size := by omega
      obtain ⟨cq11, kq11, q11a, q11b, q11c⟩ := isOf hZ e9 I3
      obtain ⟨_, _, ⟨T11, L11, k11, n11⟩, -, X11, ⟨Lc11, hQ11, l11, y11, z11⟩, st11⟩ := X9.virtualBack hx (y := (⟨"java/lang/String", "charAt", "(I)C"⟩ : MethodName)) (z := (⟨"java/lang/String", "charAt", "(I)C"⟩ : MethodName)) hown (mvT hZ (hw _ (List.mem_of_getElem? (i := 70) rfl))) (mvT hZ (hw _ (List.mem_of_getElem? (i := 71) rfl))) (notFace_of_selects (args := #[]) (mvT hZ (hw _ (List.mem_of_getElem? (i := 73) rfl)))) (mvT hZ (hw _ (List.mem_of_getElem? (i := 73) rfl))) (mvT hZ (hw _ (List.mem_of_getElem? (i := 72) rfl))) (by decide) (backOf (W := 0) (rmChA l Z a0 hw [] a cst b kb cs j fmt h0 n0 Zc10 I1 (hfmt : fmt.isRef = true) I2 OX (hcst : ¬ (cst = (0 : Int32))) I3 I4 I5 I6 (hb : cs.length ≤ 2) (by omega) (hchs : own_chs cs) (hlat : own_lat cs)) hZ (hw _ (List.mem_of_getElem? (i := 74) rfl)) (hw _ (List.mem_of_getElem? (i := 13) rfl)) (by decide) (by decide)) q11a q11c (g := (mkF m 21 #[.val (.ref a), .val (.int (Int32.ofNat j)), s2, s3] [(.int (Int32.ofNat j)), (.ref a)])) rfl (by rw [hml]; rfl) (Steps.refl _) (argsL := [(.int (Int32.ofNat j))]) (rest := []) (lenOf pd__I_C rfl) rfl (by show 2 * 0 + _ ≤ _; exact Nat.le_of_eq rfl) (Jvm.hb hby d_prog_42_method_10_21) (fun _ _ => ⟨rfl, e9, (by decide : 0 + 0 ≤ _), (by decide : 0 + 0 ≤ _)⟩)
      dsimp only [Pt.U, Pt.locs, Pt.cells, Pt.slots] at X11 l11 y11 z11 st11 hQ11
      subst l11 y11 z11
      obtain ⟨rfl, N11q, e11⟩ := hQ11
      have N11 := Fr.app N9 N11q
      have s12 : ∀ t_, Steps p.tables e below (T11.setTop (mkF m 11 #[.val (.ref a), .val (.int ((Int32.ofNat j) + (1 : Int32))), .val (.int (cs.getD j 0)), .val (.int (1 : Int32))] [])) t_ → Steps p.tables e below (T_.setTop (mkF m 11 #[.val (.ref a), .val (.int (Int32.ofNat j)), s2, s3] [])) t_ := fun t_ k_ => (fun _ k_ => k_) t_ (by
        show Steps p.tables e below (T_.setTop (mkF m 11 #[.val (.ref a), .val (.int (Int32.ofNat j)), s2, s3] [])) t_
        refine XS.iloadN X_.here hx rfl (Jvm.hb hby d_prog_42_method_10_11) rfl ?_
        refine XS.aloadN X_.here hx rfl (Jvm.hb hby d_prog_42_method_10_12) rfl rfl ?_
        refine st9.trans ?_
        show Steps p.tables e below (T9.setTop (mkF m 16 #[.val (.ref a), .val (.int (Int32.ofNat j)), s2, s3] [(.int (Int32.ofNat cs.length)), (.int (Int32.ofNat j))])) _
        refine XS.icmpNo X9.here hx rfl (Jvm.hb hby d_prog_42_method_10_16) rfl (tlt (own_lt (by omega) (by omega))).2.1 ?_
        show Steps p.tables e below (T9.setTop (mkF m 19 #[.val (.ref a), .val (.int (Int32.ofNat j)), s2, s3] [])) _
        refine XS.aloadN X9.here hx rfl (Jvm.hb hby d_prog_42_method_10_19) rfl rfl ?_
        refine XS.iloadN X9.here hx rfl (Jvm.hb hby d_prog_42_method_10_20) rfl ?_
        refine st11.trans ?_
        show Steps p.tables e below (T11.setTop (mkF m 24 #[.val (.ref a), .val (.int (Int32.ofNat j)), s2, s3] [(.int (cs.getD j 0))])) _
        refine XS.istoreN X11.here hx rfl (Jvm.hb hby d_prog_42_method_10_24) rfl (l' := #[.val (.ref a), .val (.int (Int32.ofNat j)), .val (.int (cs.getD j 0)), s3]) (os_rmIPW_24 hs2) ?_
        refine XS.iloadN X11.here hx rfl (Jvm.hb hby d_prog_42_method_10_25) rfl ?_
        refine XS.bipush X11.here hx rfl (Jvm.hb hby d_prog_42_method_10_26) ?_
        refine XS.icmpNo X11.here hx rfl (Jvm.hb hby d_prog_42_method_10_28) rfl (tlt (hpr _ (own_mem cs j (by omega))).1).2.2.2 ?_
        show Steps p.tables e below (T11.setTop (mkF m 31 #[.val (.ref a), .val (.int (Int32.ofNat j)), .val (.int (cs.getD j 0)), s3] [])) _
        refine XS.iloadN X11.here hx rfl (Jvm.hb hby d_prog_42_method_10_31) rfl ?_
        refine XS.bipush X11.here hx rfl (Jvm.hb hby d_prog_42_method_10_32) ?_
        refine XS.icmpNo X11.here hx rfl (Jvm.hb hby d_prog_42_method_10_34) rfl (tlt (hpr _ (own_mem cs j (by omega))).2).2.1 ?_
        show Steps p.tables e below (T11.setTop (mkF m 37 #[.val (.ref a), .val (.int (Int32.ofNat j)), .val (.int (cs.getD j 0)), s3] [])) _
        refine XS.iconst X11.here hx rfl (Jvm.hb hby d_prog_42_method_10_37) ?_
        refine XS.goto X11.here hx rfl (pc0 := 38) (pc' := 42) rfl (Jvm.hb hby d_prog_42_method_10_38) (by decide) (by decide) ?_
        refine XS.istoreN X11.here hx rfl (Jvm.hb hby d_prog_42_method_10_42) rfl (l' := #[.val (.ref a), .val (.int (Int32.ofNat j)), .val (.int (cs.getD j 0)), .val (.int (1 : Int32))]) (os_rmIPW_42 hs3) ?_
        refine XS.iloadN X11.here hx rfl (Jvm.hb hby d_prog_42_method_10_43) rfl ?_
        refine XS.ifYes X11.here hx rfl (pc0 := 44) (pc' := 70) rfl (Jvm.hb hby d_prog_42_method_10_44) rfl ((if0 _ _).trans (feq (by decide : ¬ ((1 : Int32) = (0 : Int32)))).2) (by decide) (by decide) ?_
        show Steps p.tables e below (T11.setTop (mkF m 70 #[.val (.ref a), .val (.int (Int32.ofNat j)), .val (.int (cs.getD j 0)), .val (.int (1 : Int32))] [])) _
        refine XS.iinc X11.here hx rfl (Jvm.hb hby d_prog_42_method_10_70) rfl (l' := #[.val (.ref a), .val (.int ((Int32.ofNat j) + (1 : Int32))), .val (.int (cs.getD j 0)), .val (.int (1 : Int32))]) rfl ?_
        refine XS.goto X11.here hx rfl (pc0 := 73) (pc' := 11) rfl (Jvm.hb hby d_prog_42_method_10_73) (by decide) (by decide) ?_
        show Steps p.tables e below (T11.setTop (mkF m 11 #[.val (.ref a), .val (.int ((Int32.ofNat j) + (1 : Int32))), .val (.int (cs.getD j 0)), .val (.int (1 : Int32))] [])) t_
        exact k_)
      obtain ⟨T13, lo13, fe13, X13, e13, N13, A13, st13⟩ := ih (j + 1) (.val (.int (cs.getD j 0))) (.val (.int (1 : Int32))) T11 _  (by omega) X11 e11 N11   (One.val rfl) (One.val rfl)
      exact ⟨T13, lo13, fe13, X13, e13, N13, A13, fun t_ k_ => s12 t_ (castTop (by rw [own_up]) (st13 t_ k_))⟩
  obtain ⟨T14, lo14, fe14, X14, e14, N14, A14, st14⟩ := lp4 cs.length 0 .unset .unset T2 _  (by omega) X2 e2 N2   One.u One.u
  obtain ⟨s2_14, s3_14, rfl⟩ := A14
  have s15 : ∀ t_, Steps p.tables e below (T14.setTop (mkF m 76 #[.val (.ref a), .val (.int (Int32.ofNat cs.length)), s2_14, s3_14] [])) t_ → Steps p.tables e below (s₁.setTop (entryFrame m #[(.ref a)] 4)) t_ := fun t_ k_ => s3 t_ (st14 t_ k_)
  have s16 : ∀ t_, Steps p.tables e below (T14.setTop (mkF m 77 #[.val (.ref a), .val (.int (Int32.ofNat cs.length)), s2_14, s3_14] [(.int (1 : Int32))])) t_ → Steps p.tables e below (s₁.setTop (entryFrame m #[(.ref a)] 4)) t_ := fun t_ k_ => s15 t_ (by
    show Steps p.tables e below (T14.setTop (mkF m 76 #[.val (.ref a), .val (.int (Int32.ofNat cs.length)), s2_14, s3_14] [])) t_
    refine XS.iconst X14.here hx rfl (Jvm.hb hby d_prog_42_method_10_76) ?_
    show Steps p.tables e below (T14.setTop (mkF m 77 #[.val (.ref a), .val (.int (Int32.ofNat cs.length)), s2_14, s3_14] [(.int (1 : Int32))])) t_
    exact k_)
  obtain ⟨fs, hr, hrun, hended, hW, hsame⟩ := X14.leave (v := some (.int (1 : Int32))) (fun h => by rw [Bd.returns] at h; cases h)
  refine ⟨_, _, s16 _ ?_, hrun, hended, _, _, rfl, ?_, ⟨_, rfl⟩, hW, hsame.mono (by decide) (by decide)⟩
  · show Steps p.tables e below (T14.setTop (mkF m 77 #[.val (.ref a), .val (.int (Int32.ofNat cs.length)), s2_14, s3_14] [(.int (1 : Int32))])) _
    exact retN X14 hx (t := .boolean) Bd.returns (by simp) (Jvm.hb hby d_prog_42_method_10_77) hr
  · show Q_rmIPW Z _ _ _ _ _ _ h0 n0 _ T14.heap _
    rw [e14]
    exact ⟨rfl, N14, rfl⟩
theorem d_prog_42_method_1_0 : decode prog_42_method_1_code 0 = .ok (.aload_n 0, 1) := by decide +kernel
theorem d_prog_42_method_1_1 : decode prog_42_method_1_code 1 = .ok (.invokespecial 1, 3) := by decide +kernel
theorem d_prog_42_method_1_4 : decode prog_42_method_1_code 4 = .ok (.aload_n 2, 1) := by decide +kernel
theorem d_prog_42_method_1_5 : decode prog_42_method_1_code 5 = .ok (.ldc 7, 2) := by decide +kernel
theorem pd__Ljava_lang_Object_Ljava_lang_String__Ljava_lang_Object_ : parseMethodDescriptor "(Ljava/lang/Object;Ljava/lang/String;)Ljava/lang/Object;" = some ⟨[(.object "java/lang/Object"), (.object "java/lang/String")], some (.object "java/lang/Object")⟩ := by decide +kernel
theorem d_prog_42_method_1_7 : decode prog_42_method_1_code 7 = .ok (.invokestatic 9, 3) := by decide +kernel
theorem d_prog_42_method_1_10 : decode prog_42_method_1_code 10 = .ok (.pop, 1) := by decide +kernel
theorem d_prog_42_method_1_11 : decode prog_42_method_1_code 11 = .ok (.iload_n 1, 1) := by decide +kernel
theorem d_prog_42_method_1_12 : decode prog_42_method_1_code 12 = .ok (.ifCond .ge 17, 3) := by decide +kernel
theorem d_prog_42_method_1_29 : decode prog_42_method_1_code 29 = .ok (.aload_n 2, 1) := by decide +kernel
theorem pd__Ljava_lang_String__Z : parseMethodDescriptor "(Ljava/lang/String;)Z" = some ⟨[(.object "java/lang/String")], some .boolean⟩ := by decide +kernel
theorem d_prog_42_method_1_30 : decode prog_42_method_1_code 30 = .ok (.invokestatic 24, 3) := by decide +kernel
theorem d_prog_42_method_1_33 : decode prog_42_method_1_code 33 = .ok (.ifCond .ne 20, 3) := by decide +kernel
theorem d_prog_42_method_1_53 : decode prog_42_method_1_code 53 = .ok (.aload_n 0, 1) := by decide +kernel
theorem d_prog_42_method_1_54 : decode prog_42_method_1_code 54 = .ok (.iload_n 1, 1) := by decide +kernel
theorem d_prog_42_method_1_55 : decode prog_42_method_1_code 55 = .ok (.putfield 38, 3) := by decide +kernel
theorem d_prog_42_method_1_58 : decode prog_42_method_1_code 58 = .ok (.aload_n 0, 1) := by decide +kernel
theorem d_prog_42_method_1_59 : decode prog_42_method_1_code 59 = .ok (.aload_n 2, 1) := by decide +kernel
theorem d_prog_42_method_1_60 : decode prog_42_method_1_code 60 = .ok (.putfield 42, 3) := by decide +kernel
theorem d_prog_42_method_1_63 : decode prog_42_method_1_code 63 = .ok (.return_, 1) := by decide +kernel
theorem ef_rmJi (m : MethodId) (x0 : Addr) (x1 : Int32) (x2 : Addr) : entryFrame m #[(.ref x0), (.int x1), (.ref x2)] 3 = mkF m 0 #[.val (.ref x0), .val (.int x1), .val (.ref x2)] [] := by first | (simp [entryFrame, mkF, argsToLocals, Value.category]; done) | rfl
def Q_rmJi (Z : State) (a_ : Addr) (rg : Int32) (a : Addr) (cst : Int32) (b : Addr) (kb : ClassId) (cs : List Int32) (fmt : Value) (h0 : Heap) (n0 : Nat) (v : Option Value) (h : Heap) (L : List Loc) : Prop := (v = none) ∧ (Fr n0 L) ∧ (Keep h0 h [a_]) ∧ (Exa Z h a_ "com/example/zastupnik/zastupnik/protocol/Jips") ∧ (Fld Z h a_ "com/example/zastupnik/zastupnik/protocol/Jips" "izvorReg" "I" (.int rg)) ∧ (Fld Z h a_ "com/example/zastupnik/zastupnik/protocol/Jips" "ips" "Ljava/lang/String;" (.ref a))
set_option maxRecDepth 65536 in
set_option maxHeartbeats 40000000 in
theorem rmJi (l : Launch) (Z : State) (a0 : Array Value) (hw : ∀ d ∈ tables_1, d.before a0 Z = true) (ws : List Jvm.Cond) (a_ : Addr) (rg : Int32) (a : Addr) (cst : Int32) (b : Addr) (kb : ClassId) (cs : List Int32) (fmt : Value) (h0 : Heap) (n0 : Nat) (Z0 : n0 ≤ h0.size) (I1 : Sta Z Z.heap "java/lang/String" "COMPACT_STRINGS" "Z" (.int cst)) (hfmt : fmt.isRef = true) (I2 : Sta Z Z.heap "jdk/internal/util/Preconditions" "SIOOBE_FORMATTER" "Ljava/util/function/BiFunction;" fmt) (OX : Old Z n0 h0) (hcst : ¬ (cst = (0 : Int32))) (I3 : Exa Z h0 a "java/lang/String") (I4 : Fld Z h0 a "java/lang/String" "value" "[B" (.ref b)) (I5 : Fld Z h0 a "java/lang/String" "coder" "B" (.int (own_cod cs))) (I6 : Arv Z h0 b kb .byte (Int32.ofNat (own_enl cs)) (own_enc cs) (.int (0 : Int32))) (hb : cs.length ≤ 2) (hchs : own_chs cs) (hlat : own_lat cs) (hne : ¬ (cs = [])) (hpr : ∀ c ∈ cs, own_prt c) (I7 : Exa Z h0 a_ "com/example/zastupnik/zastupnik/protocol/Jips") (I8 : Fld Z h0 a_ "com/example/zastupnik/zastupnik/protocol/Jips" "izvorReg" "I" (.int (0 : Int32))) (I9 : Fld Z h0 a_ "com/example/zastupnik/zastupnik/protocol/Jips" "ips" "Ljava/lang/String;" .null) (hrg : ¬ (rg < (0 : Int32))) (ga : n0 ≤ a_) :
    MetFree l (⟨"com/example/zastupnik/zastupnik/protocol/Jips", "<init>", "(ILjava/lang/String;)V"⟩ : MethodName) (head1 (Jvm.Cond.code (⟨"com/example/zastupnik/zastupnik/protocol/Jips", "<init>", "(ILjava/lang/String;)V"⟩ : MethodName) prog_42_method_1_code 3 none :: ws) ({ frames := 5, cells := 2, slots := 16, locals := 68 } : Room)) (fun ar_ U => ar_ = #[(.ref a_), (.int rg), (.ref a)] ∧ Z.Warmed39 U.vm ∧ U.heap = h0 ∧ CHv Z ELs U.vm h0) (fun _ _ _ _ _ => True) (fun _ U o U' => ∃ v L, o = .returned v ∧ Q_rmJi Z a_ rg a cst b kb cs fmt h0 n0 v U'.heap L ∧ CHr Z ELs U.vm U.heap U'.vm U'.heap ∧ ReturnedEndW U o U' L ({ frames := 5, cells := 2, slots := 16, locals := 68 } : Room).cells ({ frames := 5, cells := 2, slots := 16, locals := 68 } : Room).slots) := by
  refine MetFree.of_bodySF (plainFor_of_name pn_com_example_zastupnik_zastupnik_protocol_Jips) hisR ?_
  intro p e s m args below meth c s₁ Bd hml0 hP hK
  obtain ⟨rfl, hZ, hh, hCH⟩ := hP
  have hx := Bd.exec
  have hby := Bd.bytes
  have hml : c.maxLocals = 3 := hml0
  have hown : s.vm.findClass "com/example/zastupnik/zastupnik/protocol/Jips" = some m.cls := findClass_of_methodNamed Bd.named
  have hnm := (name_of_methodNamed Bd.named Bd.method).1
  have X0 : Stand p l e ({ frames := 5, cells := 2, slots := 16, locals := 68 } : Room) (s.setVm s.vm) m #[(.ref a_), (.int rg), (.ref a)] below meth c s₁ [] 0 0 := Stand.of_body Bd
  have e0 : s₁.heap = h0 := by rw [← hh, Bd.state]; rfl
  have N0 := Fr.nil n0
  have pre0 : ∀ t_, Steps p.tables e below (s₁.setTop (mkF m 0 #[.val (.ref a_), .val (.int rg), .val (.ref a)] [])) t_ → Steps p.tables e below (s₁.setTop (entryFrame m #[(.ref a_), (.int rg), (.ref a)] 3)) t_ := fun t_ k_ => castTop (ef_rmJi m a_ rg a) k_
  have hEL : EW Z a0 ELs := own_EW hw
  have wS : ∀ a ∈ Bundle.stringAtoms, a.before a0 Z = true := own_wS hw
  have hS : s.Since s.vm s.heap.size := (State.WarmedH.refl s).since _
  have hk : s.heap.size ≤ h0.size := by rw [hh]; exact Nat.le_refl _
  have CR : CHr Z ELs s.vm h0 s.vm h0 := CHr.refl hCH
  have lt_I3 : @LT.lt Nat _ a h0.size := I3.lt
  have lt_I4 : @LT.lt Nat _ a h0.size := I4.lt
  have lt_I5 : @LT.lt Nat _ a h0.size := I5.lt
  have lt_I6 : @LT.lt Nat _ b h0.size := I6.lt
  have lt_I7 : @LT.lt Nat _ a_ h0.size := I7.lt
  have lt_I8 : @LT.lt Nat _ a_ h0.size := I8.lt
  have lt_I9 : @LT.lt Nat _ a_ h0.size := I9.lt
  obtain ⟨T1, X1, e1, st1⟩ := initO X0 hx hZ hown (hw _ (List.mem_of_getElem? (i := 44) rfl)) (hw _ (List.mem_of_getElem? (i := 23) rfl)) (hw _ (List.mem_of_getElem? (i := 24) rfl)) e0 (g := (mkF m 1 #[.val (.ref a_), .val (.int rg), .val (.ref a)] [(.ref a_)])) rfl (by rw [hml]; rfl) rfl (Jvm.hb hby d_prog_42_method_1_1) (by decide) (W := 0) (by show 2 * 0 + _ ≤ _; exact Nat.le_of_eq rfl) (by decide)
  have s3 : ∀ t_, Steps p.tables e below (T1.setTop (mkF m 5 #[.val (.ref a_), .val (.int rg), .val (.ref a)] [(.ref a)])) t_ → Steps p.tables e below (s₁.setTop (entryFrame m #[(.ref a_), (.int rg), (.ref a)] 3)) t_ := fun t_ k_ => pre0 t_ (by
    show Steps p.tables e below (s₁.setTop (mkF m 0 #[.val (.ref a_), .val (.int rg), .val (.ref a)] [])) t_
    refine XS.aloadN X0.here hx rfl (Jvm.hb hby d_prog_42_method_1_0) rfl rfl ?_
    refine st1 _ ?_
    show Steps p.tables e below (T1.setTop (mkF m 4 #[.val (.ref a_), .val (.int rg), .val (.ref a)] [])) _
    refine XS.aloadN X1.here hx rfl (Jvm.hb hby d_prog_42_method_1_4) rfl rfl ?_
    show Steps p.tables e below (T1.setTop (mkF m 5 #[.val (.ref a_), .val (.int rg), .val (.ref a)] [(.ref a)])) t_
    exact k_)
  obtain ⟨a2, T2, h2, k2, X2, e2, E2, hS, hk, hZ, hown, Cp2, Li2, st2⟩ := ldcOH X1 hx hZ hown (hw _ (List.mem_of_getElem? (i := 45) rfl)) wS e1 hS hk hEL CR.1 (g := (mkF m 5 #[.val (.ref a_), .val (.int rg), .val (.ref a)] [(.ref a)])) rfl (Jvm.hb hby d_prog_42_method_1_5) (n := 12) (by decide) (by decide) (by decide) (by decide)
  have z4 : h0.size ≤ h2.size := E2.1
  have CR := CR.trans Cp2
  have Zc5 : n0 ≤ h2.size := by omega
  obtain ⟨_, _, ⟨T6, L6, k6, n6⟩, -, X6, ⟨Lc6, hQ6, l6, y6, z6⟩, st6⟩ := Jvm.LawKit.callS X2 hx (y := (⟨"java/util/Objects", "requireNonNull", "(Ljava/lang/Object;Ljava/lang/String;)Ljava/lang/Object;"⟩ : MethodName)) hown (mvT hZ (hw _ (List.mem_of_getElem? (i := 48) rfl))) (mvT hZ (hw _ (List.mem_of_getElem? (i := 49) rfl))) (mvT hZ (hw _ (List.mem_of_getElem? (i := 50) rfl))) (mvT hZ (hw _ (List.mem_of_getElem? (i := 51) rfl))) (by decide) (backOf (W := 0) (rmReq l Z a0 hw [] a a2 h2 n0 Zc5) hZ (hw _ (List.mem_of_getElem? (i := 51) rfl)) (hw _ (List.mem_of_getElem? (i := 50) rfl)) (by decide) (by decide)) (g := (mkF m 7 #[.val (.ref a_), .val (.int rg), .val (.ref a)] [(.ref a2), (.ref a)])) rfl (by rw [hml]; rfl) (argsL := [(.ref a), (.ref a2)]) (rest := []) (lenOf pd__Ljava_lang_Object_Ljava_lang_String__Ljava_lang_Object_ rfl) rfl (by show 2 * 0 + _ ≤ _; exact Nat.le_of_eq rfl) (Jvm.hb hby d_prog_42_method_1_7) (fun _ _ => ⟨rfl, e2, (by decide : 2 + 0 ≤ _), (by decide : 16 + 0 ≤ _)⟩)
  dsimp only [Pt.U, Pt.locs, Pt.cells, Pt.slots] at X6 l6 y6 z6 st6 hQ6
  subst l6 y6 z6
  obtain ⟨rfl, N6q, e6⟩ := hQ6
  have N6 := Fr.app N0 N6q
  have O7 : Old Z n0 h2 := (OX.ext E2)
  have f8 : Exa Z h2 a "java/lang/String" := (I3.ext E2)
  have f9 : Fld Z h2 a "java/lang/String" "value" "[B" (.ref b) := (I4.ext E2)
  have f10 : Fld Z h2 a "java/lang/String" "coder" "B" (.int (own_cod cs)) := (I5.ext E2)
  have f11 : Arv Z h2 b kb .byte (Int32.ofNat (own_enl cs)) (own_enc cs) (.int (0 : Int32)) := (I6.ext E2)
  have Zc12 : n0 ≤ h2.size := by omega
  obtain ⟨_, _, ⟨T13, L13, k13, n13⟩, -, X13, ⟨Lc13, hQ13, l13, y13, z13⟩, st13⟩ := Jvm.LawKit.callS X6 hx (y := (⟨"com/example/zastupnik/zastupnik/protocol/Jips", "isPrintableWord", "(Ljava/lang/String;)Z"⟩ : MethodName)) hown (mvT hZ (hw _ (List.mem_of_getElem? (i := 52) rfl))) (mvT hZ (hw _ (List.mem_of_getElem? (i := 53) rfl))) (mvT hZ (hw _ (List.mem_of_getElem? (i := 7) rfl))) (mvT hZ (hw _ (List.mem_of_getElem? (i := 54) rfl))) (by decide) (backOf (W := 0) (rmIPW l Z a0 hw [] a cst b kb cs fmt h2 n0 Zc12 I1 (hfmt : fmt.isRef = true) I2 O7 (hcst : ¬ (cst = (0 : Int32))) f8 f9 f10 f11 (hb : cs.length ≤ 2) (hchs : own_chs cs) (hlat : own_lat cs) (hne : ¬ (cs = [])) (hpr : ∀ c ∈ cs, own_prt c)) hZ (hw _ (List.mem_of_getElem? (i := 54) rfl)) (hw _ (List.mem_of_getElem? (i := 7) rfl)) (by decide) (by decide)) (g := (mkF m 30 #[.val (.ref a_), .val (.int rg), .val (.ref a)] [(.ref a)])) rfl (by rw [hml]; rfl) (argsL := [(.ref a)]) (rest := []) (lenOf pd__Ljava_lang_String__Z rfl) rfl (by show 2 * 0 + _ ≤ _; exact Nat.le_of_eq rfl) (Jvm.hb hby d_prog_42_method_1_30) (fun _ _ => ⟨rfl, e6, (by decide : 2 + 0 ≤ _), (by decide : 16 + 0 ≤ _)⟩)
  dsimp only [Pt.U, Pt.locs, Pt.cells, Pt.slots] at X13 l13 y13 z13 st13 hQ13
  subst l13 y13 z13
  obtain ⟨rfl, N13q, e13⟩ := hQ13
  have N13 := Fr.app N6 N13q
  have f14 : Exa Z h2 a_ "com/example/zastupnik/zastupnik/protocol/Jips" := (I7.ext E2)
  have f15 : Fld Z h2 a_ "com/example/zastupnik/zastupnik/protocol/Jips" "izvorReg" "I" (.int (0 : Int32)) := (I8.ext E2)
  obtain ⟨T16, h16, X16, e16, W16, st16⟩ := putF X13 hx hZ hown (host := "") (Or.inl (hw _ (List.mem_of_getElem? (i := 92) rfl))) Via.refl e13 f15 f14 (Or.inr ⟨(hw _ (List.mem_of_getElem? (i := 93) rfl)), rfl, hnm⟩) (hw _ (List.mem_of_getElem? (i := 6) rfl)) (ty := .int) (by decide) rfl rfl (g := (mkF m 55 #[.val (.ref a_), .val (.int rg), .val (.ref a)] [(.int rg), (.ref a_)])) rfl rfl (Jvm.hb hby d_prog_42_method_1_55)
  have z17 : h2.size ≤ h16.size := Nat.le_of_eq W16.size.symm
  have Cp17 : CHr Z ELs T2.vm h2 T2.vm h16 := CHr.wr W16 (Safe.exa hZ.alike f14 (by decide) (by decide)) CR.1
  have hk := Nat.le_trans hk z17
  have CR := CR.trans Cp17
  have F16 : Fld Z h16 a_ "com/example/zastupnik/zastupnik/protocol/Jips" "izvorReg" "I" (.int rg) := f15.same W16
  have N16 := Fr.snoc X16 N13 (show n0 ≤ a_ by omega)
  have f18 : Exa Z h16 a_ "com/example/zastupnik/zastupnik/protocol/Jips" := (f14.wr W16)
  have f19 : Fld Z h16 a_ "com/example/zastupnik/zastupnik/protocol/Jips" "ips" "Ljava/lang/String;" .null := ((I9.ext E2).other W16 (Or.inr (slot_ne (Or.inr (hw _ (List.mem_of_getElem? (i := 95) rfl))) (Or.inr (hw _ (List.mem_of_getElem? (i := 93) rfl))) (by decide) (t := (.object "java/lang/String")) (t' := .int) (by decide) (by decide))))
  obtain ⟨T20, h20, X20, e20, W20, st20⟩ := putF X16 hx hZ hown (host := "") (Or.inl (hw _ (List.mem_of_getElem? (i := 94) rfl))) Via.refl e16 f19 f18 (Or.inr ⟨(hw _ (List.mem_of_getElem? (i := 95) rfl)), rfl, hnm⟩) (hw _ (List.mem_of_getElem? (i := 6) rfl)) (ty := (.object "java/lang/String")) (by decide) rfl rfl (g := (mkF m 60 #[.val (.ref a_), .val (.int rg), .val (.ref a)] [(.ref a), (.ref a_)])) rfl rfl (Jvm.hb hby d_prog_42_method_1_60)
  have z21 : h16.size ≤ h20.size := Nat.le_of_eq W20.size.symm
  have Cp21 : CHr Z ELs T2.vm h16 T2.vm h20 := CHr.wr W20 (Safe.exa hZ.alike f18 (by decide) (by decide)) CR.1
  have hk := Nat.le_trans hk z21
  have CR := CR.trans Cp21
  have F20 : Fld Z h20 a_ "com/example/zastupnik/zastupnik/protocol/Jips" "ips" "Ljava/lang/String;" (.ref a) := f19.same W20
  have N20 := Fr.snoc X20 N16 (show n0 ≤ a_ by omega)
  have s22 : ∀ t_, Steps p.tables e below (T20.setTop (mkF m 63 #[.val (.ref a_), .val (.int rg), .val (.ref a)] [])) t_ → Steps p.tables e below (s₁.setTop (entryFrame m #[(.ref a_), (.int rg), (.ref a)] 3)) t_ := fun t_ k_ => s3 t_ (by
    show Steps p.tables e below (T1.setTop (mkF m 5 #[.val (.ref a_), .val (.int rg), .val (.ref a)] [(.ref a)])) t_
    refine st2 _ ?_
    show Steps p.tables e below (T2.setTop (mkF m 7 #[.val (.ref a_), .val (.int rg), .val (.ref a)] [(.ref a2), (.ref a)])) _
    refine st6 _ ?_
    show Steps p.tables e below (T6.setTop (mkF m 10 #[.val (.ref a_), .val (.int rg), .val (.ref a)] [(.ref a)])) _
    refine XS.pop X6.here hx rfl (Jvm.hb hby d_prog_42_method_1_10) rfl rfl ?_
    refine XS.iloadN X6.here hx rfl (Jvm.hb hby d_prog_42_method_1_11) rfl ?_
    refine XS.ifYes X6.here hx rfl (pc0 := 12) (pc' := 29) rfl (Jvm.hb hby d_prog_42_method_1_12) rfl ((if0 _ _).trans (flt hrg).2.1) (by decide) (by decide) ?_
    show Steps p.tables e below (T6.setTop (mkF m 29 #[.val (.ref a_), .val (.int rg), .val (.ref a)] [])) _
    refine XS.aloadN X6.here hx rfl (Jvm.hb hby d_prog_42_method_1_29) rfl rfl ?_
    refine st13 _ ?_
    show Steps p.tables e below (T13.setTop (mkF m 33 #[.val (.ref a_), .val (.int rg), .val (.ref a)] [(.int (1 : Int32))])) _
    refine XS.ifYes X13.here hx rfl (pc0 := 33) (pc' := 53) rfl (Jvm.hb hby d_prog_42_method_1_33) rfl ((if0 _ _).trans (feq (by decide : ¬ ((1 : Int32) = (0 : Int32)))).2) (by decide) (by decide) ?_
    show Steps p.tables e below (T13.setTop (mkF m 53 #[.val (.ref a_), .val (.int rg), .val (.ref a)] [])) _
    refine XS.aloadN X13.here hx rfl (Jvm.hb hby d_prog_42_method_1_53) rfl rfl ?_
    refine XS.iloadN X13.here hx rfl (Jvm.hb hby d_prog_42_method_1_54) rfl ?_
    refine st16 _ ?_
    show Steps p.tables e below (T16.setTop (mkF m 58 #[.val (.ref a_), .val (.int rg), .val (.ref a)] [])) _
    refine XS.aloadN X16.here hx rfl (Jvm.hb hby d_prog_42_method_1_58) rfl rfl ?_
    refine XS.aloadN X16.here hx rfl (Jvm.hb hby d_prog_42_method_1_59) rfl rfl ?_
    refine st20 _ ?_
    show Steps p.tables e below (T20.setTop (mkF m 63 #[.val (.ref a_), .val (.int rg), .val (.ref a)] [])) _
    show Steps p.tables e below (T20.setTop (mkF m 63 #[.val (.ref a_), .val (.int rg), .val (.ref a)] [])) t_
    exact k_)
  obtain ⟨fs, hr, hrun, hended, hREW⟩ := X20.leaveW hS (by first | exact Nat.le_refl _ | (rw [e20]; exact hk)) (v := none) (fun _ => rfl)
  have f23 : Exa Z h20 a_ "com/example/zastupnik/zastupnik/protocol/Jips" := (f18.wr W20)
  have f24 : Fld Z h20 a_ "com/example/zastupnik/zastupnik/protocol/Jips" "izvorReg" "I" (.int rg) := (F16.other W20 (Or.inr (slot_ne (Or.inr (hw _ (List.mem_of_getElem? (i := 93) rfl))) (Or.inr (hw _ (List.mem_of_getElem? (i := 95) rfl))) (by decide) (t := .int) (t' := (.object "java/lang/String")) (by decide) (by decide))))
  refine ⟨_, _, s22 _ ?_, hrun, hended, _, _, rfl, ?_, (by show CHr Z ELs s.vm s.heap T20.vm T20.heap; rw [hh, e20]; exact CR.trans (CHv.at X20 hZ hEL CR.1)), hREW.1, hREW.2.1, hREW.2.2.1, hREW.2.2.2.mono (by decide) (by decide)⟩
  · show Steps p.tables e below (T20.setTop (mkF m 63 #[.val (.ref a_), .val (.int rg), .val (.ref a)] [])) _
    exact X20.returnOut hx Bd.returns (Jvm.hb hby d_prog_42_method_1_63) hr
  · show Q_rmJi Z _ _ _ _ _ _ _ _ h0 n0 _ T20.heap _
    rw [e20]
    exact ⟨rfl, N20, ((((Keep.refl h0 [a_]).ext E2).wr W16 (Or.inl (by simp))).wr W20 (Or.inl (by simp))), f23, f24, F20⟩
theorem d_prog_42_method_8_0 : decode prog_42_method_8_code 0 = .ok (.aload_n 1, 1) := by decide +kernel
theorem d_prog_42_method_8_1 : decode prog_42_method_8_code 1 = .ok (.instanceof 25, 3) := by decide +kernel
theorem d_prog_42_method_8_4 : decode prog_42_method_8_code 4 = .ok (.ifCond .eq 37, 3) := by decide +kernel
theorem d_prog_42_method_8_7 : decode prog_42_method_8_code 7 = .ok (.aload_n 1, 1) := by decide +kernel
theorem d_prog_42_method_8_8 : decode prog_42_method_8_code 8 = .ok (.checkcast 25, 3) := by decide +kernel
theorem d_prog_42_method_8_11 : decode prog_42_method_8_code 11 = .ok (.astore_n 2, 1) := by decide +kernel
theorem d_prog_42_method_8_12 : decode prog_42_method_8_code 12 = .ok (.aload_n 0, 1) := by decide +kernel
theorem d_prog_42_method_8_13 : decode prog_42_method_8_code 13 = .ok (.getfield 38, 3) := by decide +kernel
theorem d_prog_42_method_8_16 : decode prog_42_method_8_code 16 = .ok (.aload_n 2, 1) := by decide +kernel
theorem d_prog_42_method_8_17 : decode prog_42_method_8_code 17 = .ok (.getfield 38, 3) := by decide +kernel
theorem d_prog_42_method_8_20 : decode prog_42_method_8_code 20 = .ok (.if_icmp .ne 21, 3) := by decide +kernel
theorem d_prog_42_method_8_23 : decode prog_42_method_8_code 23 = .ok (.aload_n 0, 1) := by decide +kernel
theorem d_prog_42_method_8_24 : decode prog_42_method_8_code 24 = .ok (.getfield 42, 3) := by decide +kernel
theorem d_prog_42_method_8_27 : decode prog_42_method_8_code 27 = .ok (.aload_n 2, 1) := by decide +kernel
theorem d_prog_42_method_8_28 : decode prog_42_method_8_code 28 = .ok (.getfield 42, 3) := by decide +kernel
theorem pd__Ljava_lang_Object__Z : parseMethodDescriptor "(Ljava/lang/Object;)Z" = some ⟨[(.object "java/lang/Object")], some .boolean⟩ := by decide +kernel
theorem d_prog_42_method_8_31 : decode prog_42_method_8_code 31 = .ok (.invokevirtual 131, 3) := by decide +kernel
theorem d_prog_42_method_8_34 : decode prog_42_method_8_code 34 = .ok (.ifCond .eq 7, 3) := by decide +kernel
theorem d_prog_42_method_8_37 : decode prog_42_method_8_code 37 = .ok (.iconst 1, 1) := by decide +kernel
theorem d_prog_42_method_8_38 : decode prog_42_method_8_code 38 = .ok (.goto 4, 3) := by decide +kernel
theorem d_prog_42_method_8_42 : decode prog_42_method_8_code 42 = .ok (.ireturn, 1) := by decide +kernel
theorem d_prog_42_method_8_41 : decode prog_42_method_8_code 41 = .ok (.iconst 0, 1) := by decide +kernel
theorem ef_rmEqO (m : MethodId) (x0 : Addr) (x1 : Addr) : entryFrame m #[(.ref x0), (.ref x1)] 3 = mkF m 0 #[.val (.ref x0), .val (.ref x1), .unset] [] := by first | (simp [entryFrame, mkF, argsToLocals, Value.category]; done) | rfl
def Q_rmEqO (Z : State) (p_ : Addr) (q_ : Addr) (cst : Int32) (rx : Int32) (ry : Int32) (ax : Addr) (bx : Addr) (kx : ClassId) (cs : List Int32) (ay : Addr) (by_ : Addr) (ky : ClassId) (ds : List Int32) (h0 : Heap) (n0 : Nat) (v : Option Value) (h : Heap) (L : List Loc) : Prop := (v = some (.int (if rx = ry then (if cs = ds then (1 : Int32) else (0 : Int32)) else (0 : Int32)))) ∧ (Fr n0 L) ∧ (h = h0)
set_option maxRecDepth 65536 in
set_option maxHeartbeats 40000000 in
theorem rmEqO (l : Launch) (Z : State) (a0 : Array Value) (hw : ∀ d ∈ tables_1, d.before a0 Z = true) (ws : List Jvm.Cond) (p_ : Addr) (q_ : Addr) (cst : Int32) (rx : Int32) (ry : Int32) (ax : Addr) (bx : Addr) (kx : ClassId) (cs : List Int32) (ay : Addr) (by_ : Addr) (ky : ClassId) (ds : List Int32) (h0 : Heap) (n0 : Nat) (Z0 : n0 ≤ h0.size) (I1 : Sta Z Z.heap "java/lang/String" "COMPACT_STRINGS" "Z" (.int cst)) (OX : Old Z n0 h0) (hcst : ¬ (cst = (0 : Int32))) (I2 : Exa Z h0 p_ "com/example/zastupnik/zastupnik/protocol/Jips") (I3 : Fld Z h0 p_ "com/example/zastupnik/zastupnik/protocol/Jips" "izvorReg" "I" (.int rx)) (I4 : Fld Z h0 p_ "com/example/zastupnik/zastupnik/protocol/Jips" "ips" "Ljava/lang/String;" (.ref ax)) (I5 : Exa Z h0 q_ "com/example/zastupnik/zastupnik/protocol/Jips") (I6 : Fld Z h0 q_ "com/example/zastupnik/zastupnik/protocol/Jips" "izvorReg" "I" (.int ry)) (I7 : Fld Z h0 q_ "com/example/zastupnik/zastupnik/protocol/Jips" "ips" "Ljava/lang/String;" (.ref ay)) (I8 : Exa Z h0 ax "java/lang/String") (I9 : Fld Z h0 ax "java/lang/String" "value" "[B" (.ref bx)) (I10 : Fld Z h0 ax "java/lang/String" "coder" "B" (.int (own_cod cs))) (I11 : Arv Z h0 bx kx .byte (Int32.ofNat (own_enl cs)) (own_enc cs) (.int (0 : Int32))) (I12 : Exa Z h0 ay "java/lang/String") (I13 : Fld Z h0 ay "java/lang/String" "value" "[B" (.ref by_)) (I14 : Fld Z h0 ay "java/lang/String" "coder" "B" (.int (own_cod ds))) (I15 : Arv Z h0 by_ ky .byte (Int32.ofNat (own_enl ds)) (own_enc ds) (.int (0 : Int32))) (hne : ¬ (ax = ay)) (hchc : own_chs cs) (hchd : own_chs ds) (hbc : cs.length ≤ 2) (hbd : ds.length ≤ 2) :
    MetFree l (⟨"com/example/zastupnik/zastupnik/protocol/Jips", "equals", "(Ljava/lang/Object;)Z"⟩ : MethodName) (head1 (Jvm.Cond.code (⟨"com/example/zastupnik/zastupnik/protocol/Jips", "equals", "(Ljava/lang/Object;)Z"⟩ : MethodName) prog_42_method_8_code 3 (some .boolean) :: ws) ({ frames := 2, cells := 0, slots := 0, locals := 28 } : Room)) (fun ar_ U => ar_ = #[(.ref p_), (.ref q_)] ∧ Z.Warmed39 U.vm ∧ U.heap = h0) (fun _ _ _ _ _ => True) (fun _ U o U' => ∃ v L, o = .returned v ∧ Q_rmEqO Z p_ q_ cst rx ry ax bx kx cs ay by_ ky ds h0 n0 v U'.heap L ∧ FrameEnd U o U' L ({ frames := 2, cells := 0, slots := 0, locals := 28 } : Room).cells ({ frames := 2, cells := 0, slots := 0, locals := 28 } : Room).slots) := by
  refine MetFree.of_bodySF (plainFor_of_name pn_com_example_zastupnik_zastupnik_protocol_Jips) hisR ?_
  intro p e s m args below meth c s₁ Bd hml0 hP hK
  obtain ⟨rfl, hZ, hh⟩ := hP
  have hx := Bd.exec
  have hby := Bd.bytes
  have hml : c.maxLocals = 3 := hml0
  have hown : s.vm.findClass "com/example/zastupnik/zastupnik/protocol/Jips" = some m.cls := findClass_of_methodNamed Bd.named
  have hnm := (name_of_methodNamed Bd.named Bd.method).1
  have X0 : Stand p l e ({ frames := 2, cells := 0, slots := 0, locals := 28 } : Room) s m #[(.ref p_), (.ref q_)] below meth c s₁ [] 0 0 := Stand.of_body Bd
  have e0 : s₁.heap = h0 := by rw [← hh, Bd.state]; rfl
  have N0 := Fr.nil n0
  have pre0 : ∀ t_, Steps p.tables e below (s₁.setTop (mkF m 0 #[.val (.ref p_), .val (.ref q_), .unset] [])) t_ → Steps p.tables e below (s₁.setTop (entryFrame m #[(.ref p_), (.ref q_)] 3)) t_ := fun t_ k_ => castTop (ef_rmEqO m p_ q_) k_
  have lt_I2 : @LT.lt Nat _ p_ h0.size := I2.lt
  have lt_I3 : @LT.lt Nat _ p_ h0.size := I3.lt
  have lt_I4 : @LT.lt Nat _ p_ h0.size := I4.lt
  have lt_I5 : @LT.lt Nat _ q_ h0.size := I5.lt
  have lt_I6 : @LT.lt Nat _ q_ h0.size := I6.lt
  have lt_I7 : @LT.lt Nat _ q_ h0.size := I7.lt
  have lt_I8 : @LT.lt Nat _ ax h0.size := I8.lt
  have lt_I9 : @LT.lt Nat _ ax h0.size := I9.lt
  have lt_I10 : @LT.lt Nat _ ax h0.size := I10.lt
  have lt_I11 : @LT.lt Nat _ bx h0.size := I11.lt
  have lt_I12 : @LT.lt Nat _ ay h0.size := I12.lt
  have lt_I13 : @LT.lt Nat _ ay h0.size := I13.lt
  have lt_I14 : @LT.lt Nat _ ay h0.size := I14.lt
  have lt_I15 : @LT.lt Nat _ by_ h0.size := I15.lt
  obtain ⟨T1, X1, e1, st1⟩ := instY X0 hx hZ hown (hw _ (List.mem_of_getElem? (i := 108) rfl)) e0 (Ins.self I5) (g := (mkF m 1 #[.val (.ref p_), .val (.ref q_), .unset] [(.ref q_)])) rfl rfl (Jvm.hb hby d_prog_42_method_8_1)
  obtain ⟨T2, X2, e2, st2⟩ := castY X1 hx hZ hown (hw _ (List.mem_of_getElem? (i := 108) rfl)) e1 (Ins.self I5) (g := (mkF m 8 #[.val (.ref p_), .val (.ref q_), .unset] [(.ref q_)])) rfl rfl (Jvm.hb hby d_prog_42_method_8_8)
  obtain ⟨T3, X3, e3, st3⟩ := getF X2 hx hZ hown (host := "") (Or.inl (hw _ (List.mem_of_getElem? (i := 92) rfl))) Via.refl e2 I3 (g := (mkF m 13 #[.val (.ref p_), .val (.ref q_), .val (.ref q_)] [(.ref p_)])) rfl rfl (Jvm.hb hby d_prog_42_method_8_13)
  obtain ⟨T4, X4, e4, st4⟩ := getF X3 hx hZ hown (host := "") (Or.inl (hw _ (List.mem_of_getElem? (i := 92) rfl))) Via.refl e3 I6 (g := (mkF m 17 #[.val (.ref p_), .val (.ref q_), .val (.ref q_)] [(.ref q_), (.int rx)])) rfl rfl (Jvm.hb hby d_prog_42_method_8_17)
  have s5 : ∀ t_, Steps p.tables e below (T4.setTop (mkF m 20 #[.val (.ref p_), .val (.ref q_), .val (.ref q_)] [(.int ry), (.int rx)])) t_ → Steps p.tables e below (s₁.setTop (entryFrame m #[(.ref p_), (.ref q_)] 3)) t_ := fun t_ k_ => pre0 t_ (by
    show Steps p.tables e below (s₁.setTop (mkF m 0 #[.val (.ref p_), .val (.ref q_), .unset] [])) t_
    refine XS.aloadN X0.here hx rfl (Jvm.hb hby d_prog_42_method_8_0) rfl rfl ?_
    refine st1 _ ?_
    show Steps p.tables e below (T1.setTop (mkF m 4 #[.val (.ref p_), .val (.ref q_), .unset] [(.int (1 : Int32))])) _
    refine XS.ifNo X1.here hx rfl (Jvm.hb hby d_prog_42_method_8_4) rfl ((if0 _ _).trans (feq (by decide : ¬ ((1 : Int32) = (0 : Int32)))).1) ?_
    show Steps p.tables e below (T1.setTop (mkF m 7 #[.val (.ref p_), .val (.ref q_), .unset] [])) _
    refine XS.aloadN X1.here hx rfl (Jvm.hb hby d_prog_42_method_8_7) rfl rfl ?_
    refine st2 _ ?_
    show Steps p.tables e below (T2.setTop (mkF m 11 #[.val (.ref p_), .val (.ref q_), .unset] [(.ref q_)])) _
    refine XS.astoreN X2.here hx rfl (Jvm.hb hby d_prog_42_method_8_11) rfl rfl (l' := #[.val (.ref p_), .val (.ref q_), .val (.ref q_)]) rfl ?_
    refine XS.aloadN X2.here hx rfl (Jvm.hb hby d_prog_42_method_8_12) rfl rfl ?_
    refine st3 _ ?_
    show Steps p.tables e below (T3.setTop (mkF m 16 #[.val (.ref p_), .val (.ref q_), .val (.ref q_)] [(.int rx)])) _
    refine XS.aloadN X3.here hx rfl (Jvm.hb hby d_prog_42_method_8_16) rfl rfl ?_
    refine st4 _ ?_
    show Steps p.tables e below (T4.setTop (mkF m 20 #[.val (.ref p_), .val (.ref q_), .val (.ref q_)] [(.int ry), (.int rx)])) _
    show Steps p.tables e below (T4.setTop (mkF m 20 #[.val (.ref p_), .val (.ref q_), .val (.ref q_)] [(.int ry), (.int rx)])) t_
    exact k_)
  by_cases h6 : rx = ry
  · obtain ⟨T7, X7, e7, st7⟩ := getF X4 hx hZ hown (host := "") (Or.inl (hw _ (List.mem_of_getElem? (i := 94) rfl))) Via.refl e4 I4 (g := (mkF m 24 #[.val (.ref p_), .val (.ref q_), .val (.ref q_)] [(.ref p_)])) rfl rfl (Jvm.hb hby d_prog_42_method_8_24)
    obtain ⟨T8, X8, e8, st8⟩ := getF X7 hx hZ hown (host := "") (Or.inl (hw _ (List.mem_of_getElem? (i := 94) rfl))) Via.refl e7 I7 (g := (mkF m 28 #[.val (.ref p_), .val (.ref q_), .val (.ref q_)] [(.ref q_), (.ref ax)])) rfl rfl (Jvm.hb hby d_prog_42_method_8_28)
    have Zc9 : n0 ≤ h0.size := by omega
    obtain ⟨cq10, kq10, q10a, q10b, q10c⟩ := isOf hZ e8 I8
    obtain ⟨_, _, ⟨T10, L10, k10, n10⟩, -, X10, ⟨Lc10, hQ10, l10, y10, z10⟩, st10⟩ := X8.virtualBack hx (y := (⟨"java/lang/String", "equals", "(Ljava/lang/Object;)Z"⟩ : MethodName)) (z := (⟨"java/lang/String", "equals", "(Ljava/lang/Object;)Z"⟩ : MethodName)) hown (mvT hZ (hw _ (List.mem_of_getElem? (i := 110) rfl))) (mvT hZ (hw _ (List.mem_of_getElem? (i := 111) rfl))) (notFace_of_selects (args := #[]) (mvT hZ (hw _ (List.mem_of_getElem? (i := 113) rfl)))) (mvT hZ (hw _ (List.mem_of_getElem? (i := 113) rfl))) (mvT hZ (hw _ (List.mem_of_getElem? (i := 112) rfl))) (by decide) (backOf (W := 0) (rmSEq l Z a0 hw [] ax ay cst bx kx cs by_ ky ds h0 n0 Zc9 I1 OX (hcst : ¬ (cst = (0 : Int32))) I8 I9 I10 I11 I12 I13 I14 I15 (hne : ¬ (ax = ay)) (hchc : own_chs cs) (hchd : own_chs ds) (hbc : cs.length ≤ 2) (hbd : ds.length ≤ 2)) hZ (hw _ (List.mem_of_getElem? (i := 114) rfl)) (hw _ (List.mem_of_getElem? (i := 13) rfl)) (by decide) (by decide)) q10a q10c (g := (mkF m 31 #[.val (.ref p_), .val (.ref q_), .val (.ref q_)] [(.ref ay), (.ref ax)])) rfl (by rw [hml]; rfl) (Steps.refl _) (argsL := [(.ref ay)]) (rest := []) (lenOf pd__Ljava_lang_Object__Z rfl) rfl (by show 2 * 0 + _ ≤ _; exact Nat.le_of_eq rfl) (Jvm.hb hby d_prog_42_method_8_31) (fun _ _ => ⟨rfl, e8, (by decide : 0 + 0 ≤ _), (by decide : 0 + 0 ≤ _)⟩)
    dsimp only [Pt.U, Pt.locs, Pt.cells, Pt.slots] at X10 l10 y10 z10 st10 hQ10
    subst l10 y10 z10
    obtain ⟨rfl, N10q, e10⟩ := hQ10
    have N10 := Fr.app N0 N10q
    have s11 : ∀ t_, Steps p.tables e below (T10.setTop (mkF m 34 #[.val (.ref p_), .val (.ref q_), .val (.ref q_)] [(.int (if cs = ds then (1 : Int32) else (0 : Int32)))])) t_ → Steps p.tables e below (s₁.setTop (entryFrame m #[(.ref p_), (.ref q_)] 3)) t_ := fun t_ k_ => s5 t_ (by
      show Steps p.tables e below (T4.setTop (mkF m 20 #[.val (.ref p_), .val (.ref q_), .val (.ref q_)] [(.int ry), (.int rx)])) t_
      refine XS.icmpNo X4.here hx rfl (Jvm.hb hby d_prog_42_method_8_20) rfl (teq h6).2 ?_
      show Steps p.tables e below (T4.setTop (mkF m 23 #[.val (.ref p_), .val (.ref q_), .val (.ref q_)] [])) _
      refine XS.aloadN X4.here hx rfl (Jvm.hb hby d_prog_42_method_8_23) rfl rfl ?_
      refine st7 _ ?_
      show Steps p.tables e below (T7.setTop (mkF m 27 #[.val (.ref p_), .val (.ref q_), .val (.ref q_)] [(.ref ax)])) _
      refine XS.aloadN X7.here hx rfl (Jvm.hb hby d_prog_42_method_8_27) rfl rfl ?_
      refine st8 _ ?_
      show Steps p.tables e below (T8.setTop (mkF m 31 #[.val (.ref p_), .val (.ref q_), .val (.ref q_)] [(.ref ay), (.ref ax)])) _
      refine st10.trans ?_
      show Steps p.tables e below (T10.setTop (mkF m 34 #[.val (.ref p_), .val (.ref q_), .val (.ref q_)] [(.int (if cs = ds then (1 : Int32) else (0 : Int32)))])) _
      show Steps p.tables e below (T10.setTop (mkF m 34 #[.val (.ref p_), .val (.ref q_), .val (.ref q_)] [(.int (if cs = ds then (1 : Int32) else (0 : Int32)))])) t_
      exact k_)
    by_cases h12 : cs = ds
    · have s13 : ∀ t_, Steps p.tables e below (T10.setTop (mkF m 34 #[.val (.ref p_), .val (.ref q_), .val (.ref q_)] [(.int (1 : Int32))])) t_ → Steps p.tables e below (s₁.setTop (entryFrame m #[(.ref p_), (.ref q_)] 3)) t_ := fun t_ k_ => s11 t_ (castTop (by simp only [if_pos h12]) k_)
      have s14 : ∀ t_, Steps p.tables e below (T10.setTop (mkF m 42 #[.val (.ref p_), .val (.ref q_), .val (.ref q_)] [(.int (1 : Int32))])) t_ → Steps p.tables e below (s₁.setTop (entryFrame m #[(.ref p_), (.ref q_)] 3)) t_ := fun t_ k_ => s13 t_ (by
        show Steps p.tables e below (T10.setTop (mkF m 34 #[.val (.ref p_), .val (.ref q_), .val (.ref q_)] [(.int (1 : Int32))])) t_
        refine XS.ifNo X10.here hx rfl (Jvm.hb hby d_prog_42_method_8_34) rfl ((if0 _ _).trans (feq (by decide : ¬ ((1 : Int32) = (0 : Int32)))).1) ?_
        show Steps p.tables e below (T10.setTop (mkF m 37 #[.val (.ref p_), .val (.ref q_), .val (.ref q_)] [])) _
        refine XS.iconst X10.here hx rfl (Jvm.hb hby d_prog_42_method_8_37) ?_
        refine XS.goto X10.here hx rfl (pc0 := 38) (pc' := 42) rfl (Jvm.hb hby d_prog_42_method_8_38) (by decide) (by decide) ?_
        show Steps p.tables e below (T10.setTop (mkF m 42 #[.val (.ref p_), .val (.ref q_), .val (.ref q_)] [(.int (1 : Int32))])) t_
        exact k_)
      obtain ⟨fs, hr, hrun, hended, hW, hsame⟩ := X10.leave (v := some (.int (1 : Int32))) (fun h => by rw [Bd.returns] at h; cases h)
      refine ⟨_, _, s14 _ ?_, hrun, hended, _, _, rfl, ?_, ⟨_, rfl⟩, hW, hsame.mono (by decide) (by decide)⟩
      · show Steps p.tables e below (T10.setTop (mkF m 42 #[.val (.ref p_), .val (.ref q_), .val (.ref q_)] [(.int (1 : Int32))])) _
        exact retN X10 hx (t := .boolean) Bd.returns (by simp) (Jvm.hb hby d_prog_42_method_8_42) hr
      · show Q_rmEqO Z _ _ _ _ _ _ _ _ _ _ _ _ _ h0 n0 _ T10.heap _
        rw [e10]
        exact ⟨(by first | rfl | (simp only [if_pos h6, if_pos h12]; done) | (simp only [if_pos h6, if_pos h12]; rfl) | (simp only [if_pos h6, if_pos h12, own_narb]; done)), N10, rfl⟩
    · have s15 : ∀ t_, Steps p.tables e below (T10.setTop (mkF m 34 #[.val (.ref p_), .val (.ref q_), .val (.ref q_)] [(.int (0 : Int32))])) t_ → Steps p.tables e below (s₁.setTop (entryFrame m #[(.ref p_), (.ref q_)] 3)) t_ := fun t_ k_ => s11 t_ (castTop (by simp only [if_neg h12]) k_)
      have s16 : ∀ t_, Steps p.tables e below (T10.setTop (mkF m 42 #[.val (.ref p_), .val (.ref q_), .val (.ref q_)] [(.int (0 : Int32))])) t_ → Steps p.tables e below (s₁.setTop (entryFrame m #[(.ref p_), (.ref q_)] 3)) t_ := fun t_ k_ => s15 t_ (by
        show Steps p.tables e below (T10.setTop (mkF m 34 #[.val (.ref p_), .val (.ref q_), .val (.ref q_)] [(.int (0 : Int32))])) t_
        refine XS.ifYes X10.here hx rfl (pc0 := 34) (pc' := 41) rfl (Jvm.hb hby d_prog_42_method_8_34) rfl ((if0 _ _).trans (teq (rfl : (0 : Int32) = (0 : Int32))).1) (by decide) (by decide) ?_
        show Steps p.tables e below (T10.setTop (mkF m 41 #[.val (.ref p_), .val (.ref q_), .val (.ref q_)] [])) _
        refine XS.iconst X10.here hx rfl (Jvm.hb hby d_prog_42_method_8_41) ?_
        show Steps p.tables e below (T10.setTop (mkF m 42 #[.val (.ref p_), .val (.ref q_), .val (.ref q_)] [(.int (0 : Int32))])) t_
        exact k_)
      obtain ⟨fs, hr, hrun, hended, hW, hsame⟩ := X10.leave (v := some (.int (0 : Int32))) (fun h => by rw [Bd.returns] at h; cases h)
      refine ⟨_, _, s16 _ ?_, hrun, hended, _, _, rfl, ?_, ⟨_, rfl⟩, hW, hsame.mono (by decide) (by decide)⟩
      · show Steps p.tables e below (T10.setTop (mkF m 42 #[.val (.ref p_), .val (.ref q_), .val (.ref q_)] [(.int (0 : Int32))])) _
        exact retN X10 hx (t := .boolean) Bd.returns (by simp) (Jvm.hb hby d_prog_42_method_8_42) hr
      · show Q_rmEqO Z _ _ _ _ _ _ _ _ _ _ _ _ _ h0 n0 _ T10.heap _
        rw [e10]
        exact ⟨(by first | rfl | (simp only [if_pos h6, if_neg h12]; done) | (simp only [if_pos h6, if_neg h12]; rfl) | (simp only [if_pos h6, if_neg h12, own_narb]; done)), N10, rfl⟩
  · have s17 : ∀ t_, Steps p.tables e below (T4.setTop (mkF m 42 #[.val (.ref p_), .val (.ref q_), .val (.ref q_)] [(.int (0 : Int32))])) t_ → Steps p.tables e below (s₁.setTop (entryFrame m #[(.ref p_), (.ref q_)] 3)) t_ := fun t_ k_ => s5 t_ (by
      show Steps p.tables e below (T4.setTop (mkF m 20 #[.val (.ref p_), .val (.ref q_), .val (.ref q_)] [(.int ry), (.int rx)])) t_
      refine XS.icmpYes X4.here hx rfl (pc0 := 20) (pc' := 41) rfl (Jvm.hb hby d_prog_42_method_8_20) rfl (feq h6).2 (by decide) (by decide) ?_
      show Steps p.tables e below (T4.setTop (mkF m 41 #[.val (.ref p_), .val (.ref q_), .val (.ref q_)] [])) _
      refine XS.iconst X4.here hx rfl (Jvm.hb hby d_prog_42_method_8_41) ?_
      show Steps p.tables e below (T4.setTop (mkF m 42 #[.val (.ref p_), .val (.ref q_), .val (.ref q_)] [(.int (0 : Int32))])) t_
      exact k_)
    obtain ⟨fs, hr, hrun, hended, hW, hsame⟩ := X4.leave (v := some (.int (0 : Int32))) (fun h => by rw [Bd.returns] at h; cases h)
    refine ⟨_, _, s17 _ ?_, hrun, hended, _, _, rfl, ?_, ⟨_, rfl⟩, hW, hsame.mono (by decide) (by decide)⟩
    · show Steps p.tables e below (T4.setTop (mkF m 42 #[.val (.ref p_), .val (.ref q_), .val (.ref q_)] [(.int (0 : Int32))])) _
      exact retN X4 hx (t := .boolean) Bd.returns (by simp) (Jvm.hb hby d_prog_42_method_8_42) hr
    · show Q_rmEqO Z _ _ _ _ _ _ _ _ _ _ _ _ _ h0 n0 _ T4.heap _
      rw [e4]
      exact ⟨(by first | rfl | (simp only [if_neg h6]; done) | (simp only [if_neg h6]; rfl) | (simp only [if_neg h6, own_narb]; done)), N0, rfl⟩
theorem ef_rmEqS (m : MethodId) (x0 : Addr) (x1 : Addr) : entryFrame m #[(.ref x0), (.ref x1)] 3 = mkF m 0 #[.val (.ref x0), .val (.ref x1), .unset] [] := by first | (simp [entryFrame, mkF, argsToLocals, Value.category]; done) | rfl
def Q_rmEqS (Z : State) (p_ : Addr) (rx : Int32) (ax : Addr) (h0 : Heap) (n0 : Nat) (v : Option Value) (h : Heap) (L : List Loc) : Prop := (v = some (.int (1 : Int32))) ∧ (Fr n0 L) ∧ (h = h0)
set_option maxRecDepth 65536 in
set_option maxHeartbeats 40000000 in
theorem rmEqS (l : Launch) (Z : State) (a0 : Array Value) (hw : ∀ d ∈ tables_1, d.before a0 Z = true) (ws : List Jvm.Cond) (p_ : Addr) (rx : Int32) (ax : Addr) (h0 : Heap) (n0 : Nat) (Z0 : n0 ≤ h0.size) (I1 : Exa Z h0 p_ "com/example/zastupnik/zastupnik/protocol/Jips") (I2 : Fld Z h0 p_ "com/example/zastupnik/zastupnik/protocol/Jips" "izvorReg" "I" (.int rx)) (I3 : Fld Z h0 p_ "com/example/zastupnik/zastupnik/protocol/Jips" "ips" "Ljava/lang/String;" (.ref ax)) (I4 : Exa Z h0 ax "java/lang/String") :
    MetFree l (⟨"com/example/zastupnik/zastupnik/protocol/Jips", "equals", "(Ljava/lang/Object;)Z"⟩ : MethodName) (head1 (Jvm.Cond.code (⟨"com/example/zastupnik/zastupnik/protocol/Jips", "equals", "(Ljava/lang/Object;)Z"⟩ : MethodName) prog_42_method_8_code 3 (some .boolean) :: ws) ({ frames := 1, cells := 0, slots := 0, locals := 14 } : Room)) (fun ar_ U => ar_ = #[(.ref p_), (.ref p_)] ∧ Z.Warmed39 U.vm ∧ U.heap = h0) (fun _ _ _ _ _ => True) (fun _ U o U' => ∃ v L, o = .returned v ∧ Q_rmEqS Z p_ rx ax h0 n0 v U'.heap L ∧ FrameEnd U o U' L ({ frames := 1, cells := 0, slots := 0, locals := 14 } : Room).cells ({ frames := 1, cells := 0, slots := 0, locals := 14 } : Room).slots) := by
  refine MetFree.of_bodySF (plainFor_of_name pn_com_example_zastupnik_zastupnik_protocol_Jips) hisR ?_
  intro p e s m args below meth c s₁ Bd hml0 hP hK
  obtain ⟨rfl, hZ, hh⟩ := hP
  have hx := Bd.exec
  have hby := Bd.bytes
  have hml : c.maxLocals = 3 := hml0
  have hown : s.vm.findClass "com/example/zastupnik/zastupnik/protocol/Jips" = some m.cls := findClass_of_methodNamed Bd.named
  have hnm := (name_of_methodNamed Bd.named Bd.method).1
  have X0 : Stand p l e ({ frames := 1, cells := 0, slots := 0, locals := 14 } : Room) s m #[(.ref p_), (.ref p_)] below meth c s₁ [] 0 0 := Stand.of_body Bd
  have e0 : s₁.heap = h0 := by rw [← hh, Bd.state]; rfl
  have N0 := Fr.nil n0
  have pre0 : ∀ t_, Steps p.tables e below (s₁.setTop (mkF m 0 #[.val (.ref p_), .val (.ref p_), .unset] [])) t_ → Steps p.tables e below (s₁.setTop (entryFrame m #[(.ref p_), (.ref p_)] 3)) t_ := fun t_ k_ => castTop (ef_rmEqS m p_ p_) k_
  have lt_I1 : @LT.lt Nat _ p_ h0.size := I1.lt
  have lt_I2 : @LT.lt Nat _ p_ h0.size := I2.lt
  have lt_I3 : @LT.lt Nat _ p_ h0.size := I3.lt
  have lt_I4 : @LT.lt Nat _ ax h0.size := I4.lt
  obtain ⟨T1, X1, e1, st1⟩ := instY X0 hx hZ hown (hw _ (List.mem_of_getElem? (i := 108) rfl)) e0 (Ins.self I1) (g := (mkF m 1 #[.val (.ref p_), .val (.ref p_), .unset] [(.ref p_)])) rfl rfl (Jvm.hb hby d_prog_42_method_8_1)
  obtain ⟨T2, X2, e2, st2⟩ := castY X1 hx hZ hown (hw _ (List.mem_of_getElem? (i := 108) rfl)) e1 (Ins.self I1) (g := (mkF m 8 #[.val (.ref p_), .val (.ref p_), .unset] [(.ref p_)])) rfl rfl (Jvm.hb hby d_prog_42_method_8_8)
  obtain ⟨T3, X3, e3, st3⟩ := getF X2 hx hZ hown (host := "") (Or.inl (hw _ (List.mem_of_getElem? (i := 92) rfl))) Via.refl e2 I2 (g := (mkF m 13 #[.val (.ref p_), .val (.ref p_), .val (.ref p_)] [(.ref p_)])) rfl rfl (Jvm.hb hby d_prog_42_method_8_13)
  obtain ⟨T4, X4, e4, st4⟩ := getF X3 hx hZ hown (host := "") (Or.inl (hw _ (List.mem_of_getElem? (i := 92) rfl))) Via.refl e3 I2 (g := (mkF m 17 #[.val (.ref p_), .val (.ref p_), .val (.ref p_)] [(.ref p_), (.int rx)])) rfl rfl (Jvm.hb hby d_prog_42_method_8_17)
  obtain ⟨T5, X5, e5, st5⟩ := getF X4 hx hZ hown (host := "") (Or.inl (hw _ (List.mem_of_getElem? (i := 94) rfl))) Via.refl e4 I3 (g := (mkF m 24 #[.val (.ref p_), .val (.ref p_), .val (.ref p_)] [(.ref p_)])) rfl rfl (Jvm.hb hby d_prog_42_method_8_24)
  obtain ⟨T6, X6, e6, st6⟩ := getF X5 hx hZ hown (host := "") (Or.inl (hw _ (List.mem_of_getElem? (i := 94) rfl))) Via.refl e5 I3 (g := (mkF m 28 #[.val (.ref p_), .val (.ref p_), .val (.ref p_)] [(.ref p_), (.ref ax)])) rfl rfl (Jvm.hb hby d_prog_42_method_8_28)
  have Zc7 : n0 ≤ h0.size := by omega
  obtain ⟨cq8, kq8, q8a, q8b, q8c⟩ := isOf hZ e6 I4
  obtain ⟨_, _, ⟨T8, L8, k8, n8⟩, -, X8, ⟨Lc8, hQ8, l8, y8, z8⟩, st8⟩ := X6.virtualBack hx (y := (⟨"java/lang/String", "equals", "(Ljava/lang/Object;)Z"⟩ : MethodName)) (z := (⟨"java/lang/String", "equals", "(Ljava/lang/Object;)Z"⟩ : MethodName)) hown (mvT hZ (hw _ (List.mem_of_getElem? (i := 110) rfl))) (mvT hZ (hw _ (List.mem_of_getElem? (i := 111) rfl))) (notFace_of_selects (args := #[]) (mvT hZ (hw _ (List.mem_of_getElem? (i := 113) rfl)))) (mvT hZ (hw _ (List.mem_of_getElem? (i := 113) rfl))) (mvT hZ (hw _ (List.mem_of_getElem? (i := 112) rfl))) (by decide) (backOf (W := 0) (rmSEqS l Z a0 hw [] ax h0 n0 Zc7) hZ (hw _ (List.mem_of_getElem? (i := 114) rfl)) (hw _ (List.mem_of_getElem? (i := 13) rfl)) (by decide) (by decide)) q8a q8c (g := (mkF m 31 #[.val (.ref p_), .val (.ref p_), .val (.ref p_)] [(.ref ax), (.ref ax)])) rfl (by rw [hml]; rfl) (Steps.refl _) (argsL := [(.ref ax)]) (rest := []) (lenOf pd__Ljava_lang_Object__Z rfl) rfl (by show 2 * 0 + _ ≤ _; exact Nat.le_of_eq rfl) (Jvm.hb hby d_prog_42_method_8_31) (fun _ _ => ⟨rfl, e6, (by decide : 0 + 0 ≤ _), (by decide : 0 + 0 ≤ _)⟩)
  dsimp only [Pt.U, Pt.locs, Pt.cells, Pt.slots] at X8 l8 y8 z8 st8 hQ8
  subst l8 y8 z8
  obtain ⟨rfl, N8q, e8⟩ := hQ8
  have N8 := Fr.app N0 N8q
  have s9 : ∀ t_, Steps p.tables e below (T8.setTop (mkF m 42 #[.val (.ref p_), .val (.ref p_), .val (.ref p_)] [(.int (1 : Int32))])) t_ → Steps p.tables e below (s₁.setTop (entryFrame m #[(.ref p_), (.ref p_)] 3)) t_ := fun t_ k_ => pre0 t_ (by
    show Steps p.tables e below (s₁.setTop (mkF m 0 #[.val (.ref p_), .val (.ref p_), .unset] [])) t_
    refine XS.aloadN X0.here hx rfl (Jvm.hb hby d_prog_42_method_8_0) rfl rfl ?_
    refine st1 _ ?_
    show Steps p.tables e below (T1.setTop (mkF m 4 #[.val (.ref p_), .val (.ref p_), .unset] [(.int (1 : Int32))])) _
    refine XS.ifNo X1.here hx rfl (Jvm.hb hby d_prog_42_method_8_4) rfl ((if0 _ _).trans (feq (by decide : ¬ ((1 : Int32) = (0 : Int32)))).1) ?_
    show Steps p.tables e below (T1.setTop (mkF m 7 #[.val (.ref p_), .val (.ref p_), .unset] [])) _
    refine XS.aloadN X1.here hx rfl (Jvm.hb hby d_prog_42_method_8_7) rfl rfl ?_
    refine st2 _ ?_
    show Steps p.tables e below (T2.setTop (mkF m 11 #[.val (.ref p_), .val (.ref p_), .unset] [(.ref p_)])) _
    refine XS.astoreN X2.here hx rfl (Jvm.hb hby d_prog_42_method_8_11) rfl rfl (l' := #[.val (.ref p_), .val (.ref p_), .val (.ref p_)]) rfl ?_
    refine XS.aloadN X2.here hx rfl (Jvm.hb hby d_prog_42_method_8_12) rfl rfl ?_
    refine st3 _ ?_
    show Steps p.tables e below (T3.setTop (mkF m 16 #[.val (.ref p_), .val (.ref p_), .val (.ref p_)] [(.int rx)])) _
    refine XS.aloadN X3.here hx rfl (Jvm.hb hby d_prog_42_method_8_16) rfl rfl ?_
    refine st4 _ ?_
    show Steps p.tables e below (T4.setTop (mkF m 20 #[.val (.ref p_), .val (.ref p_), .val (.ref p_)] [(.int rx), (.int rx)])) _
    refine XS.icmpNo X4.here hx rfl (Jvm.hb hby d_prog_42_method_8_20) rfl (teq (rfl : rx = rx)).2 ?_
    show Steps p.tables e below (T4.setTop (mkF m 23 #[.val (.ref p_), .val (.ref p_), .val (.ref p_)] [])) _
    refine XS.aloadN X4.here hx rfl (Jvm.hb hby d_prog_42_method_8_23) rfl rfl ?_
    refine st5 _ ?_
    show Steps p.tables e below (T5.setTop (mkF m 27 #[.val (.ref p_), .val (.ref p_), .val (.ref p_)] [(.ref ax)])) _
    refine XS.aloadN X5.here hx rfl (Jvm.hb hby d_prog_42_method_8_27) rfl rfl ?_
    refine st6 _ ?_
    show Steps p.tables e below (T6.setTop (mkF m 31 #[.val (.ref p_), .val (.ref p_), .val (.ref p_)] [(.ref ax), (.ref ax)])) _
    refine st8.trans ?_
    show Steps p.tables e below (T8.setTop (mkF m 34 #[.val (.ref p_), .val (.ref p_), .val (.ref p_)] [(.int (1 : Int32))])) _
    refine XS.ifNo X8.here hx rfl (Jvm.hb hby d_prog_42_method_8_34) rfl ((if0 _ _).trans (feq (by decide : ¬ ((1 : Int32) = (0 : Int32)))).1) ?_
    show Steps p.tables e below (T8.setTop (mkF m 37 #[.val (.ref p_), .val (.ref p_), .val (.ref p_)] [])) _
    refine XS.iconst X8.here hx rfl (Jvm.hb hby d_prog_42_method_8_37) ?_
    refine XS.goto X8.here hx rfl (pc0 := 38) (pc' := 42) rfl (Jvm.hb hby d_prog_42_method_8_38) (by decide) (by decide) ?_
    show Steps p.tables e below (T8.setTop (mkF m 42 #[.val (.ref p_), .val (.ref p_), .val (.ref p_)] [(.int (1 : Int32))])) t_
    exact k_)
  obtain ⟨fs, hr, hrun, hended, hW, hsame⟩ := X8.leave (v := some (.int (1 : Int32))) (fun h => by rw [Bd.returns] at h; cases h)
  refine ⟨_, _, s9 _ ?_, hrun, hended, _, _, rfl, ?_, ⟨_, rfl⟩, hW, hsame.mono (by decide) (by decide)⟩
  · show Steps p.tables e below (T8.setTop (mkF m 42 #[.val (.ref p_), .val (.ref p_), .val (.ref p_)] [(.int (1 : Int32))])) _
    exact retN X8 hx (t := .boolean) Bd.returns (by simp) (Jvm.hb hby d_prog_42_method_8_42) hr
  · show Q_rmEqS Z _ _ _ h0 n0 _ T8.heap _
    rw [e8]
    exact ⟨rfl, N8, rfl⟩
theorem ef_rmEqN (m : MethodId) (x0 : Addr) : entryFrame m #[(.ref x0), .null] 3 = mkF m 0 #[.val (.ref x0), .val .null, .unset] [] := by first | (simp [entryFrame, mkF, argsToLocals, Value.category]; done) | rfl
def Q_rmEqN (Z : State) (p_ : Addr) (h0 : Heap) (n0 : Nat) (v : Option Value) (h : Heap) (L : List Loc) : Prop := (v = some (.int (0 : Int32))) ∧ (Fr n0 L) ∧ (h = h0)
set_option maxRecDepth 65536 in
set_option maxHeartbeats 40000000 in
theorem rmEqN (l : Launch) (Z : State) (a0 : Array Value) (hw : ∀ d ∈ tables_1, d.before a0 Z = true) (ws : List Jvm.Cond) (p_ : Addr) (h0 : Heap) (n0 : Nat) (Z0 : n0 ≤ h0.size)  :
    MetFree l (⟨"com/example/zastupnik/zastupnik/protocol/Jips", "equals", "(Ljava/lang/Object;)Z"⟩ : MethodName) (head1 (Jvm.Cond.code (⟨"com/example/zastupnik/zastupnik/protocol/Jips", "equals", "(Ljava/lang/Object;)Z"⟩ : MethodName) prog_42_method_8_code 3 (some .boolean) :: ws) ({ frames := 0, cells := 0, slots := 0, locals := 0 } : Room)) (fun ar_ U => ar_ = #[(.ref p_), .null] ∧ Z.Warmed39 U.vm ∧ U.heap = h0) (fun _ _ _ _ _ => True) (fun _ U o U' => ∃ v L, o = .returned v ∧ Q_rmEqN Z p_ h0 n0 v U'.heap L ∧ FrameEnd U o U' L ({ frames := 0, cells := 0, slots := 0, locals := 0 } : Room).cells ({ frames := 0, cells := 0, slots := 0, locals := 0 } : Room).slots) := by
  refine MetFree.of_bodySF (plainFor_of_name pn_com_example_zastupnik_zastupnik_protocol_Jips) hisR ?_
  intro p e s m args below meth c s₁ Bd hml0 hP hK
  obtain ⟨rfl, hZ, hh⟩ := hP
  have hx := Bd.exec
  have hby := Bd.bytes
  have hml : c.maxLocals = 3 := hml0
  have hown : s.vm.findClass "com/example/zastupnik/zastupnik/protocol/Jips" = some m.cls := findClass_of_methodNamed Bd.named
  have hnm := (name_of_methodNamed Bd.named Bd.method).1
  have X0 : Stand p l e ({ frames := 0, cells := 0, slots := 0, locals := 0 } : Room) s m #[(.ref p_), .null] below meth c s₁ [] 0 0 := Stand.of_body Bd
  have e0 : s₁.heap = h0 := by rw [← hh, Bd.state]; rfl
  have N0 := Fr.nil n0
  have pre0 : ∀ t_, Steps p.tables e below (s₁.setTop (mkF m 0 #[.val (.ref p_), .val .null, .unset] [])) t_ → Steps p.tables e below (s₁.setTop (entryFrame m #[(.ref p_), .null] 3)) t_ := fun t_ k_ => castTop (ef_rmEqN m p_) k_
  have s1 : ∀ t_, Steps p.tables e below (s₁.setTop (mkF m 42 #[.val (.ref p_), .val .null, .unset] [(.int (0 : Int32))])) t_ → Steps p.tables e below (s₁.setTop (entryFrame m #[(.ref p_), .null] 3)) t_ := fun t_ k_ => pre0 t_ (by
    show Steps p.tables e below (s₁.setTop (mkF m 0 #[.val (.ref p_), .val .null, .unset] [])) t_
    refine XS.aloadN X0.here hx rfl (Jvm.hb hby d_prog_42_method_8_0) rfl rfl ?_
    refine X0.instanceofNull hx (g := (mkF m 1 #[.val (.ref p_), .val .null, .unset] [.null])) rfl rfl (Jvm.hb hby d_prog_42_method_8_1) _ ?_
    show Steps p.tables e below (s₁.setTop (mkF m 4 #[.val (.ref p_), .val .null, .unset] [(.int (0 : Int32))])) _
    refine XS.ifYes X0.here hx rfl (pc0 := 4) (pc' := 41) rfl (Jvm.hb hby d_prog_42_method_8_4) rfl ((if0 _ _).trans (teq (rfl : (0 : Int32) = (0 : Int32))).1) (by decide) (by decide) ?_
    show Steps p.tables e below (s₁.setTop (mkF m 41 #[.val (.ref p_), .val .null, .unset] [])) _
    refine XS.iconst X0.here hx rfl (Jvm.hb hby d_prog_42_method_8_41) ?_
    show Steps p.tables e below (s₁.setTop (mkF m 42 #[.val (.ref p_), .val .null, .unset] [(.int (0 : Int32))])) t_
    exact k_)
  obtain ⟨fs, hr, hrun, hended, hW, hsame⟩ := X0.leave (v := some (.int (0 : Int32))) (fun h => by rw [Bd.returns] at h; cases h)
  refine ⟨_, _, s1 _ ?_, hrun, hended, _, _, rfl, ?_, ⟨_, rfl⟩, hW, hsame.mono (by decide) (by decide)⟩
  · show Steps p.tables e below (s₁.setTop (mkF m 42 #[.val (.ref p_), .val .null, .unset] [(.int (0 : Int32))])) _
    exact retN X0 hx (t := .boolean) Bd.returns (by simp) (Jvm.hb hby d_prog_42_method_8_42) hr
  · show Q_rmEqN Z _ h0 n0 _ s₁.heap _
    rw [e0]
    exact ⟨rfl, N0, rfl⟩
theorem ef_rmEqX (m : MethodId) (x0 : Addr) (x1 : Addr) : entryFrame m #[(.ref x0), (.ref x1)] 3 = mkF m 0 #[.val (.ref x0), .val (.ref x1), .unset] [] := by first | (simp [entryFrame, mkF, argsToLocals, Value.category]; done) | rfl
def Q_rmEqX (Z : State) (p_ : Addr) (q_ : Addr) (h0 : Heap) (n0 : Nat) (v : Option Value) (h : Heap) (L : List Loc) : Prop := (v = some (.int (0 : Int32))) ∧ (Fr n0 L) ∧ (h = h0)
set_option maxRecDepth 65536 in
set_option maxHeartbeats 40000000 in
theorem rmEqX (l : Launch) (Z : State) (a0 : Array Value) (hw : ∀ d ∈ tables_1, d.before a0 Z = true) (ws : List Jvm.Cond) (p_ : Addr) (q_ : Addr) (h0 : Heap) (n0 : Nat) (Z0 : n0 ≤ h0.size) (I1 : Exa Z h0 q_ "java/lang/Integer") :
    MetFree l (⟨"com/example/zastupnik/zastupnik/protocol/Jips", "equals", "(Ljava/lang/Object;)Z"⟩ : MethodName) (head1 (Jvm.Cond.code (⟨"com/example/zastupnik/zastupnik/protocol/Jips", "equals", "(Ljava/lang/Object;)Z"⟩ : MethodName) prog_42_method_8_code 3 (some .boolean) :: ws) ({ frames := 0, cells := 0, slots := 0, locals := 0 } : Room)) (fun ar_ U => ar_ = #[(.ref p_), (.ref q_)] ∧ Z.Warmed39 U.vm ∧ U.heap = h0) (fun _ _ _ _ _ => True) (fun _ U o U' => ∃ v L, o = .returned v ∧ Q_rmEqX Z p_ q_ h0 n0 v U'.heap L ∧ FrameEnd U o U' L ({ frames := 0, cells := 0, slots := 0, locals := 0 } : Room).cells ({ frames := 0, cells := 0, slots := 0, locals := 0 } : Room).slots) := by
  refine MetFree.of_bodySF (plainFor_of_name pn_com_example_zastupnik_zastupnik_protocol_Jips) hisR ?_
  intro p e s m args below meth c s₁ Bd hml0 hP hK
  obtain ⟨rfl, hZ, hh⟩ := hP
  have hx := Bd.exec
  have hby := Bd.bytes
  have hml : c.maxLocals = 3 := hml0
  have hown : s.vm.findClass "com/example/zastupnik/zastupnik/protocol/Jips" = some m.cls := findClass_of_methodNamed Bd.named
  have hnm := (name_of_methodNamed Bd.named Bd.method).1
  have X0 : Stand p l e ({ frames := 0, cells := 0, slots := 0, locals := 0 } : Room) s m #[(.ref p_), (.ref q_)] below meth c s₁ [] 0 0 := Stand.of_body Bd
  have e0 : s₁.heap = h0 := by rw [← hh, Bd.state]; rfl
  have N0 := Fr.nil n0
  have pre0 : ∀ t_, Steps p.tables e below (s₁.setTop (mkF m 0 #[.val (.ref p_), .val (.ref q_), .unset] [])) t_ → Steps p.tables e below (s₁.setTop (entryFrame m #[(.ref p_), (.ref q_)] 3)) t_ := fun t_ k_ => castTop (ef_rmEqX m p_ q_) k_
  have lt_I1 : @LT.lt Nat _ q_ h0.size := I1.lt
  obtain ⟨T1, X1, e1, st1⟩ := instNo X0 hx hZ hown (hw _ (List.mem_of_getElem? (i := 108) rfl)) e0 I1 (own_NSno (hw _ (List.mem_of_getElem? (i := 119) rfl)) (hw _ (List.mem_of_getElem? (i := 6) rfl)) (NS.step (hw _ (List.mem_of_getElem? (i := 119) rfl)) (NS.step (hw _ (List.mem_of_getElem? (i := 120) rfl)) (own_NSroot (hw _ (List.mem_of_getElem? (i := 121) rfl)) (hw _ (List.mem_of_getElem? (i := 6) rfl)) (by decide)) (by decide)) (by decide)) (by decide)) (g := (mkF m 1 #[.val (.ref p_), .val (.ref q_), .unset] [(.ref q_)])) rfl rfl (Jvm.hb hby d_prog_42_method_8_1)
  have s2 : ∀ t_, Steps p.tables e below (T1.setTop (mkF m 42 #[.val (.ref p_), .val (.ref q_), .unset] [(.int (0 : Int32))])) t_ → Steps p.tables e below (s₁.setTop (entryFrame m #[(.ref p_), (.ref q_)] 3)) t_ := fun t_ k_ => pre0 t_ (by
    show Steps p.tables e below (s₁.setTop (mkF m 0 #[.val (.ref p_), .val (.ref q_), .unset] [])) t_
    refine XS.aloadN X0.here hx rfl (Jvm.hb hby d_prog_42_method_8_0) rfl rfl ?_
    refine st1 _ ?_
    show Steps p.tables e below (T1.setTop (mkF m 4 #[.val (.ref p_), .val (.ref q_), .unset] [(.int (0 : Int32))])) _
    refine XS.ifYes X1.here hx rfl (pc0 := 4) (pc' := 41) rfl (Jvm.hb hby d_prog_42_method_8_4) rfl ((if0 _ _).trans (teq (rfl : (0 : Int32) = (0 : Int32))).1) (by decide) (by decide) ?_
    show Steps p.tables e below (T1.setTop (mkF m 41 #[.val (.ref p_), .val (.ref q_), .unset] [])) _
    refine XS.iconst X1.here hx rfl (Jvm.hb hby d_prog_42_method_8_41) ?_
    show Steps p.tables e below (T1.setTop (mkF m 42 #[.val (.ref p_), .val (.ref q_), .unset] [(.int (0 : Int32))])) t_
    exact k_)
  obtain ⟨fs, hr, hrun, hended, hW, hsame⟩ := X1.leave (v := some (.int (0 : Int32))) (fun h => by rw [Bd.returns] at h; cases h)
  refine ⟨_, _, s2 _ ?_, hrun, hended, _, _, rfl, ?_, ⟨_, rfl⟩, hW, hsame.mono (by decide) (by decide)⟩
  · show Steps p.tables e below (T1.setTop (mkF m 42 #[.val (.ref p_), .val (.ref q_), .unset] [(.int (0 : Int32))])) _
    exact retN X1 hx (t := .boolean) Bd.returns (by simp) (Jvm.hb hby d_prog_42_method_8_42) hr
  · show Q_rmEqX Z _ _ h0 n0 _ T1.heap _
    rw [e1]
    exact ⟨rfl, N0, rfl⟩
theorem pn_java_lang_Number : plainName "java/lang/Number" = true := by first | (simp [plainName, overriddenIn]; done) | decide +kernel
theorem d_jdk_18_method_1_0 : decode jdk_18_method_1_code 0 = .ok (.aload_n 0, 1) := by decide +kernel
theorem d_jdk_18_method_1_1 : decode jdk_18_method_1_code 1 = .ok (.invokespecial 1, 3) := by decide +kernel
theorem d_jdk_18_method_1_4 : decode jdk_18_method_1_code 4 = .ok (.return_, 1) := by decide +kernel
theorem ef_rmNum (m : MethodId) (x0 : Addr) : entryFrame m #[(.ref x0)] 1 = mkF m 0 #[.val (.ref x0)] [] := by first | (simp [entryFrame, mkF, argsToLocals, Value.category]; done) | rfl
def Q_rmNum (Z : State) (a : Addr) (h0 : Heap) (n0 : Nat) (v : Option Value) (h : Heap) (L : List Loc) : Prop := (v = none) ∧ (Fr n0 L) ∧ (h = h0)
set_option maxRecDepth 65536 in
set_option maxHeartbeats 40000000 in
theorem rmNum (l : Launch) (Z : State) (a0 : Array Value) (hw : ∀ d ∈ tables_1, d.before a0 Z = true) (ws : List Jvm.Cond) (a : Addr) (h0 : Heap) (n0 : Nat) (Z0 : n0 ≤ h0.size) (I1 : Exa Z h0 a "java/lang/Integer") :
    MetFree l (⟨"java/lang/Number", "<init>", "()V"⟩ : MethodName) (head1 (Jvm.Cond.code (⟨"java/lang/Number", "<init>", "()V"⟩ : MethodName) jdk_18_method_1_code 1 none :: ws) ({ frames := 1, cells := 0, slots := 0, locals := 12 } : Room)) (fun ar_ U => ar_ = #[(.ref a)] ∧ Z.Warmed39 U.vm ∧ U.heap = h0) (fun _ _ _ _ _ => True) (fun _ U o U' => ∃ v L, o = .returned v ∧ Q_rmNum Z a h0 n0 v U'.heap L ∧ FrameEnd U o U' L ({ frames := 1, cells := 0, slots := 0, locals := 12 } : Room).cells ({ frames := 1, cells := 0, slots := 0, locals := 12 } : Room).slots) := by
  refine MetFree.of_bodySF (plainFor_of_name pn_java_lang_Number) hisR ?_
  intro p e s m args below meth c s₁ Bd hml0 hP hK
  obtain ⟨rfl, hZ, hh⟩ := hP
  have hx := Bd.exec
  have hby := Bd.bytes
  have hml : c.maxLocals = 1 := hml0
  have hown : s.vm.findClass "java/lang/Number" = some m.cls := findClass_of_methodNamed Bd.named
  have hnm := (name_of_methodNamed Bd.named Bd.method).1
  have X0 : Stand p l e ({ frames := 1, cells := 0, slots := 0, locals := 12 } : Room) s m #[(.ref a)] below meth c s₁ [] 0 0 := Stand.of_body Bd
  have e0 : s₁.heap = h0 := by rw [← hh, Bd.state]; rfl
  have N0 := Fr.nil n0
  have pre0 : ∀ t_, Steps p.tables e below (s₁.setTop (mkF m 0 #[.val (.ref a)] [])) t_ → Steps p.tables e below (s₁.setTop (entryFrame m #[(.ref a)] 1)) t_ := fun t_ k_ => castTop (ef_rmNum m a) k_
  have lt_I1 : @LT.lt Nat _ a h0.size := I1.lt
  obtain ⟨T1, X1, e1, st1⟩ := initO X0 hx hZ hown (hw _ (List.mem_of_getElem? (i := 134) rfl)) (hw _ (List.mem_of_getElem? (i := 23) rfl)) (hw _ (List.mem_of_getElem? (i := 24) rfl)) e0 (g := (mkF m 1 #[.val (.ref a)] [(.ref a)])) rfl (by rw [hml]; rfl) rfl (Jvm.hb hby d_jdk_18_method_1_1) (by decide) (W := 0) (by show 2 * 0 + _ ≤ _; exact Nat.le_of_eq rfl) (by decide)
  have s2 : ∀ t_, Steps p.tables e below (T1.setTop (mkF m 4 #[.val (.ref a)] [])) t_ → Steps p.tables e below (s₁.setTop (entryFrame m #[(.ref a)] 1)) t_ := fun t_ k_ => pre0 t_ (by
    show Steps p.tables e below (s₁.setTop (mkF m 0 #[.val (.ref a)] [])) t_
    refine XS.aloadN X0.here hx rfl (Jvm.hb hby d_jdk_18_method_1_0) rfl rfl ?_
    refine st1 _ ?_
    show Steps p.tables e below (T1.setTop (mkF m 4 #[.val (.ref a)] [])) _
    show Steps p.tables e below (T1.setTop (mkF m 4 #[.val (.ref a)] [])) t_
    exact k_)
  obtain ⟨fs, hr, hrun, hended, hW, hsame⟩ := X1.leave (v := none) (fun _ => rfl)
  refine ⟨_, _, s2 _ ?_, hrun, hended, _, _, rfl, ?_, ⟨_, rfl⟩, hW, hsame.mono (by decide) (by decide)⟩
  · show Steps p.tables e below (T1.setTop (mkF m 4 #[.val (.ref a)] [])) _
    exact X1.returnOut hx Bd.returns (Jvm.hb hby d_jdk_18_method_1_4) hr
  · show Q_rmNum Z _ h0 n0 _ T1.heap _
    rw [e1]
    exact ⟨rfl, N0, rfl⟩
theorem pn_java_lang_Integer : plainName "java/lang/Integer" = true := by first | (simp [plainName, overriddenIn]; done) | decide +kernel
theorem d_jdk_33_method_23_0 : decode jdk_33_method_23_code 0 = .ok (.aload_n 0, 1) := by decide +kernel
theorem pd___V : parseMethodDescriptor "()V" = some ⟨[], none⟩ := by decide +kernel
theorem d_jdk_33_method_23_1 : decode jdk_33_method_23_code 1 = .ok (.invokespecial 202, 3) := by decide +kernel
theorem d_jdk_33_method_23_4 : decode jdk_33_method_23_code 4 = .ok (.aload_n 0, 1) := by decide +kernel
theorem d_jdk_33_method_23_5 : decode jdk_33_method_23_code 5 = .ok (.iload_n 1, 1) := by decide +kernel
theorem d_jdk_33_method_23_6 : decode jdk_33_method_23_code 6 = .ok (.putfield 205, 3) := by decide +kernel
theorem d_jdk_33_method_23_9 : decode jdk_33_method_23_code 9 = .ok (.return_, 1) := by decide +kernel
theorem ef_rmInt (m : MethodId) (x0 : Addr) (x1 : Int32) : entryFrame m #[(.ref x0), (.int x1)] 2 = mkF m 0 #[.val (.ref x0), .val (.int x1)] [] := by first | (simp [entryFrame, mkF, argsToLocals, Value.category]; done) | rfl
def Q_rmInt (Z : State) (a : Addr) (vi : Int32) (h0 : Heap) (n0 : Nat) (v : Option Value) (h : Heap) (L : List Loc) : Prop := (v = none) ∧ (Fr n0 L) ∧ (Keep h0 h [a]) ∧ (Exa Z h a "java/lang/Integer")
set_option maxRecDepth 65536 in
set_option maxHeartbeats 40000000 in
theorem rmInt (l : Launch) (Z : State) (a0 : Array Value) (hw : ∀ d ∈ tables_1, d.before a0 Z = true) (ws : List Jvm.Cond) (a : Addr) (vi : Int32) (h0 : Heap) (n0 : Nat) (Z0 : n0 ≤ h0.size) (I1 : Exa Z h0 a "java/lang/Integer") (I2 : Fld Z h0 a "java/lang/Integer" "value" "I" (.int (0 : Int32))) (ga : n0 ≤ a) :
    MetFree l (⟨"java/lang/Integer", "<init>", "(I)V"⟩ : MethodName) (head1 (Jvm.Cond.code (⟨"java/lang/Integer", "<init>", "(I)V"⟩ : MethodName) jdk_33_method_23_code 2 none :: ws) ({ frames := 2, cells := 0, slots := 0, locals := 24 } : Room)) (fun ar_ U => ar_ = #[(.ref a), (.int vi)] ∧ Z.Warmed39 U.vm ∧ U.heap = h0) (fun _ _ _ _ _ => True) (fun _ U o U' => ∃ v L, o = .returned v ∧ Q_rmInt Z a vi h0 n0 v U'.heap L ∧ FrameEnd U o U' L ({ frames := 2, cells := 0, slots := 0, locals := 24 } : Room).cells ({ frames := 2, cells := 0, slots := 0, locals := 24 } : Room).slots) := by
  refine MetFree.of_bodySF (plainFor_of_name pn_java_lang_Integer) hisR ?_
  intro p e s m args below meth c s₁ Bd hml0 hP hK
  obtain ⟨rfl, hZ, hh⟩ := hP
  have hx := Bd.exec
  have hby := Bd.bytes
  have hml : c.maxLocals = 2 := hml0
  have hown : s.vm.findClass "java/lang/Integer" = some m.cls := findClass_of_methodNamed Bd.named
  have hnm := (name_of_methodNamed Bd.named Bd.method).1
  have X0 : Stand p l e ({ frames := 2, cells := 0, slots := 0, locals := 24 } : Room) s m #[(.ref a), (.int vi)] below meth c s₁ [] 0 0 := Stand.of_body Bd
  have e0 : s₁.heap = h0 := by rw [← hh, Bd.state]; rfl
  have N0 := Fr.nil n0
  have pre0 : ∀ t_, Steps p.tables e below (s₁.setTop (mkF m 0 #[.val (.ref a), .val (.int vi)] [])) t_ → Steps p.tables e below (s₁.setTop (entryFrame m #[(.ref a), (.int vi)] 2)) t_ := fun t_ k_ => castTop (ef_rmInt m a vi) k_
  have lt_I1 : @LT.lt Nat _ a h0.size := I1.lt
  have lt_I2 : @LT.lt Nat _ a h0.size := I2.lt
  have Zc1 : n0 ≤ h0.size := by omega
  obtain ⟨_, _, ⟨T2, L2, k2, n2⟩, -, X2, ⟨Lc2, hQ2, l2, y2, z2⟩, st2⟩ := X0.specialBack hx (y := (⟨"java/lang/Number", "<init>", "()V"⟩ : MethodName)) rfl hown (mvT hZ (hw _ (List.mem_of_getElem? (i := 128) rfl))) (mvT hZ (hw _ (List.mem_of_getElem? (i := 129) rfl))) (mvT hZ (hw _ (List.mem_of_getElem? (i := 133) rfl))) (by decide) (backOf (W := 0) (rmNum l Z a0 hw [] a h0 n0 Zc1 I1) hZ (hw _ (List.mem_of_getElem? (i := 133) rfl)) (hw _ (List.mem_of_getElem? (i := 132) rfl)) (by decide) (by decide)) (g := (mkF m 1 #[.val (.ref a), .val (.int vi)] [(.ref a)])) rfl (by rw [hml]; rfl) (Steps.refl _) (a := a) (argsL := []) (rest := []) (lenOf pd___V rfl) rfl (by show 2 * 0 + _ ≤ _; exact Nat.le_of_eq rfl) (Jvm.hb hby d_jdk_33_method_23_1) (fun _ _ => ⟨rfl, e0, (by decide : 0 + 0 ≤ _), (by decide : 0 + 0 ≤ _)⟩)
  dsimp only [Pt.U, Pt.locs, Pt.cells, Pt.slots] at X2 l2 y2 z2 st2 hQ2
  subst l2 y2 z2
  obtain ⟨rfl, N2q, e2⟩ := hQ2
  have N2 := Fr.app N0 N2q
  obtain ⟨T3, h3, X3, e3, W3, st3⟩ := putF X2 hx hZ hown (host := "") (Or.inl (hw _ (List.mem_of_getElem? (i := 135) rfl))) Via.refl e2 I2 I1 (Or.inr ⟨(hw _ (List.mem_of_getElem? (i := 136) rfl)), rfl, hnm⟩) (hw _ (List.mem_of_getElem? (i := 123) rfl)) (ty := .int) (by decide) rfl rfl (g := (mkF m 6 #[.val (.ref a), .val (.int vi)] [(.int vi), (.ref a)])) rfl rfl (Jvm.hb hby d_jdk_33_method_23_6)
  have z4 : h0.size ≤ h3.size := Nat.le_of_eq W3.size.symm
  have F3 : Fld Z h3 a "java/lang/Integer" "value" "I" (.int vi) := I2.same W3
  have N3 := Fr.snoc X3 N2 (show n0 ≤ a by omega)
  have s5 : ∀ t_, Steps p.tables e below (T3.setTop (mkF m 9 #[.val (.ref a), .val (.int vi)] [])) t_ → Steps p.tables e below (s₁.setTop (entryFrame m #[(.ref a), (.int vi)] 2)) t_ := fun t_ k_ => pre0 t_ (by
    show Steps p.tables e below (s₁.setTop (mkF m 0 #[.val (.ref a), .val (.int vi)] [])) t_
    refine XS.aloadN X0.here hx rfl (Jvm.hb hby d_jdk_33_method_23_0) rfl rfl ?_
    refine st2.trans ?_
    show Steps p.tables e below (T2.setTop (mkF m 4 #[.val (.ref a), .val (.int vi)] [])) _
    refine XS.aloadN X2.here hx rfl (Jvm.hb hby d_jdk_33_method_23_4) rfl rfl ?_
    refine XS.iloadN X2.here hx rfl (Jvm.hb hby d_jdk_33_method_23_5) rfl ?_
    refine st3 _ ?_
    show Steps p.tables e below (T3.setTop (mkF m 9 #[.val (.ref a), .val (.int vi)] [])) _
    show Steps p.tables e below (T3.setTop (mkF m 9 #[.val (.ref a), .val (.int vi)] [])) t_
    exact k_)
  obtain ⟨fs, hr, hrun, hended, hW, hsame⟩ := X3.leave (v := none) (fun _ => rfl)
  have f6 : Exa Z h3 a "java/lang/Integer" := (I1.wr W3)
  refine ⟨_, _, s5 _ ?_, hrun, hended, _, _, rfl, ?_, ⟨_, rfl⟩, hW, hsame.mono (by decide) (by decide)⟩
  · show Steps p.tables e below (T3.setTop (mkF m 9 #[.val (.ref a), .val (.int vi)] [])) _
    exact X3.returnOut hx Bd.returns (Jvm.hb hby d_jdk_33_method_23_9) hr
  · show Q_rmInt Z _ _ h0 n0 _ T3.heap _
    rw [e3]
    exact ⟨rfl, N3, ((Keep.refl h0 [a]).wr W3 (Or.inl (by simp))), f6⟩
theorem d_jdk_33_method_22_0 : decode jdk_33_method_22_code 0 = .ok (.iload_n 0, 1) := by decide +kernel
theorem d_jdk_33_method_22_1 : decode jdk_33_method_22_code 1 = .ok (.bipush (-128), 2) := by decide +kernel
theorem d_jdk_33_method_22_3 : decode jdk_33_method_22_code 3 = .ok (.if_icmp .lt 20, 3) := by decide +kernel
theorem d_jdk_33_method_22_23 : decode jdk_33_method_22_code 23 = .ok (.new 1, 3) := by decide +kernel
theorem d_jdk_33_method_22_26 : decode jdk_33_method_22_code 26 = .ok (.dup, 1) := by decide +kernel
theorem d_jdk_33_method_22_27 : decode jdk_33_method_22_code 27 = .ok (.iload_n 0, 1) := by decide +kernel
theorem pd__I_V : parseMethodDescriptor "(I)V" = some ⟨[.int], none⟩ := by decide +kernel
theorem d_jdk_33_method_22_28 : decode jdk_33_method_22_code 28 = .ok (.invokespecial 199, 3) := by decide +kernel
theorem d_jdk_33_method_22_31 : decode jdk_33_method_22_code 31 = .ok (.areturn, 1) := by decide +kernel
theorem d_jdk_33_method_22_6 : decode jdk_33_method_22_code 6 = .ok (.iload_n 0, 1) := by decide +kernel
theorem d_jdk_33_method_22_7 : decode jdk_33_method_22_code 7 = .ok (.getstatic 191, 3) := by decide +kernel
theorem d_jdk_33_method_22_10 : decode jdk_33_method_22_code 10 = .ok (.if_icmp .gt 13, 3) := by decide +kernel
theorem d_jdk_33_method_22_13 : decode jdk_33_method_22_code 13 = .ok (.getstatic 195, 3) := by decide +kernel
theorem d_jdk_33_method_22_16 : decode jdk_33_method_22_code 16 = .ok (.iload_n 0, 1) := by decide +kernel
theorem d_jdk_33_method_22_17 : decode jdk_33_method_22_code 17 = .ok (.sipush 128, 3) := by decide +kernel
theorem d_jdk_33_method_22_20 : decode jdk_33_method_22_code 20 = .ok (.iadd, 1) := by decide +kernel
theorem d_jdk_33_method_22_21 : decode jdk_33_method_22_code 21 = .ok (.aaload, 1) := by decide +kernel
theorem d_jdk_33_method_22_22 : decode jdk_33_method_22_code 22 = .ok (.areturn, 1) := by decide +kernel
theorem ef_rmVal (m : MethodId) (x0 : Int32) : entryFrame m #[(.int x0)] 1 = mkF m 0 #[.val (.int x0)] [] := by first | (simp [entryFrame, mkF, argsToLocals, Value.category]; done) | rfl
def Q_rmVal (Z : State) (vi : Int32) (ca : Addr) (cc : Cell) (h0 : Heap) (n0 : Nat) (v : Option Value) (h : Heap) (L : List Loc) : Prop := ∃ (r : Addr), (v = some (.ref r)) ∧ (Fr n0 L) ∧ (Keep h0 h []) ∧ (Exa Z h r "java/lang/Integer")
set_option maxRecDepth 65536 in
set_option maxHeartbeats 40000000 in
theorem rmVal (l : Launch) (Z : State) (a0 : Array Value) (hw : ∀ d ∈ tables_1, d.before a0 Z = true) (ws : List Jvm.Cond) (vi : Int32) (ca : Addr) (cc : Cell) (h0 : Heap) (n0 : Nat) (Z0 : n0 ≤ h0.size) (I1 : Sta Z Z.heap "java/lang/Integer$IntegerCache" "high" "I" (.int (127 : Int32))) (I2 : Sta Z Z.heap "java/lang/Integer$IntegerCache" "cache" "[Ljava/lang/Integer;" (.ref ca)) (Bx : Bxs Z ca cc "java/lang/Integer" "I" 256 (fun j => .int (j - 128))) (OX : Old Z n0 h0) :
    MetFree l (⟨"java/lang/Integer", "valueOf", "(I)Ljava/lang/Integer;"⟩ : MethodName) (head1 (Jvm.Cond.code (⟨"java/lang/Integer", "valueOf", "(I)Ljava/lang/Integer;"⟩ : MethodName) jdk_33_method_22_code 1 (some (.object "java/lang/Integer")) :: ws) ({ frames := 3, cells := 1, slots := 1, locals := 38 } : Room)) (fun ar_ U => ar_ = #[(.int vi)] ∧ Z.Warmed39 U.vm ∧ U.heap = h0) (fun _ _ _ _ _ => True) (fun _ U o U' => ∃ v L, o = .returned v ∧ Q_rmVal Z vi ca cc h0 n0 v U'.heap L ∧ FrameEnd U o U' L ({ frames := 3, cells := 1, slots := 1, locals := 38 } : Room).cells ({ frames := 3, cells := 1, slots := 1, locals := 38 } : Room).slots) := by
  refine MetFree.of_bodySF (plainFor_of_name pn_java_lang_Integer) hisR ?_
  intro p e s m args below meth c s₁ Bd hml0 hP hK
  obtain ⟨rfl, hZ, hh⟩ := hP
  have hx := Bd.exec
  have hby := Bd.bytes
  have hml : c.maxLocals = 1 := hml0
  have hown : s.vm.findClass "java/lang/Integer" = some m.cls := findClass_of_methodNamed Bd.named
  have hnm := (name_of_methodNamed Bd.named Bd.method).1
  have X0 : Stand p l e ({ frames := 3, cells := 1, slots := 1, locals := 38 } : Room) s m #[(.int vi)] below meth c s₁ [] 0 0 := Stand.of_body Bd
  have e0 : s₁.heap = h0 := by rw [← hh, Bd.state]; rfl
  have N0 := Fr.nil n0
  have pre0 : ∀ t_, Steps p.tables e below (s₁.setTop (mkF m 0 #[.val (.int vi)] [])) t_ → Steps p.tables e below (s₁.setTop (entryFrame m #[(.int vi)] 1)) t_ := fun t_ k_ => castTop (ef_rmVal m vi) k_
  have s1 : ∀ t_, Steps p.tables e below (s₁.setTop (mkF m 3 #[.val (.int vi)] [(.int (-128 : Int32)), (.int vi)])) t_ → Steps p.tables e below (s₁.setTop (entryFrame m #[(.int vi)] 1)) t_ := fun t_ k_ => pre0 t_ (by
    show Steps p.tables e below (s₁.setTop (mkF m 0 #[.val (.int vi)] [])) t_
    refine XS.iloadN X0.here hx rfl (Jvm.hb hby d_jdk_33_method_22_0) rfl ?_
    refine XS.bipush X0.here hx rfl (Jvm.hb hby d_jdk_33_method_22_1) ?_
    show Steps p.tables e below (s₁.setTop (mkF m 3 #[.val (.int vi)] [(.int (-128 : Int32)), (.int vi)])) t_
    exact k_)
  by_cases h2 : vi < (-128 : Int32)
  · obtain ⟨T3, h3, X3, e3, E3, A3, D3, -, st3⟩ := newO X0 hx hZ hown (hw _ (List.mem_of_getElem? (i := 122) rfl)) (hw _ (List.mem_of_getElem? (i := 123) rfl)) (hw _ (List.mem_of_getElem? (i := 98) rfl)) e0 (g := (mkF m 23 #[.val (.int vi)] [])) rfl (Jvm.hb hby d_jdk_33_method_22_23) (by decide) (by decide)
    obtain ⟨b3, g3⟩ : ∃ z, z = h0.size := ⟨_, rfl⟩
    rw [← g3] at A3 D3 st3
    have z4 : h0.size ≤ h3.size := E3.1
    have l3 : b3 < h3.size := A3.lt
    have F5 : Fld Z h3 b3 "java/lang/Integer" "value" "I" (.int (0 : Int32)) := D3 (Or.inr (hw _ (List.mem_of_getElem? (i := 136) rfl))) (ty := .int) (by decide)
    have Zc6 : n0 ≤ h3.size := by omega
    obtain ⟨_, _, ⟨T7, L7, k7, n7⟩, -, X7, ⟨Lc7, hQ7, l7, y7, z7⟩, st7⟩ := X3.specialBack hx (y := (⟨"java/lang/Integer", "<init>", "(I)V"⟩ : MethodName)) rfl hown (mvT hZ (hw _ (List.mem_of_getElem? (i := 124) rfl))) (mvT hZ (hw _ (List.mem_of_getElem? (i := 125) rfl))) (mvT hZ (hw _ (List.mem_of_getElem? (i := 127) rfl))) (by decide) (backOf (W := 1) (rmInt l Z a0 hw [] b3 vi h3 n0 Zc6 A3 F5 (by first | assumption | rfl | decide | omega : n0 ≤ b3)) hZ (hw _ (List.mem_of_getElem? (i := 127) rfl)) (hw _ (List.mem_of_getElem? (i := 98) rfl)) (by decide) (by decide)) (g := (mkF m 28 #[.val (.int vi)] [(.int vi), (.ref b3), (.ref b3)])) rfl (by rw [hml]; rfl) (Steps.refl _) (a := b3) (argsL := [(.int vi)]) (rest := [(.ref b3)]) (lenOf pd__I_V rfl) rfl (by show 2 * 0 + _ ≤ _; exact Nat.le_of_eq rfl) (Jvm.hb hby d_jdk_33_method_22_28) (fun _ _ => ⟨rfl, e3, (by decide : 1 + 0 ≤ _), (by decide : 1 + 0 ≤ _)⟩)
    dsimp only [Pt.U, Pt.locs, Pt.cells, Pt.slots] at X7 l7 y7 z7 st7 hQ7
    subst l7 y7 z7
    obtain ⟨rfl, N7q, K7, Fq7_0⟩ := hQ7
    have N7 := Fr.app N0 N7q
    obtain ⟨h7, e7⟩ : ∃ z, T7.heap = z := ⟨_, rfl⟩
    rw [e7] at K7 Fq7_0
    have z8 : h3.size ≤ h7.size := K7.1
    have lt7_0 : @LT.lt Nat _ b3 h7.size := Fq7_0.lt
    have s9 : ∀ t_, Steps p.tables e below (T7.setTop (mkF m 31 #[.val (.int vi)] [(.ref b3)])) t_ → Steps p.tables e below (s₁.setTop (entryFrame m #[(.int vi)] 1)) t_ := fun t_ k_ => s1 t_ (by
      show Steps p.tables e below (s₁.setTop (mkF m 3 #[.val (.int vi)] [(.int (-128 : Int32)), (.int vi)])) t_
      refine XS.icmpYes X0.here hx rfl (pc0 := 3) (pc' := 23) rfl (Jvm.hb hby d_jdk_33_method_22_3) rfl (tlt h2).1 (by decide) (by decide) ?_
      show Steps p.tables e below (s₁.setTop (mkF m 23 #[.val (.int vi)] [])) _
      refine st3 _ ?_
      show Steps p.tables e below (T3.setTop (mkF m 26 #[.val (.int vi)] [(.ref b3)])) _
      refine XS.dup X3.here hx rfl (Jvm.hb hby d_jdk_33_method_22_26) rfl rfl ?_
      refine XS.iloadN X3.here hx rfl (Jvm.hb hby d_jdk_33_method_22_27) rfl ?_
      refine st7.trans ?_
      show Steps p.tables e below (T7.setTop (mkF m 31 #[.val (.int vi)] [(.ref b3)])) _
      show Steps p.tables e below (T7.setTop (mkF m 31 #[.val (.int vi)] [(.ref b3)])) t_
      exact k_)
    obtain ⟨fs, hr, hrun, hended, hW, hsame⟩ := X7.leave (v := some (.ref b3)) (fun h => by rw [Bd.returns] at h; cases h)
    refine ⟨_, _, s9 _ ?_, hrun, hended, _, _, rfl, ?_, ⟨_, rfl⟩, hW, hsame.mono (by decide) (by decide)⟩
    · show Steps p.tables e below (T7.setTop (mkF m 31 #[.val (.int vi)] [(.ref b3)])) _
      jvm_step X7.here [X7.here.top, hx, (Jvm.hb hby d_jdk_33_method_22_31), X7.method', Bd.returns, Value.isRef, FieldType.isReference]
      first | (intro acts; rw [hr _ acts rfl rfl rfl]) | rw [hr _ _ rfl rfl rfl]
      exact Steps.refl _
    · show Q_rmVal Z _ _ _ h0 n0 _ T7.heap _
      rw [e7]
      exact ⟨b3, rfl, N7, (((Keep.refl h0 []).ext E3).trans K7 (allS (Or.inr (show h0.size ≤ b3 by omega)) all0)), Fq7_0⟩
  · obtain ⟨T10, X10, e10, st10⟩ := getS2 X0 hx hZ hown (host := "") (Or.inl (hw _ (List.mem_of_getElem? (i := 100) rfl))) Via.refl e0 (I1.ext OX.2) (g := (mkF m 7 #[.val (.int vi)] [(.int vi)])) rfl (Jvm.hb hby d_jdk_33_method_22_7)
    have s11 : ∀ t_, Steps p.tables e below (T10.setTop (mkF m 10 #[.val (.int vi)] [(.int (127 : Int32)), (.int vi)])) t_ → Steps p.tables e below (s₁.setTop (entryFrame m #[(.int vi)] 1)) t_ := fun t_ k_ => s1 t_ (by
      show Steps p.tables e below (s₁.setTop (mkF m 3 #[.val (.int vi)] [(.int (-128 : Int32)), (.int vi)])) t_
      refine XS.icmpNo X0.here hx rfl (Jvm.hb hby d_jdk_33_method_22_3) rfl (flt h2).1 ?_
      show Steps p.tables e below (s₁.setTop (mkF m 6 #[.val (.int vi)] [])) _
      refine XS.iloadN X0.here hx rfl (Jvm.hb hby d_jdk_33_method_22_6) rfl ?_
      refine st10 _ ?_
      show Steps p.tables e below (T10.setTop (mkF m 10 #[.val (.int vi)] [(.int (127 : Int32)), (.int vi)])) _
      show Steps p.tables e below (T10.setTop (mkF m 10 #[.val (.int vi)] [(.int (127 : Int32)), (.int vi)])) t_
      exact k_)
    by_cases h12 : (127 : Int32) < vi
    · obtain ⟨T13, h13, X13, e13, E13, A13, D13, -, st13⟩ := newO X10 hx hZ hown (hw _ (List.mem_of_getElem? (i := 122) rfl)) (hw _ (List.mem_of_getElem? (i := 123) rfl)) (hw _ (List.mem_of_getElem? (i := 98) rfl)) e10 (g := (mkF m 23 #[.val (.int vi)] [])) rfl (Jvm.hb hby d_jdk_33_method_22_23) (by decide) (by decide)
      obtain ⟨b13, g13⟩ : ∃ z, z = h0.size := ⟨_, rfl⟩
      rw [← g13] at A13 D13 st13
      have z14 : h0.size ≤ h13.size := E13.1
      have l13 : b13 < h13.size := A13.lt
      have F15 : Fld Z h13 b13 "java/lang/Integer" "value" "I" (.int (0 : Int32)) := D13 (Or.inr (hw _ (List.mem_of_getElem? (i := 136) rfl))) (ty := .int) (by decide)
      have Zc16 : n0 ≤ h13.size := by omega
      obtain ⟨_, _, ⟨T17, L17, k17, n17⟩, -, X17, ⟨Lc17, hQ17, l17, y17, z17⟩, st17⟩ := X13.specialBack hx (y := (⟨"java/lang/Integer", "<init>", "(I)V"⟩ : MethodName)) rfl hown (mvT hZ (hw _ (List.mem_of_getElem? (i := 124) rfl))) (mvT hZ (hw _ (List.mem_of_getElem? (i := 125) rfl))) (mvT hZ (hw _ (List.mem_of_getElem? (i := 127) rfl))) (by decide) (backOf (W := 1) (rmInt l Z a0 hw [] b13 vi h13 n0 Zc16 A13 F15 (by first | assumption | rfl | decide | omega : n0 ≤ b13)) hZ (hw _ (List.mem_of_getElem? (i := 127) rfl)) (hw _ (List.mem_of_getElem? (i := 98) rfl)) (by decide) (by decide)) (g := (mkF m 28 #[.val (.int vi)] [(.int vi), (.ref b13), (.ref b13)])) rfl (by rw [hml]; rfl) (Steps.refl _) (a := b13) (argsL := [(.int vi)]) (rest := [(.ref b13)]) (lenOf pd__I_V rfl) rfl (by show 2 * 0 + _ ≤ _; exact Nat.le_of_eq rfl) (Jvm.hb hby d_jdk_33_method_22_28) (fun _ _ => ⟨rfl, e13, (by decide : 1 + 0 ≤ _), (by decide : 1 + 0 ≤ _)⟩)
      dsimp only [Pt.U, Pt.locs, Pt.cells, Pt.slots] at X17 l17 y17 z17 st17 hQ17
      subst l17 y17 z17
      obtain ⟨rfl, N17q, K17, Fq17_0⟩ := hQ17
      have N17 := Fr.app N0 N17q
      obtain ⟨h17, e17⟩ : ∃ z, T17.heap = z := ⟨_, rfl⟩
      rw [e17] at K17 Fq17_0
      have z18 : h13.size ≤ h17.size := K17.1
      have lt17_0 : @LT.lt Nat _ b13 h17.size := Fq17_0.lt
      have s19 : ∀ t_, Steps p.tables e below (T17.setTop (mkF m 31 #[.val (.int vi)] [(.ref b13)])) t_ → Steps p.tables e below (s₁.setTop (entryFrame m #[(.int vi)] 1)) t_ := fun t_ k_ => s11 t_ (by
        show Steps p.tables e below (T10.setTop (mkF m 10 #[.val (.int vi)] [(.int (127 : Int32)), (.int vi)])) t_
        refine XS.icmpYes X10.here hx rfl (pc0 := 10) (pc' := 23) rfl (Jvm.hb hby d_jdk_33_method_22_10) rfl (tlt h12).2.2.1 (by decide) (by decide) ?_
        show Steps p.tables e below (T10.setTop (mkF m 23 #[.val (.int vi)] [])) _
        refine st13 _ ?_
        show Steps p.tables e below (T13.setTop (mkF m 26 #[.val (.int vi)] [(.ref b13)])) _
        refine XS.dup X13.here hx rfl (Jvm.hb hby d_jdk_33_method_22_26) rfl rfl ?_
        refine XS.iloadN X13.here hx rfl (Jvm.hb hby d_jdk_33_method_22_27) rfl ?_
        refine st17.trans ?_
        show Steps p.tables e below (T17.setTop (mkF m 31 #[.val (.int vi)] [(.ref b13)])) _
        show Steps p.tables e below (T17.setTop (mkF m 31 #[.val (.int vi)] [(.ref b13)])) t_
        exact k_)
      obtain ⟨fs, hr, hrun, hended, hW, hsame⟩ := X17.leave (v := some (.ref b13)) (fun h => by rw [Bd.returns] at h; cases h)
      refine ⟨_, _, s19 _ ?_, hrun, hended, _, _, rfl, ?_, ⟨_, rfl⟩, hW, hsame.mono (by decide) (by decide)⟩
      · show Steps p.tables e below (T17.setTop (mkF m 31 #[.val (.int vi)] [(.ref b13)])) _
        jvm_step X17.here [X17.here.top, hx, (Jvm.hb hby d_jdk_33_method_22_31), X17.method', Bd.returns, Value.isRef, FieldType.isReference]
        first | (intro acts; rw [hr _ acts rfl rfl rfl]) | rw [hr _ _ rfl rfl rfl]
        exact Steps.refl _
      · show Q_rmVal Z _ _ _ h0 n0 _ T17.heap _
        rw [e17]
        exact ⟨b13, rfl, N17, (((Keep.refl h0 []).ext E13).trans K17 (allS (Or.inr (show h0.size ≤ b13 by omega)) all0)), Fq17_0⟩
    · obtain ⟨T20, X20, e20, st20⟩ := getS2 X10 hx hZ hown (host := "") (Or.inl (hw _ (List.mem_of_getElem? (i := 102) rfl))) Via.refl e10 (I2.ext OX.2) (g := (mkF m 13 #[.val (.int vi)] [])) rfl (Jvm.hb hby d_jdk_33_method_22_13)
      obtain ⟨Arb, Szb, Nzb⟩ := Bxs.ext Bx OX.2
      have hinb : ¬ ((vi + (128 : Int32)) < 0 ∨ cc.slots.size ≤ ((vi + (128 : Int32))).toNatClampNeg) := inb_of Szb (own_box h2 h12)
      obtain ⟨bx, hbx, Ebx, -⟩ := Bx.2.2.2 _ hinb
      have Ebx2 : Exa Z h0 bx "java/lang/Integer" := Ebx.ext OX.2
      have s22 : ∀ t_, Steps p.tables e below (T20.setTop (mkF m 22 #[.val (.int vi)] [(.ref bx)])) t_ → Steps p.tables e below (s₁.setTop (entryFrame m #[(.int vi)] 1)) t_ := fun t_ k_ => s11 t_ (by
        show Steps p.tables e below (T10.setTop (mkF m 10 #[.val (.int vi)] [(.int (127 : Int32)), (.int vi)])) t_
        refine XS.icmpNo X10.here hx rfl (Jvm.hb hby d_jdk_33_method_22_10) rfl (flt h12).2.2.1 ?_
        show Steps p.tables e below (T10.setTop (mkF m 13 #[.val (.int vi)] [])) _
        refine st20 _ ?_
        show Steps p.tables e below (T20.setTop (mkF m 16 #[.val (.int vi)] [(.ref ca)])) _
        refine XS.iloadN X20.here hx rfl (Jvm.hb hby d_jdk_33_method_22_16) rfl ?_
        refine XS.sipush X20.here hx rfl (Jvm.hb hby d_jdk_33_method_22_17) ?_
        refine XS.iadd X20.here hx rfl (Jvm.hb hby d_jdk_33_method_22_20) rfl ?_
        refine X20.aaload hx (j := (vi + (128 : Int32))) (v := .ref bx) (by rw [e20]; exact Arb.1) (State.isArrayOf_alike hZ.alike Arb.2.1) rfl Arb.2.2 hinb hbx (g := (mkF m 21 #[.val (.int vi)] [(.int (vi + (128 : Int32))), (.ref ca)])) rfl rfl (Jvm.hb hby d_jdk_33_method_22_21) _ ?_
        show Steps p.tables e below (T20.setTop (mkF m 22 #[.val (.int vi)] [(.ref bx)])) _
        show Steps p.tables e below (T20.setTop (mkF m 22 #[.val (.int vi)] [(.ref bx)])) t_
        exact k_)
      obtain ⟨fs, hr, hrun, hended, hW, hsame⟩ := X20.leave (v := some (.ref bx)) (fun h => by rw [Bd.returns] at h; cases h)
      refine ⟨_, _, s22 _ ?_, hrun, hended, _, _, rfl, ?_, ⟨_, rfl⟩, hW, hsame.mono (by decide) (by decide)⟩
      · show Steps p.tables e below (T20.setTop (mkF m 22 #[.val (.int vi)] [(.ref bx)])) _
        jvm_step X20.here [X20.here.top, hx, (Jvm.hb hby d_jdk_33_method_22_22), X20.method', Bd.returns, Value.isRef, FieldType.isReference]
        first | (intro acts; rw [hr _ acts rfl rfl rfl]) | rw [hr _ _ rfl rfl rfl]
        exact Steps.refl _
      · show Q_rmVal Z _ _ _ h0 n0 _ T20.heap _
        rw [e20]
        exact ⟨bx, rfl, N0, (Keep.refl h0 []), Ebx2⟩
theorem pd__ICC_Ljava_lang_String_ : parseMethodDescriptor "(ICC)Ljava/lang/String;" = some ⟨[.int, .char, .char], some (.object "java/lang/String")⟩ := by decide +kernel
theorem pd__ILjava_lang_String__V : parseMethodDescriptor "(ILjava/lang/String;)V" = some ⟨[.int, (.object "java/lang/String")], none⟩ := by decide +kernel
theorem pd__I_Ljava_lang_Integer_ : parseMethodDescriptor "(I)Ljava/lang/Integer;" = some ⟨[.int], some (.object "java/lang/Integer")⟩ := by decide +kernel
theorem ef_rmLaw (m : MethodId) (x0 : Int32) (x1 : Int32) (x2 : Int32) (x3 : Int32) (x4 : Int32) : entryFrame m #[(.int x0), (.int x1), (.int x2), (.int x3), (.int x4)] maxLocals = mkF m 0 #[.val (.int x0), .val (.int x1), .val (.int x2), .val (.int x3), .val (.int x4), .unset, .unset, .unset, .unset, .unset, .unset, .unset, .unset, .unset, .unset, .unset, .unset] [] := by first | (simp [entryFrame, mkF, argsToLocals, Value.category, maxLocals]; done) | rfl
def Q_rmLaw (Z : State) (rr : Int32) (dd : Int32) (sa : Int32) (sb : Int32) (mode : Int32) (cst : Int32) (fmt : Value) (ca : Addr) (cc : Cell) (h0 : Heap) (n0 : Nat) (v : Option Value) (h : Heap) (L : List Loc) : Prop := v = some (.int 1) ∧ Fr n0 L
set_option maxRecDepth 65536 in
set_option maxHeartbeats 40000000 in
theorem rmLaw (l : Launch) (Z : State) (a0 : Array Value) (hw : ∀ d ∈ tables_1, d.before a0 Z = true) (ws : List Jvm.Cond) (rr : Int32) (dd : Int32) (sa : Int32) (sb : Int32) (mode : Int32) (cst : Int32) (fmt : Value) (ca : Addr) (cc : Cell) (h0 : Heap) (n0 : Nat) (Z0 : n0 ≤ h0.size) (I1 : Sta Z Z.heap "java/lang/String" "COMPACT_STRINGS" "Z" (.int cst)) (hfmt : fmt.isRef = true) (I2 : Sta Z Z.heap "jdk/internal/util/Preconditions" "SIOOBE_FORMATTER" "Ljava/util/function/BiFunction;" fmt) (OX : Old Z n0 h0) (hcst : ¬ (cst = (0 : Int32))) (I3 : Sta Z Z.heap "java/lang/Integer$IntegerCache" "high" "I" (.int (127 : Int32))) (I4 : Sta Z Z.heap "java/lang/Integer$IntegerCache" "cache" "[Ljava/lang/Integer;" (.ref ca)) (Bx : Bxs Z ca cc "java/lang/Integer" "I" 256 (fun j => .int (j - 128))) :
    MetFree l x (head1 (Jvm.Cond.code x code maxLocals ret :: ws) room_1) (fun ar_ U => ar_ = #[(.int rr), (.int dd), (.int sa), (.int sb), (.int mode)] ∧ Z.Warmed39 U.vm ∧ U.heap = h0 ∧ CHv Z ELs U.vm h0) (fun _ _ _ _ _ => True) (fun _ U o U' => ∃ v L, o = .returned v ∧ Q_rmLaw Z rr dd sa sb mode cst fmt ca cc h0 n0 v U'.heap L ∧ CHr Z ELs U.vm U.heap U'.vm U'.heap ∧ ReturnedEndW U o U' L room_1.cells room_1.slots) := by
  refine MetFree.of_bodySF (plainFor_of_name pn_com_example_zastupnik_zastupnik_protocol_JipsEqualsPinLaw) hisR ?_
  intro p e s m args below meth c s₁ Bd hml0 hP hK
  obtain ⟨rfl, hZ, hh, hCH⟩ := hP
  have hx := Bd.exec
  have hby := Bd.bytes
  have hml : c.maxLocals = 17 := hml0
  have hown : s.vm.findClass "com/example/zastupnik/zastupnik/protocol/JipsEqualsPinLaw" = some m.cls := findClass_of_methodNamed Bd.named
  have hnm := (name_of_methodNamed Bd.named Bd.method).1
  have X0 : Stand p l e room_1 (s.setVm s.vm) m #[(.int rr), (.int dd), (.int sa), (.int sb), (.int mode)] below meth c s₁ [] 0 0 := Stand.of_body Bd
  have e0 : s₁.heap = h0 := by rw [← hh, Bd.state]; rfl
  have N0 := Fr.nil n0
  have pre0 : ∀ t_, Steps p.tables e below (s₁.setTop (mkF m 0 #[.val (.int rr), .val (.int dd), .val (.int sa), .val (.int sb), .val (.int mode), .unset, .unset, .unset, .unset, .unset, .unset, .unset, .unset, .unset, .unset, .unset, .unset] [])) t_ → Steps p.tables e below (s₁.setTop (entryFrame m #[(.int rr), (.int dd), (.int sa), (.int sb), (.int mode)] maxLocals)) t_ := fun t_ k_ => castTop (ef_rmLaw m rr dd sa sb mode) k_
  have hEL : EW Z a0 ELs := own_EW hw
  have wS : ∀ a ∈ Bundle.stringAtoms, a.before a0 Z = true := own_wS hw
  have hS : s.Since s.vm s.heap.size := (State.WarmedH.refl s).since _
  have hk : s.heap.size ≤ h0.size := by rw [hh]; exact Nat.le_refl _
  have CR : CHr Z ELs s.vm h0 s.vm h0 := CHr.refl hCH
  obtain ⟨q1, hq1⟩ : ∃ z : Int32, z = (rr &&& (2147483647 : Int32)) := ⟨_, rfl⟩
  obtain ⟨q2, hq2⟩ : ∃ z : Int32, z = (mode &&& (1 : Int32)) := ⟨_, rfl⟩
  have s3 : ∀ t_, Steps p.tables e below (s₁.setTop (mkF m 10 #[.val (.int rr), .val (.int dd), .val (.int sa), .val (.int sb), .val (.int mode), .val (.int q1), .unset, .unset, .unset, .unset, .unset, .unset, .unset, .unset, .unset, .unset, .unset] [(.int q2)])) t_ → Steps p.tables e below (s₁.setTop (entryFrame m #[(.int rr), (.int dd), (.int sa), (.int sb), (.int mode)] maxLocals)) t_ := fun t_ k_ => pre0 t_ (by
    show Steps p.tables e below (s₁.setTop (mkF m 0 #[.val (.int rr), .val (.int dd), .val (.int sa), .val (.int sb), .val (.int mode), .unset, .unset, .unset, .unset, .unset, .unset, .unset, .unset, .unset, .unset, .unset, .unset] [])) t_
    refine XS.iloadN X0.here hx rfl (Jvm.hb hby at_0) rfl ?_
    refine X0.ldcInt hx hown (mvT hZ (hw _ (List.mem_of_getElem? (i := 0) rfl))) (g := (mkF m 1 #[.val (.int rr), .val (.int dd), .val (.int sa), .val (.int sb), .val (.int mode), .unset, .unset, .unset, .unset, .unset, .unset, .unset, .unset, .unset, .unset, .unset, .unset] [(.int rr)])) rfl (Jvm.hb hby at_1) _ ?_
    show Steps p.tables e below (s₁.setTop (mkF m 3 #[.val (.int rr), .val (.int dd), .val (.int sa), .val (.int sb), .val (.int mode), .unset, .unset, .unset, .unset, .unset, .unset, .unset, .unset, .unset, .unset, .unset, .unset] [(.int (2147483647 : Int32)), (.int rr)])) _
    refine XS.iand X0.here hx rfl (Jvm.hb hby at_3) rfl ?_
    refine XS.istore X0.here hx rfl (Jvm.hb hby at_4) rfl (l' := #[.val (.int rr), .val (.int dd), .val (.int sa), .val (.int sb), .val (.int mode), .val (.int (rr &&& (2147483647 : Int32))), .unset, .unset, .unset, .unset, .unset, .unset, .unset, .unset, .unset, .unset, .unset]) rfl ?_
    refine XS.iload X0.here hx rfl (Jvm.hb hby at_6) rfl ?_
    refine XS.iconst X0.here hx rfl (Jvm.hb hby at_8) ?_
    refine XS.iand X0.here hx rfl (Jvm.hb hby at_9) rfl ?_
    show Steps p.tables e below (s₁.setTop (mkF m 10 #[.val (.int rr), .val (.int dd), .val (.int sa), .val (.int sb), .val (.int mode), .val (.int (rr &&& (2147483647 : Int32))), .unset, .unset, .unset, .unset, .unset, .unset, .unset, .unset, .unset, .unset, .unset] [(.int (mode &&& (1 : Int32)))])) t_
    exact castTop (by simp only [hq1, hq2]) k_)
  obtain ⟨q4, hq4⟩ : ∃ z : Int32, z = (if q2 = (0 : Int32) then q1 else (dd &&& (2147483647 : Int32))) := ⟨_, rfl⟩
  obtain ⟨T5, X5, e5, s5⟩ := seg X0 (fun T' => T'.heap = h0 ∧ ∀ t_, Steps p.tables e below (T'.setTop (mkF m 22 #[.val (.int rr), .val (.int dd), .val (.int sa), .val (.int sb), .val (.int mode), .val (.int q1), .unset, .unset, .unset, .unset, .unset, .unset, .unset, .unset, .unset, .unset, .unset] [(.int q4)])) t_ → Steps p.tables e below (s₁.setTop (entryFrame m #[(.int rr), (.int dd), (.int sa), (.int sb), (.int mode)] maxLocals)) t_) (by
    by_cases h6 : q2 = (0 : Int32)
    · have s7 : ∀ t_, Steps p.tables e below (s₁.setTop (mkF m 22 #[.val (.int rr), .val (.int dd), .val (.int sa), .val (.int sb), .val (.int mode), .val (.int q1), .unset, .unset, .unset, .unset, .unset, .unset, .unset, .unset, .unset, .unset, .unset] [(.int q1)])) t_ → Steps p.tables e below (s₁.setTop (entryFrame m #[(.int rr), (.int dd), (.int sa), (.int sb), (.int mode)] maxLocals)) t_ := fun t_ k_ => s3 t_ (by
        show Steps p.tables e below (s₁.setTop (mkF m 10 #[.val (.int rr), .val (.int dd), .val (.int sa), .val (.int sb), .val (.int mode), .val (.int q1), .unset, .unset, .unset, .unset, .unset, .unset, .unset, .unset, .unset, .unset, .unset] [(.int q2)])) t_
        refine XS.ifNo X0.here hx rfl (Jvm.hb hby at_10) rfl ((if0 _ _).trans (teq h6).2) ?_
        show Steps p.tables e below (s₁.setTop (mkF m 13 #[.val (.int rr), .val (.int dd), .val (.int sa), .val (.int sb), .val (.int mode), .val (.int q1), .unset, .unset, .unset, .unset, .unset, .unset, .unset, .unset, .unset, .unset, .unset] [])) _
        refine XS.iload X0.here hx rfl (Jvm.hb hby at_13) rfl ?_
        refine XS.goto X0.here hx rfl (pc0 := 15) (pc' := 22) rfl (Jvm.hb hby at_15) (by decide) (by decide) ?_
        show Steps p.tables e below (s₁.setTop (mkF m 22 #[.val (.int rr), .val (.int dd), .val (.int sa), .val (.int sb), .val (.int mode), .val (.int q1), .unset, .unset, .unset, .unset, .unset, .unset, .unset, .unset, .unset, .unset, .unset] [(.int q1)])) t_
        exact k_)
      exact ⟨s₁, X0, e0, fun t_ k_ => s7 t_ (castTop (by simp only [hq4, if_pos h6]) k_)⟩
    · have s8 : ∀ t_, Steps p.tables e below (s₁.setTop (mkF m 22 #[.val (.int rr), .val (.int dd), .val (.int sa), .val (.int sb), .val (.int mode), .val (.int q1), .unset, .unset, .unset, .unset, .unset, .unset, .unset, .unset, .unset, .unset, .unset] [(.int (dd &&& (2147483647 : Int32)))])) t_ → Steps p.tables e below (s₁.setTop (entryFrame m #[(.int rr), (.int dd), (.int sa), (.int sb), (.int mode)] maxLocals)) t_ := fun t_ k_ => s3 t_ (by
        show Steps p.tables e below (s₁.setTop (mkF m 10 #[.val (.int rr), .val (.int dd), .val (.int sa), .val (.int sb), .val (.int mode), .val (.int q1), .unset, .unset, .unset, .unset, .unset, .unset, .unset, .unset, .unset, .unset, .unset] [(.int q2)])) t_
        refine XS.ifYes X0.here hx rfl (pc0 := 10) (pc' := 18) rfl (Jvm.hb hby at_10) rfl ((if0 _ _).trans (feq h6).2) (by decide) (by decide) ?_
        show Steps p.tables e below (s₁.setTop (mkF m 18 #[.val (.int rr), .val (.int dd), .val (.int sa), .val (.int sb), .val (.int mode), .val (.int q1), .unset, .unset, .unset, .unset, .unset, .unset, .unset, .unset, .unset, .unset, .unset] [])) _
        refine XS.iloadN X0.here hx rfl (Jvm.hb hby at_18) rfl ?_
        refine X0.ldcInt hx hown (mvT hZ (hw _ (List.mem_of_getElem? (i := 0) rfl))) (g := (mkF m 19 #[.val (.int rr), .val (.int dd), .val (.int sa), .val (.int sb), .val (.int mode), .val (.int q1), .unset, .unset, .unset, .unset, .unset, .unset, .unset, .unset, .unset, .unset, .unset] [(.int dd)])) rfl (Jvm.hb hby at_19) _ ?_
        show Steps p.tables e below (s₁.setTop (mkF m 21 #[.val (.int rr), .val (.int dd), .val (.int sa), .val (.int sb), .val (.int mode), .val (.int q1), .unset, .unset, .unset, .unset, .unset, .unset, .unset, .unset, .unset, .unset, .unset] [(.int (2147483647 : Int32)), (.int dd)])) _
        refine XS.iand X0.here hx rfl (Jvm.hb hby at_21) rfl ?_
        show Steps p.tables e below (s₁.setTop (mkF m 22 #[.val (.int rr), .val (.int dd), .val (.int sa), .val (.int sb), .val (.int mode), .val (.int q1), .unset, .unset, .unset, .unset, .unset, .unset, .unset, .unset, .unset, .unset, .unset] [(.int (dd &&& (2147483647 : Int32)))])) t_
        exact k_)
      exact ⟨s₁, X0, e0, fun t_ k_ => s8 t_ (castTop (by simp only [hq4, if_neg h6]) k_)⟩)
  have s9 : ∀ t_, Steps p.tables e below (T5.setTop (mkF m 25 #[.val (.int rr), .val (.int dd), .val (.int sa), .val (.int sb), .val (.int mode), .val (.int q1), .val (.int q4), .unset, .unset, .unset, .unset, .unset, .unset, .unset, .unset, .unset, .unset] [(.int sa)])) t_ → Steps p.tables e below (s₁.setTop (entryFrame m #[(.int rr), (.int dd), (.int sa), (.int sb), (.int mode)] maxLocals)) t_ := fun t_ k_ => s5 t_ (by
    show Steps p.tables e below (T5.setTop (mkF m 22 #[.val (.int rr), .val (.int dd), .val (.int sa), .val (.int sb), .val (.int mode), .val (.int q1), .unset, .unset, .unset, .unset, .unset, .unset, .unset, .unset, .unset, .unset, .unset] [(.int q4)])) t_
    refine XS.istore X5.here hx rfl (Jvm.hb hby at_22) rfl (l' := #[.val (.int rr), .val (.int dd), .val (.int sa), .val (.int sb), .val (.int mode), .val (.int q1), .val (.int q4), .unset, .unset, .unset, .unset, .unset, .unset, .unset, .unset, .unset, .unset]) rfl ?_
    show Steps p.tables e below (T5.setTop (mkF m 24 #[.val (.int rr), .val (.int dd), .val (.int sa), .val (.int sb), .val (.int mode), .val (.int q1), .val (.int q4), .unset, .unset, .unset, .unset, .unset, .unset, .unset, .unset, .unset, .unset] [])) _
    refine XS.iloadN X5.here hx rfl (Jvm.hb hby at_24) rfl ?_
    show Steps p.tables e below (T5.setTop (mkF m 25 #[.val (.int rr), .val (.int dd), .val (.int sa), .val (.int sb), .val (.int mode), .val (.int q1), .val (.int q4), .unset, .unset, .unset, .unset, .unset, .unset, .unset, .unset, .unset, .unset] [(.int sa)])) t_
    exact k_)
  have Zc10 : n0 ≤ h0.size := by omega
  obtain ⟨_, _, ⟨T11, L11, k11, n11⟩, -, X11, ⟨Lc11, hQ11, l11, y11, z11⟩, st11⟩ := Jvm.LawKit.callS X5 hx (y := (⟨"com/example/zastupnik/zastupnik/protocol/JipsEqualsPinLaw", "pc", "(I)C"⟩ : MethodName)) hown (mvT hZ (hw _ (List.mem_of_getElem? (i := 1) rfl))) (mvT hZ (hw _ (List.mem_of_getElem? (i := 2) rfl))) (mvT hZ (hw _ (List.mem_of_getElem? (i := 3) rfl))) (mvT hZ (hw _ (List.mem_of_getElem? (i := 4) rfl))) (by decide) (backOf (W := 0) (rmPc l Z a0 hw [] sa h0 n0 Zc10) hZ (hw _ (List.mem_of_getElem? (i := 4) rfl)) (hw _ (List.mem_of_getElem? (i := 3) rfl)) (by decide) (by decide)) (g := (mkF m 25 #[.val (.int rr), .val (.int dd), .val (.int sa), .val (.int sb), .val (.int mode), .val (.int q1), .val (.int q4), .unset, .unset, .unset, .unset, .unset, .unset, .unset, .unset, .unset, .unset] [(.int sa)])) rfl (by rw [hml]; rfl) (argsL := [(.int sa)]) (rest := []) (lenOf pd__I_C rfl) rfl (by show 2 * 0 + _ ≤ _; exact Nat.le_of_eq rfl) (Jvm.hb hby at_25) (fun _ _ => ⟨rfl, e5, (by decide : 0 + 0 ≤ _), (by decide : 0 + 0 ≤ _)⟩)
  dsimp only [Pt.U, Pt.locs, Pt.cells, Pt.slots] at X11 l11 y11 z11 st11 hQ11
  subst l11 y11 z11
  obtain ⟨rfl, N11q, e11⟩ := hQ11
  have N11 := Fr.app N0 N11q
  obtain ⟨q12, hq12⟩ : ∃ z : Int32, z = (own_print_of sa) := ⟨_, rfl⟩
  rw [← hq12] at st11
  obtain ⟨q13, hq13⟩ : ∃ z : Int32, z = (ushr sa (16 : Int32)) := ⟨_, rfl⟩
  have s14 : ∀ t_, Steps p.tables e below (T11.setTop (mkF m 34 #[.val (.int rr), .val (.int dd), .val (.int sa), .val (.int sb), .val (.int mode), .val (.int q1), .val (.int q4), .val (.int q12), .unset, .unset, .unset, .unset, .unset, .unset, .unset, .unset, .unset] [(.int q13)])) t_ → Steps p.tables e below (s₁.setTop (entryFrame m #[(.int rr), (.int dd), (.int sa), (.int sb), (.int mode)] maxLocals)) t_ := fun t_ k_ => s9 t_ (by
    show Steps p.tables e below (T5.setTop (mkF m 25 #[.val (.int rr), .val (.int dd), .val (.int sa), .val (.int sb), .val (.int mode), .val (.int q1), .val (.int q4), .unset, .unset, .unset, .unset, .unset, .unset, .unset, .unset, .unset, .unset] [(.int sa)])) t_
    refine st11 _ ?_
    show Steps p.tables e below (T11.setTop (mkF m 28 #[.val (.int rr), .val (.int dd), .val (.int sa), .val (.int sb), .val (.int mode), .val (.int q1), .val (.int q4), .unset, .unset, .unset, .unset, .unset, .unset, .unset, .unset, .unset, .unset] [(.int q12)])) _
    refine XS.istore X11.here hx rfl (Jvm.hb hby at_28) rfl (l' := #[.val (.int rr), .val (.int dd), .val (.int sa), .val (.int sb), .val (.int mode), .val (.int q1), .val (.int q4), .val (.int q12), .unset, .unset, .unset, .unset, .unset, .unset, .unset, .unset, .unset]) rfl ?_
    refine XS.iloadN X11.here hx rfl (Jvm.hb hby at_30) rfl ?_
    refine XS.bipush X11.here hx rfl (Jvm.hb hby at_31) ?_
    refine XS.iushr X11.here hx rfl (Jvm.hb hby at_33) rfl ?_
    show Steps p.tables e below (T11.setTop (mkF m 34 #[.val (.int rr), .val (.int dd), .val (.int sa), .val (.int sb), .val (.int mode), .val (.int q1), .val (.int q4), .val (.int q12), .unset, .unset, .unset, .unset, .unset, .unset, .unset, .unset, .unset] [(.int (ushr sa (16 : Int32)))])) t_
    exact castTop (by simp only [hq13]) k_)
  have Zc15 : n0 ≤ h0.size := by omega
  obtain ⟨_, _, ⟨T16, L16, k16, n16⟩, -, X16, ⟨Lc16, hQ16, l16, y16, z16⟩, st16⟩ := Jvm.LawKit.callS X11 hx (y := (⟨"com/example/zastupnik/zastupnik/protocol/JipsEqualsPinLaw", "pc", "(I)C"⟩ : MethodName)) hown (mvT hZ (hw _ (List.mem_of_getElem? (i := 1) rfl))) (mvT hZ (hw _ (List.mem_of_getElem? (i := 2) rfl))) (mvT hZ (hw _ (List.mem_of_getElem? (i := 3) rfl))) (mvT hZ (hw _ (List.mem_of_getElem? (i := 4) rfl))) (by decide) (backOf (W := 0) (rmPc l Z a0 hw [] q13 h0 n0 Zc15) hZ (hw _ (List.mem_of_getElem? (i := 4) rfl)) (hw _ (List.mem_of_getElem? (i := 3) rfl)) (by decide) (by decide)) (g := (mkF m 34 #[.val (.int rr), .val (.int dd), .val (.int sa), .val (.int sb), .val (.int mode), .val (.int q1), .val (.int q4), .val (.int q12), .unset, .unset, .unset, .unset, .unset, .unset, .unset, .unset, .unset] [(.int q13)])) rfl (by rw [hml]; rfl) (argsL := [(.int q13)]) (rest := []) (lenOf pd__I_C rfl) rfl (by show 2 * 0 + _ ≤ _; exact Nat.le_of_eq rfl) (Jvm.hb hby at_34) (fun _ _ => ⟨rfl, e11, (by decide : 0 + 0 ≤ _), (by decide : 0 + 0 ≤ _)⟩)
  dsimp only [Pt.U, Pt.locs, Pt.cells, Pt.slots] at X16 l16 y16 z16 st16 hQ16
  subst l16 y16 z16
  obtain ⟨rfl, N16q, e16⟩ := hQ16
  have N16 := Fr.app N11 N16q
  obtain ⟨q17, hq17⟩ : ∃ z : Int32, z = (own_print_of q13) := ⟨_, rfl⟩
  rw [← hq17] at st16
  have s18 : ∀ t_, Steps p.tables e below (T16.setTop (mkF m 39 #[.val (.int rr), .val (.int dd), .val (.int sa), .val (.int sb), .val (.int mode), .val (.int q1), .val (.int q4), .val (.int q12), .val (.int q17), .unset, .unset, .unset, .unset, .unset, .unset, .unset, .unset] [])) t_ → Steps p.tables e below (s₁.setTop (entryFrame m #[(.int rr), (.int dd), (.int sa), (.int sb), (.int mode)] maxLocals)) t_ := fun t_ k_ => s14 t_ (by
    show Steps p.tables e below (T11.setTop (mkF m 34 #[.val (.int rr), .val (.int dd), .val (.int sa), .val (.int sb), .val (.int mode), .val (.int q1), .val (.int q4), .val (.int q12), .unset, .unset, .unset, .unset, .unset, .unset, .unset, .unset, .unset] [(.int q13)])) t_
    refine st16 _ ?_
    show Steps p.tables e below (T16.setTop (mkF m 37 #[.val (.int rr), .val (.int dd), .val (.int sa), .val (.int sb), .val (.int mode), .val (.int q1), .val (.int q4), .val (.int q12), .unset, .unset, .unset, .unset, .unset, .unset, .unset, .unset, .unset] [(.int q17)])) _
    refine XS.istore X16.here hx rfl (Jvm.hb hby at_37) rfl (l' := #[.val (.int rr), .val (.int dd), .val (.int sa), .val (.int sb), .val (.int mode), .val (.int q1), .val (.int q4), .val (.int q12), .val (.int q17), .unset, .unset, .unset, .unset, .unset, .unset, .unset, .unset]) rfl ?_
    show Steps p.tables e below (T16.setTop (mkF m 39 #[.val (.int rr), .val (.int dd), .val (.int sa), .val (.int sb), .val (.int mode), .val (.int q1), .val (.int q4), .val (.int q12), .val (.int q17), .unset, .unset, .unset, .unset, .unset, .unset, .unset, .unset] [])) t_
    exact k_)
  have bk19 : ∃ (T' : State) (lo' : List Loc) (hx_ : Heap) (fe_ : JFrame), Stand p l e room_1 (s.setVm s.vm) m #[(.int rr), (.int dd), (.int sa), (.int sb), (.int mode)] below meth c T' lo' 0 0 ∧ T'.heap = hx_ ∧ Fr n0 lo' ∧ Keep h0 hx_ [] ∧ ((∃ (vb : Int32), fe_ = (mkF m 55 #[.val (.int rr), .val (.int dd), .val (.int sa), .val (.int sb), .val (.int mode), .val (.int q1), .val (.int q4), .val (.int q12), .val (.int q17), .unset, .unset, .unset, .unset, .unset, .unset, .unset, .unset] [(.int vb)]) ∧ (own_prx vb))) ∧ ∀ t_, Steps p.tables e below (T'.setTop fe_) t_ → Steps p.tables e below (s₁.setTop (entryFrame m #[(.int rr), (.int dd), (.int sa), (.int sb), (.int mode)] maxLocals)) t_ := by
    obtain ⟨q20, hq20⟩ : ∃ z : Int32, z = (mode &&& (2 : Int32)) := ⟨_, rfl⟩
    have s21 : ∀ t_, Steps p.tables e below (T16.setTop (mkF m 43 #[.val (.int rr), .val (.int dd), .val (.int sa), .val (.int sb), .val (.int mode), .val (.int q1), .val (.int q4), .val (.int q12), .val (.int q17), .unset, .unset, .unset, .unset, .unset, .unset, .unset, .unset] [(.int q20)])) t_ → Steps p.tables e below (s₁.setTop (entryFrame m #[(.int rr), (.int dd), (.int sa), (.int sb), (.int mode)] maxLocals)) t_ := fun t_ k_ => s18 t_ (by
      show Steps p.tables e below (T16.setTop (mkF m 39 #[.val (.int rr), .val (.int dd), .val (.int sa), .val (.int sb), .val (.int mode), .val (.int q1), .val (.int q4), .val (.int q12), .val (.int q17), .unset, .unset, .unset, .unset, .unset, .unset, .unset, .unset] [])) t_
      refine XS.iload X16.here hx rfl (Jvm.hb hby at_39) rfl ?_
      refine XS.iconst X16.here hx rfl (Jvm.hb hby at_41) ?_
      refine XS.iand X16.here hx rfl (Jvm.hb hby at_42) rfl ?_
      show Steps p.tables e below (T16.setTop (mkF m 43 #[.val (.int rr), .val (.int dd), .val (.int sa), .val (.int sb), .val (.int mode), .val (.int q1), .val (.int q4), .val (.int q12), .val (.int q17), .unset, .unset, .unset, .unset, .unset, .unset, .unset, .unset] [(.int (mode &&& (2 : Int32)))])) t_
      exact castTop (by simp only [hq20]) k_)
    by_cases h22 : q20 = (0 : Int32)
    · have s23 : ∀ t_, Steps p.tables e below (T16.setTop (mkF m 55 #[.val (.int rr), .val (.int dd), .val (.int sa), .val (.int sb), .val (.int mode), .val (.int q1), .val (.int q4), .val (.int q12), .val (.int q17), .unset, .unset, .unset, .unset, .unset, .unset, .unset, .unset] [(.int q12)])) t_ → Steps p.tables e below (s₁.setTop (entryFrame m #[(.int rr), (.int dd), (.int sa), (.int sb), (.int mode)] maxLocals)) t_ := fun t_ k_ => s21 t_ (by
        show Steps p.tables e below (T16.setTop (mkF m 43 #[.val (.int rr), .val (.int dd), .val (.int sa), .val (.int sb), .val (.int mode), .val (.int q1), .val (.int q4), .val (.int q12), .val (.int q17), .unset, .unset, .unset, .unset, .unset, .unset, .unset, .unset] [(.int q20)])) t_
        refine XS.ifYes X16.here hx rfl (pc0 := 43) (pc' := 53) rfl (Jvm.hb hby at_43) rfl ((if0 _ _).trans (teq h22).1) (by decide) (by decide) ?_
        show Steps p.tables e below (T16.setTop (mkF m 53 #[.val (.int rr), .val (.int dd), .val (.int sa), .val (.int sb), .val (.int mode), .val (.int q1), .val (.int q4), .val (.int q12), .val (.int q17), .unset, .unset, .unset, .unset, .unset, .unset, .unset, .unset] [])) _
        refine XS.iload X16.here hx rfl (Jvm.hb hby at_53) rfl ?_
        show Steps p.tables e below (T16.setTop (mkF m 55 #[.val (.int rr), .val (.int dd), .val (.int sa), .val (.int sb), .val (.int mode), .val (.int q1), .val (.int q4), .val (.int q12), .val (.int q17), .unset, .unset, .unset, .unset, .unset, .unset, .unset, .unset] [(.int q12)])) t_
        exact k_)
      exact ⟨T16, _, _, _, X16, e16, N16, (Keep.refl h0 []), ⟨q12, rfl, (by first | exact own_pri _ | (rw [hq12]; exact own_pri _))⟩, s23⟩
    · have s24 : ∀ t_, Steps p.tables e below (T16.setTop (mkF m 47 #[.val (.int rr), .val (.int dd), .val (.int sa), .val (.int sb), .val (.int mode), .val (.int q1), .val (.int q4), .val (.int q12), .val (.int q17), .unset, .unset, .unset, .unset, .unset, .unset, .unset, .unset] [(.int sb)])) t_ → Steps p.tables e below (s₁.setTop (entryFrame m #[(.int rr), (.int dd), (.int sa), (.int sb), (.int mode)] maxLocals)) t_ := fun t_ k_ => s21 t_ (by
        show Steps p.tables e below (T16.setTop (mkF m 43 #[.val (.int rr), .val (.int dd), .val (.int sa), .val (.int sb), .val (.int mode), .val (.int q1), .val (.int q4), .val (.int q12), .val (.int q17), .unset, .unset, .unset, .unset, .unset, .unset, .unset, .unset] [(.int q20)])) t_
        refine XS.ifNo X16.here hx rfl (Jvm.hb hby at_43) rfl ((if0 _ _).trans (feq h22).1) ?_
        show Steps p.tables e below (T16.setTop (mkF m 46 #[.val (.int rr), .val (.int dd), .val (.int sa), .val (.int sb), .val (.int mode), .val (.int q1), .val (.int q4), .val (.int q12), .val (.int q17), .unset, .unset, .unset, .unset, .unset, .unset, .unset, .unset] [])) _
        refine XS.iloadN X16.here hx rfl (Jvm.hb hby at_46) rfl ?_
        show Steps p.tables e below (T16.setTop (mkF m 47 #[.val (.int rr), .val (.int dd), .val (.int sa), .val (.int sb), .val (.int mode), .val (.int q1), .val (.int q4), .val (.int q12), .val (.int q17), .unset, .unset, .unset, .unset, .unset, .unset, .unset, .unset] [(.int sb)])) t_
        exact k_)
      have Zc25 : n0 ≤ h0.size := by omega
      obtain ⟨_, _, ⟨T26, L26, k26, n26⟩, -, X26, ⟨Lc26, hQ26, l26, y26, z26⟩, st26⟩ := Jvm.LawKit.callS X16 hx (y := (⟨"com/example/zastupnik/zastupnik/protocol/JipsEqualsPinLaw", "pc", "(I)C"⟩ : MethodName)) hown (mvT hZ (hw _ (List.mem_of_getElem? (i := 1) rfl))) (mvT hZ (hw _ (List.mem_of_getElem? (i := 2) rfl))) (mvT hZ (hw _ (List.mem_of_getElem? (i := 3) rfl))) (mvT hZ (hw _ (List.mem_of_getElem? (i := 4) rfl))) (by decide) (backOf (W := 0) (rmPc l Z a0 hw [] sb h0 n0 Zc25) hZ (hw _ (List.mem_of_getElem? (i := 4) rfl)) (hw _ (List.mem_of_getElem? (i := 3) rfl)) (by decide) (by decide)) (g := (mkF m 47 #[.val (.int rr), .val (.int dd), .val (.int sa), .val (.int sb), .val (.int mode), .val (.int q1), .val (.int q4), .val (.int q12), .val (.int q17), .unset, .unset, .unset, .unset, .unset, .unset, .unset, .unset] [(.int sb)])) rfl (by rw [hml]; rfl) (argsL := [(.int sb)]) (rest := []) (lenOf pd__I_C rfl) rfl (by show 2 * 0 + _ ≤ _; exact Nat.le_of_eq rfl) (Jvm.hb hby at_47) (fun _ _ => ⟨rfl, e16, (by decide : 0 + 0 ≤ _), (by decide : 0 + 0 ≤ _)⟩)
      dsimp only [Pt.U, Pt.locs, Pt.cells, Pt.slots] at X26 l26 y26 z26 st26 hQ26
      subst l26 y26 z26
      obtain ⟨rfl, N26q, e26⟩ := hQ26
      have N26 := Fr.app N16 N26q
      obtain ⟨q27, hq27⟩ : ∃ z : Int32, z = (own_print_of sb) := ⟨_, rfl⟩
      rw [← hq27] at st26
      have s28 : ∀ t_, Steps p.tables e below (T26.setTop (mkF m 55 #[.val (.int rr), .val (.int dd), .val (.int sa), .val (.int sb), .val (.int mode), .val (.int q1), .val (.int q4), .val (.int q12), .val (.int q17), .unset, .unset, .unset, .unset, .unset, .unset, .unset, .unset] [(.int q27)])) t_ → Steps p.tables e below (s₁.setTop (entryFrame m #[(.int rr), (.int dd), (.int sa), (.int sb), (.int mode)] maxLocals)) t_ := fun t_ k_ => s24 t_ (by
        show Steps p.tables e below (T16.setTop (mkF m 47 #[.val (.int rr), .val (.int dd), .val (.int sa), .val (.int sb), .val (.int mode), .val (.int q1), .val (.int q4), .val (.int q12), .val (.int q17), .unset, .unset, .unset, .unset, .unset, .unset, .unset, .unset] [(.int sb)])) t_
        refine st26 _ ?_
        show Steps p.tables e below (T26.setTop (mkF m 50 #[.val (.int rr), .val (.int dd), .val (.int sa), .val (.int sb), .val (.int mode), .val (.int q1), .val (.int q4), .val (.int q12), .val (.int q17), .unset, .unset, .unset, .unset, .unset, .unset, .unset, .unset] [(.int q27)])) _
        refine XS.goto X26.here hx rfl (pc0 := 50) (pc' := 55) rfl (Jvm.hb hby at_50) (by decide) (by decide) ?_
        show Steps p.tables e below (T26.setTop (mkF m 55 #[.val (.int rr), .val (.int dd), .val (.int sa), .val (.int sb), .val (.int mode), .val (.int q1), .val (.int q4), .val (.int q12), .val (.int q17), .unset, .unset, .unset, .unset, .unset, .unset, .unset, .unset] [(.int q27)])) t_
        exact k_)
      exact ⟨T26, _, _, _, X26, e26, N26, (Keep.refl h0 []), ⟨q27, rfl, (by first | exact own_pri _ | (rw [hq27]; exact own_pri _))⟩, s28⟩
  obtain ⟨T29, lo29, h29, fe29, X29, e29, N29, K29, A29, st29⟩ := bk19
  have z30 : h0.size ≤ h29.size := K29.1
  have Cp30 : CHr Z ELs s.vm h0 s.vm h29 := CHr.keep K29 sf0 CR.1
  have hk := Nat.le_trans hk z30
  have CR := CR.trans Cp30
  obtain ⟨vb_29, rfl, J29_0⟩ := A29
  have s31 : ∀ t_, Steps p.tables e below (T29.setTop (mkF m 55 #[.val (.int rr), .val (.int dd), .val (.int sa), .val (.int sb), .val (.int mode), .val (.int q1), .val (.int q4), .val (.int q12), .val (.int q17), .unset, .unset, .unset, .unset, .unset, .unset, .unset, .unset] [(.int vb_29)])) t_ → Steps p.tables e below (s₁.setTop (entryFrame m #[(.int rr), (.int dd), (.int sa), (.int sb), (.int mode)] maxLocals)) t_ := st29
  have s32 : ∀ t_, Steps p.tables e below (T29.setTop (mkF m 57 #[.val (.int rr), .val (.int dd), .val (.int sa), .val (.int sb), .val (.int mode), .val (.int q1), .val (.int q4), .val (.int q12), .val (.int q17), .val (.int vb_29), .unset, .unset, .unset, .unset, .unset, .unset, .unset] [])) t_ → Steps p.tables e below (s₁.setTop (entryFrame m #[(.int rr), (.int dd), (.int sa), (.int sb), (.int mode)] maxLocals)) t_ := fun t_ k_ => s31 t_ (by
    show Steps p.tables e below (T29.setTop (mkF m 55 #[.val (.int rr), .val (.int dd), .val (.int sa), .val (.int sb), .val (.int mode), .val (.int q1), .val (.int q4), .val (.int q12), .val (.int q17), .unset, .unset, .unset, .unset, .unset, .unset, .unset, .unset] [(.int vb_29)])) t_
    refine XS.istore X29.here hx rfl (Jvm.hb hby at_55) rfl (l' := #[.val (.int rr), .val (.int dd), .val (.int sa), .val (.int sb), .val (.int mode), .val (.int q1), .val (.int q4), .val (.int q12), .val (.int q17), .val (.int vb_29), .unset, .unset, .unset, .unset, .unset, .unset, .unset]) rfl ?_
    show Steps p.tables e below (T29.setTop (mkF m 57 #[.val (.int rr), .val (.int dd), .val (.int sa), .val (.int sb), .val (.int mode), .val (.int q1), .val (.int q4), .val (.int q12), .val (.int q17), .val (.int vb_29), .unset, .unset, .unset, .unset, .unset, .unset, .unset] [])) t_
    exact k_)
  have bk33 : ∃ (T' : State) (lo' : List Loc) (hx_ : Heap) (fe_ : JFrame), Stand p l e room_1 (s.setVm s.vm) m #[(.int rr), (.int dd), (.int sa), (.int sb), (.int mode)] below meth c T' lo' 0 0 ∧ T'.heap = hx_ ∧ Fr n0 lo' ∧ Keep h29 hx_ [] ∧ ((∃ (vb : Int32), fe_ = (mkF m 76 #[.val (.int rr), .val (.int dd), .val (.int sa), .val (.int sb), .val (.int mode), .val (.int q1), .val (.int q4), .val (.int q12), .val (.int q17), .val (.int vb_29), .unset, .unset, .unset, .unset, .unset, .unset, .unset] [(.int vb)]) ∧ (own_prx vb))) ∧ ∀ t_, Steps p.tables e below (T'.setTop fe_) t_ → Steps p.tables e below (s₁.setTop (entryFrame m #[(.int rr), (.int dd), (.int sa), (.int sb), (.int mode)] maxLocals)) t_ := by
    obtain ⟨q34, hq34⟩ : ∃ z : Int32, z = (mode &&& (4 : Int32)) := ⟨_, rfl⟩
    have s35 : ∀ t_, Steps p.tables e below (T29.setTop (mkF m 61 #[.val (.int rr), .val (.int dd), .val (.int sa), .val (.int sb), .val (.int mode), .val (.int q1), .val (.int q4), .val (.int q12), .val (.int q17), .val (.int vb_29), .unset, .unset, .unset, .unset, .unset, .unset, .unset] [(.int q34)])) t_ → Steps p.tables e below (s₁.setTop (entryFrame m #[(.int rr), (.int dd), (.int sa), (.int sb), (.int mode)] maxLocals)) t_ := fun t_ k_ => s32 t_ (by
      show Steps p.tables e below (T29.setTop (mkF m 57 #[.val (.int rr), .val (.int dd), .val (.int sa), .val (.int sb), .val (.int mode), .val (.int q1), .val (.int q4), .val (.int q12), .val (.int q17), .val (.int vb_29), .unset, .unset, .unset, .unset, .unset, .unset, .unset] [])) t_
      refine XS.iload X29.here hx rfl (Jvm.hb hby at_57) rfl ?_
      refine XS.iconst X29.here hx rfl (Jvm.hb hby at_59) ?_
      refine XS.iand X29.here hx rfl (Jvm.hb hby at_60) rfl ?_
      show Steps p.tables e below (T29.setTop (mkF m 61 #[.val (.int rr), .val (.int dd), .val (.int sa), .val (.int sb), .val (.int mode), .val (.int q1), .val (.int q4), .val (.int q12), .val (.int q17), .val (.int vb_29), .unset, .unset, .unset, .unset, .unset, .unset, .unset] [(.int (mode &&& (4 : Int32)))])) t_
      exact castTop (by simp only [hq34]) k_)
    by_cases h36 : q34 = (0 : Int32)
    · have s37 : ∀ t_, Steps p.tables e below (T29.setTop (mkF m 76 #[.val (.int rr), .val (.int dd), .val (.int sa), .val (.int sb), .val (.int mode), .val (.int q1), .val (.int q4), .val (.int q12), .val (.int q17), .val (.int vb_29), .unset, .unset, .unset, .unset, .unset, .unset, .unset] [(.int q17)])) t_ → Steps p.tables e below (s₁.setTop (entryFrame m #[(.int rr), (.int dd), (.int sa), (.int sb), (.int mode)] maxLocals)) t_ := fun t_ k_ => s35 t_ (by
        show Steps p.tables e below (T29.setTop (mkF m 61 #[.val (.int rr), .val (.int dd), .val (.int sa), .val (.int sb), .val (.int mode), .val (.int q1), .val (.int q4), .val (.int q12), .val (.int q17), .val (.int vb_29), .unset, .unset, .unset, .unset, .unset, .unset, .unset] [(.int q34)])) t_
        refine XS.ifYes X29.here hx rfl (pc0 := 61) (pc' := 74) rfl (Jvm.hb hby at_61) rfl ((if0 _ _).trans (teq h36).1) (by decide) (by decide) ?_
        show Steps p.tables e below (T29.setTop (mkF m 74 #[.val (.int rr), .val (.int dd), .val (.int sa), .val (.int sb), .val (.int mode), .val (.int q1), .val (.int q4), .val (.int q12), .val (.int q17), .val (.int vb_29), .unset, .unset, .unset, .unset, .unset, .unset, .unset] [])) _
        refine XS.iload X29.here hx rfl (Jvm.hb hby at_74) rfl ?_
        show Steps p.tables e below (T29.setTop (mkF m 76 #[.val (.int rr), .val (.int dd), .val (.int sa), .val (.int sb), .val (.int mode), .val (.int q1), .val (.int q4), .val (.int q12), .val (.int q17), .val (.int vb_29), .unset, .unset, .unset, .unset, .unset, .unset, .unset] [(.int q17)])) t_
        exact k_)
      exact ⟨T29, _, _, _, X29, e29, N29, (Keep.refl h29 []), ⟨q17, rfl, (by first | exact own_pri _ | (rw [hq17]; exact own_pri _))⟩, s37⟩
    · obtain ⟨q38, hq38⟩ : ∃ z : Int32, z = (ushr sb (16 : Int32)) := ⟨_, rfl⟩
      have s39 : ∀ t_, Steps p.tables e below (T29.setTop (mkF m 68 #[.val (.int rr), .val (.int dd), .val (.int sa), .val (.int sb), .val (.int mode), .val (.int q1), .val (.int q4), .val (.int q12), .val (.int q17), .val (.int vb_29), .unset, .unset, .unset, .unset, .unset, .unset, .unset] [(.int q38)])) t_ → Steps p.tables e below (s₁.setTop (entryFrame m #[(.int rr), (.int dd), (.int sa), (.int sb), (.int mode)] maxLocals)) t_ := fun t_ k_ => s35 t_ (by
        show Steps p.tables e below (T29.setTop (mkF m 61 #[.val (.int rr), .val (.int dd), .val (.int sa), .val (.int sb), .val (.int mode), .val (.int q1), .val (.int q4), .val (.int q12), .val (.int q17), .val (.int vb_29), .unset, .unset, .unset, .unset, .unset, .unset, .unset] [(.int q34)])) t_
        refine XS.ifNo X29.here hx rfl (Jvm.hb hby at_61) rfl ((if0 _ _).trans (feq h36).1) ?_
        show Steps p.tables e below (T29.setTop (mkF m 64 #[.val (.int rr), .val (.int dd), .val (.int sa), .val (.int sb), .val (.int mode), .val (.int q1), .val (.int q4), .val (.int q12), .val (.int q17), .val (.int vb_29), .unset, .unset, .unset, .unset, .unset, .unset, .unset] [])) _
        refine XS.iloadN X29.here hx rfl (Jvm.hb hby at_64) rfl ?_
        refine XS.bipush X29.here hx rfl (Jvm.hb hby at_65) ?_
        refine XS.iushr X29.here hx rfl (Jvm.hb hby at_67) rfl ?_
        show Steps p.tables e below (T29.setTop (mkF m 68 #[.val (.int rr), .val (.int dd), .val (.int sa), .val (.int sb), .val (.int mode), .val (.int q1), .val (.int q4), .val (.int q12), .val (.int q17), .val (.int vb_29), .unset, .unset, .unset, .unset, .unset, .unset, .unset] [(.int (ushr sb (16 : Int32)))])) t_
        exact castTop (by simp only [hq38]) k_)
      have Zc40 : n0 ≤ h29.size := by omega
      obtain ⟨_, _, ⟨T41, L41, k41, n41⟩, -, X41, ⟨Lc41, hQ41, l41, y41, z41⟩, st41⟩ := Jvm.LawKit.callS X29 hx (y := (⟨"com/example/zastupnik/zastupnik/protocol/JipsEqualsPinLaw", "pc", "(I)C"⟩ : MethodName)) hown (mvT hZ (hw _ (List.mem_of_getElem? (i := 1) rfl))) (mvT hZ (hw _ (List.mem_of_getElem? (i := 2) rfl))) (mvT hZ (hw _ (List.mem_of_getElem? (i := 3) rfl))) (mvT hZ (hw _ (List.mem_of_getElem? (i := 4) rfl))) (by decide) (backOf (W := 0) (rmPc l Z a0 hw [] q38 h29 n0 Zc40) hZ (hw _ (List.mem_of_getElem? (i := 4) rfl)) (hw _ (List.mem_of_getElem? (i := 3) rfl)) (by decide) (by decide)) (g := (mkF m 68 #[.val (.int rr), .val (.int dd), .val (.int sa), .val (.int sb), .val (.int mode), .val (.int q1), .val (.int q4), .val (.int q12), .val (.int q17), .val (.int vb_29), .unset, .unset, .unset, .unset, .unset, .unset, .unset] [(.int q38)])) rfl (by rw [hml]; rfl) (argsL := [(.int q38)]) (rest := []) (lenOf pd__I_C rfl) rfl (by show 2 * 0 + _ ≤ _; exact Nat.le_of_eq rfl) (Jvm.hb hby at_68) (fun _ _ => ⟨rfl, e29, (by decide : 0 + 0 ≤ _), (by decide : 0 + 0 ≤ _)⟩)
      dsimp only [Pt.U, Pt.locs, Pt.cells, Pt.slots] at X41 l41 y41 z41 st41 hQ41
      subst l41 y41 z41
      obtain ⟨rfl, N41q, e41⟩ := hQ41
      have N41 := Fr.app N29 N41q
      obtain ⟨q42, hq42⟩ : ∃ z : Int32, z = (own_print_of q38) := ⟨_, rfl⟩
      rw [← hq42] at st41
      have s43 : ∀ t_, Steps p.tables e below (T41.setTop (mkF m 76 #[.val (.int rr), .val (.int dd), .val (.int sa), .val (.int sb), .val (.int mode), .val (.int q1), .val (.int q4), .val (.int q12), .val (.int q17), .val (.int vb_29), .unset, .unset, .unset, .unset, .unset, .unset, .unset] [(.int q42)])) t_ → Steps p.tables e below (s₁.setTop (entryFrame m #[(.int rr), (.int dd), (.int sa), (.int sb), (.int mode)] maxLocals)) t_ := fun t_ k_ => s39 t_ (by
        show Steps p.tables e below (T29.setTop (mkF m 68 #[.val (.int rr), .val (.int dd), .val (.int sa), .val (.int sb), .val (.int mode), .val (.int q1), .val (.int q4), .val (.int q12), .val (.int q17), .val (.int vb_29), .unset, .unset, .unset, .unset, .unset, .unset, .unset] [(.int q38)])) t_
        refine st41 _ ?_
        show Steps p.tables e below (T41.setTop (mkF m 71 #[.val (.int rr), .val (.int dd), .val (.int sa), .val (.int sb), .val (.int mode), .val (.int q1), .val (.int q4), .val (.int q12), .val (.int q17), .val (.int vb_29), .unset, .unset, .unset, .unset, .unset, .unset, .unset] [(.int q42)])) _
        refine XS.goto X41.here hx rfl (pc0 := 71) (pc' := 76) rfl (Jvm.hb hby at_71) (by decide) (by decide) ?_
        show Steps p.tables e below (T41.setTop (mkF m 76 #[.val (.int rr), .val (.int dd), .val (.int sa), .val (.int sb), .val (.int mode), .val (.int q1), .val (.int q4), .val (.int q12), .val (.int q17), .val (.int vb_29), .unset, .unset, .unset, .unset, .unset, .unset, .unset] [(.int q42)])) t_
        exact k_)
      exact ⟨T41, _, _, _, X41, e41, N41, (Keep.refl h29 []), ⟨q42, rfl, (by first | exact own_pri _ | (rw [hq42]; exact own_pri _))⟩, s43⟩
  obtain ⟨T44, lo44, h44, fe44, X44, e44, N44, K44, A44, st44⟩ := bk33
  have z45 : h29.size ≤ h44.size := K44.1
  have Cp45 : CHr Z ELs s.vm h29 s.vm h44 := CHr.keep K44 sf0 CR.1
  have hk := Nat.le_trans hk z45
  have CR := CR.trans Cp45
  obtain ⟨vb_44, rfl, J44_0⟩ := A44
  have s46 : ∀ t_, Steps p.tables e below (T44.setTop (mkF m 76 #[.val (.int rr), .val (.int dd), .val (.int sa), .val (.int sb), .val (.int mode), .val (.int q1), .val (.int q4), .val (.int q12), .val (.int q17), .val (.int vb_29), .unset, .unset, .unset, .unset, .unset, .unset, .unset] [(.int vb_44)])) t_ → Steps p.tables e below (s₁.setTop (entryFrame m #[(.int rr), (.int dd), (.int sa), (.int sb), (.int mode)] maxLocals)) t_ := st44
  obtain ⟨mA, hmA, hmAl⟩ := own_len2 (ushr mode (3 : Int32))
  obtain ⟨mB, hmB, hmBl⟩ := own_len2 (ushr mode (4 : Int32))
  have s47 : ∀ t_, Steps p.tables e below (T44.setTop (mkF m 98 #[.val (.int rr), .val (.int dd), .val (.int sa), .val (.int sb), .val (.int mode), .val (.int q1), .val (.int q4), .val (.int q12), .val (.int q17), .val (.int vb_29), .val (.int vb_44), .val (.int (Int32.ofNat mA)), .val (.int (Int32.ofNat mB)), .unset, .unset, .unset, .unset] [])) t_ → Steps p.tables e below (s₁.setTop (entryFrame m #[(.int rr), (.int dd), (.int sa), (.int sb), (.int mode)] maxLocals)) t_ := fun t_ k_ => s46 t_ (by
    show Steps p.tables e below (T44.setTop (mkF m 76 #[.val (.int rr), .val (.int dd), .val (.int sa), .val (.int sb), .val (.int mode), .val (.int q1), .val (.int q4), .val (.int q12), .val (.int q17), .val (.int vb_29), .unset, .unset, .unset, .unset, .unset, .unset, .unset] [(.int vb_44)])) t_
    refine XS.istore X44.here hx rfl (Jvm.hb hby at_76) rfl (l' := #[.val (.int rr), .val (.int dd), .val (.int sa), .val (.int sb), .val (.int mode), .val (.int q1), .val (.int q4), .val (.int q12), .val (.int q17), .val (.int vb_29), .val (.int vb_44), .unset, .unset, .unset, .unset, .unset, .unset]) rfl ?_
    refine XS.iconst X44.here hx rfl (Jvm.hb hby at_78) ?_
    refine XS.iload X44.here hx rfl (Jvm.hb hby at_79) rfl ?_
    refine XS.iconst X44.here hx rfl (Jvm.hb hby at_81) ?_
    show Steps p.tables e below (T44.setTop (mkF m 82 #[.val (.int rr), .val (.int dd), .val (.int sa), .val (.int sb), .val (.int mode), .val (.int q1), .val (.int q4), .val (.int q12), .val (.int q17), .val (.int vb_29), .val (.int vb_44), .unset, .unset, .unset, .unset, .unset, .unset] [(.int (3 : Int32)), (.int mode), (.int (1 : Int32))])) _
    refine XS.iushr X44.here hx rfl (Jvm.hb hby at_82) rfl ?_
    refine XS.iconst X44.here hx rfl (Jvm.hb hby at_83) ?_
    refine XS.iand X44.here hx rfl (Jvm.hb hby at_84) rfl ?_
    refine XS.iadd X44.here hx rfl (Jvm.hb hby at_85) rfl ?_
    refine XS.istore X44.here hx rfl (Jvm.hb hby at_86) rfl (l' := #[.val (.int rr), .val (.int dd), .val (.int sa), .val (.int sb), .val (.int mode), .val (.int q1), .val (.int q4), .val (.int q12), .val (.int q17), .val (.int vb_29), .val (.int vb_44), .val (.int ((1 : Int32) + ((ushr mode (3 : Int32)) &&& (1 : Int32)))), .unset, .unset, .unset, .unset, .unset]) rfl ?_
    refine XS.iconst X44.here hx rfl (Jvm.hb hby at_88) ?_
    show Steps p.tables e below (T44.setTop (mkF m 89 #[.val (.int rr), .val (.int dd), .val (.int sa), .val (.int sb), .val (.int mode), .val (.int q1), .val (.int q4), .val (.int q12), .val (.int q17), .val (.int vb_29), .val (.int vb_44), .val (.int ((1 : Int32) + ((ushr mode (3 : Int32)) &&& (1 : Int32)))), .unset, .unset, .unset, .unset, .unset] [(.int (1 : Int32))])) _
    refine XS.iload X44.here hx rfl (Jvm.hb hby at_89) rfl ?_
    refine XS.iconst X44.here hx rfl (Jvm.hb hby at_91) ?_
    refine XS.iushr X44.here hx rfl (Jvm.hb hby at_92) rfl ?_
    refine XS.iconst X44.here hx rfl (Jvm.hb hby at_93) ?_
    refine XS.iand X44.here hx rfl (Jvm.hb hby at_94) rfl ?_
    refine XS.iadd X44.here hx rfl (Jvm.hb hby at_95) rfl ?_
    show Steps p.tables e below (T44.setTop (mkF m 96 #[.val (.int rr), .val (.int dd), .val (.int sa), .val (.int sb), .val (.int mode), .val (.int q1), .val (.int q4), .val (.int q12), .val (.int q17), .val (.int vb_29), .val (.int vb_44), .val (.int ((1 : Int32) + ((ushr mode (3 : Int32)) &&& (1 : Int32)))), .unset, .unset, .unset, .unset, .unset] [(.int ((1 : Int32) + ((ushr mode (4 : Int32)) &&& (1 : Int32))))])) _
    refine XS.istore X44.here hx rfl (Jvm.hb hby at_96) rfl (l' := #[.val (.int rr), .val (.int dd), .val (.int sa), .val (.int sb), .val (.int mode), .val (.int q1), .val (.int q4), .val (.int q12), .val (.int q17), .val (.int vb_29), .val (.int vb_44), .val (.int ((1 : Int32) + ((ushr mode (3 : Int32)) &&& (1 : Int32)))), .val (.int ((1 : Int32) + ((ushr mode (4 : Int32)) &&& (1 : Int32)))), .unset, .unset, .unset, .unset]) rfl ?_
    show Steps p.tables e below (T44.setTop (mkF m 98 #[.val (.int rr), .val (.int dd), .val (.int sa), .val (.int sb), .val (.int mode), .val (.int q1), .val (.int q4), .val (.int q12), .val (.int q17), .val (.int vb_29), .val (.int vb_44), .val (.int ((1 : Int32) + ((ushr mode (3 : Int32)) &&& (1 : Int32)))), .val (.int ((1 : Int32) + ((ushr mode (4 : Int32)) &&& (1 : Int32)))), .unset, .unset, .unset, .unset] [])) t_
    exact castTop (by simp only [hmA, hmB]) k_)
  have pr48 : own_prx q12 := by rw [hq12]; exact own_pri _
  have pr49 : own_prx q17 := by rw [hq17]; exact own_pri _
  have hr1 : ¬ (q1 < (0 : Int32)) := by rw [hq1]; exact own_m31 _
  have hr2 : ¬ (q4 < (0 : Int32)) := by
    rw [hq4]; split
    · exact hr1
    · exact own_m31 _
  obtain ⟨T52, h52, X52, e52, E52, A52, D52, -, st52⟩ := newO X44 hx hZ hown (hw _ (List.mem_of_getElem? (i := 5) rfl)) (hw _ (List.mem_of_getElem? (i := 6) rfl)) (hw _ (List.mem_of_getElem? (i := 7) rfl)) e44 (g := (mkF m 98 #[.val (.int rr), .val (.int dd), .val (.int sa), .val (.int sb), .val (.int mode), .val (.int q1), .val (.int q4), .val (.int q12), .val (.int q17), .val (.int vb_29), .val (.int vb_44), .val (.int (Int32.ofNat mA)), .val (.int (Int32.ofNat mB)), .unset, .unset, .unset, .unset] [])) rfl (Jvm.hb hby at_98) (by decide) (by decide)
  obtain ⟨b52, g52⟩ : ∃ z, z = h44.size := ⟨_, rfl⟩
  rw [← g52] at A52 D52 st52
  have z53 : h44.size ≤ h52.size := E52.1
  have Cp53 : CHr Z ELs s.vm h44 s.vm h52 := CHr.ext E52 CR.1
  have hk := Nat.le_trans hk z53
  have CR := CR.trans Cp53
  have l52 : b52 < h52.size := A52.lt
  have F54 : Fld Z h52 b52 "com/example/zastupnik/zastupnik/protocol/Jips" "izvorReg" "I" (.int (0 : Int32)) := D52 (Or.inr (hw _ (List.mem_of_getElem? (i := 93) rfl))) (ty := .int) (by decide)
  have F55 : Fld Z h52 b52 "com/example/zastupnik/zastupnik/protocol/Jips" "ips" "Ljava/lang/String;" .null := D52 (Or.inr (hw _ (List.mem_of_getElem? (i := 95) rfl))) (ty := (.object "java/lang/String")) (by decide)
  have s56 : ∀ t_, Steps p.tables e below (T52.setTop (mkF m 110 #[.val (.int rr), .val (.int dd), .val (.int sa), .val (.int sb), .val (.int mode), .val (.int q1), .val (.int q4), .val (.int q12), .val (.int q17), .val (.int vb_29), .val (.int vb_44), .val (.int (Int32.ofNat mA)), .val (.int (Int32.ofNat mB)), .unset, .unset, .unset, .unset] [(.int q17), (.int q12), (.int (Int32.ofNat mA)), (.int q1), (.ref b52), (.ref b52)])) t_ → Steps p.tables e below (s₁.setTop (entryFrame m #[(.int rr), (.int dd), (.int sa), (.int sb), (.int mode)] maxLocals)) t_ := fun t_ k_ => s47 t_ (by
    show Steps p.tables e below (T44.setTop (mkF m 98 #[.val (.int rr), .val (.int dd), .val (.int sa), .val (.int sb), .val (.int mode), .val (.int q1), .val (.int q4), .val (.int q12), .val (.int q17), .val (.int vb_29), .val (.int vb_44), .val (.int (Int32.ofNat mA)), .val (.int (Int32.ofNat mB)), .unset, .unset, .unset, .unset] [])) t_
    refine st52 _ ?_
    show Steps p.tables e below (T52.setTop (mkF m 101 #[.val (.int rr), .val (.int dd), .val (.int sa), .val (.int sb), .val (.int mode), .val (.int q1), .val (.int q4), .val (.int q12), .val (.int q17), .val (.int vb_29), .val (.int vb_44), .val (.int (Int32.ofNat mA)), .val (.int (Int32.ofNat mB)), .unset, .unset, .unset, .unset] [(.ref b52)])) _
    refine XS.dup X52.here hx rfl (Jvm.hb hby at_101) rfl rfl ?_
    refine XS.iload X52.here hx rfl (Jvm.hb hby at_102) rfl ?_
    refine XS.iload X52.here hx rfl (Jvm.hb hby at_104) rfl ?_
    refine XS.iload X52.here hx rfl (Jvm.hb hby at_106) rfl ?_
    refine XS.iload X52.here hx rfl (Jvm.hb hby at_108) rfl ?_
    show Steps p.tables e below (T52.setTop (mkF m 110 #[.val (.int rr), .val (.int dd), .val (.int sa), .val (.int sb), .val (.int mode), .val (.int q1), .val (.int q4), .val (.int q12), .val (.int q17), .val (.int vb_29), .val (.int vb_44), .val (.int (Int32.ofNat mA)), .val (.int (Int32.ofNat mB)), .unset, .unset, .unset, .unset] [(.int q17), (.int q12), (.int (Int32.ofNat mA)), (.int q1), (.ref b52), (.ref b52)])) t_
    exact k_)
  have O57 : Old Z n0 h52 := (((OX.keep K29 all0).keep K44 all0).ext E52)
  have Zc58 : n0 ≤ h52.size := by omega
  obtain ⟨_, _, ⟨T59, L59, k59, n59⟩, -, X59, ⟨Lc59, hQ59, l59, y59, z59⟩, st59⟩ := Jvm.LawKit.callS X52 hx (y := (⟨"com/example/zastupnik/zastupnik/protocol/JipsEqualsPinLaw", "word", "(ICC)Ljava/lang/String;"⟩ : MethodName)) hown (mvT hZ (hw _ (List.mem_of_getElem? (i := 8) rfl))) (mvT hZ (hw _ (List.mem_of_getElem? (i := 9) rfl))) (mvT hZ (hw _ (List.mem_of_getElem? (i := 3) rfl))) (mvT hZ (hw _ (List.mem_of_getElem? (i := 10) rfl))) (by decide) (backOf (W := 3) (rmWord l Z a0 hw [] q12 q17 cst mA h52 n0 Zc58 I1 O57 (hcst : ¬ (cst = (0 : Int32))) (by omega) ((own_pr0 pr48) : ¬ (q12 < (0 : Int32))) ((own_pr1 pr48) : ¬ ((255 : Int32) < q12)) ((own_pr0 pr49) : ¬ (q17 < (0 : Int32))) ((own_pr1 pr49) : ¬ ((255 : Int32) < q17))) hZ (hw _ (List.mem_of_getElem? (i := 10) rfl)) (hw _ (List.mem_of_getElem? (i := 3) rfl)) (by decide) (by decide)) (g := (mkF m 110 #[.val (.int rr), .val (.int dd), .val (.int sa), .val (.int sb), .val (.int mode), .val (.int q1), .val (.int q4), .val (.int q12), .val (.int q17), .val (.int vb_29), .val (.int vb_44), .val (.int (Int32.ofNat mA)), .val (.int (Int32.ofNat mB)), .unset, .unset, .unset, .unset] [(.int q17), (.int q12), (.int (Int32.ofNat mA)), (.int q1), (.ref b52), (.ref b52)])) rfl (by rw [hml]; rfl) (argsL := [(.int (Int32.ofNat mA)), (.int q12), (.int q17)]) (rest := [(.int q1), (.ref b52), (.ref b52)]) (lenOf pd__ICC_Ljava_lang_String_ rfl) rfl (by show 2 * 0 + _ ≤ _; exact Nat.le_of_eq rfl) (Jvm.hb hby at_110) (fun _ _ => ⟨rfl, e52, (by decide : 1 + 3 ≤ _), (by decide : 2 + 8 ≤ _)⟩)
  dsimp only [Pt.U, Pt.locs, Pt.cells, Pt.slots] at X59 l59 y59 z59 st59 hQ59
  subst l59 y59 z59
  obtain ⟨a_59, b_59, kb_59, rfl, N59q, K59, Fq59_0, Fq59_1, Fq59_2, Fq59_3, P59_0, P59_1⟩ := hQ59
  have N59 := Fr.app N44 N59q
  obtain ⟨h59, e59⟩ : ∃ z, T59.heap = z := ⟨_, rfl⟩
  rw [e59] at K59 Fq59_0 Fq59_1 Fq59_2 Fq59_3
  have z60 : h52.size ≤ h59.size := K59.1
  have Cp60 : CHr Z ELs s.vm h52 s.vm h59 := CHr.keep K59 sf0 CR.1
  have hk := Nat.le_trans hk z60
  have CR := CR.trans Cp60
  have lt59_0 : @LT.lt Nat _ a_59 h59.size := Fq59_0.lt
  have lt59_3 : @LT.lt Nat _ b_59 h59.size := Fq59_3.lt
  have s61 : ∀ t_, Steps p.tables e below (T59.setTop (mkF m 113 #[.val (.int rr), .val (.int dd), .val (.int sa), .val (.int sb), .val (.int mode), .val (.int q1), .val (.int q4), .val (.int q12), .val (.int q17), .val (.int vb_29), .val (.int vb_44), .val (.int (Int32.ofNat mA)), .val (.int (Int32.ofNat mB)), .unset, .unset, .unset, .unset] [(.ref a_59), (.int q1), (.ref b52), (.ref b52)])) t_ → Steps p.tables e below (s₁.setTop (entryFrame m #[(.int rr), (.int dd), (.int sa), (.int sb), (.int mode)] maxLocals)) t_ := fun t_ k_ => s56 t_ (by
    show Steps p.tables e below (T52.setTop (mkF m 110 #[.val (.int rr), .val (.int dd), .val (.int sa), .val (.int sb), .val (.int mode), .val (.int q1), .val (.int q4), .val (.int q12), .val (.int q17), .val (.int vb_29), .val (.int vb_44), .val (.int (Int32.ofNat mA)), .val (.int (Int32.ofNat mB)), .unset, .unset, .unset, .unset] [(.int q17), (.int q12), (.int (Int32.ofNat mA)), (.int q1), (.ref b52), (.ref b52)])) t_
    refine st59 _ ?_
    show Steps p.tables e below (T59.setTop (mkF m 113 #[.val (.int rr), .val (.int dd), .val (.int sa), .val (.int sb), .val (.int mode), .val (.int q1), .val (.int q4), .val (.int q12), .val (.int q17), .val (.int vb_29), .val (.int vb_44), .val (.int (Int32.ofNat mA)), .val (.int (Int32.ofNat mB)), .unset, .unset, .unset, .unset] [(.ref a_59), (.int q1), (.ref b52), (.ref b52)])) _
    show Steps p.tables e below (T59.setTop (mkF m 113 #[.val (.int rr), .val (.int dd), .val (.int sa), .val (.int sb), .val (.int mode), .val (.int q1), .val (.int q4), .val (.int q12), .val (.int q17), .val (.int vb_29), .val (.int vb_44), .val (.int (Int32.ofNat mA)), .val (.int (Int32.ofNat mB)), .unset, .unset, .unset, .unset] [(.ref a_59), (.int q1), (.ref b52), (.ref b52)])) t_
    exact k_)
  have O62 : Old Z n0 h59 := (O57.keep K59 all0)
  have f63 : Exa Z h59 b52 "com/example/zastupnik/zastupnik/protocol/Jips" := (A52.keep K59)
  have f64 : Fld Z h59 b52 "com/example/zastupnik/zastupnik/protocol/Jips" "izvorReg" "I" (.int (0 : Int32)) := (F54.keep K59 nin0)
  have f65 : Fld Z h59 b52 "com/example/zastupnik/zastupnik/protocol/Jips" "ips" "Ljava/lang/String;" .null := (F55.keep K59 nin0)
  have Zc66 : n0 ≤ h59.size := by omega
  obtain ⟨_, _, ⟨T67, L67, k67, n67⟩, -, Xr67, hSr67, hg67, ⟨Lc67, hQ67, l67, y67, z67, Cp67⟩, st67⟩ := X59.specialBackS hx (y := (⟨"com/example/zastupnik/zastupnik/protocol/Jips", "<init>", "(ILjava/lang/String;)V"⟩ : MethodName)) rfl hown (mvT hZ (hw _ (List.mem_of_getElem? (i := 41) rfl))) (mvT hZ (hw _ (List.mem_of_getElem? (i := 42) rfl))) (mvT hZ (hw _ (List.mem_of_getElem? (i := 43) rfl))) (by decide) (backOfSH (s := s) (vm0 := s.vm) (W := 1) (rmJi l Z a0 hw [] b52 q1 a_59 cst b_59 kb_59 (own_mk2 mA q12 q17) fmt h59 n0 Zc66 I1 (hfmt : fmt.isRef = true) I2 O62 (hcst : ¬ (cst = (0 : Int32))) Fq59_0 Fq59_1 Fq59_2 Fq59_3 (own_mkl2 _ _ _) (own_mkchs2 (own_prc pr48) (own_prc pr49)) (own_mklat2 hmAl pr48 pr49) (own_mkne2 hmAl) (own_mkpr2 hmAl pr48 pr49) f63 f64 f65 (hr1 : ¬ (q1 < (0 : Int32))) (by first | assumption | rfl | decide | omega : n0 ≤ b52)) hZ (hw _ (List.mem_of_getElem? (i := 43) rfl)) (hw _ (List.mem_of_getElem? (i := 7) rfl)) (by decide) (by decide) hEL CR.1) (g := (mkF m 113 #[.val (.int rr), .val (.int dd), .val (.int sa), .val (.int sb), .val (.int mode), .val (.int q1), .val (.int q4), .val (.int q12), .val (.int q17), .val (.int vb_29), .val (.int vb_44), .val (.int (Int32.ofNat mA)), .val (.int (Int32.ofNat mB)), .unset, .unset, .unset, .unset] [(.ref a_59), (.int q1), (.ref b52), (.ref b52)])) rfl (by rw [hml]; rfl) (Steps.refl _) (a := b52) (argsL := [(.int q1), (.ref a_59)]) (rest := [(.ref b52)]) (lenOf pd__ILjava_lang_String__V rfl) rfl (by show 2 * 0 + _ ≤ _; exact Nat.le_of_eq rfl) (Jvm.hb hby at_113) (fun _ _ => ⟨rfl, e59, (by decide : 4 + 2 ≤ _), (by decide : 10 + 16 ≤ _)⟩)
  dsimp only [Pt.U, Pt.locs, Pt.cells, Pt.slots] at Xr67 hSr67 hg67 l67 y67 z67 st67 hQ67 Cp67
  subst l67 y67 z67
  obtain ⟨X67, hS, hZ, hown⟩ := rebS (own := "com/example/zastupnik/zastupnik/protocol/JipsEqualsPinLaw") hS (by first | exact Nat.le_refl _ | (rw [e59]; exact hk)) Xr67 hSr67 hg67 hZ hown
  obtain ⟨rfl, N67q, K67, Fq67_0, Fq67_1, Fq67_2⟩ := hQ67
  have N67 := Fr.app N59 N67q
  obtain ⟨h67, e67⟩ : ∃ z, T67.heap = z := ⟨_, rfl⟩
  rw [e67] at K67 Fq67_0 Fq67_1 Fq67_2 Cp67
  have hk : T67.heap.size ≤ h67.size := Nat.le_of_eq (congrArg Array.size e67)
  have z68 : h59.size ≤ h67.size := K67.1
  have CR := CR.trans Cp67
  have lt67_0 : @LT.lt Nat _ b52 h67.size := Fq67_0.lt
  obtain ⟨T69, h69, X69, e69, E69, A69, D69, -, st69⟩ := newO X67 hx hZ hown (hw _ (List.mem_of_getElem? (i := 5) rfl)) (hw _ (List.mem_of_getElem? (i := 6) rfl)) (hw _ (List.mem_of_getElem? (i := 7) rfl)) e67 (g := (mkF m 118 #[.val (.int rr), .val (.int dd), .val (.int sa), .val (.int sb), .val (.int mode), .val (.int q1), .val (.int q4), .val (.int q12), .val (.int q17), .val (.int vb_29), .val (.int vb_44), .val (.int (Int32.ofNat mA)), .val (.int (Int32.ofNat mB)), .val (.ref b52), .unset, .unset, .unset] [])) rfl (Jvm.hb hby at_118) (by decide) (by decide)
  obtain ⟨b69, g69⟩ : ∃ z, z = h67.size := ⟨_, rfl⟩
  rw [← g69] at A69 D69 st69
  have z70 : h67.size ≤ h69.size := E69.1
  have Cp70 : CHr Z ELs T67.vm h67 T67.vm h69 := CHr.ext E69 CR.1
  have hk := Nat.le_trans hk z70
  have CR := CR.trans Cp70
  have l69 : b69 < h69.size := A69.lt
  have F71 : Fld Z h69 b69 "com/example/zastupnik/zastupnik/protocol/Jips" "izvorReg" "I" (.int (0 : Int32)) := D69 (Or.inr (hw _ (List.mem_of_getElem? (i := 93) rfl))) (ty := .int) (by decide)
  have F72 : Fld Z h69 b69 "com/example/zastupnik/zastupnik/protocol/Jips" "ips" "Ljava/lang/String;" .null := D69 (Or.inr (hw _ (List.mem_of_getElem? (i := 95) rfl))) (ty := (.object "java/lang/String")) (by decide)
  have s73 : ∀ t_, Steps p.tables e below (T69.setTop (mkF m 130 #[.val (.int rr), .val (.int dd), .val (.int sa), .val (.int sb), .val (.int mode), .val (.int q1), .val (.int q4), .val (.int q12), .val (.int q17), .val (.int vb_29), .val (.int vb_44), .val (.int (Int32.ofNat mA)), .val (.int (Int32.ofNat mB)), .val (.ref b52), .unset, .unset, .unset] [(.int vb_44), (.int vb_29), (.int (Int32.ofNat mB)), (.int q4), (.ref b69), (.ref b69)])) t_ → Steps p.tables e below (s₁.setTop (entryFrame m #[(.int rr), (.int dd), (.int sa), (.int sb), (.int mode)] maxLocals)) t_ := fun t_ k_ => s61 t_ (by
    show Steps p.tables e below (T59.setTop (mkF m 113 #[.val (.int rr), .val (.int dd), .val (.int sa), .val (.int sb), .val (.int mode), .val (.int q1), .val (.int q4), .val (.int q12), .val (.int q17), .val (.int vb_29), .val (.int vb_44), .val (.int (Int32.ofNat mA)), .val (.int (Int32.ofNat mB)), .unset, .unset, .unset, .unset] [(.ref a_59), (.int q1), (.ref b52), (.ref b52)])) t_
    refine st67.trans ?_
    show Steps p.tables e below (T67.setTop (mkF m 116 #[.val (.int rr), .val (.int dd), .val (.int sa), .val (.int sb), .val (.int mode), .val (.int q1), .val (.int q4), .val (.int q12), .val (.int q17), .val (.int vb_29), .val (.int vb_44), .val (.int (Int32.ofNat mA)), .val (.int (Int32.ofNat mB)), .unset, .unset, .unset, .unset] [(.ref b52)])) _
    refine XS.astore X67.here hx rfl (Jvm.hb hby at_116) rfl rfl (l' := #[.val (.int rr), .val (.int dd), .val (.int sa), .val (.int sb), .val (.int mode), .val (.int q1), .val (.int q4), .val (.int q12), .val (.int q17), .val (.int vb_29), .val (.int vb_44), .val (.int (Int32.ofNat mA)), .val (.int (Int32.ofNat mB)), .val (.ref b52), .unset, .unset, .unset]) rfl ?_
    refine st69 _ ?_
    show Steps p.tables e below (T69.setTop (mkF m 121 #[.val (.int rr), .val (.int dd), .val (.int sa), .val (.int sb), .val (.int mode), .val (.int q1), .val (.int q4), .val (.int q12), .val (.int q17), .val (.int vb_29), .val (.int vb_44), .val (.int (Int32.ofNat mA)), .val (.int (Int32.ofNat mB)), .val (.ref b52), .unset, .unset, .unset] [(.ref b69)])) _
    refine XS.dup X69.here hx rfl (Jvm.hb hby at_121) rfl rfl ?_
    refine XS.iload X69.here hx rfl (Jvm.hb hby at_122) rfl ?_
    refine XS.iload X69.here hx rfl (Jvm.hb hby at_124) rfl ?_
    refine XS.iload X69.here hx rfl (Jvm.hb hby at_126) rfl ?_
    refine XS.iload X69.here hx rfl (Jvm.hb hby at_128) rfl ?_
    show Steps p.tables e below (T69.setTop (mkF m 130 #[.val (.int rr), .val (.int dd), .val (.int sa), .val (.int sb), .val (.int mode), .val (.int q1), .val (.int q4), .val (.int q12), .val (.int q17), .val (.int vb_29), .val (.int vb_44), .val (.int (Int32.ofNat mA)), .val (.int (Int32.ofNat mB)), .val (.ref b52), .unset, .unset, .unset] [(.int vb_44), (.int vb_29), (.int (Int32.ofNat mB)), (.int q4), (.ref b69), (.ref b69)])) t_
    exact k_)
  have O74 : Old Z n0 h69 := ((O62.keep K67 (allS (show n0 ≤ b52 by omega) all0)).ext E69)
  have Zc75 : n0 ≤ h69.size := by omega
  obtain ⟨_, _, ⟨T76, L76, k76, n76⟩, -, X76, ⟨Lc76, hQ76, l76, y76, z76⟩, st76⟩ := Jvm.LawKit.callS X69 hx (y := (⟨"com/example/zastupnik/zastupnik/protocol/JipsEqualsPinLaw", "word", "(ICC)Ljava/lang/String;"⟩ : MethodName)) hown (mvT hZ (hw _ (List.mem_of_getElem? (i := 8) rfl))) (mvT hZ (hw _ (List.mem_of_getElem? (i := 9) rfl))) (mvT hZ (hw _ (List.mem_of_getElem? (i := 3) rfl))) (mvT hZ (hw _ (List.mem_of_getElem? (i := 10) rfl))) (by decide) (backOf (W := 3) (rmWord l Z a0 hw [] vb_29 vb_44 cst mB h69 n0 Zc75 I1 O74 (hcst : ¬ (cst = (0 : Int32))) (by omega) ((own_pr0 J29_0) : ¬ (vb_29 < (0 : Int32))) ((own_pr1 J29_0) : ¬ ((255 : Int32) < vb_29)) ((own_pr0 J44_0) : ¬ (vb_44 < (0 : Int32))) ((own_pr1 J44_0) : ¬ ((255 : Int32) < vb_44))) hZ (hw _ (List.mem_of_getElem? (i := 10) rfl)) (hw _ (List.mem_of_getElem? (i := 3) rfl)) (by decide) (by decide)) (g := (mkF m 130 #[.val (.int rr), .val (.int dd), .val (.int sa), .val (.int sb), .val (.int mode), .val (.int q1), .val (.int q4), .val (.int q12), .val (.int q17), .val (.int vb_29), .val (.int vb_44), .val (.int (Int32.ofNat mA)), .val (.int (Int32.ofNat mB)), .val (.ref b52), .unset, .unset, .unset] [(.int vb_44), (.int vb_29), (.int (Int32.ofNat mB)), (.int q4), (.ref b69), (.ref b69)])) rfl (by rw [hml]; rfl) (argsL := [(.int (Int32.ofNat mB)), (.int vb_29), (.int vb_44)]) (rest := [(.int q4), (.ref b69), (.ref b69)]) (lenOf pd__ICC_Ljava_lang_String_ rfl) rfl (by show 2 * 0 + _ ≤ _; exact Nat.le_of_eq rfl) (Jvm.hb hby at_130) (fun _ _ => ⟨rfl, e69, (by decide : 7 + 3 ≤ _), (by decide : 28 + 8 ≤ _)⟩)
  dsimp only [Pt.U, Pt.locs, Pt.cells, Pt.slots] at X76 l76 y76 z76 st76 hQ76
  subst l76 y76 z76
  obtain ⟨a_76, b_76, kb_76, rfl, N76q, K76, Fq76_0, Fq76_1, Fq76_2, Fq76_3, P76_0, P76_1⟩ := hQ76
  have N76 := Fr.app N67 N76q
  obtain ⟨h76, e76⟩ : ∃ z, T76.heap = z := ⟨_, rfl⟩
  rw [e76] at K76 Fq76_0 Fq76_1 Fq76_2 Fq76_3
  have z77 : h69.size ≤ h76.size := K76.1
  have Cp77 : CHr Z ELs T67.vm h69 T67.vm h76 := CHr.keep K76 sf0 CR.1
  have hk := Nat.le_trans hk z77
  have CR := CR.trans Cp77
  have lt76_0 : @LT.lt Nat _ a_76 h76.size := Fq76_0.lt
  have lt76_3 : @LT.lt Nat _ b_76 h76.size := Fq76_3.lt
  have s78 : ∀ t_, Steps p.tables e below (T76.setTop (mkF m 133 #[.val (.int rr), .val (.int dd), .val (.int sa), .val (.int sb), .val (.int mode), .val (.int q1), .val (.int q4), .val (.int q12), .val (.int q17), .val (.int vb_29), .val (.int vb_44), .val (.int (Int32.ofNat mA)), .val (.int (Int32.ofNat mB)), .val (.ref b52), .unset, .unset, .unset] [(.ref a_76), (.int q4), (.ref b69), (.ref b69)])) t_ → Steps p.tables e below (s₁.setTop (entryFrame m #[(.int rr), (.int dd), (.int sa), (.int sb), (.int mode)] maxLocals)) t_ := fun t_ k_ => s73 t_ (by
    show Steps p.tables e below (T69.setTop (mkF m 130 #[.val (.int rr), .val (.int dd), .val (.int sa), .val (.int sb), .val (.int mode), .val (.int q1), .val (.int q4), .val (.int q12), .val (.int q17), .val (.int vb_29), .val (.int vb_44), .val (.int (Int32.ofNat mA)), .val (.int (Int32.ofNat mB)), .val (.ref b52), .unset, .unset, .unset] [(.int vb_44), (.int vb_29), (.int (Int32.ofNat mB)), (.int q4), (.ref b69), (.ref b69)])) t_
    refine st76 _ ?_
    show Steps p.tables e below (T76.setTop (mkF m 133 #[.val (.int rr), .val (.int dd), .val (.int sa), .val (.int sb), .val (.int mode), .val (.int q1), .val (.int q4), .val (.int q12), .val (.int q17), .val (.int vb_29), .val (.int vb_44), .val (.int (Int32.ofNat mA)), .val (.int (Int32.ofNat mB)), .val (.ref b52), .unset, .unset, .unset] [(.ref a_76), (.int q4), (.ref b69), (.ref b69)])) _
    show Steps p.tables e below (T76.setTop (mkF m 133 #[.val (.int rr), .val (.int dd), .val (.int sa), .val (.int sb), .val (.int mode), .val (.int q1), .val (.int q4), .val (.int q12), .val (.int q17), .val (.int vb_29), .val (.int vb_44), .val (.int (Int32.ofNat mA)), .val (.int (Int32.ofNat mB)), .val (.ref b52), .unset, .unset, .unset] [(.ref a_76), (.int q4), (.ref b69), (.ref b69)])) t_
    exact k_)
  have O79 : Old Z n0 h76 := (O74.keep K76 all0)
  have f80 : Exa Z h76 b69 "com/example/zastupnik/zastupnik/protocol/Jips" := (A69.keep K76)
  have f81 : Fld Z h76 b69 "com/example/zastupnik/zastupnik/protocol/Jips" "izvorReg" "I" (.int (0 : Int32)) := (F71.keep K76 nin0)
  have f82 : Fld Z h76 b69 "com/example/zastupnik/zastupnik/protocol/Jips" "ips" "Ljava/lang/String;" .null := (F72.keep K76 nin0)
  have Zc83 : n0 ≤ h76.size := by omega
  obtain ⟨_, _, ⟨T84, L84, k84, n84⟩, -, Xr84, hSr84, hg84, ⟨Lc84, hQ84, l84, y84, z84, Cp84⟩, st84⟩ := X76.specialBackS hx (y := (⟨"com/example/zastupnik/zastupnik/protocol/Jips", "<init>", "(ILjava/lang/String;)V"⟩ : MethodName)) rfl hown (mvT hZ (hw _ (List.mem_of_getElem? (i := 41) rfl))) (mvT hZ (hw _ (List.mem_of_getElem? (i := 42) rfl))) (mvT hZ (hw _ (List.mem_of_getElem? (i := 43) rfl))) (by decide) (backOfSH (s := s) (vm0 := T67.vm) (W := 1) (rmJi l Z a0 hw [] b69 q4 a_76 cst b_76 kb_76 (own_mk2 mB vb_29 vb_44) fmt h76 n0 Zc83 I1 (hfmt : fmt.isRef = true) I2 O79 (hcst : ¬ (cst = (0 : Int32))) Fq76_0 Fq76_1 Fq76_2 Fq76_3 (own_mkl2 _ _ _) (own_mkchs2 (own_prc J29_0) (own_prc J44_0)) (own_mklat2 hmBl J29_0 J44_0) (own_mkne2 hmBl) (own_mkpr2 hmBl J29_0 J44_0) f80 f81 f82 (hr2 : ¬ (q4 < (0 : Int32))) (by first | assumption | rfl | decide | omega : n0 ≤ b69)) hZ (hw _ (List.mem_of_getElem? (i := 43) rfl)) (hw _ (List.mem_of_getElem? (i := 7) rfl)) (by decide) (by decide) hEL CR.1) (g := (mkF m 133 #[.val (.int rr), .val (.int dd), .val (.int sa), .val (.int sb), .val (.int mode), .val (.int q1), .val (.int q4), .val (.int q12), .val (.int q17), .val (.int vb_29), .val (.int vb_44), .val (.int (Int32.ofNat mA)), .val (.int (Int32.ofNat mB)), .val (.ref b52), .unset, .unset, .unset] [(.ref a_76), (.int q4), (.ref b69), (.ref b69)])) rfl (by rw [hml]; rfl) (Steps.refl _) (a := b69) (argsL := [(.int q4), (.ref a_76)]) (rest := [(.ref b69)]) (lenOf pd__ILjava_lang_String__V rfl) rfl (by show 2 * 0 + _ ≤ _; exact Nat.le_of_eq rfl) (Jvm.hb hby at_133) (fun _ _ => ⟨rfl, e76, (by decide : 10 + 2 ≤ _), (by decide : 36 + 16 ≤ _)⟩)
  dsimp only [Pt.U, Pt.locs, Pt.cells, Pt.slots] at Xr84 hSr84 hg84 l84 y84 z84 st84 hQ84 Cp84
  subst l84 y84 z84
  obtain ⟨X84, hS, hZ, hown⟩ := rebS (own := "com/example/zastupnik/zastupnik/protocol/JipsEqualsPinLaw") hS (by first | exact Nat.le_refl _ | (rw [e76]; exact hk)) Xr84 hSr84 hg84 hZ hown
  obtain ⟨rfl, N84q, K84, Fq84_0, Fq84_1, Fq84_2⟩ := hQ84
  have N84 := Fr.app N76 N84q
  obtain ⟨h84, e84⟩ : ∃ z, T84.heap = z := ⟨_, rfl⟩
  rw [e84] at K84 Fq84_0 Fq84_1 Fq84_2 Cp84
  have hk : T84.heap.size ≤ h84.size := Nat.le_of_eq (congrArg Array.size e84)
  have z85 : h76.size ≤ h84.size := K84.1
  have CR := CR.trans Cp84
  have lt84_0 : @LT.lt Nat _ b69 h84.size := Fq84_0.lt
  have s86 : ∀ t_, Steps p.tables e below (T84.setTop (mkF m 142 #[.val (.int rr), .val (.int dd), .val (.int sa), .val (.int sb), .val (.int mode), .val (.int q1), .val (.int q4), .val (.int q12), .val (.int q17), .val (.int vb_29), .val (.int vb_44), .val (.int (Int32.ofNat mA)), .val (.int (Int32.ofNat mB)), .val (.ref b52), .val (.ref b69), .unset, .unset] [(.int q4), (.int q1)])) t_ → Steps p.tables e below (s₁.setTop (entryFrame m #[(.int rr), (.int dd), (.int sa), (.int sb), (.int mode)] maxLocals)) t_ := fun t_ k_ => s78 t_ (by
    show Steps p.tables e below (T76.setTop (mkF m 133 #[.val (.int rr), .val (.int dd), .val (.int sa), .val (.int sb), .val (.int mode), .val (.int q1), .val (.int q4), .val (.int q12), .val (.int q17), .val (.int vb_29), .val (.int vb_44), .val (.int (Int32.ofNat mA)), .val (.int (Int32.ofNat mB)), .val (.ref b52), .unset, .unset, .unset] [(.ref a_76), (.int q4), (.ref b69), (.ref b69)])) t_
    refine st84.trans ?_
    show Steps p.tables e below (T84.setTop (mkF m 136 #[.val (.int rr), .val (.int dd), .val (.int sa), .val (.int sb), .val (.int mode), .val (.int q1), .val (.int q4), .val (.int q12), .val (.int q17), .val (.int vb_29), .val (.int vb_44), .val (.int (Int32.ofNat mA)), .val (.int (Int32.ofNat mB)), .val (.ref b52), .unset, .unset, .unset] [(.ref b69)])) _
    refine XS.astore X84.here hx rfl (Jvm.hb hby at_136) rfl rfl (l' := #[.val (.int rr), .val (.int dd), .val (.int sa), .val (.int sb), .val (.int mode), .val (.int q1), .val (.int q4), .val (.int q12), .val (.int q17), .val (.int vb_29), .val (.int vb_44), .val (.int (Int32.ofNat mA)), .val (.int (Int32.ofNat mB)), .val (.ref b52), .val (.ref b69), .unset, .unset]) rfl ?_
    refine XS.iload X84.here hx rfl (Jvm.hb hby at_138) rfl ?_
    refine XS.iload X84.here hx rfl (Jvm.hb hby at_140) rfl ?_
    show Steps p.tables e below (T84.setTop (mkF m 142 #[.val (.int rr), .val (.int dd), .val (.int sa), .val (.int sb), .val (.int mode), .val (.int q1), .val (.int q4), .val (.int q12), .val (.int q17), .val (.int vb_29), .val (.int vb_44), .val (.int (Int32.ofNat mA)), .val (.int (Int32.ofNat mB)), .val (.ref b52), .val (.ref b69), .unset, .unset] [(.int q4), (.int q1)])) t_
    exact k_)
  obtain ⟨q87, hq87⟩ : ∃ z : Int32, z = (if q1 = q4 then (if (Int32.ofNat mA) = (Int32.ofNat mB) then (if q12 = vb_29 then (if (Int32.ofNat mA) = (1 : Int32) then (1 : Int32) else (if q17 = vb_44 then (1 : Int32) else (0 : Int32))) else (0 : Int32)) else (0 : Int32)) else (0 : Int32)) := ⟨_, rfl⟩
  obtain ⟨T88, X88, e88, s88⟩ := seg X84 (fun T' => T'.heap = h84 ∧ ∀ t_, Steps p.tables e below (T'.setTop (mkF m 177 #[.val (.int rr), .val (.int dd), .val (.int sa), .val (.int sb), .val (.int mode), .val (.int q1), .val (.int q4), .val (.int q12), .val (.int q17), .val (.int vb_29), .val (.int vb_44), .val (.int (Int32.ofNat mA)), .val (.int (Int32.ofNat mB)), .val (.ref b52), .val (.ref b69), .unset, .unset] [(.int q87)])) t_ → Steps p.tables e below (s₁.setTop (entryFrame m #[(.int rr), (.int dd), (.int sa), (.int sb), (.int mode)] maxLocals)) t_) (by
    by_cases h89 : q1 = q4
    · have s90 : ∀ t_, Steps p.tables e below (T84.setTop (mkF m 149 #[.val (.int rr), .val (.int dd), .val (.int sa), .val (.int sb), .val (.int mode), .val (.int q1), .val (.int q4), .val (.int q12), .val (.int q17), .val (.int vb_29), .val (.int vb_44), .val (.int (Int32.ofNat mA)), .val (.int (Int32.ofNat mB)), .val (.ref b52), .val (.ref b69), .unset, .unset] [(.int (Int32.ofNat mB)), (.int (Int32.ofNat mA))])) t_ → Steps p.tables e below (s₁.setTop (entryFrame m #[(.int rr), (.int dd), (.int sa), (.int sb), (.int mode)] maxLocals)) t_ := fun t_ k_ => s86 t_ (by
        show Steps p.tables e below (T84.setTop (mkF m 142 #[.val (.int rr), .val (.int dd), .val (.int sa), .val (.int sb), .val (.int mode), .val (.int q1), .val (.int q4), .val (.int q12), .val (.int q17), .val (.int vb_29), .val (.int vb_44), .val (.int (Int32.ofNat mA)), .val (.int (Int32.ofNat mB)), .val (.ref b52), .val (.ref b69), .unset, .unset] [(.int q4), (.int q1)])) t_
        refine XS.icmpNo X84.here hx rfl (Jvm.hb hby at_142) rfl (teq h89).2 ?_
        show Steps p.tables e below (T84.setTop (mkF m 145 #[.val (.int rr), .val (.int dd), .val (.int sa), .val (.int sb), .val (.int mode), .val (.int q1), .val (.int q4), .val (.int q12), .val (.int q17), .val (.int vb_29), .val (.int vb_44), .val (.int (Int32.ofNat mA)), .val (.int (Int32.ofNat mB)), .val (.ref b52), .val (.ref b69), .unset, .unset] [])) _
        refine XS.iload X84.here hx rfl (Jvm.hb hby at_145) rfl ?_
        refine XS.iload X84.here hx rfl (Jvm.hb hby at_147) rfl ?_
        show Steps p.tables e below (T84.setTop (mkF m 149 #[.val (.int rr), .val (.int dd), .val (.int sa), .val (.int sb), .val (.int mode), .val (.int q1), .val (.int q4), .val (.int q12), .val (.int q17), .val (.int vb_29), .val (.int vb_44), .val (.int (Int32.ofNat mA)), .val (.int (Int32.ofNat mB)), .val (.ref b52), .val (.ref b69), .unset, .unset] [(.int (Int32.ofNat mB)), (.int (Int32.ofNat mA))])) t_
        exact k_)
      by_cases h91 : (Int32.ofNat mA) = (Int32.ofNat mB)
      · have s92 : ∀ t_, Steps p.tables e below (T84.setTop (mkF m 156 #[.val (.int rr), .val (.int dd), .val (.int sa), .val (.int sb), .val (.int mode), .val (.int q1), .val (.int q4), .val (.int q12), .val (.int q17), .val (.int vb_29), .val (.int vb_44), .val (.int (Int32.ofNat mA)), .val (.int (Int32.ofNat mB)), .val (.ref b52), .val (.ref b69), .unset, .unset] [(.int vb_29), (.int q12)])) t_ → Steps p.tables e below (s₁.setTop (entryFrame m #[(.int rr), (.int dd), (.int sa), (.int sb), (.int mode)] maxLocals)) t_ := fun t_ k_ => s90 t_ (by
          show Steps p.tables e below (T84.setTop (mkF m 149 #[.val (.int rr), .val (.int dd), .val (.int sa), .val (.int sb), .val (.int mode), .val (.int q1), .val (.int q4), .val (.int q12), .val (.int q17), .val (.int vb_29), .val (.int vb_44), .val (.int (Int32.ofNat mA)), .val (.int (Int32.ofNat mB)), .val (.ref b52), .val (.ref b69), .unset, .unset] [(.int (Int32.ofNat mB)), (.int (Int32.ofNat mA))])) t_
          refine XS.icmpNo X84.here hx rfl (Jvm.hb hby at_149) rfl (teq h91).2 ?_
          show Steps p.tables e below (T84.setTop (mkF m 152 #[.val (.int rr), .val (.int dd), .val (.int sa), .val (.int sb), .val (.int mode), .val (.int q1), .val (.int q4), .val (.int q12), .val (.int q17), .val (.int vb_29), .val (.int vb_44), .val (.int (Int32.ofNat mA)), .val (.int (Int32.ofNat mB)), .val (.ref b52), .val (.ref b69), .unset, .unset] [])) _
          refine XS.iload X84.here hx rfl (Jvm.hb hby at_152) rfl ?_
          refine XS.iload X84.here hx rfl (Jvm.hb hby at_154) rfl ?_
          show Steps p.tables e below (T84.setTop (mkF m 156 #[.val (.int rr), .val (.int dd), .val (.int sa), .val (.int sb), .val (.int mode), .val (.int q1), .val (.int q4), .val (.int q12), .val (.int q17), .val (.int vb_29), .val (.int vb_44), .val (.int (Int32.ofNat mA)), .val (.int (Int32.ofNat mB)), .val (.ref b52), .val (.ref b69), .unset, .unset] [(.int vb_29), (.int q12)])) t_
          exact k_)
        by_cases h93 : q12 = vb_29
        · have s94 : ∀ t_, Steps p.tables e below (T84.setTop (mkF m 162 #[.val (.int rr), .val (.int dd), .val (.int sa), .val (.int sb), .val (.int mode), .val (.int q1), .val (.int q4), .val (.int q12), .val (.int q17), .val (.int vb_29), .val (.int vb_44), .val (.int (Int32.ofNat mA)), .val (.int (Int32.ofNat mB)), .val (.ref b52), .val (.ref b69), .unset, .unset] [(.int (1 : Int32)), (.int (Int32.ofNat mA))])) t_ → Steps p.tables e below (s₁.setTop (entryFrame m #[(.int rr), (.int dd), (.int sa), (.int sb), (.int mode)] maxLocals)) t_ := fun t_ k_ => s92 t_ (by
            show Steps p.tables e below (T84.setTop (mkF m 156 #[.val (.int rr), .val (.int dd), .val (.int sa), .val (.int sb), .val (.int mode), .val (.int q1), .val (.int q4), .val (.int q12), .val (.int q17), .val (.int vb_29), .val (.int vb_44), .val (.int (Int32.ofNat mA)), .val (.int (Int32.ofNat mB)), .val (.ref b52), .val (.ref b69), .unset, .unset] [(.int vb_29), (.int q12)])) t_
            refine XS.icmpNo X84.here hx rfl (Jvm.hb hby at_156) rfl (teq h93).2 ?_
            show Steps p.tables e below (T84.setTop (mkF m 159 #[.val (.int rr), .val (.int dd), .val (.int sa), .val (.int sb), .val (.int mode), .val (.int q1), .val (.int q4), .val (.int q12), .val (.int q17), .val (.int vb_29), .val (.int vb_44), .val (.int (Int32.ofNat mA)), .val (.int (Int32.ofNat mB)), .val (.ref b52), .val (.ref b69), .unset, .unset] [])) _
            refine XS.iload X84.here hx rfl (Jvm.hb hby at_159) rfl ?_
            refine XS.iconst X84.here hx rfl (Jvm.hb hby at_161) ?_
            show Steps p.tables e below (T84.setTop (mkF m 162 #[.val (.int rr), .val (.int dd), .val (.int sa), .val (.int sb), .val (.int mode), .val (.int q1), .val (.int q4), .val (.int q12), .val (.int q17), .val (.int vb_29), .val (.int vb_44), .val (.int (Int32.ofNat mA)), .val (.int (Int32.ofNat mB)), .val (.ref b52), .val (.ref b69), .unset, .unset] [(.int (1 : Int32)), (.int (Int32.ofNat mA))])) t_
            exact k_)
          by_cases h95 : (Int32.ofNat mA) = (1 : Int32)
          · have s96 : ∀ t_, Steps p.tables e below (T84.setTop (mkF m 177 #[.val (.int rr), .val (.int dd), .val (.int sa), .val (.int sb), .val (.int mode), .val (.int q1), .val (.int q4), .val (.int q12), .val (.int q17), .val (.int vb_29), .val (.int vb_44), .val (.int (Int32.ofNat mA)), .val (.int (Int32.ofNat mB)), .val (.ref b52), .val (.ref b69), .unset, .unset] [(.int (1 : Int32))])) t_ → Steps p.tables e below (s₁.setTop (entryFrame m #[(.int rr), (.int dd), (.int sa), (.int sb), (.int mode)] maxLocals)) t_ := fun t_ k_ => s94 t_ (by
              show Steps p.tables e below (T84.setTop (mkF m 162 #[.val (.int rr), .val (.int dd), .val (.int sa), .val (.int sb), .val (.int mode), .val (.int q1), .val (.int q4), .val (.int q12), .val (.int q17), .val (.int vb_29), .val (.int vb_44), .val (.int (Int32.ofNat mA)), .val (.int (Int32.ofNat mB)), .val (.ref b52), .val (.ref b69), .unset, .unset] [(.int (1 : Int32)), (.int (Int32.ofNat mA))])) t_
              refine XS.icmpYes X84.here hx rfl (pc0 := 162) (pc' := 172) rfl (Jvm.hb hby at_162) rfl (teq h95).1 (by decide) (by decide) ?_
              show Steps p.tables e below (T84.setTop (mkF m 172 #[.val (.int rr), .val (.int dd), .val (.int sa), .val (.int sb), .val (.int mode), .val (.int q1), .val (.int q4), .val (.int q12), .val (.int q17), .val (.int vb_29), .val (.int vb_44), .val (.int (Int32.ofNat mA)), .val (.int (Int32.ofNat mB)), .val (.ref b52), .val (.ref b69), .unset, .unset] [])) _
              refine XS.iconst X84.here hx rfl (Jvm.hb hby at_172) ?_
              refine XS.goto X84.here hx rfl (pc0 := 173) (pc' := 177) rfl (Jvm.hb hby at_173) (by decide) (by decide) ?_
              show Steps p.tables e below (T84.setTop (mkF m 177 #[.val (.int rr), .val (.int dd), .val (.int sa), .val (.int sb), .val (.int mode), .val (.int q1), .val (.int q4), .val (.int q12), .val (.int q17), .val (.int vb_29), .val (.int vb_44), .val (.int (Int32.ofNat mA)), .val (.int (Int32.ofNat mB)), .val (.ref b52), .val (.ref b69), .unset, .unset] [(.int (1 : Int32))])) t_
              exact k_)
            exact ⟨T84, X84, e84, fun t_ k_ => s96 t_ (castTop (by simp only [hq87, if_pos h89, if_pos h91, if_pos h93, if_pos h95]) k_)⟩
          · have s97 : ∀ t_, Steps p.tables e below (T84.setTop (mkF m 169 #[.val (.int rr), .val (.int dd), .val (.int sa), .val (.int sb), .val (.int mode), .val (.int q1), .val (.int q4), .val (.int q12), .val (.int q17), .val (.int vb_29), .val (.int vb_44), .val (.int (Int32.ofNat mA)), .val (.int (Int32.ofNat mB)), .val (.ref b52), .val (.ref b69), .unset, .unset] [(.int vb_44), (.int q17)])) t_ → Steps p.tables e below (s₁.setTop (entryFrame m #[(.int rr), (.int dd), (.int sa), (.int sb), (.int mode)] maxLocals)) t_ := fun t_ k_ => s94 t_ (by
              show Steps p.tables e below (T84.setTop (mkF m 162 #[.val (.int rr), .val (.int dd), .val (.int sa), .val (.int sb), .val (.int mode), .val (.int q1), .val (.int q4), .val (.int q12), .val (.int q17), .val (.int vb_29), .val (.int vb_44), .val (.int (Int32.ofNat mA)), .val (.int (Int32.ofNat mB)), .val (.ref b52), .val (.ref b69), .unset, .unset] [(.int (1 : Int32)), (.int (Int32.ofNat mA))])) t_
              refine XS.icmpNo X84.here hx rfl (Jvm.hb hby at_162) rfl (feq h95).1 ?_
              show Steps p.tables e below (T84.setTop (mkF m 165 #[.val (.int rr), .val (.int dd), .val (.int sa), .val (.int sb), .val (.int mode), .val (.int q1), .val (.int q4), .val (.int q12), .val (.int q17), .val (.int vb_29), .val (.int vb_44), .val (.int (Int32.ofNat mA)), .val (.int (Int32.ofNat mB)), .val (.ref b52), .val (.ref b69), .unset, .unset] [])) _
              refine XS.iload X84.here hx rfl (Jvm.hb hby at_165) rfl ?_
              refine XS.iload X84.here hx rfl (Jvm.hb hby at_167) rfl ?_
              show Steps p.tables e below (T84.setTop (mkF m 169 #[.val (.int rr), .val (.int dd), .val (.int sa), .val (.int sb), .val (.int mode), .val (.int q1), .val (.int q4), .val (.int q12), .val (.int q17), .val (.int vb_29), .val (.int vb_44), .val (.int (Int32.ofNat mA)), .val (.int (Int32.ofNat mB)), .val (.ref b52), .val (.ref b69), .unset, .unset] [(.int vb_44), (.int q17)])) t_
              exact k_)
            by_cases h98 : q17 = vb_44
            · have s99 : ∀ t_, Steps p.tables e below (T84.setTop (mkF m 177 #[.val (.int rr), .val (.int dd), .val (.int sa), .val (.int sb), .val (.int mode), .val (.int q1), .val (.int q4), .val (.int q12), .val (.int q17), .val (.int vb_29), .val (.int vb_44), .val (.int (Int32.ofNat mA)), .val (.int (Int32.ofNat mB)), .val (.ref b52), .val (.ref b69), .unset, .unset] [(.int (1 : Int32))])) t_ → Steps p.tables e below (s₁.setTop (entryFrame m #[(.int rr), (.int dd), (.int sa), (.int sb), (.int mode)] maxLocals)) t_ := fun t_ k_ => s97 t_ (by
                show Steps p.tables e below (T84.setTop (mkF m 169 #[.val (.int rr), .val (.int dd), .val (.int sa), .val (.int sb), .val (.int mode), .val (.int q1), .val (.int q4), .val (.int q12), .val (.int q17), .val (.int vb_29), .val (.int vb_44), .val (.int (Int32.ofNat mA)), .val (.int (Int32.ofNat mB)), .val (.ref b52), .val (.ref b69), .unset, .unset] [(.int vb_44), (.int q17)])) t_
                refine XS.icmpNo X84.here hx rfl (Jvm.hb hby at_169) rfl (teq h98).2 ?_
                show Steps p.tables e below (T84.setTop (mkF m 172 #[.val (.int rr), .val (.int dd), .val (.int sa), .val (.int sb), .val (.int mode), .val (.int q1), .val (.int q4), .val (.int q12), .val (.int q17), .val (.int vb_29), .val (.int vb_44), .val (.int (Int32.ofNat mA)), .val (.int (Int32.ofNat mB)), .val (.ref b52), .val (.ref b69), .unset, .unset] [])) _
                refine XS.iconst X84.here hx rfl (Jvm.hb hby at_172) ?_
                refine XS.goto X84.here hx rfl (pc0 := 173) (pc' := 177) rfl (Jvm.hb hby at_173) (by decide) (by decide) ?_
                show Steps p.tables e below (T84.setTop (mkF m 177 #[.val (.int rr), .val (.int dd), .val (.int sa), .val (.int sb), .val (.int mode), .val (.int q1), .val (.int q4), .val (.int q12), .val (.int q17), .val (.int vb_29), .val (.int vb_44), .val (.int (Int32.ofNat mA)), .val (.int (Int32.ofNat mB)), .val (.ref b52), .val (.ref b69), .unset, .unset] [(.int (1 : Int32))])) t_
                exact k_)
              exact ⟨T84, X84, e84, fun t_ k_ => s99 t_ (castTop (by simp only [hq87, if_pos h89, if_pos h91, if_pos h93, if_neg h95, if_pos h98]) k_)⟩
            · have s100 : ∀ t_, Steps p.tables e below (T84.setTop (mkF m 177 #[.val (.int rr), .val (.int dd), .val (.int sa), .val (.int sb), .val (.int mode), .val (.int q1), .val (.int q4), .val (.int q12), .val (.int q17), .val (.int vb_29), .val (.int vb_44), .val (.int (Int32.ofNat mA)), .val (.int (Int32.ofNat mB)), .val (.ref b52), .val (.ref b69), .unset, .unset] [(.int (0 : Int32))])) t_ → Steps p.tables e below (s₁.setTop (entryFrame m #[(.int rr), (.int dd), (.int sa), (.int sb), (.int mode)] maxLocals)) t_ := fun t_ k_ => s97 t_ (by
                show Steps p.tables e below (T84.setTop (mkF m 169 #[.val (.int rr), .val (.int dd), .val (.int sa), .val (.int sb), .val (.int mode), .val (.int q1), .val (.int q4), .val (.int q12), .val (.int q17), .val (.int vb_29), .val (.int vb_44), .val (.int (Int32.ofNat mA)), .val (.int (Int32.ofNat mB)), .val (.ref b52), .val (.ref b69), .unset, .unset] [(.int vb_44), (.int q17)])) t_
                refine XS.icmpYes X84.here hx rfl (pc0 := 169) (pc' := 176) rfl (Jvm.hb hby at_169) rfl (feq h98).2 (by decide) (by decide) ?_
                show Steps p.tables e below (T84.setTop (mkF m 176 #[.val (.int rr), .val (.int dd), .val (.int sa), .val (.int sb), .val (.int mode), .val (.int q1), .val (.int q4), .val (.int q12), .val (.int q17), .val (.int vb_29), .val (.int vb_44), .val (.int (Int32.ofNat mA)), .val (.int (Int32.ofNat mB)), .val (.ref b52), .val (.ref b69), .unset, .unset] [])) _
                refine XS.iconst X84.here hx rfl (Jvm.hb hby at_176) ?_
                show Steps p.tables e below (T84.setTop (mkF m 177 #[.val (.int rr), .val (.int dd), .val (.int sa), .val (.int sb), .val (.int mode), .val (.int q1), .val (.int q4), .val (.int q12), .val (.int q17), .val (.int vb_29), .val (.int vb_44), .val (.int (Int32.ofNat mA)), .val (.int (Int32.ofNat mB)), .val (.ref b52), .val (.ref b69), .unset, .unset] [(.int (0 : Int32))])) t_
                exact k_)
              exact ⟨T84, X84, e84, fun t_ k_ => s100 t_ (castTop (by simp only [hq87, if_pos h89, if_pos h91, if_pos h93, if_neg h95, if_neg h98]) k_)⟩
        · have s101 : ∀ t_, Steps p.tables e below (T84.setTop (mkF m 177 #[.val (.int rr), .val (.int dd), .val (.int sa), .val (.int sb), .val (.int mode), .val (.int q1), .val (.int q4), .val (.int q12), .val (.int q17), .val (.int vb_29), .val (.int vb_44), .val (.int (Int32.ofNat mA)), .val (.int (Int32.ofNat mB)), .val (.ref b52), .val (.ref b69), .unset, .unset] [(.int (0 : Int32))])) t_ → Steps p.tables e below (s₁.setTop (entryFrame m #[(.int rr), (.int dd), (.int sa), (.int sb), (.int mode)] maxLocals)) t_ := fun t_ k_ => s92 t_ (by
            show Steps p.tables e below (T84.setTop (mkF m 156 #[.val (.int rr), .val (.int dd), .val (.int sa), .val (.int sb), .val (.int mode), .val (.int q1), .val (.int q4), .val (.int q12), .val (.int q17), .val (.int vb_29), .val (.int vb_44), .val (.int (Int32.ofNat mA)), .val (.int (Int32.ofNat mB)), .val (.ref b52), .val (.ref b69), .unset, .unset] [(.int vb_29), (.int q12)])) t_
            refine XS.icmpYes X84.here hx rfl (pc0 := 156) (pc' := 176) rfl (Jvm.hb hby at_156) rfl (feq h93).2 (by decide) (by decide) ?_
            show Steps p.tables e below (T84.setTop (mkF m 176 #[.val (.int rr), .val (.int dd), .val (.int sa), .val (.int sb), .val (.int mode), .val (.int q1), .val (.int q4), .val (.int q12), .val (.int q17), .val (.int vb_29), .val (.int vb_44), .val (.int (Int32.ofNat mA)), .val (.int (Int32.ofNat mB)), .val (.ref b52), .val (.ref b69), .unset, .unset] [])) _
            refine XS.iconst X84.here hx rfl (Jvm.hb hby at_176) ?_
            show Steps p.tables e below (T84.setTop (mkF m 177 #[.val (.int rr), .val (.int dd), .val (.int sa), .val (.int sb), .val (.int mode), .val (.int q1), .val (.int q4), .val (.int q12), .val (.int q17), .val (.int vb_29), .val (.int vb_44), .val (.int (Int32.ofNat mA)), .val (.int (Int32.ofNat mB)), .val (.ref b52), .val (.ref b69), .unset, .unset] [(.int (0 : Int32))])) t_
            exact k_)
          exact ⟨T84, X84, e84, fun t_ k_ => s101 t_ (castTop (by simp only [hq87, if_pos h89, if_pos h91, if_neg h93]) k_)⟩
      · have s102 : ∀ t_, Steps p.tables e below (T84.setTop (mkF m 177 #[.val (.int rr), .val (.int dd), .val (.int sa), .val (.int sb), .val (.int mode), .val (.int q1), .val (.int q4), .val (.int q12), .val (.int q17), .val (.int vb_29), .val (.int vb_44), .val (.int (Int32.ofNat mA)), .val (.int (Int32.ofNat mB)), .val (.ref b52), .val (.ref b69), .unset, .unset] [(.int (0 : Int32))])) t_ → Steps p.tables e below (s₁.setTop (entryFrame m #[(.int rr), (.int dd), (.int sa), (.int sb), (.int mode)] maxLocals)) t_ := fun t_ k_ => s90 t_ (by
          show Steps p.tables e below (T84.setTop (mkF m 149 #[.val (.int rr), .val (.int dd), .val (.int sa), .val (.int sb), .val (.int mode), .val (.int q1), .val (.int q4), .val (.int q12), .val (.int q17), .val (.int vb_29), .val (.int vb_44), .val (.int (Int32.ofNat mA)), .val (.int (Int32.ofNat mB)), .val (.ref b52), .val (.ref b69), .unset, .unset] [(.int (Int32.ofNat mB)), (.int (Int32.ofNat mA))])) t_
          refine XS.icmpYes X84.here hx rfl (pc0 := 149) (pc' := 176) rfl (Jvm.hb hby at_149) rfl (feq h91).2 (by decide) (by decide) ?_
          show Steps p.tables e below (T84.setTop (mkF m 176 #[.val (.int rr), .val (.int dd), .val (.int sa), .val (.int sb), .val (.int mode), .val (.int q1), .val (.int q4), .val (.int q12), .val (.int q17), .val (.int vb_29), .val (.int vb_44), .val (.int (Int32.ofNat mA)), .val (.int (Int32.ofNat mB)), .val (.ref b52), .val (.ref b69), .unset, .unset] [])) _
          refine XS.iconst X84.here hx rfl (Jvm.hb hby at_176) ?_
          show Steps p.tables e below (T84.setTop (mkF m 177 #[.val (.int rr), .val (.int dd), .val (.int sa), .val (.int sb), .val (.int mode), .val (.int q1), .val (.int q4), .val (.int q12), .val (.int q17), .val (.int vb_29), .val (.int vb_44), .val (.int (Int32.ofNat mA)), .val (.int (Int32.ofNat mB)), .val (.ref b52), .val (.ref b69), .unset, .unset] [(.int (0 : Int32))])) t_
          exact k_)
        exact ⟨T84, X84, e84, fun t_ k_ => s102 t_ (castTop (by simp only [hq87, if_pos h89, if_neg h91]) k_)⟩
    · have s103 : ∀ t_, Steps p.tables e below (T84.setTop (mkF m 177 #[.val (.int rr), .val (.int dd), .val (.int sa), .val (.int sb), .val (.int mode), .val (.int q1), .val (.int q4), .val (.int q12), .val (.int q17), .val (.int vb_29), .val (.int vb_44), .val (.int (Int32.ofNat mA)), .val (.int (Int32.ofNat mB)), .val (.ref b52), .val (.ref b69), .unset, .unset] [(.int (0 : Int32))])) t_ → Steps p.tables e below (s₁.setTop (entryFrame m #[(.int rr), (.int dd), (.int sa), (.int sb), (.int mode)] maxLocals)) t_ := fun t_ k_ => s86 t_ (by
        show Steps p.tables e below (T84.setTop (mkF m 142 #[.val (.int rr), .val (.int dd), .val (.int sa), .val (.int sb), .val (.int mode), .val (.int q1), .val (.int q4), .val (.int q12), .val (.int q17), .val (.int vb_29), .val (.int vb_44), .val (.int (Int32.ofNat mA)), .val (.int (Int32.ofNat mB)), .val (.ref b52), .val (.ref b69), .unset, .unset] [(.int q4), (.int q1)])) t_
        refine XS.icmpYes X84.here hx rfl (pc0 := 142) (pc' := 176) rfl (Jvm.hb hby at_142) rfl (feq h89).2 (by decide) (by decide) ?_
        show Steps p.tables e below (T84.setTop (mkF m 176 #[.val (.int rr), .val (.int dd), .val (.int sa), .val (.int sb), .val (.int mode), .val (.int q1), .val (.int q4), .val (.int q12), .val (.int q17), .val (.int vb_29), .val (.int vb_44), .val (.int (Int32.ofNat mA)), .val (.int (Int32.ofNat mB)), .val (.ref b52), .val (.ref b69), .unset, .unset] [])) _
        refine XS.iconst X84.here hx rfl (Jvm.hb hby at_176) ?_
        show Steps p.tables e below (T84.setTop (mkF m 177 #[.val (.int rr), .val (.int dd), .val (.int sa), .val (.int sb), .val (.int mode), .val (.int q1), .val (.int q4), .val (.int q12), .val (.int q17), .val (.int vb_29), .val (.int vb_44), .val (.int (Int32.ofNat mA)), .val (.int (Int32.ofNat mB)), .val (.ref b52), .val (.ref b69), .unset, .unset] [(.int (0 : Int32))])) t_
        exact k_)
      exact ⟨T84, X84, e84, fun t_ k_ => s103 t_ (castTop (by simp only [hq87, if_neg h89]) k_)⟩)
  have s104 : ∀ t_, Steps p.tables e below (T88.setTop (mkF m 181 #[.val (.int rr), .val (.int dd), .val (.int sa), .val (.int sb), .val (.int mode), .val (.int q1), .val (.int q4), .val (.int q12), .val (.int q17), .val (.int vb_29), .val (.int vb_44), .val (.int (Int32.ofNat mA)), .val (.int (Int32.ofNat mB)), .val (.ref b52), .val (.ref b69), .val (.int q87), .unset] [(.int q1)])) t_ → Steps p.tables e below (s₁.setTop (entryFrame m #[(.int rr), (.int dd), (.int sa), (.int sb), (.int mode)] maxLocals)) t_ := fun t_ k_ => s88 t_ (by
    show Steps p.tables e below (T88.setTop (mkF m 177 #[.val (.int rr), .val (.int dd), .val (.int sa), .val (.int sb), .val (.int mode), .val (.int q1), .val (.int q4), .val (.int q12), .val (.int q17), .val (.int vb_29), .val (.int vb_44), .val (.int (Int32.ofNat mA)), .val (.int (Int32.ofNat mB)), .val (.ref b52), .val (.ref b69), .unset, .unset] [(.int q87)])) t_
    refine XS.istore X88.here hx rfl (Jvm.hb hby at_177) rfl (l' := #[.val (.int rr), .val (.int dd), .val (.int sa), .val (.int sb), .val (.int mode), .val (.int q1), .val (.int q4), .val (.int q12), .val (.int q17), .val (.int vb_29), .val (.int vb_44), .val (.int (Int32.ofNat mA)), .val (.int (Int32.ofNat mB)), .val (.ref b52), .val (.ref b69), .val (.int q87), .unset]) rfl ?_
    refine XS.iload X88.here hx rfl (Jvm.hb hby at_179) rfl ?_
    show Steps p.tables e below (T88.setTop (mkF m 181 #[.val (.int rr), .val (.int dd), .val (.int sa), .val (.int sb), .val (.int mode), .val (.int q1), .val (.int q4), .val (.int q12), .val (.int q17), .val (.int vb_29), .val (.int vb_44), .val (.int (Int32.ofNat mA)), .val (.int (Int32.ofNat mB)), .val (.ref b52), .val (.ref b69), .val (.int q87), .unset] [(.int q1)])) t_
    exact k_)
  have O105 : Old Z n0 h84 := (O79.keep K84 (allS (show n0 ≤ b69 by omega) all0))
  have Zc106 : n0 ≤ h84.size := by omega
  obtain ⟨_, _, ⟨T107, L107, k107, n107⟩, -, X107, ⟨Lc107, hQ107, l107, y107, z107⟩, st107⟩ := Jvm.LawKit.callS X88 hx (y := (⟨"java/lang/Integer", "valueOf", "(I)Ljava/lang/Integer;"⟩ : MethodName)) hown (mvT hZ (hw _ (List.mem_of_getElem? (i := 96) rfl))) (mvT hZ (hw _ (List.mem_of_getElem? (i := 97) rfl))) (mvT hZ (hw _ (List.mem_of_getElem? (i := 98) rfl))) (mvT hZ (hw _ (List.mem_of_getElem? (i := 99) rfl))) (by decide) (backOf (W := 0) (rmVal l Z a0 hw [] q1 ca cc h84 n0 Zc106 I3 I4 Bx O105) hZ (hw _ (List.mem_of_getElem? (i := 99) rfl)) (hw _ (List.mem_of_getElem? (i := 98) rfl)) (by decide) (by decide)) (g := (mkF m 181 #[.val (.int rr), .val (.int dd), .val (.int sa), .val (.int sb), .val (.int mode), .val (.int q1), .val (.int q4), .val (.int q12), .val (.int q17), .val (.int vb_29), .val (.int vb_44), .val (.int (Int32.ofNat mA)), .val (.int (Int32.ofNat mB)), .val (.ref b52), .val (.ref b69), .val (.int q87), .unset] [(.int q1)])) rfl (by rw [hml]; rfl) (argsL := [(.int q1)]) (rest := []) (lenOf pd__I_Ljava_lang_Integer_ rfl) rfl (by show 2 * 0 + _ ≤ _; exact Nat.le_of_eq rfl) (Jvm.hb hby at_181) (fun _ _ => ⟨rfl, e88, (by decide : 12 + 1 ≤ _), (by decide : 52 + 1 ≤ _)⟩)
  dsimp only [Pt.U, Pt.locs, Pt.cells, Pt.slots] at X107 l107 y107 z107 st107 hQ107
  subst l107 y107 z107
  obtain ⟨r_107, rfl, N107q, K107, Fq107_0⟩ := hQ107
  have N107 := Fr.app N84 N107q
  obtain ⟨h107, e107⟩ : ∃ z, T107.heap = z := ⟨_, rfl⟩
  rw [e107] at K107 Fq107_0
  have z108 : h84.size ≤ h107.size := K107.1
  have Cp108 : CHr Z ELs T84.vm h84 T84.vm h107 := CHr.keep K107 sf0 CR.1
  have hk := Nat.le_trans hk z108
  have CR := CR.trans Cp108
  have lt107_0 : @LT.lt Nat _ r_107 h107.size := Fq107_0.lt
  have s109 : ∀ t_, Steps p.tables e below (T107.setTop (mkF m 190 #[.val (.int rr), .val (.int dd), .val (.int sa), .val (.int sb), .val (.int mode), .val (.int q1), .val (.int q4), .val (.int q12), .val (.int q17), .val (.int vb_29), .val (.int vb_44), .val (.int (Int32.ofNat mA)), .val (.int (Int32.ofNat mB)), .val (.ref b52), .val (.ref b69), .val (.int q87), .val (.ref r_107)] [(.ref b69), (.ref b52)])) t_ → Steps p.tables e below (s₁.setTop (entryFrame m #[(.int rr), (.int dd), (.int sa), (.int sb), (.int mode)] maxLocals)) t_ := fun t_ k_ => s104 t_ (by
    show Steps p.tables e below (T88.setTop (mkF m 181 #[.val (.int rr), .val (.int dd), .val (.int sa), .val (.int sb), .val (.int mode), .val (.int q1), .val (.int q4), .val (.int q12), .val (.int q17), .val (.int vb_29), .val (.int vb_44), .val (.int (Int32.ofNat mA)), .val (.int (Int32.ofNat mB)), .val (.ref b52), .val (.ref b69), .val (.int q87), .unset] [(.int q1)])) t_
    refine st107 _ ?_
    show Steps p.tables e below (T107.setTop (mkF m 184 #[.val (.int rr), .val (.int dd), .val (.int sa), .val (.int sb), .val (.int mode), .val (.int q1), .val (.int q4), .val (.int q12), .val (.int q17), .val (.int vb_29), .val (.int vb_44), .val (.int (Int32.ofNat mA)), .val (.int (Int32.ofNat mB)), .val (.ref b52), .val (.ref b69), .val (.int q87), .unset] [(.ref r_107)])) _
    refine XS.astore X107.here hx rfl (Jvm.hb hby at_184) rfl rfl (l' := #[.val (.int rr), .val (.int dd), .val (.int sa), .val (.int sb), .val (.int mode), .val (.int q1), .val (.int q4), .val (.int q12), .val (.int q17), .val (.int vb_29), .val (.int vb_44), .val (.int (Int32.ofNat mA)), .val (.int (Int32.ofNat mB)), .val (.ref b52), .val (.ref b69), .val (.int q87), .val (.ref r_107)]) rfl ?_
    refine XS.aload X107.here hx rfl (Jvm.hb hby at_186) rfl rfl ?_
    refine XS.aload X107.here hx rfl (Jvm.hb hby at_188) rfl rfl ?_
    show Steps p.tables e below (T107.setTop (mkF m 190 #[.val (.int rr), .val (.int dd), .val (.int sa), .val (.int sb), .val (.int mode), .val (.int q1), .val (.int q4), .val (.int q12), .val (.int q17), .val (.int vb_29), .val (.int vb_44), .val (.int (Int32.ofNat mA)), .val (.int (Int32.ofNat mB)), .val (.ref b52), .val (.ref b69), .val (.int q87), .val (.ref r_107)] [(.ref b69), (.ref b52)])) t_
    exact k_)
  have O110 : Old Z n0 h107 := (O105.keep K107 all0)
  have f111 : Exa Z h107 b52 "com/example/zastupnik/zastupnik/protocol/Jips" := ((((Fq67_0.ext E69).keep K76).keep K84).keep K107)
  have f112 : Fld Z h107 b52 "com/example/zastupnik/zastupnik/protocol/Jips" "izvorReg" "I" (.int q1) := ((((Fq67_1.ext E69).keep K76 nin0).keep K84 (ninS (show @Ne Nat b52 b69 by omega) nin0)).keep K107 nin0)
  have f113 : Fld Z h107 b52 "com/example/zastupnik/zastupnik/protocol/Jips" "ips" "Ljava/lang/String;" (.ref a_59) := ((((Fq67_2.ext E69).keep K76 nin0).keep K84 (ninS (show @Ne Nat b52 b69 by omega) nin0)).keep K107 nin0)
  have f114 : Exa Z h107 b69 "com/example/zastupnik/zastupnik/protocol/Jips" := (Fq84_0.keep K107)
  have f115 : Fld Z h107 b69 "com/example/zastupnik/zastupnik/protocol/Jips" "izvorReg" "I" (.int q4) := (Fq84_1.keep K107 nin0)
  have f116 : Fld Z h107 b69 "com/example/zastupnik/zastupnik/protocol/Jips" "ips" "Ljava/lang/String;" (.ref a_76) := (Fq84_2.keep K107 nin0)
  have f117 : Exa Z h107 a_59 "java/lang/String" := (((((Fq59_0.keep K67).ext E69).keep K76).keep K84).keep K107)
  have f118 : Fld Z h107 a_59 "java/lang/String" "value" "[B" (.ref b_59) := (((((Fq59_1.keep K67 (ninS (show @Ne Nat a_59 b52 by omega) nin0)).ext E69).keep K76 nin0).keep K84 (ninS (show @Ne Nat a_59 b69 by omega) nin0)).keep K107 nin0)
  have f119 : Fld Z h107 a_59 "java/lang/String" "coder" "B" (.int (own_cod (own_mk2 mA q12 q17))) := (((((Fq59_2.keep K67 (ninS (show @Ne Nat a_59 b52 by omega) nin0)).ext E69).keep K76 nin0).keep K84 (ninS (show @Ne Nat a_59 b69 by omega) nin0)).keep K107 nin0)
  have f120 : Arv Z h107 b_59 kb_59 .byte (Int32.ofNat (own_enl (own_mk2 mA q12 q17))) (own_enc (own_mk2 mA q12 q17)) (.int (0 : Int32)) := (((((Fq59_3.keep K67 (ninS (show @Ne Nat b_59 b52 by omega) nin0)).ext E69).keep K76 nin0).keep K84 (ninS (show @Ne Nat b_59 b69 by omega) nin0)).keep K107 nin0)
  have f121 : Exa Z h107 a_76 "java/lang/String" := ((Fq76_0.keep K84).keep K107)
  have f122 : Fld Z h107 a_76 "java/lang/String" "value" "[B" (.ref b_76) := ((Fq76_1.keep K84 (ninS (show @Ne Nat a_76 b69 by omega) nin0)).keep K107 nin0)
  have f123 : Fld Z h107 a_76 "java/lang/String" "coder" "B" (.int (own_cod (own_mk2 mB vb_29 vb_44))) := ((Fq76_2.keep K84 (ninS (show @Ne Nat a_76 b69 by omega) nin0)).keep K107 nin0)
  have f124 : Arv Z h107 b_76 kb_76 .byte (Int32.ofNat (own_enl (own_mk2 mB vb_29 vb_44))) (own_enc (own_mk2 mB vb_29 vb_44)) (.int (0 : Int32)) := ((Fq76_3.keep K84 (ninS (show @Ne Nat b_76 b69 by omega) nin0)).keep K107 nin0)
  have Zc125 : n0 ≤ h107.size := by omega
  obtain ⟨cq126, kq126, q126a, q126b, q126c⟩ := isOf hZ e107 f111
  obtain ⟨_, _, ⟨T126, L126, k126, n126⟩, -, X126, ⟨Lc126, hQ126, l126, y126, z126⟩, st126⟩ := X107.virtualBack hx (y := (⟨"com/example/zastupnik/zastupnik/protocol/Jips", "equals", "(Ljava/lang/Object;)Z"⟩ : MethodName)) (z := (⟨"com/example/zastupnik/zastupnik/protocol/Jips", "equals", "(Ljava/lang/Object;)Z"⟩ : MethodName)) hown (mvT hZ (hw _ (List.mem_of_getElem? (i := 103) rfl))) (mvT hZ (hw _ (List.mem_of_getElem? (i := 104) rfl))) (notFace_of_selects (args := #[]) (mvT hZ (hw _ (List.mem_of_getElem? (i := 106) rfl)))) (mvT hZ (hw _ (List.mem_of_getElem? (i := 106) rfl))) (mvT hZ (hw _ (List.mem_of_getElem? (i := 105) rfl))) (by decide) (backOf (W := 0) (rmEqO l Z a0 hw [] b52 b69 cst q1 q4 a_59 b_59 kb_59 (own_mk2 mA q12 q17) a_76 b_76 kb_76 (own_mk2 mB vb_29 vb_44) h107 n0 Zc125 I1 O110 (hcst : ¬ (cst = (0 : Int32))) f111 f112 f113 f114 f115 f116 f117 f118 f119 f120 f121 f122 f123 f124 (own_neN (by omega)) (own_mkchs2 (own_prc pr48) (own_prc pr49)) (own_mkchs2 (own_prc J29_0) (own_prc J44_0)) (own_mkl2 _ _ _) (own_mkl2 _ _ _)) hZ (hw _ (List.mem_of_getElem? (i := 107) rfl)) (hw _ (List.mem_of_getElem? (i := 7) rfl)) (by decide) (by decide)) q126a q126c (g := (mkF m 190 #[.val (.int rr), .val (.int dd), .val (.int sa), .val (.int sb), .val (.int mode), .val (.int q1), .val (.int q4), .val (.int q12), .val (.int q17), .val (.int vb_29), .val (.int vb_44), .val (.int (Int32.ofNat mA)), .val (.int (Int32.ofNat mB)), .val (.ref b52), .val (.ref b69), .val (.int q87), .val (.ref r_107)] [(.ref b69), (.ref b52)])) rfl (by rw [hml]; rfl) (Steps.refl _) (argsL := [(.ref b69)]) (rest := []) (lenOf pd__Ljava_lang_Object__Z rfl) rfl (by show 2 * 0 + _ ≤ _; exact Nat.le_of_eq rfl) (Jvm.hb hby at_190) (fun _ _ => ⟨rfl, e107, (by decide : 13 + 0 ≤ _), (by decide : 53 + 0 ≤ _)⟩)
  dsimp only [Pt.U, Pt.locs, Pt.cells, Pt.slots] at X126 l126 y126 z126 st126 hQ126
  subst l126 y126 z126
  obtain ⟨rfl, N126q, e126⟩ := hQ126
  have N126 := Fr.app N107 N126q
  obtain ⟨q127, hq127⟩ : ∃ z : Int32, z = (if q1 = q4 then (if (own_mk2 mA q12 q17) = (own_mk2 mB vb_29 vb_44) then (1 : Int32) else (0 : Int32)) else (0 : Int32)) := ⟨_, rfl⟩
  rw [← hq127] at st126
  have hE0 : q127 = q87 := by
    rw [hq127, hq87]; exact own_fin0 mA mB q1 q4 q12 q17 vb_29 vb_44 hmAl hmBl
  have s128 : ∀ t_, Steps p.tables e below (T126.setTop (mkF m 202 #[.val (.int rr), .val (.int dd), .val (.int sa), .val (.int sb), .val (.int mode), .val (.int q1), .val (.int q4), .val (.int q12), .val (.int q17), .val (.int vb_29), .val (.int vb_44), .val (.int (Int32.ofNat mA)), .val (.int (Int32.ofNat mB)), .val (.ref b52), .val (.ref b69), .val (.int q87), .val (.ref r_107)] [(.ref b52), (.ref b69)])) t_ → Steps p.tables e below (s₁.setTop (entryFrame m #[(.int rr), (.int dd), (.int sa), (.int sb), (.int mode)] maxLocals)) t_ := fun t_ k_ => s109 t_ (by
    show Steps p.tables e below (T107.setTop (mkF m 190 #[.val (.int rr), .val (.int dd), .val (.int sa), .val (.int sb), .val (.int mode), .val (.int q1), .val (.int q4), .val (.int q12), .val (.int q17), .val (.int vb_29), .val (.int vb_44), .val (.int (Int32.ofNat mA)), .val (.int (Int32.ofNat mB)), .val (.ref b52), .val (.ref b69), .val (.int q87), .val (.ref r_107)] [(.ref b69), (.ref b52)])) t_
    refine st126.trans ?_
    show Steps p.tables e below (T126.setTop (mkF m 193 #[.val (.int rr), .val (.int dd), .val (.int sa), .val (.int sb), .val (.int mode), .val (.int q1), .val (.int q4), .val (.int q12), .val (.int q17), .val (.int vb_29), .val (.int vb_44), .val (.int (Int32.ofNat mA)), .val (.int (Int32.ofNat mB)), .val (.ref b52), .val (.ref b69), .val (.int q87), .val (.ref r_107)] [(.int q127)])) _
    refine XS.iload X126.here hx rfl (Jvm.hb hby at_193) rfl ?_
    refine XS.icmpNo X126.here hx rfl (Jvm.hb hby at_195) rfl (teq hE0).2 ?_
    show Steps p.tables e below (T126.setTop (mkF m 198 #[.val (.int rr), .val (.int dd), .val (.int sa), .val (.int sb), .val (.int mode), .val (.int q1), .val (.int q4), .val (.int q12), .val (.int q17), .val (.int vb_29), .val (.int vb_44), .val (.int (Int32.ofNat mA)), .val (.int (Int32.ofNat mB)), .val (.ref b52), .val (.ref b69), .val (.int q87), .val (.ref r_107)] [])) _
    refine XS.aload X126.here hx rfl (Jvm.hb hby at_198) rfl rfl ?_
    refine XS.aload X126.here hx rfl (Jvm.hb hby at_200) rfl rfl ?_
    show Steps p.tables e below (T126.setTop (mkF m 202 #[.val (.int rr), .val (.int dd), .val (.int sa), .val (.int sb), .val (.int mode), .val (.int q1), .val (.int q4), .val (.int q12), .val (.int q17), .val (.int vb_29), .val (.int vb_44), .val (.int (Int32.ofNat mA)), .val (.int (Int32.ofNat mB)), .val (.ref b52), .val (.ref b69), .val (.int q87), .val (.ref r_107)] [(.ref b52), (.ref b69)])) t_
    exact k_)
  have Zc129 : n0 ≤ h107.size := by omega
  obtain ⟨cq130, kq130, q130a, q130b, q130c⟩ := isOf hZ e126 f114
  obtain ⟨_, _, ⟨T130, L130, k130, n130⟩, -, X130, ⟨Lc130, hQ130, l130, y130, z130⟩, st130⟩ := X126.virtualBack hx (y := (⟨"com/example/zastupnik/zastupnik/protocol/Jips", "equals", "(Ljava/lang/Object;)Z"⟩ : MethodName)) (z := (⟨"com/example/zastupnik/zastupnik/protocol/Jips", "equals", "(Ljava/lang/Object;)Z"⟩ : MethodName)) hown (mvT hZ (hw _ (List.mem_of_getElem? (i := 103) rfl))) (mvT hZ (hw _ (List.mem_of_getElem? (i := 104) rfl))) (notFace_of_selects (args := #[]) (mvT hZ (hw _ (List.mem_of_getElem? (i := 106) rfl)))) (mvT hZ (hw _ (List.mem_of_getElem? (i := 106) rfl))) (mvT hZ (hw _ (List.mem_of_getElem? (i := 105) rfl))) (by decide) (backOf (W := 0) (rmEqO l Z a0 hw [] b69 b52 cst q4 q1 a_76 b_76 kb_76 (own_mk2 mB vb_29 vb_44) a_59 b_59 kb_59 (own_mk2 mA q12 q17) h107 n0 Zc129 I1 O110 (hcst : ¬ (cst = (0 : Int32))) f114 f115 f116 f111 f112 f113 f121 f122 f123 f124 f117 f118 f119 f120 (own_neN (by omega)) (own_mkchs2 (own_prc J29_0) (own_prc J44_0)) (own_mkchs2 (own_prc pr48) (own_prc pr49)) (own_mkl2 _ _ _) (own_mkl2 _ _ _)) hZ (hw _ (List.mem_of_getElem? (i := 107) rfl)) (hw _ (List.mem_of_getElem? (i := 7) rfl)) (by decide) (by decide)) q130a q130c (g := (mkF m 202 #[.val (.int rr), .val (.int dd), .val (.int sa), .val (.int sb), .val (.int mode), .val (.int q1), .val (.int q4), .val (.int q12), .val (.int q17), .val (.int vb_29), .val (.int vb_44), .val (.int (Int32.ofNat mA)), .val (.int (Int32.ofNat mB)), .val (.ref b52), .val (.ref b69), .val (.int q87), .val (.ref r_107)] [(.ref b52), (.ref b69)])) rfl (by rw [hml]; rfl) (Steps.refl _) (argsL := [(.ref b52)]) (rest := []) (lenOf pd__Ljava_lang_Object__Z rfl) rfl (by show 2 * 0 + _ ≤ _; exact Nat.le_of_eq rfl) (Jvm.hb hby at_202) (fun _ _ => ⟨rfl, e126, (by decide : 13 + 0 ≤ _), (by decide : 53 + 0 ≤ _)⟩)
  dsimp only [Pt.U, Pt.locs, Pt.cells, Pt.slots] at X130 l130 y130 z130 st130 hQ130
  subst l130 y130 z130
  obtain ⟨rfl, N130q, e130⟩ := hQ130
  have N130 := Fr.app N126 N130q
  obtain ⟨q131, hq131⟩ : ∃ z : Int32, z = (if q4 = q1 then (if (own_mk2 mB vb_29 vb_44) = (own_mk2 mA q12 q17) then (1 : Int32) else (0 : Int32)) else (0 : Int32)) := ⟨_, rfl⟩
  rw [← hq131] at st130
  have hE1 : q131 = q87 := by
    rw [hq131, hq87]; exact own_fin1 mA mB q1 q4 q12 q17 vb_29 vb_44 hmAl hmBl
  have s132 : ∀ t_, Steps p.tables e below (T130.setTop (mkF m 214 #[.val (.int rr), .val (.int dd), .val (.int sa), .val (.int sb), .val (.int mode), .val (.int q1), .val (.int q4), .val (.int q12), .val (.int q17), .val (.int vb_29), .val (.int vb_44), .val (.int (Int32.ofNat mA)), .val (.int (Int32.ofNat mB)), .val (.ref b52), .val (.ref b69), .val (.int q87), .val (.ref r_107)] [(.ref b52), (.ref b52)])) t_ → Steps p.tables e below (s₁.setTop (entryFrame m #[(.int rr), (.int dd), (.int sa), (.int sb), (.int mode)] maxLocals)) t_ := fun t_ k_ => s128 t_ (by
    show Steps p.tables e below (T126.setTop (mkF m 202 #[.val (.int rr), .val (.int dd), .val (.int sa), .val (.int sb), .val (.int mode), .val (.int q1), .val (.int q4), .val (.int q12), .val (.int q17), .val (.int vb_29), .val (.int vb_44), .val (.int (Int32.ofNat mA)), .val (.int (Int32.ofNat mB)), .val (.ref b52), .val (.ref b69), .val (.int q87), .val (.ref r_107)] [(.ref b52), (.ref b69)])) t_
    refine st130.trans ?_
    show Steps p.tables e below (T130.setTop (mkF m 205 #[.val (.int rr), .val (.int dd), .val (.int sa), .val (.int sb), .val (.int mode), .val (.int q1), .val (.int q4), .val (.int q12), .val (.int q17), .val (.int vb_29), .val (.int vb_44), .val (.int (Int32.ofNat mA)), .val (.int (Int32.ofNat mB)), .val (.ref b52), .val (.ref b69), .val (.int q87), .val (.ref r_107)] [(.int q131)])) _
    refine XS.iload X130.here hx rfl (Jvm.hb hby at_205) rfl ?_
    refine XS.icmpNo X130.here hx rfl (Jvm.hb hby at_207) rfl (teq hE1).2 ?_
    show Steps p.tables e below (T130.setTop (mkF m 210 #[.val (.int rr), .val (.int dd), .val (.int sa), .val (.int sb), .val (.int mode), .val (.int q1), .val (.int q4), .val (.int q12), .val (.int q17), .val (.int vb_29), .val (.int vb_44), .val (.int (Int32.ofNat mA)), .val (.int (Int32.ofNat mB)), .val (.ref b52), .val (.ref b69), .val (.int q87), .val (.ref r_107)] [])) _
    refine XS.aload X130.here hx rfl (Jvm.hb hby at_210) rfl rfl ?_
    refine XS.aload X130.here hx rfl (Jvm.hb hby at_212) rfl rfl ?_
    show Steps p.tables e below (T130.setTop (mkF m 214 #[.val (.int rr), .val (.int dd), .val (.int sa), .val (.int sb), .val (.int mode), .val (.int q1), .val (.int q4), .val (.int q12), .val (.int q17), .val (.int vb_29), .val (.int vb_44), .val (.int (Int32.ofNat mA)), .val (.int (Int32.ofNat mB)), .val (.ref b52), .val (.ref b69), .val (.int q87), .val (.ref r_107)] [(.ref b52), (.ref b52)])) t_
    exact k_)
  have Zc133 : n0 ≤ h107.size := by omega
  obtain ⟨cq134, kq134, q134a, q134b, q134c⟩ := isOf hZ e130 f111
  obtain ⟨_, _, ⟨T134, L134, k134, n134⟩, -, X134, ⟨Lc134, hQ134, l134, y134, z134⟩, st134⟩ := X130.virtualBack hx (y := (⟨"com/example/zastupnik/zastupnik/protocol/Jips", "equals", "(Ljava/lang/Object;)Z"⟩ : MethodName)) (z := (⟨"com/example/zastupnik/zastupnik/protocol/Jips", "equals", "(Ljava/lang/Object;)Z"⟩ : MethodName)) hown (mvT hZ (hw _ (List.mem_of_getElem? (i := 103) rfl))) (mvT hZ (hw _ (List.mem_of_getElem? (i := 104) rfl))) (notFace_of_selects (args := #[]) (mvT hZ (hw _ (List.mem_of_getElem? (i := 106) rfl)))) (mvT hZ (hw _ (List.mem_of_getElem? (i := 106) rfl))) (mvT hZ (hw _ (List.mem_of_getElem? (i := 105) rfl))) (by decide) (backOf (W := 0) (rmEqS l Z a0 hw [] b52 q1 a_59 h107 n0 Zc133 f111 f112 f113 f117) hZ (hw _ (List.mem_of_getElem? (i := 107) rfl)) (hw _ (List.mem_of_getElem? (i := 7) rfl)) (by decide) (by decide)) q134a q134c (g := (mkF m 214 #[.val (.int rr), .val (.int dd), .val (.int sa), .val (.int sb), .val (.int mode), .val (.int q1), .val (.int q4), .val (.int q12), .val (.int q17), .val (.int vb_29), .val (.int vb_44), .val (.int (Int32.ofNat mA)), .val (.int (Int32.ofNat mB)), .val (.ref b52), .val (.ref b69), .val (.int q87), .val (.ref r_107)] [(.ref b52), (.ref b52)])) rfl (by rw [hml]; rfl) (Steps.refl _) (argsL := [(.ref b52)]) (rest := []) (lenOf pd__Ljava_lang_Object__Z rfl) rfl (by show 2 * 0 + _ ≤ _; exact Nat.le_of_eq rfl) (Jvm.hb hby at_214) (fun _ _ => ⟨rfl, e130, (by decide : 13 + 0 ≤ _), (by decide : 53 + 0 ≤ _)⟩)
  dsimp only [Pt.U, Pt.locs, Pt.cells, Pt.slots] at X134 l134 y134 z134 st134 hQ134
  subst l134 y134 z134
  obtain ⟨rfl, N134q, e134⟩ := hQ134
  have N134 := Fr.app N130 N134q
  have s135 : ∀ t_, Steps p.tables e below (T134.setTop (mkF m 223 #[.val (.int rr), .val (.int dd), .val (.int sa), .val (.int sb), .val (.int mode), .val (.int q1), .val (.int q4), .val (.int q12), .val (.int q17), .val (.int vb_29), .val (.int vb_44), .val (.int (Int32.ofNat mA)), .val (.int (Int32.ofNat mB)), .val (.ref b52), .val (.ref b69), .val (.int q87), .val (.ref r_107)] [.null, (.ref b52)])) t_ → Steps p.tables e below (s₁.setTop (entryFrame m #[(.int rr), (.int dd), (.int sa), (.int sb), (.int mode)] maxLocals)) t_ := fun t_ k_ => s132 t_ (by
    show Steps p.tables e below (T130.setTop (mkF m 214 #[.val (.int rr), .val (.int dd), .val (.int sa), .val (.int sb), .val (.int mode), .val (.int q1), .val (.int q4), .val (.int q12), .val (.int q17), .val (.int vb_29), .val (.int vb_44), .val (.int (Int32.ofNat mA)), .val (.int (Int32.ofNat mB)), .val (.ref b52), .val (.ref b69), .val (.int q87), .val (.ref r_107)] [(.ref b52), (.ref b52)])) t_
    refine st134.trans ?_
    show Steps p.tables e below (T134.setTop (mkF m 217 #[.val (.int rr), .val (.int dd), .val (.int sa), .val (.int sb), .val (.int mode), .val (.int q1), .val (.int q4), .val (.int q12), .val (.int q17), .val (.int vb_29), .val (.int vb_44), .val (.int (Int32.ofNat mA)), .val (.int (Int32.ofNat mB)), .val (.ref b52), .val (.ref b69), .val (.int q87), .val (.ref r_107)] [(.int (1 : Int32))])) _
    refine XS.ifNo X134.here hx rfl (Jvm.hb hby at_217) rfl ((if0 _ _).trans (feq (by decide : ¬ ((1 : Int32) = (0 : Int32)))).1) ?_
    show Steps p.tables e below (T134.setTop (mkF m 220 #[.val (.int rr), .val (.int dd), .val (.int sa), .val (.int sb), .val (.int mode), .val (.int q1), .val (.int q4), .val (.int q12), .val (.int q17), .val (.int vb_29), .val (.int vb_44), .val (.int (Int32.ofNat mA)), .val (.int (Int32.ofNat mB)), .val (.ref b52), .val (.ref b69), .val (.int q87), .val (.ref r_107)] [])) _
    refine XS.aload X134.here hx rfl (Jvm.hb hby at_220) rfl rfl ?_
    refine XS.aconstNull X134.here hx rfl (Jvm.hb hby at_222) ?_
    show Steps p.tables e below (T134.setTop (mkF m 223 #[.val (.int rr), .val (.int dd), .val (.int sa), .val (.int sb), .val (.int mode), .val (.int q1), .val (.int q4), .val (.int q12), .val (.int q17), .val (.int vb_29), .val (.int vb_44), .val (.int (Int32.ofNat mA)), .val (.int (Int32.ofNat mB)), .val (.ref b52), .val (.ref b69), .val (.int q87), .val (.ref r_107)] [.null, (.ref b52)])) t_
    exact k_)
  have Zc136 : n0 ≤ h107.size := by omega
  obtain ⟨cq137, kq137, q137a, q137b, q137c⟩ := isOf hZ e134 f111
  obtain ⟨_, _, ⟨T137, L137, k137, n137⟩, -, X137, ⟨Lc137, hQ137, l137, y137, z137⟩, st137⟩ := X134.virtualBack hx (y := (⟨"com/example/zastupnik/zastupnik/protocol/Jips", "equals", "(Ljava/lang/Object;)Z"⟩ : MethodName)) (z := (⟨"com/example/zastupnik/zastupnik/protocol/Jips", "equals", "(Ljava/lang/Object;)Z"⟩ : MethodName)) hown (mvT hZ (hw _ (List.mem_of_getElem? (i := 103) rfl))) (mvT hZ (hw _ (List.mem_of_getElem? (i := 104) rfl))) (notFace_of_selects (args := #[]) (mvT hZ (hw _ (List.mem_of_getElem? (i := 106) rfl)))) (mvT hZ (hw _ (List.mem_of_getElem? (i := 106) rfl))) (mvT hZ (hw _ (List.mem_of_getElem? (i := 105) rfl))) (by decide) (backOf (W := 0) (rmEqN l Z a0 hw [] b52 h107 n0 Zc136) hZ (hw _ (List.mem_of_getElem? (i := 107) rfl)) (hw _ (List.mem_of_getElem? (i := 7) rfl)) (by decide) (by decide)) q137a q137c (g := (mkF m 223 #[.val (.int rr), .val (.int dd), .val (.int sa), .val (.int sb), .val (.int mode), .val (.int q1), .val (.int q4), .val (.int q12), .val (.int q17), .val (.int vb_29), .val (.int vb_44), .val (.int (Int32.ofNat mA)), .val (.int (Int32.ofNat mB)), .val (.ref b52), .val (.ref b69), .val (.int q87), .val (.ref r_107)] [.null, (.ref b52)])) rfl (by rw [hml]; rfl) (Steps.refl _) (argsL := [.null]) (rest := []) (lenOf pd__Ljava_lang_Object__Z rfl) rfl (by show 2 * 0 + _ ≤ _; exact Nat.le_of_eq rfl) (Jvm.hb hby at_223) (fun _ _ => ⟨rfl, e134, (by decide : 13 + 0 ≤ _), (by decide : 53 + 0 ≤ _)⟩)
  dsimp only [Pt.U, Pt.locs, Pt.cells, Pt.slots] at X137 l137 y137 z137 st137 hQ137
  subst l137 y137 z137
  obtain ⟨rfl, N137q, e137⟩ := hQ137
  have N137 := Fr.app N134 N137q
  have s138 : ∀ t_, Steps p.tables e below (T137.setTop (mkF m 233 #[.val (.int rr), .val (.int dd), .val (.int sa), .val (.int sb), .val (.int mode), .val (.int q1), .val (.int q4), .val (.int q12), .val (.int q17), .val (.int vb_29), .val (.int vb_44), .val (.int (Int32.ofNat mA)), .val (.int (Int32.ofNat mB)), .val (.ref b52), .val (.ref b69), .val (.int q87), .val (.ref r_107)] [(.ref r_107), (.ref b52)])) t_ → Steps p.tables e below (s₁.setTop (entryFrame m #[(.int rr), (.int dd), (.int sa), (.int sb), (.int mode)] maxLocals)) t_ := fun t_ k_ => s135 t_ (by
    show Steps p.tables e below (T134.setTop (mkF m 223 #[.val (.int rr), .val (.int dd), .val (.int sa), .val (.int sb), .val (.int mode), .val (.int q1), .val (.int q4), .val (.int q12), .val (.int q17), .val (.int vb_29), .val (.int vb_44), .val (.int (Int32.ofNat mA)), .val (.int (Int32.ofNat mB)), .val (.ref b52), .val (.ref b69), .val (.int q87), .val (.ref r_107)] [.null, (.ref b52)])) t_
    refine st137.trans ?_
    show Steps p.tables e below (T137.setTop (mkF m 226 #[.val (.int rr), .val (.int dd), .val (.int sa), .val (.int sb), .val (.int mode), .val (.int q1), .val (.int q4), .val (.int q12), .val (.int q17), .val (.int vb_29), .val (.int vb_44), .val (.int (Int32.ofNat mA)), .val (.int (Int32.ofNat mB)), .val (.ref b52), .val (.ref b69), .val (.int q87), .val (.ref r_107)] [(.int (0 : Int32))])) _
    refine XS.ifNo X137.here hx rfl (Jvm.hb hby at_226) rfl ((if0 _ _).trans (teq (rfl : (0 : Int32) = (0 : Int32))).2) ?_
    show Steps p.tables e below (T137.setTop (mkF m 229 #[.val (.int rr), .val (.int dd), .val (.int sa), .val (.int sb), .val (.int mode), .val (.int q1), .val (.int q4), .val (.int q12), .val (.int q17), .val (.int vb_29), .val (.int vb_44), .val (.int (Int32.ofNat mA)), .val (.int (Int32.ofNat mB)), .val (.ref b52), .val (.ref b69), .val (.int q87), .val (.ref r_107)] [])) _
    refine XS.aload X137.here hx rfl (Jvm.hb hby at_229) rfl rfl ?_
    refine XS.aload X137.here hx rfl (Jvm.hb hby at_231) rfl rfl ?_
    show Steps p.tables e below (T137.setTop (mkF m 233 #[.val (.int rr), .val (.int dd), .val (.int sa), .val (.int sb), .val (.int mode), .val (.int q1), .val (.int q4), .val (.int q12), .val (.int q17), .val (.int vb_29), .val (.int vb_44), .val (.int (Int32.ofNat mA)), .val (.int (Int32.ofNat mB)), .val (.ref b52), .val (.ref b69), .val (.int q87), .val (.ref r_107)] [(.ref r_107), (.ref b52)])) t_
    exact k_)
  have Zc139 : n0 ≤ h107.size := by omega
  obtain ⟨cq140, kq140, q140a, q140b, q140c⟩ := isOf hZ e137 f111
  obtain ⟨_, _, ⟨T140, L140, k140, n140⟩, -, X140, ⟨Lc140, hQ140, l140, y140, z140⟩, st140⟩ := X137.virtualBack hx (y := (⟨"com/example/zastupnik/zastupnik/protocol/Jips", "equals", "(Ljava/lang/Object;)Z"⟩ : MethodName)) (z := (⟨"com/example/zastupnik/zastupnik/protocol/Jips", "equals", "(Ljava/lang/Object;)Z"⟩ : MethodName)) hown (mvT hZ (hw _ (List.mem_of_getElem? (i := 103) rfl))) (mvT hZ (hw _ (List.mem_of_getElem? (i := 104) rfl))) (notFace_of_selects (args := #[]) (mvT hZ (hw _ (List.mem_of_getElem? (i := 106) rfl)))) (mvT hZ (hw _ (List.mem_of_getElem? (i := 106) rfl))) (mvT hZ (hw _ (List.mem_of_getElem? (i := 105) rfl))) (by decide) (backOf (W := 0) (rmEqX l Z a0 hw [] b52 r_107 h107 n0 Zc139 Fq107_0) hZ (hw _ (List.mem_of_getElem? (i := 107) rfl)) (hw _ (List.mem_of_getElem? (i := 7) rfl)) (by decide) (by decide)) q140a q140c (g := (mkF m 233 #[.val (.int rr), .val (.int dd), .val (.int sa), .val (.int sb), .val (.int mode), .val (.int q1), .val (.int q4), .val (.int q12), .val (.int q17), .val (.int vb_29), .val (.int vb_44), .val (.int (Int32.ofNat mA)), .val (.int (Int32.ofNat mB)), .val (.ref b52), .val (.ref b69), .val (.int q87), .val (.ref r_107)] [(.ref r_107), (.ref b52)])) rfl (by rw [hml]; rfl) (Steps.refl _) (argsL := [(.ref r_107)]) (rest := []) (lenOf pd__Ljava_lang_Object__Z rfl) rfl (by show 2 * 0 + _ ≤ _; exact Nat.le_of_eq rfl) (Jvm.hb hby at_233) (fun _ _ => ⟨rfl, e137, (by decide : 13 + 0 ≤ _), (by decide : 53 + 0 ≤ _)⟩)
  dsimp only [Pt.U, Pt.locs, Pt.cells, Pt.slots] at X140 l140 y140 z140 st140 hQ140
  subst l140 y140 z140
  obtain ⟨rfl, N140q, e140⟩ := hQ140
  have N140 := Fr.app N137 N140q
  have s141 : ∀ t_, Steps p.tables e below (T140.setTop (mkF m 244 #[.val (.int rr), .val (.int dd), .val (.int sa), .val (.int sb), .val (.int mode), .val (.int q1), .val (.int q4), .val (.int q12), .val (.int q17), .val (.int vb_29), .val (.int vb_44), .val (.int (Int32.ofNat mA)), .val (.int (Int32.ofNat mB)), .val (.ref b52), .val (.ref b69), .val (.int q87), .val (.ref r_107)] [(.int (1 : Int32))])) t_ → Steps p.tables e below (s₁.setTop (entryFrame m #[(.int rr), (.int dd), (.int sa), (.int sb), (.int mode)] maxLocals)) t_ := fun t_ k_ => s138 t_ (by
    show Steps p.tables e below (T137.setTop (mkF m 233 #[.val (.int rr), .val (.int dd), .val (.int sa), .val (.int sb), .val (.int mode), .val (.int q1), .val (.int q4), .val (.int q12), .val (.int q17), .val (.int vb_29), .val (.int vb_44), .val (.int (Int32.ofNat mA)), .val (.int (Int32.ofNat mB)), .val (.ref b52), .val (.ref b69), .val (.int q87), .val (.ref r_107)] [(.ref r_107), (.ref b52)])) t_
    refine st140.trans ?_
    show Steps p.tables e below (T140.setTop (mkF m 236 #[.val (.int rr), .val (.int dd), .val (.int sa), .val (.int sb), .val (.int mode), .val (.int q1), .val (.int q4), .val (.int q12), .val (.int q17), .val (.int vb_29), .val (.int vb_44), .val (.int (Int32.ofNat mA)), .val (.int (Int32.ofNat mB)), .val (.ref b52), .val (.ref b69), .val (.int q87), .val (.ref r_107)] [(.int (0 : Int32))])) _
    refine XS.ifNo X140.here hx rfl (Jvm.hb hby at_236) rfl ((if0 _ _).trans (teq (rfl : (0 : Int32) = (0 : Int32))).2) ?_
    show Steps p.tables e below (T140.setTop (mkF m 239 #[.val (.int rr), .val (.int dd), .val (.int sa), .val (.int sb), .val (.int mode), .val (.int q1), .val (.int q4), .val (.int q12), .val (.int q17), .val (.int vb_29), .val (.int vb_44), .val (.int (Int32.ofNat mA)), .val (.int (Int32.ofNat mB)), .val (.ref b52), .val (.ref b69), .val (.int q87), .val (.ref r_107)] [])) _
    refine XS.iconst X140.here hx rfl (Jvm.hb hby at_239) ?_
    refine XS.goto X140.here hx rfl (pc0 := 240) (pc' := 244) rfl (Jvm.hb hby at_240) (by decide) (by decide) ?_
    show Steps p.tables e below (T140.setTop (mkF m 244 #[.val (.int rr), .val (.int dd), .val (.int sa), .val (.int sb), .val (.int mode), .val (.int q1), .val (.int q4), .val (.int q12), .val (.int q17), .val (.int vb_29), .val (.int vb_44), .val (.int (Int32.ofNat mA)), .val (.int (Int32.ofNat mB)), .val (.ref b52), .val (.ref b69), .val (.int q87), .val (.ref r_107)] [(.int (1 : Int32))])) t_
    exact k_)
  obtain ⟨fs, hr, hrun, hended, hREW⟩ := X140.leaveW hS (by first | exact Nat.le_refl _ | (rw [e140]; exact hk)) (v := some (.int (1 : Int32))) (fun h => by rw [Bd.returns] at h; cases h)
  refine ⟨_, _, s141 _ ?_, hrun, hended, _, _, rfl, ?_, (by show CHr Z ELs s.vm s.heap T140.vm T140.heap; rw [hh, e140]; exact CR.trans (CHv.at X140 hZ hEL CR.1)), hREW.1, hREW.2.1, hREW.2.2.1, hREW.2.2.2.mono (by decide) (by decide)⟩
  · show Steps p.tables e below (T140.setTop (mkF m 244 #[.val (.int rr), .val (.int dd), .val (.int sa), .val (.int sb), .val (.int mode), .val (.int q1), .val (.int q4), .val (.int q12), .val (.int q17), .val (.int vb_29), .val (.int vb_44), .val (.int (Int32.ofNat mA)), .val (.int (Int32.ofNat mB)), .val (.ref b52), .val (.ref b69), .val (.int q87), .val (.ref r_107)] [(.int (1 : Int32))])) _
    exact retN X140 hx (t := .boolean) Bd.returns (by simp) (Jvm.hb hby at_244) hr
  · show Q_rmLaw Z _ _ _ _ _ _ _ _ _ h0 n0 _ T140.heap _
    rw [e140]
    exact ⟨rfl, N140⟩
set_option maxRecDepth 65536 in
set_option maxHeartbeats 40000000 in
theorem comes_1 {Post : Tables → Env → Array Value → State → Outcome → State → Prop} (hpost : ∀ tb e args s v u, (limb_1_1.after args s (.returned v) u = true ∧ limb_1_2.after args s (.returned v) u = true ∧ True) → ReturnedEndW s (.returned v) u (Jvm.fieldLocs frame_1_writes args s ++ Jvm.arrayLocs frame_1_arrays args s ++ Jvm.staticLocs frame_1_statics s) 32 1152 → Post tb e args s (.returned v) u) :
    ArmFor flags0 classFile x code maxLocals ret World_1 tables_1 room_1 Calls_1 rest_1 Pre_1 Post := by
  intro l hfl _ _ p e ha hc hk s m args below hf hA hF happ hP
  obtain ⟨hcalls, hrest, hpre⟩ := hP
  obtain ⟨-, -, -, hnamed, -, -, -, hat⟩ := (Spec.applies_iff hf).mp happ
  obtain ⟨hg, hn⟩ := and_e (Cond.before_iff.mp (show (Jvm.Cond.and given_1 narrow_1).before args s = true from hpre))
  obtain ⟨ga, gr⟩ := and_e hg
  obtain ⟨g0, gr0⟩ := and_e gr
  obtain ⟨g1, gr1⟩ := and_e gr0
  obtain ⟨g2, gr2⟩ := and_e gr1
  obtain ⟨g3, gr3⟩ := and_e gr2
  obtain ⟨w0, w1, w2, w3, w4, rfl⟩ : ∃ w0 w1 w2 w3 w4 : Value, args = #[w0, w1, w2, w3, w4] := by
    have hs : args.size = 5 := by simpa [Cond.value, given_1] using ga
    obtain ⟨L⟩ := args
    match L, hs with
    | [w0, w1, w2, w3, w4], _ => exact ⟨w0, w1, w2, w3, w4, rfl⟩
  have hw := fun d (hd : d ∈ tables_1) => atoms_spec (ws := Jvm.Cond.code x code maxLocals ret :: tables_1) hat d (List.mem_cons_of_mem _ hd)
  have hfit : Fit s := fun {y c} hc i hi => by
    obtain ⟨ha, rfl⟩ := Array.getElem?_eq_some_iff.mp hc
    have q := List.all_eq_true.mp ((Array.all_eq_true_iff_forall_mem.mp hF) _ (Array.getElem_mem ha)) i (List.mem_range.mpr hi)
    simpa [Array.getElem?_eq_getElem hi] using q
  obtain ⟨hsets, hown0⟩ := atoms_of _ (rest_1_c_eq ▸ (show rest_1_c.before _ s = true from hrest))
  have hr0 := Cond.before_iff.mp hown0
  obtain ⟨i0, ei0⟩ := is_v g0
  obtain rfl : w0 = (.int i0) := Option.some.inj ei0
  obtain ⟨i1, ei1⟩ := is_v g1
  obtain rfl : w1 = (.int i1) := Option.some.inj ei1
  obtain ⟨i2, ei2⟩ := is_v g2
  obtain rfl : w2 = (.int i2) := Option.some.inj ei2
  obtain ⟨i3, ei3⟩ := is_v g3
  obtain rfl : w3 = (.int i3) := Option.some.inj ei3
  obtain ⟨i4, ei4⟩ := is_v gr3
  obtain rfl : w4 = (.int i4) := Option.some.inj ei4
  obtain ⟨cst, ecs⟩ := is_v (Cond.before_iff.mp (hsets _ (List.mem_of_getElem? (i := 1) rfl)))
  have hcw := (hsets _ (List.mem_of_getElem? (i := 2) rfl))
  have hcst : ¬ (cst = (0 : Int32)) := fun q => by
    have h1 := not_v (Cond.before_iff.mp hcw)
    rw [Cond.eq_ints ecs (Term.int_eval 0)] at h1
    simp [q] at h1
  obtain ⟨fmt, efm, hfmt⟩ := isR_v (Cond.before_iff.mp (hsets _ (List.mem_of_getElem? (i := 8) rfl)))
  have ehig := eqv_i (Term.int_eval 127) (Cond.before_iff.mp (hsets _ (List.mem_of_getElem? (i := 12) rfl)))
  obtain ⟨ca, ecac⟩ := exa_v (Cond.before_iff.mp (hsets _ (List.mem_of_getElem? (i := 14) rfl)))
  obtain ⟨cc, ACC⟩ := Arr.start ecac (Cond.before_iff.mp (hsets _ (List.mem_of_getElem? (i := 13) rfl)))
  have Bx := own_bxs ACC (fun _ => ecac) (Cond.before_iff.mp (hsets _ (List.mem_of_getElem? (i := 15) rfl))) (Cond.before_iff.mp (hsets _ (List.mem_of_getElem? (i := 16) rfl)))
  have hCH : CHv s ELs s.vm s.heap := CHv.start (own_EW hw) (fun p hp => nomatch hp) (show Jvm.Lit.compactW.before _ s = true from hcw) (hw _ (List.mem_of_getElem? (i := 30) rfl)) (hw _ (List.mem_of_getElem? (i := 12) rfl))
  obtain ⟨n, o, h1, h2, h3, _, L, rfl, ⟨rfl, N⟩, -, hq⟩ := rmLaw l s _ hw tables_1 i0 i1 i2 i3 i4 cst fmt ca cc s.heap s.heap.size (Nat.le_refl _) (Sta.start ecs (Or.inl (hsets _ (List.mem_of_getElem? (i := 0) rfl)))) hfmt (Sta.start efm (Or.inl (hsets _ (List.mem_of_getElem? (i := 7) rfl)))) (Old.start s) hcst (Sta.start ehig (Or.inl (hsets _ (List.mem_of_getElem? (i := 10) rfl)))) (Sta.start ecac (Or.inr ⟨(hw _ (List.mem_of_getElem? (i := 101) rfl)), (hsets _ (List.mem_of_getElem? (i := 11) rfl))⟩)) Bx p e ha hc hk s m _ below hf ((Spec.applies_iff_loose hf).mp happ).1 ⟨rfl, State.Warmed39.refl s, rfl, hCH⟩ trivial
  refine ⟨n, _, h1, h2, h3, hpost _ _ _ _ _ _ ⟨Cond.after_iff.mpr rfl, Cond.after_iff.mpr (eq_i res_at (Term.int_eval (1)) rfl), trivial⟩ ⟨hq.1, hq.2.1, hq.2.2.1, (hq.2.2.2.sift fun y hy => Or.inr (N y hy)).mono (by decide) (by decide)⟩⟩
theorem main_1_1 : Claimed_1_1 := comes_1 fun _ _ _ _ _ _ h hF => ⟨h.1, hF⟩
theorem main_1_2 : Claimed_1_2 := comes_1 fun _ _ _ _ _ _ h hF => ⟨h.2.1, hF⟩
end Jvm.Pilot.@@N@@
namespace Jvm.Pilot.@@N@@
open Jvm Jvm.ClassFile Sem Op Lib Jvm.Free Jvm.Stand Jvm.Pilot.@@N@@.Jvm.D
/-! MADE BY PROGRAM (witnessworld.py) out of the Statement's table words and the real class files: 25 classes; the members and pool entries that the words name. The judged class is class 1, her method 3. -/
namespace start1
open Jvm.ClassFile
def u (s : String) : CpInfo := .utf8 (stringToUtf16 s)
/-- a pool by its gaps: so many unusable entries, then the entry; so many at the end -/
def gap : Nat → List CpInfo → List CpInfo
  | 0, r => r
  | n + 1, r => .unusable :: gap n r
def poolList (es : List (Nat × CpInfo)) (last : Nat) : List CpInfo := es.foldr (fun e r => gap e.1 (e.2 :: r)) (gap last [])
def pool (es : List (Nat × CpInfo)) (last : Nat) : Array CpInfo := ⟨poolList es last⟩
def fileOf (pool : Array CpInfo) (this : Nat) (attrs : Array Attribute := #[]) (ms : Array MethodInfo := #[]) (fl : Nat := 33) (sup : Nat := 0) (ifs : Array Nat := #[]) (fds : Array FieldInfo := #[]) : ClassFile where
  minorVersion := 0
  majorVersion := 65
  constantPool := pool
  accessFlags := fl
  thisClass := this
  superClass := sup
  interfaces := ifs
  fields := fds
  methods := ms
  attributes := attrs
def plain (name : String) (sup : Option ClassId) : Class where
  name := name
  kind := .ordinary
  loader := none
  accessFlags := 33
  super := sup
  interfaces := #[]
  cf := none
  fields := #[]
  methods := #[]
  instanceTypes := #[]
  staticTypes := #[]
  resolved := #[]
  callSites := []
  init := .initialized
  statics := none
  mirror := none

def pool0 : Array CpInfo := pool [(5, u "<init>"), (0, u "()V"), (1, .class_ 10), (1, u "java/lang/Object")] 113

def k0c0 : Code := { maxStack := 0, maxLocals := 1, code := object_method_1_code, exceptionTable := #[], attributes := #[] }
def k0m0 : Method := { name := "<init>", desc := "()V", sig := { parameters := [], returnType := none }, accessFlags := 1, code := some k0c0 }
/-- java/lang/Object -/
def k0 : Class := { plain "java/lang/Object" none with
  accessFlags := 33
  interfaces := #[]
  cf := some (fileOf pool0 8 #[] #[{ accessFlags := 1, nameIndex := 5, descriptorIndex := 6, attributes := #[] }] 33 0 #[] #[])
  fields := #[]
  methods := #[k0m0]
  instanceTypes := #[]
  staticTypes := #[]
  resolved := Array.replicate 124 none
  statics := none }

def pool1 : Array CpInfo := pool [(2, .class_ 4), (1, u "java/lang/Object"), (0, u "<init>"), (0, u "()V"), (0, .integer 2147483647), (0, .class_ 9), (0, u "java/lang/String"), (0, .methodref 8 11), (0, .nameAndType 5 12), (0, u "([C)V"), (0, .methodref 14 15), (0, .class_ 16), (0, .nameAndType 17 18), (0, u "com/example/zastupnik/zastupnik/protocol/JipsEqualsPinLaw"), (0, u "pc"), (0, u "(I)C"), (0, .class_ 20), (0, u "com/example/zastupnik/zastupnik/protocol/Jips"), (0, .methodref 14 22), (0, .nameAndType 23 24), (0, u "word"), (0, u "(ICC)Ljava/lang/String;"), (0, .methodref 19 26), (0, .nameAndType 5 27), (0, u "(ILjava/lang/String;)V"), (0, .methodref 29 30), (0, .class_ 31), (0, .nameAndType 32 33), (0, u "java/lang/Integer"), (0, u "valueOf"), (0, u "(I)Ljava/lang/Integer;"), (0, .methodref 19 35), (0, .nameAndType 36 37), (0, u "equals"), (0, u "(Ljava/lang/Object;)Z"), (3, u "law"), (0, u "(IIIII)Z")] 2

def k1m0 : Method := { name := "<init>", desc := "()V", sig := { parameters := [], returnType := none }, accessFlags := 1, code := none }
def k1c1 : Code := { maxStack := 3, maxLocals := 1, code := method_2_code, exceptionTable := #[], attributes := #[] }
def k1m1 : Method := { name := "pc", desc := "(I)C", sig := { parameters := [.int], returnType := some .char }, accessFlags := 10, code := some k1c1 }
def k1c2 : Code := { maxStack := 6, maxLocals := 3, code := method_3_code, exceptionTable := #[], attributes := #[] }
def k1m2 : Method := { name := "word", desc := "(ICC)Ljava/lang/String;", sig := { parameters := [.int, .char, .char], returnType := some (.object "java/lang/String") }, accessFlags := 10, code := some k1c2 }
def k1c3 : Code := { maxStack := 6, maxLocals := 17, code := code, exceptionTable := #[], attributes := #[] }
def k1m3 : Method := { name := "law", desc := "(IIIII)Z", sig := { parameters := [.int, .int, .int, .int, .int], returnType := some .boolean }, accessFlags := 9, code := some k1c3 }
/-- com/example/zastupnik/zastupnik/protocol/JipsEqualsPinLaw -/
def k1 : Class := { plain "com/example/zastupnik/zastupnik/protocol/JipsEqualsPinLaw" (some 0) with
  accessFlags := 49
  interfaces := #[]
  cf := some (fileOf pool1 14 #[] #[{ accessFlags := 1, nameIndex := 5, descriptorIndex := 6, attributes := #[] }, { accessFlags := 10, nameIndex := 17, descriptorIndex := 18, attributes := #[] }, { accessFlags := 10, nameIndex := 23, descriptorIndex := 24, attributes := #[] }, { accessFlags := 9, nameIndex := 41, descriptorIndex := 42, attributes := #[] }] 49 2 #[] #[])
  fields := #[]
  methods := #[k1m0, k1m1, k1m2, k1m3]
  instanceTypes := #[]
  staticTypes := #[]
  resolved := Array.replicate 45 none
  statics := none }

def pool2 : Array CpInfo := pool [(1, .methodref 2 3), (0, .class_ 4), (0, .nameAndType 5 6), (0, u "java/lang/Object"), (0, u "<init>"), (0, u "()V"), (0, .string 8), (0, u "ips"), (0, .methodref 10 11), (0, .class_ 12), (0, .nameAndType 13 14), (0, u "java/util/Objects"), (0, u "requireNonNull"), (0, u "(Ljava/lang/Object;Ljava/lang/String;)Ljava/lang/Object;"), (9, .methodref 25 26), (0, .class_ 27), (0, .nameAndType 28 29), (0, u "com/example/zastupnik/zastupnik/protocol/Jips"), (0, u "isPrintableWord"), (0, u "(Ljava/lang/String;)Z"), (8, .fieldref 25 39), (0, .nameAndType 40 41), (0, u "izvorReg"), (0, u "I"), (0, .fieldref 25 43), (0, .nameAndType 8 44), (0, u "Ljava/lang/String;"), (14, u "(ILjava/lang/String;)V"), (8, u "()Z"), (18, .class_ 88), (0, u "java/lang/String"), (42, .methodref 87 132), (0, .nameAndType 133 134), (0, u "equals"), (0, u "(Ljava/lang/Object;)Z"), (3, u "()I"), (0, .methodref 87 140), (0, .nameAndType 141 68), (0, u "isEmpty"), (0, .methodref 87 143), (0, .nameAndType 144 138), (0, u "length"), (0, .methodref 87 146), (0, .nameAndType 147 148), (0, u "charAt"), (0, u "(I)C"), (12, u "ELEMENT")] 36

def k2c0 : Code := { maxStack := 3, maxLocals := 3, code := prog_42_method_1_code, exceptionTable := #[], attributes := #[] }
def k2m0 : Method := { name := "<init>", desc := "(ILjava/lang/String;)V", sig := { parameters := [.int, (.object "java/lang/String")], returnType := none }, accessFlags := 1, code := some k2c0 }
def k2c1 : Code := { maxStack := 2, maxLocals := 3, code := prog_42_method_8_code, exceptionTable := #[], attributes := #[] }
def k2m1 : Method := { name := "equals", desc := "(Ljava/lang/Object;)Z", sig := { parameters := [(.object "java/lang/Object")], returnType := some .boolean }, accessFlags := 1, code := some k2c1 }
def k2c2 : Code := { maxStack := 2, maxLocals := 4, code := prog_42_method_10_code, exceptionTable := #[], attributes := #[] }
def k2m2 : Method := { name := "isPrintableWord", desc := "(Ljava/lang/String;)Z", sig := { parameters := [(.object "java/lang/String")], returnType := some .boolean }, accessFlags := 10, code := some k2c2 }
/-- com/example/zastupnik/zastupnik/protocol/Jips -/
def k2 : Class := { plain "com/example/zastupnik/zastupnik/protocol/Jips" (some 0) with
  accessFlags := 33
  interfaces := #[]
  cf := some (fileOf pool2 25 #[] #[{ accessFlags := 1, nameIndex := 5, descriptorIndex := 59, attributes := #[] }, { accessFlags := 1, nameIndex := 133, descriptorIndex := 134, attributes := #[] }, { accessFlags := 10, nameIndex := 28, descriptorIndex := 29, attributes := #[] }] 33 2 #[] #[{ accessFlags := 24, nameIndex := 161, descriptorIndex := 44, attributes := #[] }, { accessFlags := 18, nameIndex := 40, descriptorIndex := 41, attributes := #[] }, { accessFlags := 18, nameIndex := 8, descriptorIndex := 44, attributes := #[] }])
  fields := #[{ name := "ELEMENT", type := (.object "java/lang/String"), accessFlags := 24, slot := 0, constantValue := 0 }, { name := "izvorReg", type := .int, accessFlags := 18, slot := 0, constantValue := 0 }, { name := "ips", type := (.object "java/lang/String"), accessFlags := 18, slot := 1, constantValue := 0 }]
  methods := #[k2m0, k2m1, k2m2]
  instanceTypes := #[.int, (.object "java/lang/String")]
  staticTypes := #[(.object "java/lang/String")]
  resolved := Array.replicate 198 none
  statics := none }

def pool3 : Array CpInfo := pool [(1, .class_ 2), (0, u "java/io/Serializable"), (0, .class_ 4), (0, u "java/lang/Object")] 2

/-- java/io/Serializable -/
def k3 : Class := { plain "java/io/Serializable" (some 0) with
  accessFlags := 1537
  interfaces := #[]
  cf := some (fileOf pool3 1 #[] #[] 1537 3 #[] #[])
  fields := #[]
  methods := #[]
  instanceTypes := #[]
  staticTypes := #[]
  resolved := Array.replicate 7 none
  statics := none }

def pool4 : Array CpInfo := pool [(1, .class_ 2), (0, u "java/lang/Comparable"), (0, .class_ 4), (0, u "java/lang/Object")] 7

/-- java/lang/Comparable -/
def k4 : Class := { plain "java/lang/Comparable" (some 0) with
  accessFlags := 1537
  interfaces := #[]
  cf := some (fileOf pool4 1 #[] #[] 1537 3 #[] #[])
  fields := #[]
  methods := #[]
  instanceTypes := #[]
  staticTypes := #[]
  resolved := Array.replicate 12 none
  statics := none }

def pool5 : Array CpInfo := pool [(2, .class_ 4), (1, u "java/lang/CharSequence"), (42, .class_ 48), (0, u "java/lang/CharSequence$1CodePointIterator"), (10, .class_ 60), (0, u "java/lang/CharSequence$1CharIterator"), (5, .class_ 67), (0, u "java/lang/Object")] 63

/-- java/lang/CharSequence -/
def k5 : Class := { plain "java/lang/CharSequence" (some 0) with
  accessFlags := 1537
  interfaces := #[]
  cf := some (fileOf pool5 2 #[.nestMembers #[47, 59]] #[] 1537 66 #[] #[])
  fields := #[]
  methods := #[]
  instanceTypes := #[]
  staticTypes := #[]
  resolved := Array.replicate 131 none
  statics := none }

def pool6 : Array CpInfo := pool [(1, .class_ 2), (0, u "java/lang/constant/Constable"), (0, .class_ 4), (0, u "java/lang/Object")] 6

/-- java/lang/constant/Constable -/
def k6 : Class := { plain "java/lang/constant/Constable" (some 0) with
  accessFlags := 1537
  interfaces := #[]
  cf := some (fileOf pool6 1 #[] #[] 1537 3 #[] #[])
  fields := #[]
  methods := #[]
  instanceTypes := #[]
  staticTypes := #[]
  resolved := Array.replicate 11 none
  statics := none }

def pool7 : Array CpInfo := pool [(1, .class_ 2), (0, u "java/lang/constant/ConstantDesc"), (0, .class_ 4), (0, u "java/lang/Object")] 32

/-- java/lang/constant/ConstantDesc -/
def k7 : Class := { plain "java/lang/constant/ConstantDesc" (some 0) with
  accessFlags := 1537
  interfaces := #[]
  cf := some (fileOf pool7 1 #[] #[] 1537 3 #[] #[])
  fields := #[]
  methods := #[]
  instanceTypes := #[]
  staticTypes := #[]
  resolved := Array.replicate 37 none
  statics := none }

def pool8 : Array CpInfo := pool [(1, .methodref 2 3), (0, .class_ 4), (0, .nameAndType 5 6), (0, u "java/lang/Object"), (0, u "<init>"), (0, u "()V"), (2, .fieldref 10 11), (0, .class_ 12), (0, .nameAndType 13 14), (0, u "java/lang/String"), (0, u "value"), (0, u "[B"), (0, .fieldref 10 16), (0, .nameAndType 17 18), (0, u "coder"), (0, u "B"), (2, u "hash"), (0, u "I"), (2, u "hashIsZero"), (0, u "Z"), (0, .methodref 10 28), (0, .nameAndType 5 29), (0, u "([CIILjava/lang/Void;)V"), (8, .fieldref 10 39), (0, .nameAndType 40 26), (0, u "COMPACT_STRINGS"), (1, .class_ 44), (1, u "java/lang/StringUTF16"), (0, u "compress"), (1, .methodref 42 48), (0, .nameAndType 49 50), (0, u "coderFromArrayLen"), (0, u "([BI)B"), (56, .class_ 109), (1, u "java/lang/StringLatin1"), (32, u "()Z"), (34, .methodref 42 178), (0, .nameAndType 45 179), (0, u "([CII)[B"), (154, u "()I"), (0, .methodref 10 336), (0, .nameAndType 17 337), (0, u "()B"), (25, u "([BI)C"), (27, u "(II)V"), (35, u "(I)C"), (64, .methodref 10 493), (0, .nameAndType 494 142), (0, u "isLatin1"), (0, .methodref 107 496), (0, .nameAndType 497 363), (0, u "charAt"), (3, u "checkIndex"), (5, u "length"), (33, .methodref 107 542), (0, .nameAndType 543 544), (0, u "equals"), (0, u "([B[B)Z"), (28, u "(Ljava/lang/Object;)Z"), (1, .class_ 576), (0, u "java/lang/CharSequence"), (22, u "CASE_INSENSITIVE_ORDER"), (0, u "Ljava/util/Comparator;"), (91, u "isEmpty"), (317, u "([C)V"), (42, .fieldref 1054 1055), (0, .class_ 1056), (0, .nameAndType 1057 1058), (0, u "jdk/internal/util/Preconditions"), (0, u "SIOOBE_FORMATTER"), (0, u "Ljava/util/function/BiFunction;"), (0, .methodref 1054 1060), (0, .nameAndType 501 1061), (0, u "(IILjava/util/function/BiFunction;)I"), (39, u "serialPersistentFields"), (0, u "[Ljava/io/ObjectStreamField;"), (0, .class_ 1104), (0, u "java/lang/String$CaseInsensitiveComparator"), (1, .class_ 1107), (0, u "java/io/Serializable"), (0, .class_ 1109), (0, u "java/lang/Comparable"), (0, .class_ 1111), (0, u "java/lang/constant/Constable"), (0, .class_ 1113), (0, u "java/lang/constant/ConstantDesc"), (2, u "serialVersionUID"), (0, u "J"), (3, u "REPL"), (0, u "C"), (2, u "LATIN1"), (1, u "UTF16")] 323

def k8m0 : Method := { name := "<init>", desc := "()V", sig := { parameters := [], returnType := none }, accessFlags := 1, code := none }
def k8c1 : Code := { maxStack := 5, maxLocals := 2, code := jdk_42_method_3_code, exceptionTable := #[], attributes := #[] }
def k8m1 : Method := { name := "<init>", desc := "([C)V", sig := { parameters := [(.array .char)], returnType := none }, accessFlags := 1, code := some k8c1 }
def k8c2 : Code := { maxStack := 2, maxLocals := 1, code := jdk_42_method_54_code, exceptionTable := #[], attributes := #[] }
def k8m2 : Method := { name := "length", desc := "()I", sig := { parameters := [], returnType := some .int }, accessFlags := 1, code := some k8c2 }
def k8c3 : Code := { maxStack := 1, maxLocals := 1, code := jdk_42_method_55_code, exceptionTable := #[], attributes := #[] }
def k8m3 : Method := { name := "isEmpty", desc := "()Z", sig := { parameters := [], returnType := some .boolean }, accessFlags := 1, code := some k8c3 }
def k8c4 : Code := { maxStack := 2, maxLocals := 2, code := jdk_42_method_56_code, exceptionTable := #[], attributes := #[] }
def k8m4 : Method := { name := "charAt", desc := "(I)C", sig := { parameters := [.int], returnType := some .char }, accessFlags := 1, code := some k8c4 }
def k8c5 : Code := { maxStack := 2, maxLocals := 3, code := jdk_42_method_66_code, exceptionTable := #[], attributes := #[] }
def k8m5 : Method := { name := "equals", desc := "(Ljava/lang/Object;)Z", sig := { parameters := [(.object "java/lang/Object")], returnType := some .boolean }, accessFlags := 1, code := some k8c5 }
def k8c6 : Code := { maxStack := 4, maxLocals := 6, code := jdk_42_method_149_code, exceptionTable := #[], attributes := #[] }
def k8m6 : Method := { name := "<init>", desc := "([CIILjava/lang/Void;)V", sig := { parameters := [(.array .char), .int, .int, (.object "java/lang/Void")], returnType := none }, accessFlags := 2, code := some k8c6 }
def k8c7 : Code := { maxStack := 1, maxLocals := 1, code := jdk_42_method_152_code, exceptionTable := #[], attributes := #[] }
def k8m7 : Method := { name := "coder", desc := "()B", sig := { parameters := [], returnType := some .byte }, accessFlags := 0, code := some k8c7 }
def k8c8 : Code := { maxStack := 1, maxLocals := 1, code := jdk_42_method_154_code, exceptionTable := #[], attributes := #[] }
def k8m8 : Method := { name := "isLatin1", desc := "()Z", sig := { parameters := [], returnType := some .boolean }, accessFlags := 0, code := some k8c8 }
def k8c9 : Code := { maxStack := 3, maxLocals := 2, code := jdk_42_method_155_code, exceptionTable := #[], attributes := #[] }
def k8m9 : Method := { name := "checkIndex", desc := "(II)V", sig := { parameters := [.int, .int], returnType := none }, accessFlags := 8, code := some k8c9 }
/-- java/lang/String -/
def k8 : Class := { plain "java/lang/String" (some 0) with
  accessFlags := 49
  interfaces := #[3, 4, 5, 6, 7]
  cf := some (fileOf pool8 10 #[.nestMembers #[1103]] #[{ accessFlags := 1, nameIndex := 5, descriptorIndex := 6, attributes := #[] }, { accessFlags := 1, nameIndex := 5, descriptorIndex := 1010, attributes := #[] }, { accessFlags := 1, nameIndex := 507, descriptorIndex := 334, attributes := #[] }, { accessFlags := 1, nameIndex := 692, descriptorIndex := 142, attributes := #[] }, { accessFlags := 1, nameIndex := 497, descriptorIndex := 427, attributes := #[] }, { accessFlags := 1, nameIndex := 543, descriptorIndex := 573, attributes := #[] }, { accessFlags := 2, nameIndex := 5, descriptorIndex := 29, attributes := #[] }, { accessFlags := 0, nameIndex := 17, descriptorIndex := 337, attributes := #[] }, { accessFlags := 0, nameIndex := 494, descriptorIndex := 142, attributes := #[] }, { accessFlags := 8, nameIndex := 501, descriptorIndex := 391, attributes := #[] }] 49 2 #[1106, 1108, 575, 1110, 1112] #[{ accessFlags := 18, nameIndex := 13, descriptorIndex := 14, attributes := #[] }, { accessFlags := 18, nameIndex := 17, descriptorIndex := 18, attributes := #[] }, { accessFlags := 2, nameIndex := 21, descriptorIndex := 22, attributes := #[] }, { accessFlags := 2, nameIndex := 25, descriptorIndex := 26, attributes := #[] }, { accessFlags := 26, nameIndex := 1116, descriptorIndex := 1117, attributes := #[] }, { accessFlags := 24, nameIndex := 40, descriptorIndex := 26, attributes := #[] }, { accessFlags := 26, nameIndex := 1101, descriptorIndex := 1102, attributes := #[] }, { accessFlags := 26, nameIndex := 1121, descriptorIndex := 1122, attributes := #[] }, { accessFlags := 25, nameIndex := 599, descriptorIndex := 600, attributes := #[] }, { accessFlags := 24, nameIndex := 1125, descriptorIndex := 18, attributes := #[] }, { accessFlags := 24, nameIndex := 1127, descriptorIndex := 18, attributes := #[] }])
  fields := #[{ name := "value", type := (.array .byte), accessFlags := 18, slot := 0, constantValue := 0 }, { name := "coder", type := .byte, accessFlags := 18, slot := 1, constantValue := 0 }, { name := "hash", type := .int, accessFlags := 2, slot := 2, constantValue := 0 }, { name := "hashIsZero", type := .boolean, accessFlags := 2, slot := 3, constantValue := 0 }, { name := "serialVersionUID", type := .long, accessFlags := 26, slot := 0, constantValue := 0 }, { name := "COMPACT_STRINGS", type := .boolean, accessFlags := 24, slot := 1, constantValue := 0 }, { name := "serialPersistentFields", type := (.array (.object "java/io/ObjectStreamField")), accessFlags := 26, slot := 2, constantValue := 0 }, { name := "REPL", type := .char, accessFlags := 26, slot := 3, constantValue := 0 }, { name := "CASE_INSENSITIVE_ORDER", type := (.object "java/util/Comparator"), accessFlags := 25, slot := 4, constantValue := 0 }, { name := "LATIN1", type := .byte, accessFlags := 24, slot := 5, constantValue := 0 }, { name := "UTF16", type := .byte, accessFlags := 24, slot := 6, constantValue := 0 }]
  methods := #[k8m0, k8m1, k8m2, k8m3, k8m4, k8m5, k8m6, k8m7, k8m8, k8m9]
  instanceTypes := #[(.array .byte), .byte, .int, .boolean]
  staticTypes := #[.long, .boolean, (.array (.object "java/io/ObjectStreamField")), .char, (.object "java/util/Comparator"), .byte, .byte]
  resolved := Array.replicate 1451 none
  statics := some 0 }

def pool9 : Array CpInfo := pool [(6, .class_ 8), (1, u "java/lang/Object"), (0, u "<init>"), (0, u "()V"), (1, .class_ 14), (1, u "java/lang/StringUTF16"), (31, u "$assertionsDisabled"), (0, u "Z"), (13, u "HI_BYTE_SHIFT"), (0, u "I"), (2, u "LO_BYTE_SHIFT"), (49, .methodref 12 116), (0, .nameAndType 117 118), (0, u "compress"), (0, u "([CI[BII)I"), (3, u "([CII)[B"), (138, u "coderFromArrayLen"), (0, u "([BI)B"), (106, .class_ 371), (1, u "java/lang/StringUTF16$LinesSpliterator"), (58, u "MAX_LENGTH"), (196, .class_ 628), (0, u "java/lang/StringUTF16$CodePointsSpliterator"), (0, .class_ 630), (0, u "java/lang/StringUTF16$CharsSpliterator")] 4

def k9m0 : Method := { name := "<init>", desc := "()V", sig := { parameters := [], returnType := none }, accessFlags := 0, code := none }
def k9c1 : Code := { maxStack := 2, maxLocals := 2, code := jdk_52_method_15_code, exceptionTable := #[], attributes := #[] }
def k9m1 : Method := { name := "coderFromArrayLen", desc := "([BI)B", sig := { parameters := [(.array .byte), .int], returnType := some .byte }, accessFlags := 8, code := some k9c1 }
def k9c2 : Code := { maxStack := 5, maxLocals := 6, code := jdk_52_method_16_code, exceptionTable := #[], attributes := #[] }
def k9m2 : Method := { name := "compress", desc := "([CII)[B", sig := { parameters := [(.array .char), .int, .int], returnType := some (.array .byte) }, accessFlags := 9, code := some k9c2 }
def k9c3 : Code := { maxStack := 3, maxLocals := 7, code := jdk_52_method_21_code, exceptionTable := #[], attributes := #[] }
def k9m3 : Method := { name := "compress", desc := "([CI[BII)I", sig := { parameters := [(.array .char), .int, (.array .byte), .int, .int], returnType := some .int }, accessFlags := 9, code := some k9c3 }
/-- java/lang/StringUTF16 -/
def k9 : Class := { plain "java/lang/StringUTF16" (some 0) with
  accessFlags := 48
  interfaces := #[]
  cf := some (fileOf pool9 12 #[.nestMembers #[627, 629, 369]] #[{ accessFlags := 0, nameIndex := 9, descriptorIndex := 10, attributes := #[] }, { accessFlags := 8, nameIndex := 261, descriptorIndex := 262, attributes := #[] }, { accessFlags := 9, nameIndex := 117, descriptorIndex := 122, attributes := #[] }, { accessFlags := 9, nameIndex := 117, descriptorIndex := 118, attributes := #[] }] 48 6 #[] #[{ accessFlags := 26, nameIndex := 61, descriptorIndex := 62, attributes := #[] }, { accessFlags := 26, nameIndex := 65, descriptorIndex := 62, attributes := #[] }, { accessFlags := 24, nameIndex := 430, descriptorIndex := 62, attributes := #[] }, { accessFlags := 4120, nameIndex := 46, descriptorIndex := 47, attributes := #[] }])
  fields := #[{ name := "HI_BYTE_SHIFT", type := .int, accessFlags := 26, slot := 0, constantValue := 0 }, { name := "LO_BYTE_SHIFT", type := .int, accessFlags := 26, slot := 1, constantValue := 0 }, { name := "MAX_LENGTH", type := .int, accessFlags := 24, slot := 2, constantValue := 0 }, { name := "$assertionsDisabled", type := .boolean, accessFlags := 4120, slot := 3, constantValue := 0 }]
  methods := #[k9m0, k9m1, k9m2, k9m3]
  instanceTypes := #[]
  staticTypes := #[.int, .int, .int, .boolean]
  resolved := Array.replicate 635 none
  statics := none }

def pool10 : Array CpInfo := pool [(2, .class_ 4), (1, u "java/lang/Object"), (0, u "<init>"), (0, u "()V"), (35, .class_ 44), (1, u "java/util/Objects"), (0, u "requireNonNull"), (48, u "(Ljava/lang/Object;Ljava/lang/String;)Ljava/lang/Object;")] 89

def k10m0 : Method := { name := "<init>", desc := "()V", sig := { parameters := [], returnType := none }, accessFlags := 2, code := none }
def k10c1 : Code := { maxStack := 3, maxLocals := 2, code := jdk_31_method_11_code, exceptionTable := #[], attributes := #[] }
def k10m1 : Method := { name := "requireNonNull", desc := "(Ljava/lang/Object;Ljava/lang/String;)Ljava/lang/Object;", sig := { parameters := [(.object "java/lang/Object"), (.object "java/lang/String")], returnType := some (.object "java/lang/Object") }, accessFlags := 9, code := some k10c1 }
/-- java/util/Objects -/
def k10 : Class := { plain "java/util/Objects" (some 0) with
  accessFlags := 49
  interfaces := #[]
  cf := some (fileOf pool10 42 #[] #[{ accessFlags := 2, nameIndex := 5, descriptorIndex := 6, attributes := #[] }, { accessFlags := 9, nameIndex := 45, descriptorIndex := 94, attributes := #[] }] 49 2 #[] #[])
  fields := #[]
  methods := #[k10m0, k10m1]
  instanceTypes := #[]
  staticTypes := #[]
  resolved := Array.replicate 184 none
  statics := none }

def pool11 : Array CpInfo := pool [(1, .class_ 2), (0, u "java/lang/String"), (1, .class_ 6), (1, u "java/lang/Object"), (0, u "<init>"), (0, u "()V"), (0, .methodref 1 10), (0, .nameAndType 11 12), (0, u "checkIndex"), (0, u "(II)V"), (1, .class_ 16), (1, u "java/lang/StringLatin1"), (36, u "([BI)C"), (67, u "$assertionsDisabled"), (0, u "Z"), (98, .class_ 223), (1, u "java/lang/StringLatin1$LinesSpliterator"), (28, u "charAt"), (28, u "equals"), (0, u "([B[B)Z"), (107, .class_ 391), (0, u "java/lang/StringLatin1$CharsSpliterator")] 3

def k11m0 : Method := { name := "<init>", desc := "()V", sig := { parameters := [], returnType := none }, accessFlags := 0, code := none }
def k11c1 : Code := { maxStack := 2, maxLocals := 2, code := jdk_43_method_2_code, exceptionTable := #[], attributes := #[] }
def k11m1 : Method := { name := "charAt", desc := "([BI)C", sig := { parameters := [(.array .byte), .int], returnType := some .char }, accessFlags := 9, code := some k11c1 }
def k11c2 : Code := { maxStack := 3, maxLocals := 3, code := jdk_43_method_13_code, exceptionTable := #[], attributes := #[] }
def k11m2 : Method := { name := "equals", desc := "([B[B)Z", sig := { parameters := [(.array .byte), (.array .byte)], returnType := some .boolean }, accessFlags := 9, code := some k11c2 }
/-- java/lang/StringLatin1 -/
def k11 : Class := { plain "java/lang/StringLatin1" (some 0) with
  accessFlags := 48
  interfaces := #[]
  cf := some (fileOf pool11 14 #[.nestMembers #[390, 221]] #[{ accessFlags := 0, nameIndex := 7, descriptorIndex := 8, attributes := #[] }, { accessFlags := 9, nameIndex := 252, descriptorIndex := 53, attributes := #[] }, { accessFlags := 9, nameIndex := 281, descriptorIndex := 282, attributes := #[] }] 48 4 #[] #[{ accessFlags := 4120, nameIndex := 121, descriptorIndex := 122, attributes := #[] }])
  fields := #[{ name := "$assertionsDisabled", type := .boolean, accessFlags := 4120, slot := 0, constantValue := 0 }]
  methods := #[k11m0, k11m1, k11m2]
  instanceTypes := #[]
  staticTypes := #[.boolean]
  resolved := Array.replicate 395 none
  statics := none }

def pool12 : Array CpInfo := pool [(2, .class_ 4), (1, u "java/lang/Object"), (0, u "<init>"), (0, u "()V"), (17, .class_ 26), (1, u "jdk/internal/util/Preconditions"), (6, u "checkIndex"), (21, .class_ 56), (0, u "jdk/internal/util/Preconditions$4"), (57, .class_ 115), (0, u "jdk/internal/util/Preconditions$1"), (7, u "SIOOBE_FORMATTER"), (0, u "Ljava/util/function/BiFunction;"), (0, .class_ 126), (0, u "jdk/internal/util/Preconditions$2"), (3, u "AIOOBE_FORMATTER"), (0, .class_ 132), (0, u "jdk/internal/util/Preconditions$3"), (3, u "IOOBE_FORMATTER"), (41, u "(IILjava/util/function/BiFunction;)I")] 15

def k12m0 : Method := { name := "<init>", desc := "()V", sig := { parameters := [], returnType := none }, accessFlags := 1, code := none }
def k12c1 : Code := { maxStack := 3, maxLocals := 3, code := jdk_41_method_11_code, exceptionTable := #[], attributes := #[] }
def k12m1 : Method := { name := "checkIndex", desc := "(IILjava/util/function/BiFunction;)I", sig := { parameters := [.int, .int, (.object "java/util/function/BiFunction")], returnType := some .int }, accessFlags := 9, code := some k12c1 }
/-- jdk/internal/util/Preconditions -/
def k12 : Class := { plain "jdk/internal/util/Preconditions" (some 0) with
  accessFlags := 33
  interfaces := #[]
  cf := some (fileOf pool12 24 #[.nestMembers #[55, 131, 125, 114]] #[{ accessFlags := 1, nameIndex := 5, descriptorIndex := 6, attributes := #[] }, { accessFlags := 9, nameIndex := 33, descriptorIndex := 178, attributes := #[] }] 33 2 #[] #[{ accessFlags := 25, nameIndex := 123, descriptorIndex := 124, attributes := #[] }, { accessFlags := 25, nameIndex := 130, descriptorIndex := 124, attributes := #[] }, { accessFlags := 25, nameIndex := 136, descriptorIndex := 124, attributes := #[] }])
  fields := #[{ name := "SIOOBE_FORMATTER", type := (.object "java/util/function/BiFunction"), accessFlags := 25, slot := 0, constantValue := 0 }, { name := "AIOOBE_FORMATTER", type := (.object "java/util/function/BiFunction"), accessFlags := 25, slot := 1, constantValue := 0 }, { name := "IOOBE_FORMATTER", type := (.object "java/util/function/BiFunction"), accessFlags := 25, slot := 2, constantValue := 0 }]
  methods := #[k12m0, k12m1]
  instanceTypes := #[]
  staticTypes := #[(.object "java/util/function/BiFunction"), (.object "java/util/function/BiFunction"), (.object "java/util/function/BiFunction")]
  resolved := Array.replicate 194 none
  statics := some 1 }

def pool13 : Array CpInfo := pool [(1, .methodref 2 3), (0, .class_ 4), (0, .nameAndType 5 6), (0, u "java/lang/Object"), (0, u "<init>"), (0, u "()V"), (1, .class_ 10), (1, u "java/lang/Number"), (2, .class_ 14), (0, u "java/io/Serializable"), (0, u "serialVersionUID"), (0, u "J")] 20

def k13c0 : Code := { maxStack := 1, maxLocals := 1, code := jdk_18_method_1_code, exceptionTable := #[], attributes := #[] }
def k13m0 : Method := { name := "<init>", desc := "()V", sig := { parameters := [], returnType := none }, accessFlags := 1, code := some k13c0 }
/-- java/lang/Number -/
def k13 : Class := { plain "java/lang/Number" (some 0) with
  accessFlags := 1057
  interfaces := #[3]
  cf := some (fileOf pool13 8 #[] #[{ accessFlags := 1, nameIndex := 5, descriptorIndex := 6, attributes := #[] }] 1057 2 #[13] #[{ accessFlags := 26, nameIndex := 15, descriptorIndex := 16, attributes := #[] }])
  fields := #[{ name := "serialVersionUID", type := .long, accessFlags := 26, slot := 0, constantValue := 0 }]
  methods := #[k13m0]
  instanceTypes := #[]
  staticTypes := #[.long]
  resolved := Array.replicate 37 none
  statics := none }

def pool14 : Array CpInfo := pool [(1, .class_ 2), (0, u "java/lang/Integer"), (16, u "digits"), (0, u "[C"), (46, u "<init>"), (17, u "DigitOnes"), (0, u "[B"), (2, u "DigitTens"), (10, .nameAndType 67 101), (0, u "()V"), (85, u "valueOf"), (0, u "(I)Ljava/lang/Integer;"), (0, .class_ 190), (0, u "java/lang/Integer$IntegerCache"), (0, .fieldref 189 192), (0, .nameAndType 193 194), (0, u "high"), (0, u "I"), (0, .fieldref 189 196), (0, .nameAndType 197 198), (0, u "cache"), (0, u "[Ljava/lang/Integer;"), (0, .methodref 1 200), (0, .nameAndType 67 201), (0, u "(I)V"), (0, .methodref 203 100), (0, .class_ 204), (0, u "java/lang/Number"), (0, .fieldref 1 206), (0, .nameAndType 207 194), (0, u "value"), (94, u "TYPE"), (0, u "Ljava/lang/Class;"), (0, .class_ 305), (0, u "java/lang/Comparable"), (0, .class_ 307), (0, u "java/lang/constant/Constable"), (0, .class_ 309), (0, u "java/lang/constant/ConstantDesc"), (0, u "MIN_VALUE"), (1, u "MAX_VALUE"), (3, u "SIZE"), (1, u "BYTES"), (1, u "serialVersionUID"), (0, u "J")] 131

def k14c0 : Code := { maxStack := 3, maxLocals := 1, code := jdk_33_method_22_code, exceptionTable := #[], attributes := #[] }
def k14m0 : Method := { name := "valueOf", desc := "(I)Ljava/lang/Integer;", sig := { parameters := [.int], returnType := some (.object "java/lang/Integer") }, accessFlags := 9, code := some k14c0 }
def k14c1 : Code := { maxStack := 2, maxLocals := 2, code := jdk_33_method_23_code, exceptionTable := #[], attributes := #[] }
def k14m1 : Method := { name := "<init>", desc := "(I)V", sig := { parameters := [.int], returnType := none }, accessFlags := 1, code := some k14c1 }
/-- java/lang/Integer -/
def k14 : Class := { plain "java/lang/Integer" (some 13) with
  accessFlags := 49
  interfaces := #[4, 6, 7]
  cf := some (fileOf pool14 1 #[.nestMembers #[189]] #[{ accessFlags := 9, nameIndex := 187, descriptorIndex := 188, attributes := #[] }, { accessFlags := 1, nameIndex := 67, descriptorIndex := 201, attributes := #[] }] 49 203 #[304, 306, 308] #[{ accessFlags := 25, nameIndex := 310, descriptorIndex := 194, attributes := #[] }, { accessFlags := 25, nameIndex := 312, descriptorIndex := 194, attributes := #[] }, { accessFlags := 25, nameIndex := 302, descriptorIndex := 303, attributes := #[] }, { accessFlags := 24, nameIndex := 19, descriptorIndex := 20, attributes := #[] }, { accessFlags := 24, nameIndex := 89, descriptorIndex := 86, attributes := #[] }, { accessFlags := 24, nameIndex := 85, descriptorIndex := 86, attributes := #[] }, { accessFlags := 18, nameIndex := 207, descriptorIndex := 194, attributes := #[] }, { accessFlags := 25, nameIndex := 316, descriptorIndex := 194, attributes := #[] }, { accessFlags := 25, nameIndex := 318, descriptorIndex := 194, attributes := #[] }, { accessFlags := 26, nameIndex := 320, descriptorIndex := 321, attributes := #[] }])
  fields := #[{ name := "MIN_VALUE", type := .int, accessFlags := 25, slot := 0, constantValue := 0 }, { name := "MAX_VALUE", type := .int, accessFlags := 25, slot := 1, constantValue := 0 }, { name := "TYPE", type := (.object "java/lang/Class"), accessFlags := 25, slot := 2, constantValue := 0 }, { name := "digits", type := (.array .char), accessFlags := 24, slot := 3, constantValue := 0 }, { name := "DigitTens", type := (.array .byte), accessFlags := 24, slot := 4, constantValue := 0 }, { name := "DigitOnes", type := (.array .byte), accessFlags := 24, slot := 5, constantValue := 0 }, { name := "value", type := .int, accessFlags := 18, slot := 0, constantValue := 0 }, { name := "SIZE", type := .int, accessFlags := 25, slot := 6, constantValue := 0 }, { name := "BYTES", type := .int, accessFlags := 25, slot := 7, constantValue := 0 }, { name := "serialVersionUID", type := .long, accessFlags := 26, slot := 8, constantValue := 0 }]
  methods := #[k14m0, k14m1]
  instanceTypes := #[.int]
  staticTypes := #[.int, .int, (.object "java/lang/Class"), (.array .char), (.array .byte), (.array .byte), .int, .int, .long]
  resolved := Array.replicate 453 none
  statics := none }

def pool15 : Array CpInfo := pool [(2, .class_ 4), (1, u "java/lang/Object"), (0, u "<init>"), (0, u "()V"), (0, .class_ 8), (0, u "java/lang/Integer"), (7, .class_ 18), (1, u "java/lang/Integer$IntegerCache"), (0, u "$assertionsDisabled"), (0, u "Z"), (26, u "high"), (0, u "I"), (8, u "archivedCache"), (0, u "[Ljava/lang/Integer;"), (12, u "cache"), (0, u "low")] 27

def k15m0 : Method := { name := "<init>", desc := "()V", sig := { parameters := [], returnType := none }, accessFlags := 2, code := none }
/-- java/lang/Integer$IntegerCache -/
def k15 : Class := { plain "java/lang/Integer$IntegerCache" (some 0) with
  accessFlags := 48
  interfaces := #[]
  cf := some (fileOf pool15 16 #[.nestHost 7] #[{ accessFlags := 2, nameIndex := 5, descriptorIndex := 6, attributes := #[] }] 48 2 #[] #[{ accessFlags := 24, nameIndex := 72, descriptorIndex := 48, attributes := #[] }, { accessFlags := 24, nameIndex := 47, descriptorIndex := 48, attributes := #[] }, { accessFlags := 24, nameIndex := 71, descriptorIndex := 58, attributes := #[] }, { accessFlags := 8, nameIndex := 57, descriptorIndex := 58, attributes := #[] }, { accessFlags := 4120, nameIndex := 19, descriptorIndex := 20, attributes := #[] }])
  fields := #[{ name := "low", type := .int, accessFlags := 24, slot := 0, constantValue := 0 }, { name := "high", type := .int, accessFlags := 24, slot := 1, constantValue := 0 }, { name := "cache", type := (.array (.object "java/lang/Integer")), accessFlags := 24, slot := 2, constantValue := 0 }, { name := "archivedCache", type := (.array (.object "java/lang/Integer")), accessFlags := 8, slot := 3, constantValue := 0 }, { name := "$assertionsDisabled", type := .boolean, accessFlags := 4120, slot := 4, constantValue := 0 }]
  methods := #[k15m0]
  instanceTypes := #[]
  staticTypes := #[.int, .int, (.array (.object "java/lang/Integer")), (.array (.object "java/lang/Integer")), .boolean]
  resolved := Array.replicate 100 none
  statics := some 2 }

def pool16 : Array CpInfo := pool [(9, u "<init>"), (6, .class_ 18), (1, u "java/lang/Object"), (0, u "()V"), (1, .class_ 23), (1, u "jdk/internal/util/ArraysSupport"), (0, u "LOG2_ARRAY_LONG_INDEX_SCALE"), (0, u "I"), (2, u "U"), (0, u "Ljdk/internal/misc/Unsafe;"), (8, u "BIG_ENDIAN"), (0, u "Z"), (8, u "LOG2_BYTE_BIT_SIZE"), (4, u "LOG2_ARRAY_INT_INDEX_SCALE"), (54, u "JLA"), (0, u "Ljdk/internal/access/JavaLangAccess;"), (11, u "LOG2_ARRAY_BOOLEAN_INDEX_SCALE"), (9, u "LOG2_ARRAY_BYTE_INDEX_SCALE"), (5, u "LOG2_ARRAY_CHAR_INDEX_SCALE"), (5, u "LOG2_ARRAY_SHORT_INDEX_SCALE"), (18, u "LOG2_ARRAY_FLOAT_INDEX_SCALE"), (24, u "LOG2_ARRAY_DOUBLE_INDEX_SCALE"), (89, u "T_BOOLEAN"), (2, u "T_CHAR"), (1, u "T_FLOAT"), (1, u "T_DOUBLE"), (1, u "T_BYTE"), (1, u "T_SHORT"), (1, u "T_INT"), (1, u "T_LONG"), (1, u "SOFT_MAX_ARRAY_LENGTH")] 83

def k16m0 : Method := { name := "<init>", desc := "()V", sig := { parameters := [], returnType := none }, accessFlags := 2, code := none }
/-- jdk/internal/util/ArraysSupport -/
def k16 : Class := { plain "jdk/internal/util/ArraysSupport" (some 0) with
  accessFlags := 33
  interfaces := #[]
  cf := some (fileOf pool16 21 #[] #[{ accessFlags := 2, nameIndex := 9, descriptorIndex := 19, attributes := #[] }] 33 16 #[] #[{ accessFlags := 24, nameIndex := 28, descriptorIndex := 29, attributes := #[] }, { accessFlags := 26, nameIndex := 38, descriptorIndex := 39, attributes := #[] }, { accessFlags := 25, nameIndex := 121, descriptorIndex := 25, attributes := #[] }, { accessFlags := 25, nameIndex := 131, descriptorIndex := 25, attributes := #[] }, { accessFlags := 25, nameIndex := 137, descriptorIndex := 25, attributes := #[] }, { accessFlags := 25, nameIndex := 143, descriptorIndex := 25, attributes := #[] }, { accessFlags := 25, nameIndex := 53, descriptorIndex := 25, attributes := #[] }, { accessFlags := 25, nameIndex := 24, descriptorIndex := 25, attributes := #[] }, { accessFlags := 25, nameIndex := 162, descriptorIndex := 25, attributes := #[] }, { accessFlags := 25, nameIndex := 187, descriptorIndex := 25, attributes := #[] }, { accessFlags := 26, nameIndex := 48, descriptorIndex := 25, attributes := #[] }, { accessFlags := 25, nameIndex := 277, descriptorIndex := 25, attributes := #[] }, { accessFlags := 25, nameIndex := 280, descriptorIndex := 25, attributes := #[] }, { accessFlags := 25, nameIndex := 282, descriptorIndex := 25, attributes := #[] }, { accessFlags := 25, nameIndex := 284, descriptorIndex := 25, attributes := #[] }, { accessFlags := 25, nameIndex := 286, descriptorIndex := 25, attributes := #[] }, { accessFlags := 25, nameIndex := 288, descriptorIndex := 25, attributes := #[] }, { accessFlags := 25, nameIndex := 290, descriptorIndex := 25, attributes := #[] }, { accessFlags := 25, nameIndex := 292, descriptorIndex := 25, attributes := #[] }, { accessFlags := 26, nameIndex := 108, descriptorIndex := 109, attributes := #[] }, { accessFlags := 25, nameIndex := 294, descriptorIndex := 25, attributes := #[] }])
  fields := #[{ name := "U", type := (.object "jdk/internal/misc/Unsafe"), accessFlags := 24, slot := 0, constantValue := 0 }, { name := "BIG_ENDIAN", type := .boolean, accessFlags := 26, slot := 1, constantValue := 0 }, { name := "LOG2_ARRAY_BOOLEAN_INDEX_SCALE", type := .int, accessFlags := 25, slot := 2, constantValue := 0 }, { name := "LOG2_ARRAY_BYTE_INDEX_SCALE", type := .int, accessFlags := 25, slot := 3, constantValue := 0 }, { name := "LOG2_ARRAY_CHAR_INDEX_SCALE", type := .int, accessFlags := 25, slot := 4, constantValue := 0 }, { name := "LOG2_ARRAY_SHORT_INDEX_SCALE", type := .int, accessFlags := 25, slot := 5, constantValue := 0 }, { name := "LOG2_ARRAY_INT_INDEX_SCALE", type := .int, accessFlags := 25, slot := 6, constantValue := 0 }, { name := "LOG2_ARRAY_LONG_INDEX_SCALE", type := .int, accessFlags := 25, slot := 7, constantValue := 0 }, { name := "LOG2_ARRAY_FLOAT_INDEX_SCALE", type := .int, accessFlags := 25, slot := 8, constantValue := 0 }, { name := "LOG2_ARRAY_DOUBLE_INDEX_SCALE", type := .int, accessFlags := 25, slot := 9, constantValue := 0 }, { name := "LOG2_BYTE_BIT_SIZE", type := .int, accessFlags := 26, slot := 10, constantValue := 0 }, { name := "T_BOOLEAN", type := .int, accessFlags := 25, slot := 11, constantValue := 0 }, { name := "T_CHAR", type := .int, accessFlags := 25, slot := 12, constantValue := 0 }, { name := "T_FLOAT", type := .int, accessFlags := 25, slot := 13, constantValue := 0 }, { name := "T_DOUBLE", type := .int, accessFlags := 25, slot := 14, constantValue := 0 }, { name := "T_BYTE", type := .int, accessFlags := 25, slot := 15, constantValue := 0 }, { name := "T_SHORT", type := .int, accessFlags := 25, slot := 16, constantValue := 0 }, { name := "T_INT", type := .int, accessFlags := 25, slot := 17, constantValue := 0 }, { name := "T_LONG", type := .int, accessFlags := 25, slot := 18, constantValue := 0 }, { name := "JLA", type := (.object "jdk/internal/access/JavaLangAccess"), accessFlags := 26, slot := 19, constantValue := 0 }, { name := "SOFT_MAX_ARRAY_LENGTH", type := .int, accessFlags := 25, slot := 20, constantValue := 0 }]
  methods := #[k16m0]
  instanceTypes := #[]
  staticTypes := #[(.object "jdk/internal/misc/Unsafe"), .boolean, .int, .int, .int, .int, .int, .int, .int, .int, .int, .int, .int, .int, .int, .int, .int, .int, .int, (.object "jdk/internal/access/JavaLangAccess"), .int]
  resolved := Array.replicate 378 none
  statics := none }

def pool17 : Array CpInfo := pool [(1, u "java/lang/Cloneable"), (0, .class_ 1), (0, u "java/lang/Object"), (0, .class_ 3)] 3

/-- java/lang/Cloneable -/
def k17 : Class := { plain "java/lang/Cloneable" (some 0) with
  accessFlags := 1537
  interfaces := #[]
  cf := some (fileOf pool17 2 #[] #[] 1537 4 #[] #[])
  fields := #[]
  methods := #[]
  instanceTypes := #[]
  staticTypes := #[]
  resolved := Array.replicate 8 none
  statics := none }

/-- the primitive byte -/
def k18 : Class := { plain "byte" none with kind := .primitive 'B', accessFlags := 0x411 }
/-- [B -/
def k19 : Class := { plain "[B" (some 0) with kind := .array 18 .byte, interfaces := #[17, 3], accessFlags := 1041 }

/-- the primitive char -/
def k20 : Class := { plain "char" none with kind := .primitive 'C', accessFlags := 0x411 }
/-- [C -/
def k21 : Class := { plain "[C" (some 0) with kind := .array 20 .char, interfaces := #[17, 3], accessFlags := 1041 }

/-- the primitive int -/
def k22 : Class := { plain "int" none with kind := .primitive 'I', accessFlags := 0x411 }
/-- [I -/
def k23 : Class := { plain "[I" (some 0) with kind := .array 22 .int, interfaces := #[17, 3], accessFlags := 1041 }

/-- [Ljava/lang/Integer; -/
def k24 : Class := { plain "[Ljava/lang/Integer;" (some 0) with kind := .array 14 (.object "java/lang/Integer"), interfaces := #[17, 3], accessFlags := 1041 }

def heap : Heap := #[{ cls := 8, slots := #[.long 0, .int 1, .null, .int 0, .null, .int 0, .int 0], vm := .statics 8 },
  { cls := 12, slots := #[.null, .null, .null], vm := .statics 12 },
  { cls := 15, slots := #[.int 0, .int 127, .ref 3, .null, .int 0], vm := .statics 15 },
  { cls := 24, slots := #[.ref 4, .ref 5, .ref 6, .ref 7, .ref 8, .ref 9, .ref 10, .ref 11, .ref 12, .ref 13, .ref 14, .ref 15, .ref 16, .ref 17, .ref 18, .ref 19, .ref 20, .ref 21, .ref 22, .ref 23, .ref 24, .ref 25, .ref 26, .ref 27, .ref 28, .ref 29, .ref 30, .ref 31, .ref 32, .ref 33, .ref 34, .ref 35, .ref 36, .ref 37, .ref 38, .ref 39, .ref 40, .ref 41, .ref 42, .ref 43, .ref 44, .ref 45, .ref 46, .ref 47, .ref 48, .ref 49, .ref 50, .ref 51, .ref 52, .ref 53, .ref 54, .ref 55, .ref 56, .ref 57, .ref 58, .ref 59, .ref 60, .ref 61, .ref 62, .ref 63, .ref 64, .ref 65, .ref 66, .ref 67, .ref 68, .ref 69, .ref 70, .ref 71, .ref 72, .ref 73, .ref 74, .ref 75, .ref 76, .ref 77, .ref 78, .ref 79, .ref 80, .ref 81, .ref 82, .ref 83, .ref 84, .ref 85, .ref 86, .ref 87, .ref 88, .ref 89, .ref 90, .ref 91, .ref 92, .ref 93, .ref 94, .ref 95, .ref 96, .ref 97, .ref 98, .ref 99, .ref 100, .ref 101, .ref 102, .ref 103, .ref 104, .ref 105, .ref 106, .ref 107, .ref 108, .ref 109, .ref 110, .ref 111, .ref 112, .ref 113, .ref 114, .ref 115, .ref 116, .ref 117, .ref 118, .ref 119, .ref 120, .ref 121, .ref 122, .ref 123, .ref 124, .ref 125, .ref 126, .ref 127, .ref 128, .ref 129, .ref 130, .ref 131, .ref 132, .ref 133, .ref 134, .ref 135, .ref 136, .ref 137, .ref 138, .ref 139, .ref 140, .ref 141, .ref 142, .ref 143, .ref 144, .ref 145, .ref 146, .ref 147, .ref 148, .ref 149, .ref 150, .ref 151, .ref 152, .ref 153, .ref 154, .ref 155, .ref 156, .ref 157, .ref 158, .ref 159, .ref 160, .ref 161, .ref 162, .ref 163, .ref 164, .ref 165, .ref 166, .ref 167, .ref 168, .ref 169, .ref 170, .ref 171, .ref 172, .ref 173, .ref 174, .ref 175, .ref 176, .ref 177, .ref 178, .ref 179, .ref 180, .ref 181, .ref 182, .ref 183, .ref 184, .ref 185, .ref 186, .ref 187, .ref 188, .ref 189, .ref 190, .ref 191, .ref 192, .ref 193, .ref 194, .ref 195, .ref 196, .ref 197, .ref 198, .ref 199, .ref 200, .ref 201, .ref 202, .ref 203, .ref 204, .ref 205, .ref 206, .ref 207, .ref 208, .ref 209, .ref 210, .ref 211, .ref 212, .ref 213, .ref 214, .ref 215, .ref 216, .ref 217, .ref 218, .ref 219, .ref 220, .ref 221, .ref 222, .ref 223, .ref 224, .ref 225, .ref 226, .ref 227, .ref 228, .ref 229, .ref 230, .ref 231, .ref 232, .ref 233, .ref 234, .ref 235, .ref 236, .ref 237, .ref 238, .ref 239, .ref 240, .ref 241, .ref 242, .ref 243, .ref 244, .ref 245, .ref 246, .ref 247, .ref 248, .ref 249, .ref 250, .ref 251, .ref 252, .ref 253, .ref 254, .ref 255, .ref 256, .ref 257, .ref 258, .ref 259], vm := .none },
  { cls := 14, slots := #[.int (-128)], vm := .none },
  { cls := 14, slots := #[.int (-127)], vm := .none },
  { cls := 14, slots := #[.int (-126)], vm := .none },
  { cls := 14, slots := #[.int (-125)], vm := .none },
  { cls := 14, slots := #[.int (-124)], vm := .none },
  { cls := 14, slots := #[.int (-123)], vm := .none },
  { cls := 14, slots := #[.int (-122)], vm := .none },
  { cls := 14, slots := #[.int (-121)], vm := .none },
  { cls := 14, slots := #[.int (-120)], vm := .none },
  { cls := 14, slots := #[.int (-119)], vm := .none },
  { cls := 14, slots := #[.int (-118)], vm := .none },
  { cls := 14, slots := #[.int (-117)], vm := .none },
  { cls := 14, slots := #[.int (-116)], vm := .none },
  { cls := 14, slots := #[.int (-115)], vm := .none },
  { cls := 14, slots := #[.int (-114)], vm := .none },
  { cls := 14, slots := #[.int (-113)], vm := .none },
  { cls := 14, slots := #[.int (-112)], vm := .none },
  { cls := 14, slots := #[.int (-111)], vm := .none },
  { cls := 14, slots := #[.int (-110)], vm := .none },
  { cls := 14, slots := #[.int (-109)], vm := .none },
  { cls := 14, slots := #[.int (-108)], vm := .none },
  { cls := 14, slots := #[.int (-107)], vm := .none },
  { cls := 14, slots := #[.int (-106)], vm := .none },
  { cls := 14, slots := #[.int (-105)], vm := .none },
  { cls := 14, slots := #[.int (-104)], vm := .none },
  { cls := 14, slots := #[.int (-103)], vm := .none },
  { cls := 14, slots := #[.int (-102)], vm := .none },
  { cls := 14, slots := #[.int (-101)], vm := .none },
  { cls := 14, slots := #[.int (-100)], vm := .none },
  { cls := 14, slots := #[.int (-99)], vm := .none },
  { cls := 14, slots := #[.int (-98)], vm := .none },
  { cls := 14, slots := #[.int (-97)], vm := .none },
  { cls := 14, slots := #[.int (-96)], vm := .none },
  { cls := 14, slots := #[.int (-95)], vm := .none },
  { cls := 14, slots := #[.int (-94)], vm := .none },
  { cls := 14, slots := #[.int (-93)], vm := .none },
  { cls := 14, slots := #[.int (-92)], vm := .none },
  { cls := 14, slots := #[.int (-91)], vm := .none },
  { cls := 14, slots := #[.int (-90)], vm := .none },
  { cls := 14, slots := #[.int (-89)], vm := .none },
  { cls := 14, slots := #[.int (-88)], vm := .none },
  { cls := 14, slots := #[.int (-87)], vm := .none },
  { cls := 14, slots := #[.int (-86)], vm := .none },
  { cls := 14, slots := #[.int (-85)], vm := .none },
  { cls := 14, slots := #[.int (-84)], vm := .none },
  { cls := 14, slots := #[.int (-83)], vm := .none },
  { cls := 14, slots := #[.int (-82)], vm := .none },
  { cls := 14, slots := #[.int (-81)], vm := .none },
  { cls := 14, slots := #[.int (-80)], vm := .none },
  { cls := 14, slots := #[.int (-79)], vm := .none },
  { cls := 14, slots := #[.int (-78)], vm := .none },
  { cls := 14, slots := #[.int (-77)], vm := .none },
  { cls := 14, slots := #[.int (-76)], vm := .none },
  { cls := 14, slots := #[.int (-75)], vm := .none },
  { cls := 14, slots := #[.int (-74)], vm := .none },
  { cls := 14, slots := #[.int (-73)], vm := .none },
  { cls := 14, slots := #[.int (-72)], vm := .none },
  { cls := 14, slots := #[.int (-71)], vm := .none },
  { cls := 14, slots := #[.int (-70)], vm := .none },
  { cls := 14, slots := #[.int (-69)], vm := .none },
  { cls := 14, slots := #[.int (-68)], vm := .none },
  { cls := 14, slots := #[.int (-67)], vm := .none },
  { cls := 14, slots := #[.int (-66)], vm := .none },
  { cls := 14, slots := #[.int (-65)], vm := .none },
  { cls := 14, slots := #[.int (-64)], vm := .none },
  { cls := 14, slots := #[.int (-63)], vm := .none },
  { cls := 14, slots := #[.int (-62)], vm := .none },
  { cls := 14, slots := #[.int (-61)], vm := .none },
  { cls := 14, slots := #[.int (-60)], vm := .none },
  { cls := 14, slots := #[.int (-59)], vm := .none },
  { cls := 14, slots := #[.int (-58)], vm := .none },
  { cls := 14, slots := #[.int (-57)], vm := .none },
  { cls := 14, slots := #[.int (-56)], vm := .none },
  { cls := 14, slots := #[.int (-55)], vm := .none },
  { cls := 14, slots := #[.int (-54)], vm := .none },
  { cls := 14, slots := #[.int (-53)], vm := .none },
  { cls := 14, slots := #[.int (-52)], vm := .none },
  { cls := 14, slots := #[.int (-51)], vm := .none },
  { cls := 14, slots := #[.int (-50)], vm := .none },
  { cls := 14, slots := #[.int (-49)], vm := .none },
  { cls := 14, slots := #[.int (-48)], vm := .none },
  { cls := 14, slots := #[.int (-47)], vm := .none },
  { cls := 14, slots := #[.int (-46)], vm := .none },
  { cls := 14, slots := #[.int (-45)], vm := .none },
  { cls := 14, slots := #[.int (-44)], vm := .none },
  { cls := 14, slots := #[.int (-43)], vm := .none },
  { cls := 14, slots := #[.int (-42)], vm := .none },
  { cls := 14, slots := #[.int (-41)], vm := .none },
  { cls := 14, slots := #[.int (-40)], vm := .none },
  { cls := 14, slots := #[.int (-39)], vm := .none },
  { cls := 14, slots := #[.int (-38)], vm := .none },
  { cls := 14, slots := #[.int (-37)], vm := .none },
  { cls := 14, slots := #[.int (-36)], vm := .none },
  { cls := 14, slots := #[.int (-35)], vm := .none },
  { cls := 14, slots := #[.int (-34)], vm := .none },
  { cls := 14, slots := #[.int (-33)], vm := .none },
  { cls := 14, slots := #[.int (-32)], vm := .none },
  { cls := 14, slots := #[.int (-31)], vm := .none },
  { cls := 14, slots := #[.int (-30)], vm := .none },
  { cls := 14, slots := #[.int (-29)], vm := .none },
  { cls := 14, slots := #[.int (-28)], vm := .none },
  { cls := 14, slots := #[.int (-27)], vm := .none },
  { cls := 14, slots := #[.int (-26)], vm := .none },
  { cls := 14, slots := #[.int (-25)], vm := .none },
  { cls := 14, slots := #[.int (-24)], vm := .none },
  { cls := 14, slots := #[.int (-23)], vm := .none },
  { cls := 14, slots := #[.int (-22)], vm := .none },
  { cls := 14, slots := #[.int (-21)], vm := .none },
  { cls := 14, slots := #[.int (-20)], vm := .none },
  { cls := 14, slots := #[.int (-19)], vm := .none },
  { cls := 14, slots := #[.int (-18)], vm := .none },
  { cls := 14, slots := #[.int (-17)], vm := .none },
  { cls := 14, slots := #[.int (-16)], vm := .none },
  { cls := 14, slots := #[.int (-15)], vm := .none },
  { cls := 14, slots := #[.int (-14)], vm := .none },
  { cls := 14, slots := #[.int (-13)], vm := .none },
  { cls := 14, slots := #[.int (-12)], vm := .none },
  { cls := 14, slots := #[.int (-11)], vm := .none },
  { cls := 14, slots := #[.int (-10)], vm := .none },
  { cls := 14, slots := #[.int (-9)], vm := .none },
  { cls := 14, slots := #[.int (-8)], vm := .none },
  { cls := 14, slots := #[.int (-7)], vm := .none },
  { cls := 14, slots := #[.int (-6)], vm := .none },
  { cls := 14, slots := #[.int (-5)], vm := .none },
  { cls := 14, slots := #[.int (-4)], vm := .none },
  { cls := 14, slots := #[.int (-3)], vm := .none },
  { cls := 14, slots := #[.int (-2)], vm := .none },
  { cls := 14, slots := #[.int (-1)], vm := .none },
  { cls := 14, slots := #[.int 0], vm := .none },
  { cls := 14, slots := #[.int 1], vm := .none },
  { cls := 14, slots := #[.int 2], vm := .none },
  { cls := 14, slots := #[.int 3], vm := .none },
  { cls := 14, slots := #[.int 4], vm := .none },
  { cls := 14, slots := #[.int 5], vm := .none },
  { cls := 14, slots := #[.int 6], vm := .none },
  { cls := 14, slots := #[.int 7], vm := .none },
  { cls := 14, slots := #[.int 8], vm := .none },
  { cls := 14, slots := #[.int 9], vm := .none },
  { cls := 14, slots := #[.int 10], vm := .none },
  { cls := 14, slots := #[.int 11], vm := .none },
  { cls := 14, slots := #[.int 12], vm := .none },
  { cls := 14, slots := #[.int 13], vm := .none },
  { cls := 14, slots := #[.int 14], vm := .none },
  { cls := 14, slots := #[.int 15], vm := .none },
  { cls := 14, slots := #[.int 16], vm := .none },
  { cls := 14, slots := #[.int 17], vm := .none },
  { cls := 14, slots := #[.int 18], vm := .none },
  { cls := 14, slots := #[.int 19], vm := .none },
  { cls := 14, slots := #[.int 20], vm := .none },
  { cls := 14, slots := #[.int 21], vm := .none },
  { cls := 14, slots := #[.int 22], vm := .none },
  { cls := 14, slots := #[.int 23], vm := .none },
  { cls := 14, slots := #[.int 24], vm := .none },
  { cls := 14, slots := #[.int 25], vm := .none },
  { cls := 14, slots := #[.int 26], vm := .none },
  { cls := 14, slots := #[.int 27], vm := .none },
  { cls := 14, slots := #[.int 28], vm := .none },
  { cls := 14, slots := #[.int 29], vm := .none },
  { cls := 14, slots := #[.int 30], vm := .none },
  { cls := 14, slots := #[.int 31], vm := .none },
  { cls := 14, slots := #[.int 32], vm := .none },
  { cls := 14, slots := #[.int 33], vm := .none },
  { cls := 14, slots := #[.int 34], vm := .none },
  { cls := 14, slots := #[.int 35], vm := .none },
  { cls := 14, slots := #[.int 36], vm := .none },
  { cls := 14, slots := #[.int 37], vm := .none },
  { cls := 14, slots := #[.int 38], vm := .none },
  { cls := 14, slots := #[.int 39], vm := .none },
  { cls := 14, slots := #[.int 40], vm := .none },
  { cls := 14, slots := #[.int 41], vm := .none },
  { cls := 14, slots := #[.int 42], vm := .none },
  { cls := 14, slots := #[.int 43], vm := .none },
  { cls := 14, slots := #[.int 44], vm := .none },
  { cls := 14, slots := #[.int 45], vm := .none },
  { cls := 14, slots := #[.int 46], vm := .none },
  { cls := 14, slots := #[.int 47], vm := .none },
  { cls := 14, slots := #[.int 48], vm := .none },
  { cls := 14, slots := #[.int 49], vm := .none },
  { cls := 14, slots := #[.int 50], vm := .none },
  { cls := 14, slots := #[.int 51], vm := .none },
  { cls := 14, slots := #[.int 52], vm := .none },
  { cls := 14, slots := #[.int 53], vm := .none },
  { cls := 14, slots := #[.int 54], vm := .none },
  { cls := 14, slots := #[.int 55], vm := .none },
  { cls := 14, slots := #[.int 56], vm := .none },
  { cls := 14, slots := #[.int 57], vm := .none },
  { cls := 14, slots := #[.int 58], vm := .none },
  { cls := 14, slots := #[.int 59], vm := .none },
  { cls := 14, slots := #[.int 60], vm := .none },
  { cls := 14, slots := #[.int 61], vm := .none },
  { cls := 14, slots := #[.int 62], vm := .none },
  { cls := 14, slots := #[.int 63], vm := .none },
  { cls := 14, slots := #[.int 64], vm := .none },
  { cls := 14, slots := #[.int 65], vm := .none },
  { cls := 14, slots := #[.int 66], vm := .none },
  { cls := 14, slots := #[.int 67], vm := .none },
  { cls := 14, slots := #[.int 68], vm := .none },
  { cls := 14, slots := #[.int 69], vm := .none },
  { cls := 14, slots := #[.int 70], vm := .none },
  { cls := 14, slots := #[.int 71], vm := .none },
  { cls := 14, slots := #[.int 72], vm := .none },
  { cls := 14, slots := #[.int 73], vm := .none },
  { cls := 14, slots := #[.int 74], vm := .none },
  { cls := 14, slots := #[.int 75], vm := .none },
  { cls := 14, slots := #[.int 76], vm := .none },
  { cls := 14, slots := #[.int 77], vm := .none },
  { cls := 14, slots := #[.int 78], vm := .none },
  { cls := 14, slots := #[.int 79], vm := .none },
  { cls := 14, slots := #[.int 80], vm := .none },
  { cls := 14, slots := #[.int 81], vm := .none },
  { cls := 14, slots := #[.int 82], vm := .none },
  { cls := 14, slots := #[.int 83], vm := .none },
  { cls := 14, slots := #[.int 84], vm := .none },
  { cls := 14, slots := #[.int 85], vm := .none },
  { cls := 14, slots := #[.int 86], vm := .none },
  { cls := 14, slots := #[.int 87], vm := .none },
  { cls := 14, slots := #[.int 88], vm := .none },
  { cls := 14, slots := #[.int 89], vm := .none },
  { cls := 14, slots := #[.int 90], vm := .none },
  { cls := 14, slots := #[.int 91], vm := .none },
  { cls := 14, slots := #[.int 92], vm := .none },
  { cls := 14, slots := #[.int 93], vm := .none },
  { cls := 14, slots := #[.int 94], vm := .none },
  { cls := 14, slots := #[.int 95], vm := .none },
  { cls := 14, slots := #[.int 96], vm := .none },
  { cls := 14, slots := #[.int 97], vm := .none },
  { cls := 14, slots := #[.int 98], vm := .none },
  { cls := 14, slots := #[.int 99], vm := .none },
  { cls := 14, slots := #[.int 100], vm := .none },
  { cls := 14, slots := #[.int 101], vm := .none },
  { cls := 14, slots := #[.int 102], vm := .none },
  { cls := 14, slots := #[.int 103], vm := .none },
  { cls := 14, slots := #[.int 104], vm := .none },
  { cls := 14, slots := #[.int 105], vm := .none },
  { cls := 14, slots := #[.int 106], vm := .none },
  { cls := 14, slots := #[.int 107], vm := .none },
  { cls := 14, slots := #[.int 108], vm := .none },
  { cls := 14, slots := #[.int 109], vm := .none },
  { cls := 14, slots := #[.int 110], vm := .none },
  { cls := 14, slots := #[.int 111], vm := .none },
  { cls := 14, slots := #[.int 112], vm := .none },
  { cls := 14, slots := #[.int 113], vm := .none },
  { cls := 14, slots := #[.int 114], vm := .none },
  { cls := 14, slots := #[.int 115], vm := .none },
  { cls := 14, slots := #[.int 116], vm := .none },
  { cls := 14, slots := #[.int 117], vm := .none },
  { cls := 14, slots := #[.int 118], vm := .none },
  { cls := 14, slots := #[.int 119], vm := .none },
  { cls := 14, slots := #[.int 120], vm := .none },
  { cls := 14, slots := #[.int 121], vm := .none },
  { cls := 14, slots := #[.int 122], vm := .none },
  { cls := 14, slots := #[.int 123], vm := .none },
  { cls := 14, slots := #[.int 124], vm := .none },
  { cls := 14, slots := #[.int 125], vm := .none },
  { cls := 14, slots := #[.int 126], vm := .none },
  { cls := 14, slots := #[.int 127], vm := .none }]
def classes : Array Class := #[k0, k1, k2, k3, k4, k5, k6, k7, k8, k9, k10, k11, k12, k13, k14, k15, k16, k17, k18, k19, k20, k21, k22, k23, k24]
def interned : List (Array UInt16 × Addr) := []
def slotsUsed : Nat := 527
def theMethod : MethodId := ⟨1, 3⟩
def args0 : Array Value := #[.int 5, .int 5, .int 5, .int 5, .int 5]
def aboutOver (below : List Frame) : State where
  vm := { classes := classes, interned := interned.toArray }
  heap := heap
  slotsUsed := slotsUsed
  threads := #[{ frames := .invoking theMethod args0 :: below }]
def below0 : List Frame := [.native { method := ⟨0, 0⟩, args := #[] }]
def about1 : State := aboutOver below0
def p0 : Program := .bare "" "" ""
def e0 : Env := launch0.env 0 0 0
theorem w_frames : about1.frames = Frame.invoking theMethod args0 :: below0 := rfl
set_option maxRecDepth 65536 in
theorem w_args : argsFit about1.vm theMethod args0 = true := by decide +kernel
set_option maxRecDepth 65536 in
theorem w_heap : heapFits about1 = true := by decide +kernel
set_option maxRecDepth 65536 in
theorem w_runnable : about1.curStatus? = some .runnable := by decide +kernel
set_option maxRecDepth 65536 in
theorem w_alone : about1.alone = true := by decide +kernel
set_option maxRecDepth 65536 in
theorem w_named : about1.methodNamed? x = some theMethod := by decide +kernel
set_option maxRecDepth 65536 in
theorem w_hears : about1.hears theMethod below0 = true := by decide +kernel
set_option maxRecDepth 65536 in
theorem w_ripe : about1.ripe theMethod args0 below0 = true := by decide +kernel
theorem w_running : about1.status = .running := rfl
set_option maxRecDepth 65536 in
theorem w_room : about1.hasRoom e0.platform room_1 = true :=
  launch0.hasRoom_least _ room_1 (by decide +kernel) (by decide +kernel) (by decide +kernel) (by decide +kernel) (by decide +kernel) (by decide +kernel)
theorem allAtoms_all (ts : List Jvm.Cond) (a : Array Jvm.Value) (st : Jvm.State) : (allAtoms ts).before a st = ts.all (fun c => c.before a st) := by
  induction ts with
  | nil => rfl
  | cons c t ih =>
    show (Jvm.Cond.and c (allAtoms t)).before a st = _
    rw [Jvm.Cond.before_and, ih, List.all_cons]
def words1 : List Jvm.Cond := Jvm.Cond.code x code maxLocals ret :: tables_1
/-- a 'code' word, met by the world's own term for the bytes: nothing is compared byte by byte -/
theorem code_word {y : MethodName} {bytes : ByteArray} {mx : Nat} {rt : Option FieldType} {a : Array Value} {s : State} {m : MethodId} {meth : Method} {c : Code} (h1 : s.methodNamed? y = some m) (h2 : s.vm.method? m = some meth) (h3 : meth.code = some c) (h4 : c.code = bytes)
    (h5 : (c.maxLocals == mx && c.exceptionTable.isEmpty && decide (c.maxStack ≤ mostOperands) && decide (meth.sig.returnType = rt) && !meth.locks && decide (parseMethodDescriptor y.desc = some meth.sig)) = true) : (Jvm.Cond.code y bytes mx rt).before a s = true := by
  simp only [Bool.and_eq_true, beq_iff_eq, Bool.not_eq_true', decide_eq_true_eq] at h5
  obtain ⟨⟨⟨⟨⟨g1, g2⟩, g3⟩, g4⟩, g5⟩, g6⟩ := h5
  simp [Cond.before, Cond.holds, Cond.value, h1, h2, h3, h4, g1, g2, g3, g4, g5, g6]
def isCode : Jvm.Cond → Bool
  | .code _ _ _ _ => true
  | _ => false
theorem all_split {L : List Jvm.Cond} {P : Jvm.Cond → Bool} (h1 : L.all (fun c => isCode c || P c) = true) (h2 : ∀ c ∈ L.filter isCode, P c = true) : L.all P = true := by
  refine List.all_eq_true.mpr fun c hc => ?_
  have h := List.all_eq_true.mp h1 c hc
  rcases Bool.eq_false_or_eq_true (isCode c) with hi | hi
  · exact h2 c (List.mem_filter.mpr ⟨hc, hi⟩)
  · simpa [hi] using h
set_option maxRecDepth 65536 in
theorem w_c0 : (Jvm.Cond.code x code maxLocals ret).before args0 about1 = true := code_word (m := ⟨1, 3⟩) (meth := k1m3) (c := k1c3) (by decide +kernel) rfl rfl rfl (by decide +kernel)
set_option maxRecDepth 65536 in
theorem w_c1 : (Jvm.Cond.code ({ cls := "com/example/zastupnik/zastupnik/protocol/JipsEqualsPinLaw", name := "pc", desc := "(I)C" } : Jvm.MethodName) method_2_code (1 : Nat) (Option.some Jvm.ClassFile.FieldType.char)).before args0 about1 = true := code_word (m := ⟨1, 1⟩) (meth := k1m1) (c := k1c1) (by decide +kernel) rfl rfl rfl (by decide +kernel)
set_option maxRecDepth 65536 in
theorem w_c2 : (Jvm.Cond.code ({ cls := "com/example/zastupnik/zastupnik/protocol/JipsEqualsPinLaw", name := "word", desc := "(ICC)Ljava/lang/String;" } : Jvm.MethodName) method_3_code (3 : Nat) (Option.some (Jvm.ClassFile.FieldType.object "java/lang/String"))).before args0 about1 = true := code_word (m := ⟨1, 2⟩) (meth := k1m2) (c := k1c2) (by decide +kernel) rfl rfl rfl (by decide +kernel)
set_option maxRecDepth 65536 in
theorem w_c3 : (Jvm.Cond.code ({ cls := "java/lang/String", name := "<init>", desc := "([C)V" } : Jvm.MethodName) jdk_42_method_3_code (2 : Nat) (Option.none : Option Jvm.ClassFile.FieldType)).before args0 about1 = true := code_word (m := ⟨8, 1⟩) (meth := k8m1) (c := k8c1) (by decide +kernel) rfl rfl rfl (by decide +kernel)
set_option maxRecDepth 65536 in
theorem w_c4 : (Jvm.Cond.code ({ cls := "java/lang/String", name := "<init>", desc := "([CIILjava/lang/Void;)V" } : Jvm.MethodName) jdk_42_method_149_code (6 : Nat) (Option.none : Option Jvm.ClassFile.FieldType)).before args0 about1 = true := code_word (m := ⟨8, 6⟩) (meth := k8m6) (c := k8c6) (by decide +kernel) rfl rfl rfl (by decide +kernel)
set_option maxRecDepth 65536 in
theorem w_c5 : (Jvm.Cond.code ({ cls := "java/lang/Object", name := "<init>", desc := "()V" } : Jvm.MethodName) object_method_1_code (1 : Nat) (Option.none : Option Jvm.ClassFile.FieldType)).before args0 about1 = true := code_word (m := ⟨0, 0⟩) (meth := k0m0) (c := k0c0) (by decide +kernel) rfl rfl rfl (by decide +kernel)
set_option maxRecDepth 65536 in
theorem w_c6 : (Jvm.Cond.code ({ cls := "java/lang/StringUTF16", name := "compress", desc := "([CII)[B" } : Jvm.MethodName) jdk_52_method_16_code (6 : Nat) (Option.some (Jvm.ClassFile.FieldType.array Jvm.ClassFile.FieldType.byte))).before args0 about1 = true := code_word (m := ⟨9, 2⟩) (meth := k9m2) (c := k9c2) (by decide +kernel) rfl rfl rfl (by decide +kernel)
set_option maxRecDepth 65536 in
theorem w_c7 : (Jvm.Cond.code ({ cls := "java/lang/StringUTF16", name := "compress", desc := "([CI[BII)I" } : Jvm.MethodName) jdk_52_method_21_code (7 : Nat) (Option.some Jvm.ClassFile.FieldType.int)).before args0 about1 = true := code_word (m := ⟨9, 3⟩) (meth := k9m3) (c := k9c3) (by decide +kernel) rfl rfl rfl (by decide +kernel)
set_option maxRecDepth 65536 in
theorem w_c8 : (Jvm.Cond.code ({ cls := "java/lang/StringUTF16", name := "coderFromArrayLen", desc := "([BI)B" } : Jvm.MethodName) jdk_52_method_15_code (2 : Nat) (Option.some Jvm.ClassFile.FieldType.byte)).before args0 about1 = true := code_word (m := ⟨9, 1⟩) (meth := k9m1) (c := k9c1) (by decide +kernel) rfl rfl rfl (by decide +kernel)
set_option maxRecDepth 65536 in
theorem w_c9 : (Jvm.Cond.code ({ cls := "com/example/zastupnik/zastupnik/protocol/Jips", name := "<init>", desc := "(ILjava/lang/String;)V" } : Jvm.MethodName) prog_42_method_1_code (3 : Nat) (Option.none : Option Jvm.ClassFile.FieldType)).before args0 about1 = true := code_word (m := ⟨2, 0⟩) (meth := k2m0) (c := k2c0) (by decide +kernel) rfl rfl rfl (by decide +kernel)
set_option maxRecDepth 65536 in
theorem w_c10 : (Jvm.Cond.code ({ cls := "java/util/Objects", name := "requireNonNull", desc := "(Ljava/lang/Object;Ljava/lang/String;)Ljava/lang/Object;" } : Jvm.MethodName) jdk_31_method_11_code (2 : Nat) (Option.some (Jvm.ClassFile.FieldType.object "java/lang/Object"))).before args0 about1 = true := code_word (m := ⟨10, 1⟩) (meth := k10m1) (c := k10c1) (by decide +kernel) rfl rfl rfl (by decide +kernel)
set_option maxRecDepth 65536 in
theorem w_c11 : (Jvm.Cond.code ({ cls := "com/example/zastupnik/zastupnik/protocol/Jips", name := "isPrintableWord", desc := "(Ljava/lang/String;)Z" } : Jvm.MethodName) prog_42_method_10_code (4 : Nat) (Option.some Jvm.ClassFile.FieldType.boolean)).before args0 about1 = true := code_word (m := ⟨2, 2⟩) (meth := k2m2) (c := k2c2) (by decide +kernel) rfl rfl rfl (by decide +kernel)
set_option maxRecDepth 65536 in
theorem w_c12 : (Jvm.Cond.code ({ cls := "java/lang/String", name := "isEmpty", desc := "()Z" } : Jvm.MethodName) jdk_42_method_55_code (1 : Nat) (Option.some Jvm.ClassFile.FieldType.boolean)).before args0 about1 = true := code_word (m := ⟨8, 3⟩) (meth := k8m3) (c := k8c3) (by decide +kernel) rfl rfl rfl (by decide +kernel)
set_option maxRecDepth 65536 in
theorem w_c13 : (Jvm.Cond.code ({ cls := "java/lang/String", name := "length", desc := "()I" } : Jvm.MethodName) jdk_42_method_54_code (1 : Nat) (Option.some Jvm.ClassFile.FieldType.int)).before args0 about1 = true := code_word (m := ⟨8, 2⟩) (meth := k8m2) (c := k8c2) (by decide +kernel) rfl rfl rfl (by decide +kernel)
set_option maxRecDepth 65536 in
theorem w_c14 : (Jvm.Cond.code ({ cls := "java/lang/String", name := "coder", desc := "()B" } : Jvm.MethodName) jdk_42_method_152_code (1 : Nat) (Option.some Jvm.ClassFile.FieldType.byte)).before args0 about1 = true := code_word (m := ⟨8, 7⟩) (meth := k8m7) (c := k8c7) (by decide +kernel) rfl rfl rfl (by decide +kernel)
set_option maxRecDepth 65536 in
theorem w_c15 : (Jvm.Cond.code ({ cls := "java/lang/String", name := "charAt", desc := "(I)C" } : Jvm.MethodName) jdk_42_method_56_code (2 : Nat) (Option.some Jvm.ClassFile.FieldType.char)).before args0 about1 = true := code_word (m := ⟨8, 4⟩) (meth := k8m4) (c := k8c4) (by decide +kernel) rfl rfl rfl (by decide +kernel)
set_option maxRecDepth 65536 in
theorem w_c16 : (Jvm.Cond.code ({ cls := "java/lang/String", name := "isLatin1", desc := "()Z" } : Jvm.MethodName) jdk_42_method_154_code (1 : Nat) (Option.some Jvm.ClassFile.FieldType.boolean)).before args0 about1 = true := code_word (m := ⟨8, 8⟩) (meth := k8m8) (c := k8c8) (by decide +kernel) rfl rfl rfl (by decide +kernel)
set_option maxRecDepth 65536 in
theorem w_c17 : (Jvm.Cond.code ({ cls := "java/lang/StringLatin1", name := "charAt", desc := "([BI)C" } : Jvm.MethodName) jdk_43_method_2_code (2 : Nat) (Option.some Jvm.ClassFile.FieldType.char)).before args0 about1 = true := code_word (m := ⟨11, 1⟩) (meth := k11m1) (c := k11c1) (by decide +kernel) rfl rfl rfl (by decide +kernel)
set_option maxRecDepth 65536 in
theorem w_c18 : (Jvm.Cond.code ({ cls := "java/lang/String", name := "checkIndex", desc := "(II)V" } : Jvm.MethodName) jdk_42_method_155_code (2 : Nat) (Option.none : Option Jvm.ClassFile.FieldType)).before args0 about1 = true := code_word (m := ⟨8, 9⟩) (meth := k8m9) (c := k8c9) (by decide +kernel) rfl rfl rfl (by decide +kernel)
set_option maxRecDepth 65536 in
theorem w_c19 : (Jvm.Cond.code ({ cls := "jdk/internal/util/Preconditions", name := "checkIndex", desc := "(IILjava/util/function/BiFunction;)I" } : Jvm.MethodName) jdk_41_method_11_code (3 : Nat) (Option.some Jvm.ClassFile.FieldType.int)).before args0 about1 = true := code_word (m := ⟨12, 1⟩) (meth := k12m1) (c := k12c1) (by decide +kernel) rfl rfl rfl (by decide +kernel)
set_option maxRecDepth 65536 in
theorem w_c20 : (Jvm.Cond.code ({ cls := "java/lang/Integer", name := "valueOf", desc := "(I)Ljava/lang/Integer;" } : Jvm.MethodName) jdk_33_method_22_code (1 : Nat) (Option.some (Jvm.ClassFile.FieldType.object "java/lang/Integer"))).before args0 about1 = true := code_word (m := ⟨14, 0⟩) (meth := k14m0) (c := k14c0) (by decide +kernel) rfl rfl rfl (by decide +kernel)
set_option maxRecDepth 65536 in
theorem w_c21 : (Jvm.Cond.code ({ cls := "com/example/zastupnik/zastupnik/protocol/Jips", name := "equals", desc := "(Ljava/lang/Object;)Z" } : Jvm.MethodName) prog_42_method_8_code (3 : Nat) (Option.some Jvm.ClassFile.FieldType.boolean)).before args0 about1 = true := code_word (m := ⟨2, 1⟩) (meth := k2m1) (c := k2c1) (by decide +kernel) rfl rfl rfl (by decide +kernel)
set_option maxRecDepth 65536 in
theorem w_c22 : (Jvm.Cond.code ({ cls := "java/lang/String", name := "equals", desc := "(Ljava/lang/Object;)Z" } : Jvm.MethodName) jdk_42_method_66_code (3 : Nat) (Option.some Jvm.ClassFile.FieldType.boolean)).before args0 about1 = true := code_word (m := ⟨8, 5⟩) (meth := k8m5) (c := k8c5) (by decide +kernel) rfl rfl rfl (by decide +kernel)
set_option maxRecDepth 65536 in
theorem w_c23 : (Jvm.Cond.code ({ cls := "java/lang/StringLatin1", name := "equals", desc := "([B[B)Z" } : Jvm.MethodName) jdk_43_method_13_code (3 : Nat) (Option.some Jvm.ClassFile.FieldType.boolean)).before args0 about1 = true := code_word (m := ⟨11, 2⟩) (meth := k11m2) (c := k11c2) (by decide +kernel) rfl rfl rfl (by decide +kernel)
set_option maxRecDepth 65536 in
theorem w_c24 : (Jvm.Cond.code ({ cls := "java/lang/Integer", name := "<init>", desc := "(I)V" } : Jvm.MethodName) jdk_33_method_23_code (2 : Nat) (Option.none : Option Jvm.ClassFile.FieldType)).before args0 about1 = true := code_word (m := ⟨14, 1⟩) (meth := k14m1) (c := k14c1) (by decide +kernel) rfl rfl rfl (by decide +kernel)
set_option maxRecDepth 65536 in
theorem w_c25 : (Jvm.Cond.code ({ cls := "java/lang/Number", name := "<init>", desc := "()V" } : Jvm.MethodName) jdk_18_method_1_code (1 : Nat) (Option.none : Option Jvm.ClassFile.FieldType)).before args0 about1 = true := code_word (m := ⟨13, 0⟩) (meth := k13m0) (c := k13c0) (by decide +kernel) rfl rfl rfl (by decide +kernel)
def codes1 : List Jvm.Cond := [Jvm.Cond.code x code maxLocals ret, Jvm.Cond.code ({ cls := "com/example/zastupnik/zastupnik/protocol/JipsEqualsPinLaw", name := "pc", desc := "(I)C" } : Jvm.MethodName) method_2_code (1 : Nat) (Option.some Jvm.ClassFile.FieldType.char), Jvm.Cond.code ({ cls := "com/example/zastupnik/zastupnik/protocol/JipsEqualsPinLaw", name := "word", desc := "(ICC)Ljava/lang/String;" } : Jvm.MethodName) method_3_code (3 : Nat) (Option.some (Jvm.ClassFile.FieldType.object "java/lang/String")), Jvm.Cond.code ({ cls := "java/lang/String", name := "<init>", desc := "([C)V" } : Jvm.MethodName) jdk_42_method_3_code (2 : Nat) (Option.none : Option Jvm.ClassFile.FieldType), Jvm.Cond.code ({ cls := "java/lang/String", name := "<init>", desc := "([CIILjava/lang/Void;)V" } : Jvm.MethodName) jdk_42_method_149_code (6 : Nat) (Option.none : Option Jvm.ClassFile.FieldType), Jvm.Cond.code ({ cls := "java/lang/Object", name := "<init>", desc := "()V" } : Jvm.MethodName) object_method_1_code (1 : Nat) (Option.none : Option Jvm.ClassFile.FieldType), Jvm.Cond.code ({ cls := "java/lang/StringUTF16", name := "compress", desc := "([CII)[B" } : Jvm.MethodName) jdk_52_method_16_code (6 : Nat) (Option.some (Jvm.ClassFile.FieldType.array Jvm.ClassFile.FieldType.byte)), Jvm.Cond.code ({ cls := "java/lang/StringUTF16", name := "compress", desc := "([CI[BII)I" } : Jvm.MethodName) jdk_52_method_21_code (7 : Nat) (Option.some Jvm.ClassFile.FieldType.int), Jvm.Cond.code ({ cls := "java/lang/StringUTF16", name := "coderFromArrayLen", desc := "([BI)B" } : Jvm.MethodName) jdk_52_method_15_code (2 : Nat) (Option.some Jvm.ClassFile.FieldType.byte), Jvm.Cond.code ({ cls := "com/example/zastupnik/zastupnik/protocol/Jips", name := "<init>", desc := "(ILjava/lang/String;)V" } : Jvm.MethodName) prog_42_method_1_code (3 : Nat) (Option.none : Option Jvm.ClassFile.FieldType), Jvm.Cond.code ({ cls := "java/util/Objects", name := "requireNonNull", desc := "(Ljava/lang/Object;Ljava/lang/String;)Ljava/lang/Object;" } : Jvm.MethodName) jdk_31_method_11_code (2 : Nat) (Option.some (Jvm.ClassFile.FieldType.object "java/lang/Object")), Jvm.Cond.code ({ cls := "com/example/zastupnik/zastupnik/protocol/Jips", name := "isPrintableWord", desc := "(Ljava/lang/String;)Z" } : Jvm.MethodName) prog_42_method_10_code (4 : Nat) (Option.some Jvm.ClassFile.FieldType.boolean), Jvm.Cond.code ({ cls := "java/lang/String", name := "isEmpty", desc := "()Z" } : Jvm.MethodName) jdk_42_method_55_code (1 : Nat) (Option.some Jvm.ClassFile.FieldType.boolean), Jvm.Cond.code ({ cls := "java/lang/String", name := "length", desc := "()I" } : Jvm.MethodName) jdk_42_method_54_code (1 : Nat) (Option.some Jvm.ClassFile.FieldType.int), Jvm.Cond.code ({ cls := "java/lang/String", name := "coder", desc := "()B" } : Jvm.MethodName) jdk_42_method_152_code (1 : Nat) (Option.some Jvm.ClassFile.FieldType.byte), Jvm.Cond.code ({ cls := "java/lang/String", name := "charAt", desc := "(I)C" } : Jvm.MethodName) jdk_42_method_56_code (2 : Nat) (Option.some Jvm.ClassFile.FieldType.char), Jvm.Cond.code ({ cls := "java/lang/String", name := "isLatin1", desc := "()Z" } : Jvm.MethodName) jdk_42_method_154_code (1 : Nat) (Option.some Jvm.ClassFile.FieldType.boolean), Jvm.Cond.code ({ cls := "java/lang/StringLatin1", name := "charAt", desc := "([BI)C" } : Jvm.MethodName) jdk_43_method_2_code (2 : Nat) (Option.some Jvm.ClassFile.FieldType.char), Jvm.Cond.code ({ cls := "java/lang/String", name := "checkIndex", desc := "(II)V" } : Jvm.MethodName) jdk_42_method_155_code (2 : Nat) (Option.none : Option Jvm.ClassFile.FieldType), Jvm.Cond.code ({ cls := "jdk/internal/util/Preconditions", name := "checkIndex", desc := "(IILjava/util/function/BiFunction;)I" } : Jvm.MethodName) jdk_41_method_11_code (3 : Nat) (Option.some Jvm.ClassFile.FieldType.int), Jvm.Cond.code ({ cls := "java/lang/Integer", name := "valueOf", desc := "(I)Ljava/lang/Integer;" } : Jvm.MethodName) jdk_33_method_22_code (1 : Nat) (Option.some (Jvm.ClassFile.FieldType.object "java/lang/Integer")), Jvm.Cond.code ({ cls := "com/example/zastupnik/zastupnik/protocol/Jips", name := "equals", desc := "(Ljava/lang/Object;)Z" } : Jvm.MethodName) prog_42_method_8_code (3 : Nat) (Option.some Jvm.ClassFile.FieldType.boolean), Jvm.Cond.code ({ cls := "java/lang/String", name := "equals", desc := "(Ljava/lang/Object;)Z" } : Jvm.MethodName) jdk_42_method_66_code (3 : Nat) (Option.some Jvm.ClassFile.FieldType.boolean), Jvm.Cond.code ({ cls := "java/lang/StringLatin1", name := "equals", desc := "([B[B)Z" } : Jvm.MethodName) jdk_43_method_13_code (3 : Nat) (Option.some Jvm.ClassFile.FieldType.boolean), Jvm.Cond.code ({ cls := "java/lang/Integer", name := "<init>", desc := "(I)V" } : Jvm.MethodName) jdk_33_method_23_code (2 : Nat) (Option.none : Option Jvm.ClassFile.FieldType), Jvm.Cond.code ({ cls := "java/lang/Number", name := "<init>", desc := "()V" } : Jvm.MethodName) jdk_18_method_1_code (1 : Nat) (Option.none : Option Jvm.ClassFile.FieldType)]
set_option maxRecDepth 65536 in
theorem codes_eq : words1.filter isCode = codes1 := rfl
theorem w_codes : ∀ c ∈ words1.filter isCode, c.before args0 about1 = true := by
  rw [codes_eq]
  intro c hc
  simp only [codes1, List.mem_cons, List.not_mem_nil, or_false] at hc
  rcases hc with rfl | rfl | rfl | rfl | rfl | rfl | rfl | rfl | rfl | rfl | rfl | rfl | rfl | rfl | rfl | rfl | rfl | rfl | rfl | rfl | rfl | rfl | rfl | rfl | rfl | rfl
  · exact w_c0
  · exact w_c1
  · exact w_c2
  · exact w_c3
  · exact w_c4
  · exact w_c5
  · exact w_c6
  · exact w_c7
  · exact w_c8
  · exact w_c9
  · exact w_c10
  · exact w_c11
  · exact w_c12
  · exact w_c13
  · exact w_c14
  · exact w_c15
  · exact w_c16
  · exact w_c17
  · exact w_c18
  · exact w_c19
  · exact w_c20
  · exact w_c21
  · exact w_c22
  · exact w_c23
  · exact w_c24
  · exact w_c25
set_option maxRecDepth 65536 in
theorem w_t1 : (words1.take 24).all (fun c => isCode c || c.before args0 about1) = true := by decide +kernel
set_option maxRecDepth 65536 in
theorem w_t2 : ((words1.drop 24).take 24).all (fun c => isCode c || c.before args0 about1) = true := by decide +kernel
set_option maxRecDepth 65536 in
theorem w_t3 : (((words1.drop 24).drop 24).take 24).all (fun c => isCode c || c.before args0 about1) = true := by decide +kernel
set_option maxRecDepth 65536 in
theorem w_t4 : ((((words1.drop 24).drop 24).drop 24).take 24).all (fun c => isCode c || c.before args0 about1) = true := by decide +kernel
set_option maxRecDepth 65536 in
theorem w_t5 : (((((words1.drop 24).drop 24).drop 24).drop 24).take 24).all (fun c => isCode c || c.before args0 about1) = true := by decide +kernel
set_option maxRecDepth 65536 in
theorem w_t6 : (((((words1.drop 24).drop 24).drop 24).drop 24).drop 24).all (fun c => isCode c || c.before args0 about1) = true := by decide +kernel
theorem w_tables : (allAtoms (Jvm.Cond.code x code maxLocals ret :: tables_1)).before args0 about1 = true := by
  rw [allAtoms_all]
  show words1.all (fun c => c.before args0 about1) = true
  refine all_split ?_ w_codes
  rw [← List.take_append_drop 24 words1, List.all_append, w_t1, ← List.take_append_drop 24 (words1.drop 24), List.all_append, w_t2, ← List.take_append_drop 24 ((words1.drop 24).drop 24), List.all_append, w_t3, ← List.take_append_drop 24 (((words1.drop 24).drop 24).drop 24), List.all_append, w_t4, ← List.take_append_drop 24 ((((words1.drop 24).drop 24).drop 24).drop 24), List.all_append, w_t5, w_t6]
  rfl
set_option maxRecDepth 65536 in
theorem w_rest : rest_1_c.before args0 about1 = true := by decide +kernel
set_option maxRecDepth 65536 in
theorem w_case : (Jvm.Cond.and given_1 narrow_1).before args0 about1 = true := by decide +kernel
theorem w_applies : (headSpec (Jvm.Cond.code x code maxLocals ret :: tables_1) room_1).applies x e0.platform about1 = true :=
  (Spec.applies_iff w_frames).mpr ⟨w_running, w_runnable, w_alone, w_named, w_hears, w_ripe, w_room, w_tables⟩
theorem atStart : AtStart classFile x code maxLocals ret World_1 tables_1 room_1 Calls_1 rest_1 Pre_1 launch0 p0 e0 about1 theMethod args0 below0 :=
  ⟨lists_1, trivial, launch0.admits_env _ _ _, launch0.least_env, fairChoices_fair.cas, fairChoices_fair.clock, w_frames, w_args, w_heap, w_applies, trivial, w_rest, w_case⟩
end start1
theorem witness_1 : WitnessClaimed_1 := ⟨start1.p0, start1.e0, start1.about1, start1.theMethod, start1.args0, start1.below0, start1.atStart⟩
end Jvm.Pilot.@@N@@
