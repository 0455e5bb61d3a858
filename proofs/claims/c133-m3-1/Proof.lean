import JvmDerived
import JvmDerived.Pilot.@@N@@Statement
import JvmDerived.Pilot.@@N@@Code
set_option linter.unusedVariables false
set_option linter.unusedSimpArgs false
namespace Jvm.RoadKit
open Sem ClassFile Op Lib Jvm.Stand Jvm.Free Jvm.LawKit
section New
variable {p : Program} {l : Launch} {e : Env} {R : Room} {s : State} {m : MethodId} {args : Array Value} {below : List Frame} {meth : Method} {c : Code} {T : State} {locs : List Loc} {cells slots : Nat}
theorem retI (X : Stand p l e R s m args below meth c T locs cells slots) (hx : p.tables.exec = Jvm.exec) {pc : Nat} {Ls : Array Slot} {z : Int32} {rest : List Value} (hret : meth.sig.returnType = some .int) (hd : decode c.code pc = .ok (.ireturn, 1)) {fs : List Frame}
    (hl : ∀ (f : JFrame) (acts : List Action), f.method = m → f.locked = none → f.entered = [] → (doReturn e (T.setTop f) acts (some (.int z))).1 = T.setFrames fs) : Steps p.tables e below (T.setTop (mkF m pc Ls (.int z :: rest))) (T.setFrames fs) := by
  have hm' : T.vm.method? m = some meth := X.method'
  have hn : narrow .int (.int z) = .int z := rfl
  show Steps p.tables e below (T.setTop { method := m, pc := pc, locals := Ls, stack := _ :: rest, locked := none }) _
  jvm_step X.here [X.here.top, hx, hd, hm', hret, hn]
  first | (intro acts; rw [hl _ acts rfl rfl rfl]) | rw [hl _ _ rfl rfl rfl]
  exact Steps.refl _
theorem seg (X : Stand p l e R s m args below meth c T locs cells slots) (P : State → Prop) (h : ∃ T', Stand p l e R s m args below meth c T' locs cells slots ∧ P T') : ∃ T', Stand p l e R s m args below meth c T' locs cells slots ∧ P T' := h
/-- int to char -/
def i2c (x : Int32) : Int32 := x.toUInt32.toUInt16.toUInt32.toInt32
/-- int to byte -/
def own_lo (x : Int32) : Int32 := x.toInt8.toInt32
/-- the unsigned shift of an int -/
def ushr (x y : Int32) : Int32 := (x.toUInt32 >>> (y &&& 31).toUInt32).toInt32
/-- the unsigned shift of a long -/
def ushrJ (x : Int64) (y : Int32) : Int64 := (x.toUInt64 >>> (y &&& 0x3f).toInt64.toUInt64).toInt64
end New
end Jvm.RoadKit
namespace Jvm.Pilot.@@N@@
open Jvm Jvm.ClassFile Sem Op Lib Jvm.Free Jvm.Stand Jvm.LawKit Jvm.RoadKit Bundle Jvm.Pilot.@@N@@.Jvm.D
theorem own_neN {a b : Addr} (h : @Ne Nat a b) : ¬ (a = b) := h
theorem own_narb {q : Prop} [Decidable q] : nar .boolean (if q then (1 : Int32) else (0 : Int32)) = (if q then (1 : Int32) else (0 : Int32)) := by split <;> rfl
theorem own_declares {Z : State} {a0 : Array Value} {y : MethodName} {bytes : ByteArray} {mx : Nat} {r : Option FieldType} (w1 : (Jvm.Cond.instanceMethod y).before a0 Z = true) (w2 : (Jvm.Cond.code y bytes mx r).before a0 Z = true) : (Jvm.Cond.declares y).before a0 Z = true := by
  obtain ⟨mk, meth, h1, h2, h3, -⟩ := Cond.instanceMethod_spec w1
  obtain ⟨meth', c, q1, -, -, -, -, -, -, q2⟩ := Cond.code_spec h1 w2
  cases h2.symm.trans q1
  simp [Cond.before, Cond.holds, Cond.value, h1, h2, h3, q2]
/-- the class of a method that an object selects is no interface -/
theorem own_nf {Z : State} {a0 : Array Value} {y z : MethodName} {C : String} (hz : z.cls = y.cls) (w : (Jvm.Cond.selects C z z).before a0 Z = true) : ∀ r, Z.methodNamed? y = some r → ∃ k, Z.vm.classes[r.cls]? = some k ∧ k.isInterface = false := fun r hr => by
  obtain ⟨c, r2, m2, -, -, q3, -, kP, hkP, hkPi⟩ := Cond.selects_spec w
  have h1 := findClass_of_methodNamed q3
  have h2 := findClass_of_methodNamed hr
  rw [hz, h2] at h1
  rw [Option.some.inj h1]
  exact ⟨kP, hkP, hkPi⟩
/-- a method that its class declares itself is the one that the look-up finds -/
theorem own_same {Z : State} {a0 : Array Value} {y : MethodName} (w1 : (Jvm.Cond.instanceMethod y).before a0 Z = true) (w2 : ∀ r, Z.methodNamed? y = some r → ∃ k, Z.vm.classes[r.cls]? = some k ∧ k.isInterface = false) (hy : y.cls ≠ "java/lang/invoke/MethodHandle" ∧ y.cls ≠ "java/lang/invoke/VarHandle") : (Jvm.Cond.sameMethod y.cls y.cls y.name y.desc).before a0 Z = true := by
  obtain ⟨mk, meth, h1, -⟩ := Cond.instanceMethod_spec w1
  have hc := findClass_of_methodNamed h1
  obtain ⟨k, hk, hi⟩ := w2 mk h1
  have hf := State.methodFound?_of_named h1 hy
  have hk' : Z.vm.classes[mk.cls]? = some k := hk
  simp [Cond.before, Cond.holds, Cond.value, hc, hf, h1, hk', hi]
theorem own_ti {n : Nat} (h : n ≤ 8000) : (Int32.ofNat n).toInt = n := Int32.toInt_ofNat_of_lt (by omega)
theorem own_tn {n : Nat} (h : n ≤ 8000) : (Int32.ofNat n).toNatClampNeg = n := by
  rw [Int32.toNatClampNeg, own_ti h]; omega
theorem own_lt {i n : Nat} (h : i < n) (hn : n ≤ 8000) : (Int32.ofNat i) < (Int32.ofNat n) := by
  rw [Int32.lt_iff_toInt_lt, own_ti (by omega), own_ti hn]; omega
theorem own_nlt {i n : Nat} (h : n ≤ i) (hn : i ≤ 8000) : ¬ ((Int32.ofNat i) < (Int32.ofNat n)) := by
  rw [Int32.lt_iff_toInt_lt, own_ti hn, own_ti (by omega : n ≤ 8000)]; omega
theorem own_nn {n : Nat} (h : n ≤ 8000) : ¬ ((Int32.ofNat n) < (0 : Int32)) := by
  rw [Int32.lt_iff_toInt_lt, own_ti h]
  show ¬ ((n : Int) < 0)
  omega
theorem own_inj {i n : Nat} (h : i ≤ 8000) (hn : n ≤ 8000) (e : Int32.ofNat i = Int32.ofNat n) : i = n := by
  have := congrArg Int32.toInt e
  rw [own_ti h, own_ti hn] at this; omega
theorem own_up (k : Nat) : Int32.ofNat (k + 1) = Int32.ofNat k + (1 : Int32) := Int32.ofNat_add k 1
theorem own_in {i n : Nat} (h : i < n) (hn : n ≤ 8000) : ¬ (Int32.ofNat i) < 0 ∧ (Int32.ofNat i) < (Int32.ofNat n) := ⟨own_nn (by omega), own_lt h hn⟩
theorem own_eqI {z w : Int32} (h : z.toInt = w.toInt) : z = w := Int32.toInt_inj.mp h
theorem own_shl1 {n : Nat} (h : n ≤ 4000) : (Int32.ofNat n) <<< ((1 : Int32) &&& 31) = Int32.ofNat (2 * n) := by
  apply own_eqI
  have h1 := c_ishl (Int32.ofNat n) 1 1 (by decide)
  rw [own_ti (by omega)] at h1
  rw [own_ti (by omega : 2 * n ≤ 8000)]
  have := rng32 ((Int32.ofNat n) <<< ((1 : Int32) &&& 31))
  omega
theorem own_shr1 {n : Nat} (h : n ≤ 4000) : (Int32.ofNat (2 * n)) >>> ((1 : Int32) &&& 31) = Int32.ofNat n := by
  apply own_eqI
  rw [c_ishr (Int32.ofNat (2 * n)) 1 1 (by decide), own_ti (by omega : 2 * n ≤ 8000), own_ti (by omega)]
  omega
theorem own_shr0 (z : Int32) : z >>> ((0 : Int32) &&& 31) = z := by
  apply own_eqI
  rw [c_ishr z 0 0 (by decide)]; simp
def own_mix {α : Type} (ys vs : List α) (j : Nat) : List α := ys.take j ++ vs.drop j
theorem own_mix0 {α : Type} (ys vs : List α) : own_mix ys vs 0 = vs := by simp [own_mix]
theorem own_mixn {α : Type} (ys vs : List α) (n : Nat) (h : ys.length = n) (h2 : vs.length = n) : own_mix ys vs n = ys := by
  simp [own_mix, ← h, ← h2]
  omega
theorem own_mixl {α : Type} (ys vs : List α) (j : Nat) (h : ys.length = vs.length) : (own_mix ys vs j).length = vs.length := by simp [own_mix]; omega
theorem own_mixs {α : Type} (ys vs : List α) (d : α) (j : Nat) (h : ys.length = vs.length) (hj : j < vs.length) : (own_mix ys vs j).set j (ys.getD j d) = own_mix ys vs (j + 1) := by
  have hj' : j < ys.length := by omega
  apply List.ext_getElem?
  intro i
  simp only [own_mix, List.getElem?_set, List.length_append, List.length_take, List.length_drop, List.getElem?_append, List.getElem?_take, List.getElem?_drop, List.getD_eq_getElem?_getD, List.getElem?_eq_getElem hj', Option.getD_some]
  by_cases h1 : j = i
  · subst h1
    rw [if_pos rfl, if_pos (by omega), if_pos (by omega), if_pos (by omega), List.getElem?_eq_getElem hj']
  · rw [if_neg h1]
    by_cases h2 : i < j
    · rw [if_pos (by omega), if_pos (by omega), if_pos (by omega), if_pos (by omega)]
    · rw [if_neg (by omega), if_neg (by omega)]
      congr 1
      omega
/-- every char lies below 256 -/
abbrev own_lat (cs : List Int32) : Prop := ∀ c ∈ cs, ¬ ((255 : Int32) < c)
/-- every one is a char -/
abbrev own_chs (cs : List Int32) : Prop := ∀ c ∈ cs, ¬ (c < (0 : Int32)) ∧ ¬ ((65535 : Int32) < c)
def own_low (cs : List Int32) : List Value := cs.map fun c => .int (own_lo c)
def own_wide : List Int32 → List Value
  | [] => []
  | c :: r => .int (own_lo (c >>> ((0 : Int32) &&& 31))) :: .int (own_lo (c >>> ((8 : Int32) &&& 31))) :: own_wide r
def own_cod (cs : List Int32) : Int32 := if own_lat cs then 0 else 1
def own_enc (cs : List Int32) : List Value := if own_lat cs then own_low cs else own_wide cs
def own_enl (cs : List Int32) : Nat := if own_lat cs then cs.length else 2 * cs.length
theorem own_lowl (cs : List Int32) : (own_low cs).length = cs.length := by simp [own_low]
theorem own_widel : ∀ cs : List Int32, (own_wide cs).length = 2 * cs.length
  | [] => rfl
  | c :: r => by simp only [own_wide, List.length_cons, own_widel r]; omega
theorem own_getc (cs : List Int32) (j : Nat) (d : Value) (hj : j < cs.length) (hb : cs.length ≤ 8000) : (cs.map Value.int).getD (Int32.ofNat j).toNatClampNeg d = .int (cs.getD j 0) := by
  rw [own_tn (by omega)]
  simp [List.getD_eq_getElem?_getD, List.getElem?_map, List.getElem?_eq_getElem hj]
theorem own_getl (cs : List Int32) (j : Nat) (d : Value) (hj : j < cs.length) (hb : cs.length ≤ 8000) : (own_low cs).getD (Int32.ofNat j).toNatClampNeg d = .int (own_lo (cs.getD j 0)) := by
  rw [own_tn (by omega)]
  simp [own_low, List.getD_eq_getElem?_getD, List.getElem?_map, List.getElem?_eq_getElem hj]
theorem own_mem (cs : List Int32) (j : Nat) (hj : j < cs.length) : cs.getD j 0 ∈ cs := by
  simp [List.getD_eq_getElem?_getD, List.getElem?_eq_getElem hj]
theorem own_lolo (c : Int32) : nar .byte (own_lo c) = own_lo c := by
  show (own_lo c).toInt8.toInt32 = own_lo c
  simp [own_lo]
theorem own_mixc (cs : List Int32) (vs : List Value) (j : Nat) (h : cs.length = vs.length) (hj : j < vs.length) : (own_mix (own_low cs) vs j).set j (.int (nar .byte (own_lo (cs.getD j 0)))) = own_mix (own_low cs) vs (j + 1) := by
  have e : Value.int (own_lo (cs.getD j 0)) = (own_low cs).getD j (.int 0) := by
    simp [own_low, List.getD_eq_getElem?_getD, List.getElem?_map, List.getElem?_eq_getElem (by omega : j < cs.length)]
  rw [own_lolo, e]
  exact own_mixs _ _ _ _ (by rw [own_lowl]; exact h) hj
theorem own_wide0 (d : Value) : ∀ (cs : List Int32) (j : Nat), j < cs.length → (own_wide cs).getD (2 * j) d = .int (own_lo ((cs.getD j 0) >>> ((0 : Int32) &&& 31)))
  | [], _, h => nomatch h
  | c :: r, 0, _ => rfl
  | c :: r, j + 1, h => by
    have := own_wide0 d r j (by simpa using h)
    show (own_wide (c :: r)).getD (2 * j + 2) d = _
    simpa [own_wide] using this
theorem own_wide1 (d : Value) : ∀ (cs : List Int32) (j : Nat), j < cs.length → (own_wide cs).getD (2 * j + 1) d = .int (own_lo ((cs.getD j 0) >>> ((8 : Int32) &&& 31)))
  | [], _, h => nomatch h
  | c :: r, 0, _ => rfl
  | c :: r, j + 1, h => by
    have := own_wide1 d r j (by simpa using h)
    show (own_wide (c :: r)).getD (2 * j + 1 + 2) d = _
    simpa [own_wide] using this
theorem own_mixw (cs : List Int32) (vs : List Value) (j : Nat) (h : 2 * cs.length = vs.length) (hj : j < cs.length) :
    ((own_mix (own_wide cs) vs (2 * j)).set (2 * j) (.int (own_lo ((cs.getD j 0) >>> ((0 : Int32) &&& 31))))).set (2 * j + 1) (.int (own_lo ((cs.getD j 0) >>> ((8 : Int32) &&& 31)))) = own_mix (own_wide cs) vs (2 * (j + 1)) := by
  have hl : (own_wide cs).length = vs.length := by rw [own_widel]; exact h
  rw [← own_wide0 (.int 0) cs j hj, own_mixs _ _ _ _ hl (by omega), ← own_wide1 (.int 0) cs j hj, own_mixs _ _ _ _ hl (by omega)]
  rfl
/-- two bytes make the char again -/
theorem own_pair {c : Int32} (h0 : ¬ (c < (0 : Int32))) (h1 : ¬ ((65535 : Int32) < c)) :
    i2c (((own_lo (c >>> ((0 : Int32) &&& 31)) &&& (255 : Int32)) <<< ((0 : Int32) &&& 31)) ||| ((own_lo (c >>> ((8 : Int32) &&& 31)) &&& (255 : Int32)) <<< ((8 : Int32) &&& 31))) = c := by
  have b0 : 0 ≤ c.toInt ∧ c.toInt ≤ 65535 := by
    rw [Int32.lt_iff_toInt_lt] at h0 h1
    have : (0 : Int32).toInt = 0 := rfl
    have : (65535 : Int32).toInt = 65535 := rfl
    omega
  rw [own_shr0]
  have e8 : (c >>> ((8 : Int32) &&& 31)).toInt = c.toInt / 256 := c_ishr c 8 8 (by decide)
  have a1 := c_i2b c
  have a2 := c_i2b (c >>> ((8 : Int32) &&& 31))
  have m1 : (own_lo c &&& (255 : Int32)).toInt = (own_lo c).toInt % 256 := c_mask (own_lo c) 255 8 (by decide) (by decide)
  have m2 : (own_lo (c >>> ((8 : Int32) &&& 31)) &&& (255 : Int32)).toInt = (own_lo (c >>> ((8 : Int32) &&& 31))).toInt % 256 := c_mask (own_lo (c >>> ((8 : Int32) &&& 31))) 255 8 (by decide) (by decide)
  change ((own_lo c).toInt - c.toInt) % 256 = 0 ∧ _ at a1
  change ((own_lo (c >>> ((8 : Int32) &&& 31))).toInt - (c >>> ((8 : Int32) &&& 31)).toInt) % 256 = 0 ∧ _ at a2
  generalize own_lo c = u at *
  generalize own_lo (c >>> ((8 : Int32) &&& 31)) = w at *
  have s1 : ((u &&& (255 : Int32)) <<< ((0 : Int32) &&& 31)) = (u &&& (255 : Int32)) := by
    apply own_eqI
    have := c_ishl (u &&& (255 : Int32)) 0 0 (by decide)
    have := rng32 ((u &&& (255 : Int32)) <<< ((0 : Int32) &&& 31))
    omega
  have s2 := c_ishl (w &&& (255 : Int32)) 8 8 (by decide)
  have r2 := rng32 ((w &&& (255 : Int32)) <<< ((8 : Int32) &&& 31))
  rw [s1]
  generalize (w &&& (255 : Int32)) <<< ((8 : Int32) &&& 31) = y at *
  generalize u &&& (255 : Int32) = z at *
  have o := c_or' z y 8 (by decide) 256 rfl (by omega) (by omega) (by omega)
  have i := c_i2c (z ||| y)
  have r3 := rng32 (z ||| y)
  apply own_eqI
  show ((z ||| y).toUInt32.toUInt16.toUInt32.toInt32).toInt = _
  omega
theorem own_lo_inj {c d : Int32} (h0 : ¬ (c < (0 : Int32))) (h1 : ¬ ((255 : Int32) < c)) (g0 : ¬ (d < (0 : Int32))) (g1 : ¬ ((255 : Int32) < d)) (e : own_lo c = own_lo d) : c = d := by
  apply own_eqI
  have a1 := c_i2b c
  have a2 := c_i2b d
  have e' : c.toInt8.toInt32.toInt = d.toInt8.toInt32.toInt := congrArg Int32.toInt e
  rw [Int32.lt_iff_toInt_lt] at h0 h1 g0 g1
  have : (0 : Int32).toInt = 0 := rfl
  have : (255 : Int32).toInt = 255 := rfl
  omega
theorem own_ltbig {n : Nat} (h : n ≤ 8000) : (Int32.ofNat n) < (1073741823 : Int32) := by
  rw [Int32.lt_iff_toInt_lt, own_ti h]
  show (n : Int) < 1073741823
  omega
theorem own_narc {c : Int32} (h0 : ¬ (c < (0 : Int32))) (h1 : ¬ ((65535 : Int32) < c)) : nar .char c = c := by
  apply own_eqI
  have i := c_i2c c
  show (c.toUInt32.toUInt16.toUInt32.toInt32).toInt = _
  rw [Int32.lt_iff_toInt_lt] at h0 h1
  have : (0 : Int32).toInt = 0 := rfl
  have : (65535 : Int32).toInt = 65535 := rfl
  omega
theorem own_first {cs : List Int32} (h : ¬ own_lat cs) : ∃ i, i < cs.length ∧ (255 : Int32) < (cs.getD i 0) ∧ ∀ j, j < i → ¬ ((255 : Int32) < cs.getD j 0) := by
  induction cs with
  | nil => exact absurd (fun c hc => nomatch hc) h
  | cons c r ih =>
    by_cases hc : (255 : Int32) < c
    · exact ⟨0, by simp, hc, fun j hj => absurd hj (Nat.not_lt_zero j)⟩
    · have : ¬ own_lat r := fun hr => h fun d hd => by
        rcases List.mem_cons.mp hd with rfl | hd
        · exact hc
        · exact hr d hd
      obtain ⟨i, h1, h2, h3⟩ := ih this
      refine ⟨i + 1, by simpa using h1, by simpa using h2, fun j hj => ?_⟩
      cases j with
      | zero => simpa using hc
      | succ j => simpa using h3 j (by omega)
theorem own_fixL {Z : State} {hh : Heap} {b : Addr} {kb : ClassId} {cs : List Int32} {n : Nat} {vs : List Value} {d : Value} (h : own_lat cs) (F : Arv Z hh b kb .byte (Int32.ofNat n) (own_mix (own_low cs) vs n) d) (hn : cs.length = n) (hv : vs.length = n) : Arv Z hh b kb .byte (Int32.ofNat (own_enl cs)) (own_enc cs) d := by
  rw [own_mixn _ _ n (by rw [own_lowl]; exact hn) hv] at F
  rw [own_enl, own_enc, if_pos h, if_pos h, hn]; exact F
theorem own_fixW {Z : State} {hh : Heap} {b : Addr} {kb : ClassId} {cs : List Int32} {n : Nat} {d : Value} (h : ¬ own_lat cs) (F : Arv Z hh b kb .byte (Int32.ofNat (2 * n)) (own_wide cs) d) (hn : cs.length = n) : Arv Z hh b kb .byte (Int32.ofNat (own_enl cs)) (own_enc cs) d := by
  rw [own_enl, own_enc, if_neg h, if_neg h, hn]; exact F
theorem own_ne0 {n : Nat} (h : 0 < n) (hb : n ≤ 8000) : ¬ ((Int32.ofNat n) = (0 : Int32)) := fun e => by
  have := own_inj (n := 0) hb (by omega) e
  omega
theorem own_codl {cs : List Int32} {n : Nat} (hn : cs.length = n) (hp : 0 < n) (hb : n ≤ 4000) : nar .byte (own_lo (ushr ((Int32.ofNat n) - (Int32.ofNat (own_enl cs))) (31 : Int32))) = own_cod cs := by
  rw [own_lolo, own_enl, own_cod]
  by_cases h : own_lat cs
  · rw [if_pos h, if_pos h, hn, Int32.sub_self]; rfl
  · rw [if_neg h, if_neg h, hn]
    have e : ushr ((Int32.ofNat n) - (Int32.ofNat (2 * n))) (31 : Int32) = 1 := by
      apply own_eqI
      have a := c_isub (Int32.ofNat n) (Int32.ofNat (2 * n))
      rw [own_ti (by omega), own_ti (by omega : 2 * n ≤ 8000)] at a
      have r := rng32 ((Int32.ofNat n) - (Int32.ofNat (2 * n)))
      have s := c_iushr ((Int32.ofNat n) - (Int32.ofNat (2 * n))) 31 31 (by decide) (by decide)
      show (((Int32.ofNat n) - (Int32.ofNat (2 * n))).toUInt32 >>> ((31 : Int32) &&& 31).toUInt32).toInt32.toInt = 1
      rw [s]
      omega
    rw [e]; rfl
theorem own_c01 (cs : List Int32) : own_cod cs = 0 ∨ own_cod cs = 1 := by
  unfold own_cod; split
  · exact Or.inl rfl
  · exact Or.inr rfl
theorem own_cnar (cs : List Int32) : narrow .byte (.int (own_cod cs)) = .int (own_cod cs) := by rcases own_c01 cs with h | h <;> rw [h] <;> rfl
theorem own_cnarb (cs : List Int32) : nar .byte (own_cod cs) = own_cod cs := by rcases own_c01 cs with h | h <;> rw [h] <;> rfl
theorem own_cfit (cs : List Int32) : fits .byte (.int (own_cod cs)) = true := by rcases own_c01 cs with h | h <;> rw [h] <;> rfl
theorem own_lenq (cs : List Int32) (hb : cs.length ≤ 4000) : (Int32.ofNat (own_enl cs)) >>> ((own_cod cs) &&& 31) = Int32.ofNat cs.length := by
  rw [own_enl, own_cod]
  by_cases h : own_lat cs
  · rw [if_pos h, if_pos h]; exact own_shr0 _
  · rw [if_neg h, if_neg h]; exact own_shr1 hb
/-- one more than the place of the first ch among k chars from j on; 0: none -/
def own_ix (cs : List Int32) (ch : Int32) : Nat → Nat → Nat
  | _, 0 => 0
  | j, k + 1 => if cs.getD j 0 = ch then j + 1 else own_ix cs ch (j + 1) k
theorem own_ixle (cs : List Int32) (ch : Int32) : ∀ (k j : Nat), own_ix cs ch j k ≤ j + k
  | 0, j => by simp [own_ix]
  | k + 1, j => by
    unfold own_ix; split
    · omega
    · have := own_ixle cs ch k (j + 1); omega
theorem own_ix0 (cs : List Int32) (ch : Int32) (h : ∀ c ∈ cs, c ≠ ch) : ∀ (k j : Nat), j + k ≤ cs.length → own_ix cs ch j k = 0
  | 0, j, _ => rfl
  | k + 1, j, hj => by
    unfold own_ix
    rw [if_neg (h _ (own_mem cs j (by omega)))]
    exact own_ix0 cs ch h k (j + 1) (by omega)
theorem own_minT {i j : Nat} (hi : i ≤ 8000) (hj : j ≤ 8000) (h : ¬ ((Int32.ofNat j) < (Int32.ofNat i))) : Int32.ofNat i = Int32.ofNat (min i j) := by
  by_cases q : i ≤ j
  · rw [Nat.min_eq_left q]
  · exact absurd (own_lt (by omega) hi) h
theorem own_minF {i j : Nat} (hi : i ≤ 8000) (hj : j ≤ 8000) (h : (Int32.ofNat j) < (Int32.ofNat i)) : Int32.ofNat j = Int32.ofNat (min i j) := by
  by_cases q : i ≤ j
  · exact absurd h (own_nlt q hj)
  · rw [Nat.min_eq_right (by omega)]
theorem own_maxT {i j : Nat} (hi : i ≤ 8000) (hj : j ≤ 8000) (h : (Int32.ofNat i) < (Int32.ofNat j)) : Int32.ofNat j = Int32.ofNat (max i j) := by
  by_cases q : j ≤ i
  · exact absurd h (own_nlt q hi)
  · rw [Nat.max_eq_right (by omega)]
theorem own_maxF {i j : Nat} (hi : i ≤ 8000) (hj : j ≤ 8000) (h : ¬ ((Int32.ofNat i) < (Int32.ofNat j))) : Int32.ofNat i = Int32.ofNat (max i j) := by
  by_cases q : j ≤ i
  · rw [Nat.max_eq_left q]
  · exact absurd (own_lt (by omega) hj) h
theorem own_found (j : Nat) : Int32.ofNat j = Int32.ofNat (j + 1) - (1 : Int32) := by rw [own_up, Int32.add_sub_cancel]
theorem own_geth (cs : List Int32) (j : Nat) (d : Value) (hl : own_lat cs) (hj : j < cs.length) (hb : cs.length ≤ 8000) : (own_enc cs).getD (Int32.ofNat j).toNatClampNeg d = .int (own_lo (cs.getD j 0)) := by
  rw [own_enc, if_pos hl]; exact own_getl cs j d hj hb
theorem own_nari2c (z : Int32) : nar .char (i2c z) = i2c z := by
  have i := c_i2c z
  have k := c_i2c (z.toUInt32.toUInt16.toUInt32.toInt32)
  apply own_eqI
  show (z.toUInt32.toUInt16.toUInt32.toInt32).toUInt32.toUInt16.toUInt32.toInt32.toInt = z.toUInt32.toUInt16.toUInt32.toInt32.toInt
  omega
theorem own_rng {q z : Int32} (h : q = i2c z) : ¬ (q < (0 : Int32)) ∧ ¬ ((65535 : Int32) < q) := by
  have i := c_i2c z
  have e : q.toInt = z.toUInt32.toUInt16.toUInt32.toInt32.toInt := congrArg Int32.toInt h
  rw [Int32.lt_iff_toInt_lt, Int32.lt_iff_toInt_lt]
  have : (0 : Int32).toInt = 0 := rfl
  have : (65535 : Int32).toInt = 65535 := rfl
  omega
theorem own_chs0 : own_chs [] := fun _ h => nomatch h
theorem own_chsS {c : Int32} {r : List Int32} (h : ¬ (c < (0 : Int32)) ∧ ¬ ((65535 : Int32) < c)) (g : own_chs r) : own_chs (c :: r) := fun d hd => by
  rcases List.mem_cons.mp hd with rfl | hd
  · exact h
  · exact g d hd
theorem own_lat0 : own_lat [] := fun _ h => nomatch h
theorem own_latS {c : Int32} {r : List Int32} (h : ¬ ((255 : Int32) < c)) (g : own_lat r) : own_lat (c :: r) := fun d hd => by
  rcases List.mem_cons.mp hd with rfl | hd
  · exact h
  · exact g d hd
theorem own_int (z : Int32) (n : Nat) (h : z.toInt = n) : z = Int32.ofNat n := by
  apply Int32.toInt_inj.mp
  rw [h]
  have := z.toInt_lt
  have := z.le_toInt
  rw [Int32.toInt_ofNat_of_lt]
  omega
theorem own_and3 (z : Int32) : ∃ n : Nat, (z &&& (3 : Int32)) = Int32.ofNat n ∧ n < 4 := by
  have h := c_mask z 3 2 (by decide) (by decide)
  refine ⟨(z.toInt % 4).toNat, own_int _ _ ?_, by omega⟩
  rw [h]; omega
theorem own_modn (z : Int32) (d : Int32) (k : Nat) (hd : d.toInt = k) (hk : 0 < k) (hk2 : k ≤ 100) : ∃ n : Nat, ((z &&& (2147483647 : Int32)) % d) = Int32.ofNat n ∧ n < k := by
  have h := c_mask z 2147483647 31 (by decide) (by decide)
  have h2 := (c_irem (z &&& (2147483647 : Int32)) d k hd).1 (by rw [h]; omega)
  have h3 : 0 ≤ (z &&& (2147483647 : Int32)).toInt := by rw [h]; omega
  have h4 := Int.emod_nonneg (z &&& (2147483647 : Int32)).toInt (show (k : Int) ≠ 0 by omega)
  have h5 := Int.emod_lt_of_pos (z &&& (2147483647 : Int32)).toInt (show (0 : Int) < k by omega)
  refine ⟨((z &&& (2147483647 : Int32)).toInt % k).toNat, own_int _ _ ?_, by omega⟩
  rw [h2]; omega
theorem own_lt16 {c : Int32} (h : ¬ ((65535 : Int32) < c)) : c < (65536 : Int32) := by
  rw [Int32.lt_iff_toInt_lt] at *
  have : (65535 : Int32).toInt = 65535 := rfl
  have : (65536 : Int32).toInt = 65536 := rfl
  omega
theorem own_sub0 {i n : Nat} (h : ¬ ((Int32.ofNat i) < (Int32.ofNat n))) (hn : n ≤ 8000) : n - i = 0 := by
  by_cases q : i < n
  · exact absurd (own_lt q hn) h
  · omega
theorem own_cod0 {cs : List Int32} (h : own_lat cs) : own_cod cs = (0 : Int32) := if_pos h
theorem own_cod1 {cs : List Int32} (h : ¬ own_lat cs) : ¬ (own_cod cs = (0 : Int32)) := by rw [own_cod, if_neg h]; decide
/-- a String's bytes as ints -/
def own_wb : List Int32 → List Int32
  | [] => []
  | c :: r => own_lo (c >>> ((0 : Int32) &&& 31)) :: own_lo (c >>> ((8 : Int32) &&& 31)) :: own_wb r
def own_eb (cs : List Int32) : List Int32 := if own_lat cs then cs.map own_lo else own_wb cs
theorem own_wideb : ∀ cs : List Int32, own_wide cs = (own_wb cs).map Value.int
  | [] => rfl
  | c :: r => by simp only [own_wide, own_wb, List.map_cons, own_wideb r]
theorem own_encb (cs : List Int32) : own_enc cs = (own_eb cs).map Value.int := by
  rw [own_enc, own_eb]; split
  · simp [own_low]
  · exact own_wideb cs
theorem own_wbl : ∀ cs : List Int32, (own_wb cs).length = 2 * cs.length
  | [] => rfl
  | c :: r => by simp only [own_wb, List.length_cons, own_wbl r]; omega
theorem own_ebl (cs : List Int32) : (own_eb cs).length = own_enl cs := by
  rw [own_eb, own_enl]; split
  · simp
  · exact own_wbl cs
theorem own_mapinj : ∀ (cs ds : List Int32), own_chs cs → own_chs ds → own_lat cs → own_lat ds → cs.map own_lo = ds.map own_lo → cs = ds
  | [], [], _, _, _, _, _ => rfl
  | [], _ :: _, _, _, _, _, h => nomatch h
  | _ :: _, [], _, _, _, _, h => nomatch h
  | c :: r, d :: q, hc, hd, lc, ld, h => by
    simp only [List.map_cons, List.cons.injEq] at h
    have e : c = d := own_lo_inj (hc c (by simp)).1 (lc c (by simp)) (hd d (by simp)).1 (ld d (by simp)) h.1
    rw [e, own_mapinj r q (fun x hx => hc x (by simp [hx])) (fun x hx => hd x (by simp [hx])) (fun x hx => lc x (by simp [hx])) (fun x hx => ld x (by simp [hx])) h.2]
theorem own_wbinj : ∀ (cs ds : List Int32), own_chs cs → own_chs ds → own_wb cs = own_wb ds → cs = ds
  | [], [], _, _, _ => rfl
  | [], _ :: _, _, _, h => nomatch h
  | _ :: _, [], _, _, h => nomatch h
  | c :: r, d :: q, hc, hd, h => by
    simp only [own_wb, List.cons.injEq] at h
    have e : c = d := by
      rw [← own_pair (hc c (by simp)).1 (hc c (by simp)).2, ← own_pair (hd d (by simp)).1 (hd d (by simp)).2, h.1, h.2.1]
    rw [e, own_wbinj r q (fun x hx => hc x (by simp [hx])) (fun x hx => hd x (by simp [hx])) h.2.2]
theorem own_encinj {cs ds : List Int32} (hc : own_chs cs) (hd : own_chs ds) (h : own_cod cs = own_cod ds) (e : own_eb cs = own_eb ds) : cs = ds := by
  by_cases l1 : own_lat cs <;> by_cases l2 : own_lat ds
  · rw [own_eb, own_eb, if_pos l1, if_pos l2] at e; exact own_mapinj _ _ hc hd l1 l2 e
  · rw [own_cod, own_cod, if_pos l1, if_neg l2] at h; exact absurd h (by decide)
  · rw [own_cod, own_cod, if_neg l1, if_pos l2] at h; exact absurd h (by decide)
  · rw [own_eb, own_eb, if_neg l1, if_neg l2] at e; exact own_wbinj _ _ hc hd e
theorem own_ext {xs ys : List Int32} (hl : xs.length = ys.length) (h : ∀ i, i < xs.length → xs.getD i 0 = ys.getD i 0) : xs = ys := by
  apply List.ext_getElem hl
  intro i h1 h2
  have := h i h1
  simpa [List.getD_eq_getElem?_getD, List.getElem?_eq_getElem h1, List.getElem?_eq_getElem h2] using this
theorem own_enll (cs : List Int32) : own_enl cs ≤ 2 * cs.length := by rw [own_enl]; split <;> omega
def own_mk : Nat → Int32 → Int32 → Int32 → List Int32
  | 0, _, _, _ => []
  | 1, x, _, _ => [x]
  | 2, x, y, _ => [x, y]
  | _ + 3, x, y, z => [x, y, z]
theorem own_mkl (n : Nat) (x y z : Int32) : (own_mk n x y z).length ≤ 3 := by
  unfold own_mk; split <;> simp
theorem own_mkchs {n : Nat} {x y z : Int32} (h : n < 4) (hx : ¬ (x < (0 : Int32)) ∧ ¬ ((65535 : Int32) < x)) (hy : ¬ (y < (0 : Int32)) ∧ ¬ ((65535 : Int32) < y)) (hz : ¬ (z < (0 : Int32)) ∧ ¬ ((65535 : Int32) < z)) : own_chs (own_mk n x y z) := by
  unfold own_mk; split
  · exact own_chs0
  · exact own_chsS hx own_chs0
  · exact own_chsS hx (own_chsS hy own_chs0)
  · exact own_chsS hx (own_chsS hy (own_chsS hz own_chs0))
theorem own_le64k {c : Int32} (h : ¬ ((255 : Int32) < c)) : ¬ ((65535 : Int32) < c) := by
  rw [Int32.lt_iff_toInt_lt] at *
  have : (65535 : Int32).toInt = 65535 := rfl
  have : (255 : Int32).toInt = 255 := rfl
  omega
theorem own_small {z : Int32} (h : 0 ≤ z.toInt ∧ z.toInt ≤ 255) : ¬ (i2c z < (0 : Int32)) ∧ ¬ ((255 : Int32) < i2c z) := by
  have i := c_i2c z
  rw [Int32.lt_iff_toInt_lt, Int32.lt_iff_toInt_lt]
  have : (0 : Int32).toInt = 0 := rfl
  have : (255 : Int32).toInt = 255 := rfl
  show ¬ ((z.toUInt32.toUInt16.toUInt32.toInt32).toInt < (0 : Int32).toInt) ∧ ¬ ((255 : Int32).toInt < (z.toUInt32.toUInt16.toUInt32.toInt32).toInt)
  omega
theorem own_m255 (z : Int32) : 0 ≤ (z &&& (255 : Int32)).toInt ∧ (z &&& (255 : Int32)).toInt ≤ 255 := by
  have := c_mask z 255 8 (by decide) (by decide)
  omega
theorem own_b255 (z : Int32) : ¬ (i2c (z &&& (255 : Int32)) < (0 : Int32)) ∧ ¬ ((255 : Int32) < i2c (z &&& (255 : Int32))) := own_small (own_m255 z)
theorem own_k255 (z : Int32) : ¬ ((z &&& (255 : Int32)) < (0 : Int32)) ∧ ¬ ((255 : Int32) < (z &&& (255 : Int32))) := by
  have := own_m255 z
  rw [Int32.lt_iff_toInt_lt, Int32.lt_iff_toInt_lt]
  have : (0 : Int32).toInt = 0 := rfl
  have : (255 : Int32).toInt = 255 := rfl
  omega
theorem own_xb (z w : Int32) (h : 0 ≤ z.toInt ∧ z.toInt ≤ 255) (g : 0 ≤ w.toInt ∧ w.toInt ≤ 255) : 0 ≤ (z ^^^ w).toInt ∧ (z ^^^ w).toInt ≤ 255 := by
  have t (v : Int32) (h : 0 ≤ v.toInt ∧ v.toInt ≤ 255) : v.toBitVec.toNat < 256 := by
    have := v.toBitVec.isLt
    have e : v.toInt = v.toBitVec.toInt := rfl
    rw [BitVec.toInt_eq_toNat_cond] at e
    split at e <;> omega
  have h1 := t z h
  have h2 := t w g
  have h3 : (z ^^^ w).toBitVec.toNat < 256 := by
    rw [Int32.toBitVec_xor, BitVec.toNat_xor]
    exact Nat.xor_lt_two_pow (n := 8) h1 h2
  have e : (z ^^^ w).toInt = (z ^^^ w).toBitVec.toInt := rfl
  rw [BitVec.toInt_eq_toNat_cond] at e
  split at e <;> omega
theorem own_x255 {z w : Int32} (h : ¬ (z < (0 : Int32)) ∧ ¬ ((255 : Int32) < z)) (g : ¬ (w < (0 : Int32)) ∧ ¬ ((255 : Int32) < w)) : ¬ (i2c (z ^^^ w) < (0 : Int32)) ∧ ¬ ((255 : Int32) < i2c (z ^^^ w)) := by
  rw [Int32.lt_iff_toInt_lt, Int32.lt_iff_toInt_lt] at h g
  have : (0 : Int32).toInt = 0 := rfl
  have : (255 : Int32).toInt = 255 := rfl
  exact own_small (own_xb z w (by omega) (by omega))
theorem own_chr {c : Int32} (h0 : ¬ (c < (0 : Int32))) (h1 : ¬ ((255 : Int32) < c)) : nar .char (i2c (own_lo c &&& (255 : Int32))) = c := by
  rw [own_nari2c]
  apply own_eqI
  have a := c_i2b c
  have m := c_mask (own_lo c) 255 8 (by decide) (by decide)
  change ((own_lo c).toInt - c.toInt) % 256 = 0 ∧ _ at a
  have i := c_i2c (own_lo c &&& (255 : Int32))
  show ((own_lo c &&& (255 : Int32)).toUInt32.toUInt16.toUInt32.toInt32).toInt = c.toInt
  rw [Int32.lt_iff_toInt_lt] at h0 h1
  have : (0 : Int32).toInt = 0 := rfl
  have : (255 : Int32).toInt = 255 := rfl
  omega
theorem own_enl0 {cs : List Int32} (hb : cs.length ≤ 4000) : (Int32.ofNat (own_enl cs)) = (0 : Int32) ↔ cs = [] := by
  constructor
  · intro e
    have h : own_enl cs = 0 := own_inj (n := 0) (by have := own_enll cs; omega) (by decide) e
    have : cs.length = 0 := by rw [own_enl] at h; split at h <;> omega
    exact List.eq_nil_of_length_eq_zero this
  · rintro rfl; rw [own_enl, if_pos own_lat0]; rfl
/-- an ASCII digit -/
abbrev own_dig (c : Int32) : Prop := ¬ (c < (48 : Int32)) ∧ ¬ ((57 : Int32) < c)
def own_only (cs : List Int32) : Int32 := if cs = [] then 0 else if ∀ c ∈ cs, own_dig c then 1 else 0
theorem own_only0 : own_only [] = (0 : Int32) := rfl
theorem own_onlyT {cs : List Int32} (h : ¬ (cs = [])) (g : ∀ c ∈ cs, own_dig c) : own_only cs = (1 : Int32) := by rw [own_only, if_neg h, if_pos g]
theorem own_onlyF {cs : List Int32} {c : Int32} (h : c ∈ cs) (g : ¬ own_dig c) : own_only cs = (0 : Int32) := by
  rw [own_only]; split
  · rfl
  · rw [if_neg (fun q => g (q c h))]
theorem own_all0 : ∀ c ∈ ([] : List Int32), own_dig c := fun _ h => nomatch h
theorem own_allS {c : Int32} {r : List Int32} (h : own_dig c) (g : ∀ d ∈ r, own_dig d) : ∀ d ∈ c :: r, own_dig d := fun d hd => by
  rcases List.mem_cons.mp hd with rfl | hd
  · exact h
  · exact g d hd
theorem own_allx {cs : List Int32} (h : ∀ i, i < cs.length → own_dig (cs.getD i 0)) : ∀ c ∈ cs, own_dig c := fun c hc => by
  obtain ⟨i, hi, rfl⟩ := List.getElem_of_mem hc
  have := h i hi
  rwa [List.getD_eq_getElem?_getD, List.getElem?_eq_getElem hi, Option.getD_some] at this
def own_mk4 : Nat → Int32 → Int32 → Int32 → Int32 → List Int32
  | 0, _, _, _, _ => []
  | 1, x0, _, _, _ => [x0]
  | 2, x0, x1, _, _ => [x0, x1]
  | 3, x0, x1, x2, _ => [x0, x1, x2]
  | _ + 4, x0, x1, x2, x3 => [x0, x1, x2, x3]
theorem own_mkl4 (n : Nat) (x0 x1 x2 x3 : Int32) : (own_mk4 n x0 x1 x2 x3).length ≤ 4 := by
  unfold own_mk4; split <;> simp
theorem own_mkchs4 {n : Nat} {x0 x1 x2 x3 : Int32} (h0 : ¬ (x0 < (0 : Int32)) ∧ ¬ ((65535 : Int32) < x0)) (h1 : ¬ (x1 < (0 : Int32)) ∧ ¬ ((65535 : Int32) < x1)) (h2 : ¬ (x2 < (0 : Int32)) ∧ ¬ ((65535 : Int32) < x2)) (h3 : ¬ (x3 < (0 : Int32)) ∧ ¬ ((65535 : Int32) < x3)) : own_chs (own_mk4 n x0 x1 x2 x3) := by
  unfold own_mk4; split
  · exact own_chs0
  · exact (own_chsS h0 own_chs0)
  · exact (own_chsS h0 (own_chsS h1 own_chs0))
  · exact (own_chsS h0 (own_chsS h1 (own_chsS h2 own_chs0)))
  · exact (own_chsS h0 (own_chsS h1 (own_chsS h2 (own_chsS h3 own_chs0))))
abbrev ELs : List (String × Nat) := consts_1
theorem own_EW {Z : State} {a0 : Array Value} (hw : ∀ d ∈ tables_1, d.before a0 Z = true) : EW Z a0 ELs := (EW.cons (hw _ (List.mem_of_getElem? (i := 19) rfl)) (by decide) EW.nil)
theorem own_wS {Z : State} {a0 : Array Value} (hw : ∀ d ∈ tables_1, d.before a0 Z = true) : ∀ a ∈ Bundle.stringAtoms, a.before a0 Z = true := by
  intro a ha
  simp only [Bundle.stringAtoms, List.mem_cons, List.not_mem_nil, or_false] at ha
  rcases ha with rfl | rfl | rfl | rfl | rfl | rfl | rfl
  · exact (hw _ (List.mem_of_getElem? (i := 7) rfl))
  · exact (hw _ (List.mem_of_getElem? (i := 6) rfl))
  · exact (hw _ (List.mem_of_getElem? (i := 20) rfl))
  · exact (hw _ (List.mem_of_getElem? (i := 21) rfl))
  · exact (hw _ (List.mem_of_getElem? (i := 22) rfl))
  · exact (hw _ (List.mem_of_getElem? (i := 23) rfl))
  · exact (hw _ (List.mem_of_getElem? (i := 24) rfl))
theorem own_NSroot {Z : State} {a0 : Array Value} {O K : String} {n : Nat} (w : (Jvm.Cond.noSuperclass O).before a0 Z = true) (wk : (Jvm.Cond.instantiable K n).before a0 Z = true) (hn : O ≠ K) : NS Z O K := by
  obtain ⟨c, k, h1, h2, h3, -, -⟩ := Cond.noSuperclass_spec w
  obtain ⟨t, kt, g1, -⟩ := Cond.instantiable_spec wk
  have ne := ids_ne h1 g1 hn
  refine ⟨c, t, h1, g1, fun fuel => ?_⟩
  cases fuel with
  | zero => rfl
  | succ f => simp [Vm.isSubclassAux, ne, h2, h3]
theorem own_NSno {Z : State} {a0 : Array Value} {C S K : String} {m : Nat} (w : (Jvm.Cond.superclass C S).before a0 Z = true) (wk : (Jvm.Cond.instantiable K m).before a0 Z = true) (n : NS Z C K) (hn : C ≠ K) : ∃ c t, Z.vm.findClass C = some c ∧ Z.vm.findClass K = some t ∧ Z.vm.assignable c t = false := by
  obtain ⟨c, t, h0, g0, n3⟩ := n
  obtain ⟨p, k, kp, h1, h2, h3, h4, h5, -, h7⟩ := Cond.superclass_spec h0 w
  obtain ⟨t', k', q1, q2, q3, q4, -⟩ := Cond.instantiable_spec wk
  cases g0.symm.trans q1
  have q5 : k'.isInterface = false := (Bool.or_eq_false_iff.mp q4).1
  have ne := ids_ne h0 g0 hn
  refine ⟨c, t, h0, g0, ?_⟩
  show Z.vm.assignableAux (255 + 1) c t = false
  simp [Vm.assignableAux, ne, h2, q2, h5, q3, q5, Vm.isSubclass, n3]
/-- a String whose value is still null is no constant's -/
theorem own_safeN {Z : State} {EL : List (String × Nat)} {vm : Vm} {h : Heap} {a : Addr} (hal : Z.vm.Alike vm) (E : Exa Z h a "java/lang/String") (F : Fld Z h a "java/lang/String" "value" "[B" .null) : Safe Z EL vm h a := fun B => by
  obtain ⟨p, -, u, a', -, q, -, S, rfl | rfl⟩ := B
  · obtain ⟨cS, ⟨⟨s1, -, -, ⟨c1, k1, i1, f1, -⟩, -, -, -, v1, -⟩, -⟩, -⟩ := S
    obtain ⟨cell, cf, k', i', f, e1, e2, -, -, -, -, e7⟩ := F
    cases (show h[q.sa]? = some q.sC from s1).symm.trans e1
    obtain ⟨k3, e3, -⟩ := State.fieldFound?_setVm (s := Z) hal e2
    have e4 := (show (Wst Z vm h).fieldFound? _ _ _ = _ from e3).symm.trans f1
    simp only [Option.some.injEq, Prod.mk.injEq] at e4
    rw [← e4.2.2.2, e7] at v1
    cases v1
  · obtain ⟨cell, k, e1, e2, e3, -, -⟩ := E
    cases (show h[q.sd]? = some q.SA from S.hd).symm.trans e1
    obtain ⟨cS, -, -, f, -⟩ := S
    have f' : vm.findClass "[B" = some q.SA.cls := f
    rw [hal.findClass] at f'
    obtain ⟨k1, q1, q2⟩ := Vm.findClass_spec f'
    obtain ⟨k2, q3, q4⟩ := Vm.findClass_spec e2
    cases q1.symm.trans q3
    exact absurd (q2.symm.trans q4) (by decide)
theorem own_fix0 {Z : State} {hh : Heap} {b : Addr} {kb : ClassId} {cs : List Int32} {d : Value} (h : cs = []) (F : Arv Z hh b kb .byte (0 : Int32) [] d) : Arv Z hh b kb .byte (Int32.ofNat (own_enl cs)) (own_enc cs) d := by
  subst h
  rw [own_enl, own_enc, if_pos own_lat0, if_pos own_lat0]; exact F
theorem own_pos {n : Nat} (h : ¬ ((Int32.ofNat n) = (0 : Int32))) : 0 < n := by
  cases n with
  | zero => exact absurd rfl h
  | succ n => omega
theorem own_75 (z : Int32) : ∃ n : Nat, ((z &&& (7 : Int32)) % (5 : Int32)) = Int32.ofNat n ∧ n < 5 := by
  have h := c_mask z 7 3 (by decide) (by decide)
  have h2 := (c_irem (z &&& (7 : Int32)) 5 5 (by decide)).1 (by rw [h]; omega)
  refine ⟨((z &&& (7 : Int32)).toInt % 5).toNat, own_int _ _ ?_, by omega⟩
  rw [h2]; omega
theorem own_digr (ch : Int32) : (some (.int (nar .boolean (if ch < (48 : Int32) then (0 : Int32) else (if (57 : Int32) < ch then (0 : Int32) else (1 : Int32))))) : Option Value) = some (.int (if own_dig ch then (1 : Int32) else (0 : Int32))) := by
  by_cases h : ch < (48 : Int32)
  · rw [if_pos h, if_neg (fun q => q.1 h)]; rfl
  · by_cases g : (57 : Int32) < ch
    · rw [if_neg h, if_pos g, if_neg (fun q => q.2 g)]; rfl
    · rw [if_neg h, if_neg g, if_pos ⟨h, g⟩]; rfl
theorem pn_java_lang_StringUTF16 : plainName "java/lang/StringUTF16" = true := by first | (simp [plainName, overriddenIn]; done) | decide +kernel
theorem d_jdk_52_method_21_0 : decode jdk_52_method_21_code 0 = .ok (.iconst 0, 1) := by decide +kernel
theorem d_jdk_52_method_21_1 : decode jdk_52_method_21_code 1 = .ok (.istore 5, 2) := by decide +kernel
theorem d_jdk_52_method_21_3 : decode jdk_52_method_21_code 3 = .ok (.iload 5, 2) := by decide +kernel
theorem d_jdk_52_method_21_5 : decode jdk_52_method_21_code 5 = .ok (.iload 4, 2) := by decide +kernel
theorem d_jdk_52_method_21_7 : decode jdk_52_method_21_code 7 = .ok (.if_icmp .ge 37, 3) := by decide +kernel
theorem d_jdk_52_method_21_10 : decode jdk_52_method_21_code 10 = .ok (.aload_n 0, 1) := by decide +kernel
theorem d_jdk_52_method_21_11 : decode jdk_52_method_21_code 11 = .ok (.iload_n 1, 1) := by decide +kernel
theorem d_jdk_52_method_21_12 : decode jdk_52_method_21_code 12 = .ok (.caload, 1) := by decide +kernel
theorem os_rmCmpL_13 {z0 : Value} {z1 : Value} {z2 : Value} {z3 : Value} {z4 : Value} {z5 : Value} {s6 : Slot} {v : Int32} (h : One s6) : storeLocals #[.val z0, .val z1, .val z2, .val z3, .val z4, .val z5, s6] 6 (.int v) = some #[.val z0, .val z1, .val z2, .val z3, .val z4, .val z5, .val (.int v)] := by
  rcases h with rfl | ⟨w, rfl, hw⟩
  · rfl
  · cases w <;> first | rfl | (simp [Value.category] at hw)
theorem d_jdk_52_method_21_13 : decode jdk_52_method_21_code 13 = .ok (.istore 6, 2) := by decide +kernel
theorem d_jdk_52_method_21_15 : decode jdk_52_method_21_code 15 = .ok (.iload 6, 2) := by decide +kernel
theorem d_jdk_52_method_21_17 : decode jdk_52_method_21_code 17 = .ok (.sipush 255, 3) := by decide +kernel
theorem d_jdk_52_method_21_20 : decode jdk_52_method_21_code 20 = .ok (.if_icmp .le 6, 3) := by decide +kernel
theorem d_jdk_52_method_21_26 : decode jdk_52_method_21_code 26 = .ok (.aload_n 2, 1) := by decide +kernel
theorem d_jdk_52_method_21_27 : decode jdk_52_method_21_code 27 = .ok (.iload_n 3, 1) := by decide +kernel
theorem d_jdk_52_method_21_28 : decode jdk_52_method_21_code 28 = .ok (.iload 6, 2) := by decide +kernel
theorem d_jdk_52_method_21_30 : decode jdk_52_method_21_code 30 = .ok (.i2b, 1) := by decide +kernel
theorem d_jdk_52_method_21_31 : decode jdk_52_method_21_code 31 = .ok (.bastore, 1) := by decide +kernel
theorem d_jdk_52_method_21_32 : decode jdk_52_method_21_code 32 = .ok (.iinc 1 1, 3) := by decide +kernel
theorem d_jdk_52_method_21_35 : decode jdk_52_method_21_code 35 = .ok (.iinc 3 1, 3) := by decide +kernel
theorem d_jdk_52_method_21_38 : decode jdk_52_method_21_code 38 = .ok (.iinc 5 1, 3) := by decide +kernel
theorem d_jdk_52_method_21_41 : decode jdk_52_method_21_code 41 = .ok (.goto (-38), 3) := by decide +kernel
theorem d_jdk_52_method_21_44 : decode jdk_52_method_21_code 44 = .ok (.iload 4, 2) := by decide +kernel
theorem d_jdk_52_method_21_46 : decode jdk_52_method_21_code 46 = .ok (.ireturn, 1) := by decide +kernel
theorem ef_rmCmpL (m : MethodId) (x0 : Addr) (x1 : Int32) (x2 : Addr) (x3 : Int32) (x4 : Int32) : entryFrame m #[(.ref x0), (.int x1), (.ref x2), (.int x3), (.int x4)] 7 = mkF m 0 #[.val (.ref x0), .val (.int x1), .val (.ref x2), .val (.int x3), .val (.int x4), .unset, .unset] [] := by first | (simp [entryFrame, mkF, argsToLocals, Value.category]; done) | rfl
def Q_rmCmpL (Z : State) (ca : Addr) (ba : Addr) (cs : List Int32) (kc : ClassId) (n : Nat) (kb : ClassId) (vs : List Value) (h0 : Heap) (n0 : Nat) (v : Option Value) (h : Heap) (L : List Loc) : Prop := (v = some (.int (Int32.ofNat n))) ∧ (Fr n0 L) ∧ (Keep h0 h [ba]) ∧ (Arv Z h ba kb .byte (Int32.ofNat n) (own_mix (own_low cs) vs n) (.int (0 : Int32)))
set_option maxRecDepth 65536 in
set_option maxHeartbeats 40000000 in
theorem rmCmpL (l : Launch) (Z : State) (a0 : Array Value) (hw : ∀ d ∈ tables_1, d.before a0 Z = true) (ws : List Jvm.Cond) (ca : Addr) (ba : Addr) (cs : List Int32) (kc : ClassId) (n : Nat) (kb : ClassId) (vs : List Value) (h0 : Heap) (n0 : Nat) (Z0 : n0 ≤ h0.size) (I1 : Arv Z h0 ca kc .char (Int32.ofNat n) (cs.map Value.int) (.int (0 : Int32))) (I2 : Arv Z h0 ba kb .byte (Int32.ofNat n) vs (.int (0 : Int32))) (hn : cs.length = n) (hb : n ≤ 4) (hvs : vs.length = n) (gb : n0 ≤ ba) (hne : @Ne Nat ca ba) (hlat : own_lat cs) :
    MetFree l (⟨"java/lang/StringUTF16", "compress", "([CI[BII)I"⟩ : MethodName) (head1 (Jvm.Cond.code (⟨"java/lang/StringUTF16", "compress", "([CI[BII)I"⟩ : MethodName) jdk_52_method_21_code 7 (some .int) :: ws) ({ frames := 0, cells := 0, slots := 0, locals := 0 } : Room)) (fun ar_ U => ar_ = #[(.ref ca), (.int (0 : Int32)), (.ref ba), (.int (0 : Int32)), (.int (Int32.ofNat n))] ∧ Z.Warmed39 U.vm ∧ U.heap = h0) (fun _ _ _ _ _ => True) (fun _ U o U' => ∃ v L, o = .returned v ∧ Q_rmCmpL Z ca ba cs kc n kb vs h0 n0 v U'.heap L ∧ FrameEnd U o U' L ({ frames := 0, cells := 0, slots := 0, locals := 0 } : Room).cells ({ frames := 0, cells := 0, slots := 0, locals := 0 } : Room).slots) := by
  refine MetFree.of_bodySF (plainFor_of_name pn_java_lang_StringUTF16) hisR ?_
  intro p e s m args below meth c s₁ Bd hml0 hP hK
  obtain ⟨rfl, hZ, hh⟩ := hP
  have hx := Bd.exec
  have hby := Bd.bytes
  have hml : c.maxLocals = 7 := hml0
  have hown : s.vm.findClass "java/lang/StringUTF16" = some m.cls := findClass_of_methodNamed Bd.named
  have hnm := (name_of_methodNamed Bd.named Bd.method).1
  have X0 : Stand p l e ({ frames := 0, cells := 0, slots := 0, locals := 0 } : Room) s m #[(.ref ca), (.int (0 : Int32)), (.ref ba), (.int (0 : Int32)), (.int (Int32.ofNat n))] below meth c s₁ [] 0 0 := Stand.of_body Bd
  have e0 : s₁.heap = h0 := by rw [← hh, Bd.state]; rfl
  have N0 := Fr.nil n0
  have pre0 : ∀ t_, Steps p.tables e below (s₁.setTop (mkF m 0 #[.val (.ref ca), .val (.int (0 : Int32)), .val (.ref ba), .val (.int (0 : Int32)), .val (.int (Int32.ofNat n)), .unset, .unset] [])) t_ → Steps p.tables e below (s₁.setTop (entryFrame m #[(.ref ca), (.int (0 : Int32)), (.ref ba), (.int (0 : Int32)), (.int (Int32.ofNat n))] 7)) t_ := fun t_ k_ => castTop (ef_rmCmpL m ca (0 : Int32) ba (0 : Int32) (Int32.ofNat n)) k_
  have lt_I1 : @LT.lt Nat _ ca h0.size := I1.lt
  have lt_I2 : @LT.lt Nat _ ba h0.size := I2.lt
  have s1 : ∀ t_, Steps p.tables e below (s₁.setTop (mkF m 3 #[.val (.ref ca), .val (.int (0 : Int32)), .val (.ref ba), .val (.int (0 : Int32)), .val (.int (Int32.ofNat n)), .val (.int (0 : Int32)), .unset] [])) t_ → Steps p.tables e below (s₁.setTop (entryFrame m #[(.ref ca), (.int (0 : Int32)), (.ref ba), (.int (0 : Int32)), (.int (Int32.ofNat n))] 7)) t_ := fun t_ k_ => pre0 t_ (by
    show Steps p.tables e below (s₁.setTop (mkF m 0 #[.val (.ref ca), .val (.int (0 : Int32)), .val (.ref ba), .val (.int (0 : Int32)), .val (.int (Int32.ofNat n)), .unset, .unset] [])) t_
    refine XS.iconst X0.here hx rfl (Jvm.hb hby d_jdk_52_method_21_0) ?_
    show Steps p.tables e below (s₁.setTop (mkF m 1 #[.val (.ref ca), .val (.int (0 : Int32)), .val (.ref ba), .val (.int (0 : Int32)), .val (.int (Int32.ofNat n)), .unset, .unset] [(.int (0 : Int32))])) _
    refine XS.istore X0.here hx rfl (Jvm.hb hby d_jdk_52_method_21_1) rfl (l' := #[.val (.ref ca), .val (.int (0 : Int32)), .val (.ref ba), .val (.int (0 : Int32)), .val (.int (Int32.ofNat n)), .val (.int (0 : Int32)), .unset]) rfl ?_
    show Steps p.tables e below (s₁.setTop (mkF m 3 #[.val (.ref ca), .val (.int (0 : Int32)), .val (.ref ba), .val (.int (0 : Int32)), .val (.int (Int32.ofNat n)), .val (.int (0 : Int32)), .unset] [])) _
    show Steps p.tables e below (s₁.setTop (mkF m 3 #[.val (.ref ca), .val (.int (0 : Int32)), .val (.ref ba), .val (.int (0 : Int32)), .val (.int (Int32.ofNat n)), .val (.int (0 : Int32)), .unset] [])) t_
    exact k_)
  have lp2 : ∀ (k_ : Nat) (j : Nat) (s6 : Slot) (T_ : State) (lo_ : List Loc) (hh2 : Heap), j + k_ = n → Stand p l e ({ frames := 0, cells := 0, slots := 0, locals := 0 } : Room) s m #[(.ref ca), (.int (0 : Int32)), (.ref ba), (.int (0 : Int32)), (.int (Int32.ofNat n))] below meth c T_ lo_ 0 0 → T_.heap = hh2 → Fr n0 lo_ → Keep h0 hh2 [ba] → Arv Z hh2 ba kb .byte (Int32.ofNat n) (own_mix (own_low cs) vs j) (.int (0 : Int32)) → (One s6) → ∃ (T' : State) (lo' : List Loc) (hx_ : Heap) (fe_ : JFrame), Stand p l e ({ frames := 0, cells := 0, slots := 0, locals := 0 } : Room) s m #[(.ref ca), (.int (0 : Int32)), (.ref ba), (.int (0 : Int32)), (.int (Int32.ofNat n))] below meth c T' lo' 0 0 ∧ T'.heap = hx_ ∧ Fr n0 lo' ∧ Keep h0 hx_ [ba] ∧ ((∃ (s6 : Slot), fe_ = (mkF m 44 #[.val (.ref ca), .val (.int (Int32.ofNat n)), .val (.ref ba), .val (.int (Int32.ofNat n)), .val (.int (Int32.ofNat n)), .val (.int (Int32.ofNat n)), s6] []) ∧ Arv Z hx_ ba kb .byte (Int32.ofNat n) (own_mix (own_low cs) vs n) (.int (0 : Int32)))) ∧ ∀ t_, Steps p.tables e below (T'.setTop fe_) t_ → Steps p.tables e below (T_.setTop (mkF m 3 #[.val (.ref ca), .val (.int (Int32.ofNat j)), .val (.ref ba), .val (.int (Int32.ofNat j)), .val (.int (Int32.ofNat n)), .val (.int (Int32.ofNat j)), s6] [])) t_ := by
    intro k_
    induction k_ with
    | zero => 
      intro j s6 T_ lo_ hh2 hm_ X_ e_ N_ K_ F_0 hs6
      have zk_ : h0.size ≤ hh2.size := K_.1
      have s3 : ∀ t_, Steps p.tables e below (T_.setTop (mkF m 44 #[.val (.ref ca), .val (.int (Int32.ofNat j)), .val (.ref ba), .val (.int (Int32.ofNat j)), .val (.int (Int32.ofNat n)), .val (.int (Int32.ofNat j)), s6] [])) t_ → Steps p.tables e below (T_.setTop (mkF m 3 #[.val (.ref ca), .val (.int (Int32.ofNat j)), .val (.ref ba), .val (.int (Int32.ofNat j)), .val (.int (Int32.ofNat n)), .val (.int (Int32.ofNat j)), s6] [])) t_ := fun t_ k_ => (fun _ k_ => k_) t_ (by
        show Steps p.tables e below (T_.setTop (mkF m 3 #[.val (.ref ca), .val (.int (Int32.ofNat j)), .val (.ref ba), .val (.int (Int32.ofNat j)), .val (.int (Int32.ofNat n)), .val (.int (Int32.ofNat j)), s6] [])) t_
        refine XS.iload X_.here hx rfl (Jvm.hb hby d_jdk_52_method_21_3) rfl ?_
        show Steps p.tables e below (T_.setTop (mkF m 5 #[.val (.ref ca), .val (.int (Int32.ofNat j)), .val (.ref ba), .val (.int (Int32.ofNat j)), .val (.int (Int32.ofNat n)), .val (.int (Int32.ofNat j)), s6] [(.int (Int32.ofNat j))])) _
        refine XS.iload X_.here hx rfl (Jvm.hb hby d_jdk_52_method_21_5) rfl ?_
        show Steps p.tables e below (T_.setTop (mkF m 7 #[.val (.ref ca), .val (.int (Int32.ofNat j)), .val (.ref ba), .val (.int (Int32.ofNat j)), .val (.int (Int32.ofNat n)), .val (.int (Int32.ofNat j)), s6] [(.int (Int32.ofNat n)), (.int (Int32.ofNat j))])) _
        refine XS.icmpYes X_.here hx rfl (pc0 := 7) (pc' := 44) rfl (Jvm.hb hby d_jdk_52_method_21_7) rfl (flt (own_nlt (by omega) (by omega))).2.1 (by decide) (by decide) ?_
        show Steps p.tables e below (T_.setTop (mkF m 44 #[.val (.ref ca), .val (.int (Int32.ofNat j)), .val (.ref ba), .val (.int (Int32.ofNat j)), .val (.int (Int32.ofNat n)), .val (.int (Int32.ofNat j)), s6] [])) _
        show Steps p.tables e below (T_.setTop (mkF m 44 #[.val (.ref ca), .val (.int (Int32.ofNat j)), .val (.ref ba), .val (.int (Int32.ofNat j)), .val (.int (Int32.ofNat n)), .val (.int (Int32.ofNat j)), s6] [])) t_
        exact k_)
      exact ⟨T_, _, _, _, X_, e_, N_, ((Keep.refl h0 [ba]).trans K_ (allS (Or.inl (by simp)) all0)), ⟨s6, (by rw [show j = n by omega]), (by obtain rfl : j = n := (by omega); exact F_0)⟩, s3⟩
    | succ k_ ih => 
      intro j s6 T_ lo_ hh2 hm_ X_ e_ N_ K_ F_0 hs6
      have zk_ : h0.size ≤ hh2.size := K_.1
      have f4 : Arv Z hh2 ca kc .char (Int32.ofNat n) (cs.map Value.int) (.int (0 : Int32)) := (I1.keep K_ (ninS (show @Ne Nat ca ba by omega) nin0))
      obtain ⟨cl5, Ar5, -, S5, M5, H5, -⟩ := id f4
      have hin5 : ¬ ((Int32.ofNat j) < 0 ∨ cl5.slots.size ≤ ((Int32.ofNat j)).toNatClampNeg) := inb_of S5 (own_in (by omega) (by omega))
      have hat5 : cl5.slots[((Int32.ofNat j)).toNatClampNeg]? = some (.int (cs.getD j 0)) := H5.at hin5 (own_getc cs j _ (by omega) (by omega))
      obtain ⟨cl6, Ar6, q6, S6, M6, H6, G6⟩ := id F_0
      have hin6 : ¬ ((Int32.ofNat j) < 0 ∨ cl6.slots.size ≤ ((Int32.ofNat j)).toNatClampNeg) := inb_of S6 (own_in (by omega) (by omega))
      obtain ⟨T7, h7, X7, e7, W7, st7⟩ := stB X_ hx hZ e_ Ar6 (j := (Int32.ofNat j)) hin6 (g := (mkF m 31 #[.val (.ref ca), .val (.int (Int32.ofNat j)), .val (.ref ba), .val (.int (Int32.ofNat j)), .val (.int (Int32.ofNat n)), .val (.int (Int32.ofNat j)), .val (.int (cs.getD j 0))] [(.int (own_lo (cs.getD j 0))), (.int (Int32.ofNat j)), (.ref ba)])) rfl rfl (Jvm.hb hby d_jdk_52_method_21_31)
      have z8 : hh2.size ≤ h7.size := Nat.le_of_eq W7.size.symm
      have V7 : Arv Z h7 ba kb .byte (Int32.ofNat n) (own_mix (own_low cs) vs (j + 1)) (.int (0 : Int32)) := by
        have q : Arv Z h7 ba kb .byte (Int32.ofNat n) ((own_mix (own_low cs) vs j).set j (.int (nar .byte (own_lo (cs.getD j 0))))) (.int (0 : Int32)) := Arv.set Ar6 q6 S6 M6 H6 G6 (fits_nar_byte _) W7 j (own_tn (by omega)) (by rw [own_mixl _ _ _ (by rw [own_lowl]; omega)]; omega)
        rw [own_mixc cs vs j (by omega) (by omega)] at q
        exact q
      have N7 := Fr.snoc X7 N_ (show n0 ≤ ba by omega)
      have s9 : ∀ t_, Steps p.tables e below (T7.setTop (mkF m 3 #[.val (.ref ca), .val (.int ((Int32.ofNat j) + (1 : Int32))), .val (.ref ba), .val (.int ((Int32.ofNat j) + (1 : Int32))), .val (.int (Int32.ofNat n)), .val (.int ((Int32.ofNat j) + (1 : Int32))), .val (.int (cs.getD j 0))] [])) t_ → Steps p.tables e below (T_.setTop (mkF m 3 #[.val (.ref ca), .val (.int (Int32.ofNat j)), .val (.ref ba), .val (.int (Int32.ofNat j)), .val (.int (Int32.ofNat n)), .val (.int (Int32.ofNat j)), s6] [])) t_ := fun t_ k_ => (fun _ k_ => k_) t_ (by
        show Steps p.tables e below (T_.setTop (mkF m 3 #[.val (.ref ca), .val (.int (Int32.ofNat j)), .val (.ref ba), .val (.int (Int32.ofNat j)), .val (.int (Int32.ofNat n)), .val (.int (Int32.ofNat j)), s6] [])) t_
        refine XS.iload X_.here hx rfl (Jvm.hb hby d_jdk_52_method_21_3) rfl ?_
        show Steps p.tables e below (T_.setTop (mkF m 5 #[.val (.ref ca), .val (.int (Int32.ofNat j)), .val (.ref ba), .val (.int (Int32.ofNat j)), .val (.int (Int32.ofNat n)), .val (.int (Int32.ofNat j)), s6] [(.int (Int32.ofNat j))])) _
        refine XS.iload X_.here hx rfl (Jvm.hb hby d_jdk_52_method_21_5) rfl ?_
        show Steps p.tables e below (T_.setTop (mkF m 7 #[.val (.ref ca), .val (.int (Int32.ofNat j)), .val (.ref ba), .val (.int (Int32.ofNat j)), .val (.int (Int32.ofNat n)), .val (.int (Int32.ofNat j)), s6] [(.int (Int32.ofNat n)), (.int (Int32.ofNat j))])) _
        refine XS.icmpNo X_.here hx rfl (Jvm.hb hby d_jdk_52_method_21_7) rfl (tlt (own_lt (by omega) (by omega))).2.1 ?_
        show Steps p.tables e below (T_.setTop (mkF m 10 #[.val (.ref ca), .val (.int (Int32.ofNat j)), .val (.ref ba), .val (.int (Int32.ofNat j)), .val (.int (Int32.ofNat n)), .val (.int (Int32.ofNat j)), s6] [])) _
        refine XS.aloadN X_.here hx rfl (Jvm.hb hby d_jdk_52_method_21_10) rfl rfl ?_
        show Steps p.tables e below (T_.setTop (mkF m 11 #[.val (.ref ca), .val (.int (Int32.ofNat j)), .val (.ref ba), .val (.int (Int32.ofNat j)), .val (.int (Int32.ofNat n)), .val (.int (Int32.ofNat j)), s6] [(.ref ca)])) _
        refine XS.iloadN X_.here hx rfl (Jvm.hb hby d_jdk_52_method_21_11) rfl ?_
        show Steps p.tables e below (T_.setTop (mkF m 12 #[.val (.ref ca), .val (.int (Int32.ofNat j)), .val (.ref ba), .val (.int (Int32.ofNat j)), .val (.int (Int32.ofNat n)), .val (.int (Int32.ofNat j)), s6] [(.int (Int32.ofNat j)), (.ref ca)])) _
        refine X_.caload hx (j := (Int32.ofNat j)) (v := (.int (cs.getD j 0))) (by rw [e_]; exact Ar5.1) (State.isArrayOf_alike hZ.alike Ar5.2.1) Ar5.2.2 hin5 hat5 (g := (mkF m 12 #[.val (.ref ca), .val (.int (Int32.ofNat j)), .val (.ref ba), .val (.int (Int32.ofNat j)), .val (.int (Int32.ofNat n)), .val (.int (Int32.ofNat j)), s6] [(.int (Int32.ofNat j)), (.ref ca)])) rfl rfl (Jvm.hb hby d_jdk_52_method_21_12) _ ?_
        show Steps p.tables e below (T_.setTop (mkF m 13 #[.val (.ref ca), .val (.int (Int32.ofNat j)), .val (.ref ba), .val (.int (Int32.ofNat j)), .val (.int (Int32.ofNat n)), .val (.int (Int32.ofNat j)), s6] [(.int (cs.getD j 0))])) _
        refine XS.istore X_.here hx rfl (Jvm.hb hby d_jdk_52_method_21_13) rfl (l' := #[.val (.ref ca), .val (.int (Int32.ofNat j)), .val (.ref ba), .val (.int (Int32.ofNat j)), .val (.int (Int32.ofNat n)), .val (.int (Int32.ofNat j)), .val (.int (cs.getD j 0))]) (os_rmCmpL_13 hs6) ?_
        show Steps p.tables e below (T_.setTop (mkF m 15 #[.val (.ref ca), .val (.int (Int32.ofNat j)), .val (.ref ba), .val (.int (Int32.ofNat j)), .val (.int (Int32.ofNat n)), .val (.int (Int32.ofNat j)), .val (.int (cs.getD j 0))] [])) _
        refine XS.iload X_.here hx rfl (Jvm.hb hby d_jdk_52_method_21_15) rfl ?_
        show Steps p.tables e below (T_.setTop (mkF m 17 #[.val (.ref ca), .val (.int (Int32.ofNat j)), .val (.ref ba), .val (.int (Int32.ofNat j)), .val (.int (Int32.ofNat n)), .val (.int (Int32.ofNat j)), .val (.int (cs.getD j 0))] [(.int (cs.getD j 0))])) _
        refine XS.sipush X_.here hx rfl (Jvm.hb hby d_jdk_52_method_21_17) ?_
        show Steps p.tables e below (T_.setTop (mkF m 20 #[.val (.ref ca), .val (.int (Int32.ofNat j)), .val (.ref ba), .val (.int (Int32.ofNat j)), .val (.int (Int32.ofNat n)), .val (.int (Int32.ofNat j)), .val (.int (cs.getD j 0))] [(.int (255 : Int32)), (.int (cs.getD j 0))])) _
        refine XS.icmpYes X_.here hx rfl (pc0 := 20) (pc' := 26) rfl (Jvm.hb hby d_jdk_52_method_21_20) rfl (flt (hlat _ (own_mem cs j (by omega)))).2.2.2 (by decide) (by decide) ?_
        show Steps p.tables e below (T_.setTop (mkF m 26 #[.val (.ref ca), .val (.int (Int32.ofNat j)), .val (.ref ba), .val (.int (Int32.ofNat j)), .val (.int (Int32.ofNat n)), .val (.int (Int32.ofNat j)), .val (.int (cs.getD j 0))] [])) _
        refine XS.aloadN X_.here hx rfl (Jvm.hb hby d_jdk_52_method_21_26) rfl rfl ?_
        show Steps p.tables e below (T_.setTop (mkF m 27 #[.val (.ref ca), .val (.int (Int32.ofNat j)), .val (.ref ba), .val (.int (Int32.ofNat j)), .val (.int (Int32.ofNat n)), .val (.int (Int32.ofNat j)), .val (.int (cs.getD j 0))] [(.ref ba)])) _
        refine XS.iloadN X_.here hx rfl (Jvm.hb hby d_jdk_52_method_21_27) rfl ?_
        show Steps p.tables e below (T_.setTop (mkF m 28 #[.val (.ref ca), .val (.int (Int32.ofNat j)), .val (.ref ba), .val (.int (Int32.ofNat j)), .val (.int (Int32.ofNat n)), .val (.int (Int32.ofNat j)), .val (.int (cs.getD j 0))] [(.int (Int32.ofNat j)), (.ref ba)])) _
        refine XS.iload X_.here hx rfl (Jvm.hb hby d_jdk_52_method_21_28) rfl ?_
        show Steps p.tables e below (T_.setTop (mkF m 30 #[.val (.ref ca), .val (.int (Int32.ofNat j)), .val (.ref ba), .val (.int (Int32.ofNat j)), .val (.int (Int32.ofNat n)), .val (.int (Int32.ofNat j)), .val (.int (cs.getD j 0))] [(.int (cs.getD j 0)), (.int (Int32.ofNat j)), (.ref ba)])) _
        refine XS.i2b X_.here hx rfl (Jvm.hb hby d_jdk_52_method_21_30) rfl ?_
        show Steps p.tables e below (T_.setTop (mkF m 31 #[.val (.ref ca), .val (.int (Int32.ofNat j)), .val (.ref ba), .val (.int (Int32.ofNat j)), .val (.int (Int32.ofNat n)), .val (.int (Int32.ofNat j)), .val (.int (cs.getD j 0))] [(.int (own_lo (cs.getD j 0))), (.int (Int32.ofNat j)), (.ref ba)])) _
        refine st7 _ ?_
        show Steps p.tables e below (T7.setTop (mkF m 32 #[.val (.ref ca), .val (.int (Int32.ofNat j)), .val (.ref ba), .val (.int (Int32.ofNat j)), .val (.int (Int32.ofNat n)), .val (.int (Int32.ofNat j)), .val (.int (cs.getD j 0))] [])) _
        refine XS.iinc X7.here hx rfl (Jvm.hb hby d_jdk_52_method_21_32) rfl (l' := #[.val (.ref ca), .val (.int ((Int32.ofNat j) + (1 : Int32))), .val (.ref ba), .val (.int (Int32.ofNat j)), .val (.int (Int32.ofNat n)), .val (.int (Int32.ofNat j)), .val (.int (cs.getD j 0))]) rfl ?_
        show Steps p.tables e below (T7.setTop (mkF m 35 #[.val (.ref ca), .val (.int ((Int32.ofNat j) + (1 : Int32))), .val (.ref ba), .val (.int (Int32.ofNat j)), .val (.int (Int32.ofNat n)), .val (.int (Int32.ofNat j)), .val (.int (cs.getD j 0))] [])) _
        refine XS.iinc X7.here hx rfl (Jvm.hb hby d_jdk_52_method_21_35) rfl (l' := #[.val (.ref ca), .val (.int ((Int32.ofNat j) + (1 : Int32))), .val (.ref ba), .val (.int ((Int32.ofNat j) + (1 : Int32))), .val (.int (Int32.ofNat n)), .val (.int (Int32.ofNat j)), .val (.int (cs.getD j 0))]) rfl ?_
        show Steps p.tables e below (T7.setTop (mkF m 38 #[.val (.ref ca), .val (.int ((Int32.ofNat j) + (1 : Int32))), .val (.ref ba), .val (.int ((Int32.ofNat j) + (1 : Int32))), .val (.int (Int32.ofNat n)), .val (.int (Int32.ofNat j)), .val (.int (cs.getD j 0))] [])) _
        refine XS.iinc X7.here hx rfl (Jvm.hb hby d_jdk_52_method_21_38) rfl (l' := #[.val (.ref ca), .val (.int ((Int32.ofNat j) + (1 : Int32))), .val (.ref ba), .val (.int ((Int32.ofNat j) + (1 : Int32))), .val (.int (Int32.ofNat n)), .val (.int ((Int32.ofNat j) + (1 : Int32))), .val (.int (cs.getD j 0))]) rfl ?_
        show Steps p.tables e below (T7.setTop (mkF m 41 #[.val (.ref ca), .val (.int ((Int32.ofNat j) + (1 : Int32))), .val (.ref ba), .val (.int ((Int32.ofNat j) + (1 : Int32))), .val (.int (Int32.ofNat n)), .val (.int ((Int32.ofNat j) + (1 : Int32))), .val (.int (cs.getD j 0))] [])) _
        refine XS.goto X7.here hx rfl (pc0 := 41) (pc' := 3) rfl (Jvm.hb hby d_jdk_52_method_21_41) (by decide) (by decide) ?_
        show Steps p.tables e below (T7.setTop (mkF m 3 #[.val (.ref ca), .val (.int ((Int32.ofNat j) + (1 : Int32))), .val (.ref ba), .val (.int ((Int32.ofNat j) + (1 : Int32))), .val (.int (Int32.ofNat n)), .val (.int ((Int32.ofNat j) + (1 : Int32))), .val (.int (cs.getD j 0))] [])) _
        show Steps p.tables e below (T7.setTop (mkF m 3 #[.val (.ref ca), .val (.int ((Int32.ofNat j) + (1 : Int32))), .val (.ref ba), .val (.int ((Int32.ofNat j) + (1 : Int32))), .val (.int (Int32.ofNat n)), .val (.int ((Int32.ofNat j) + (1 : Int32))), .val (.int (cs.getD j 0))] [])) t_
        exact k_)
      obtain ⟨T10, lo10, h10, fe10, X10, e10, N10, K10, A10, st10⟩ := ih (j + 1) (.val (.int (cs.getD j 0))) T7 _ h7 (by omega) X7 e7 N7 (((Keep.refl h0 [ba]).trans K_ (allS (Or.inl (by simp)) all0)).wr W7 (Or.inl (by simp))) V7 (One.val rfl)
      exact ⟨T10, lo10, h10, fe10, X10, e10, N10, K10, A10, fun t_ k_ => s9 t_ (castTop (by rw [own_up]) (st10 t_ k_))⟩
  obtain ⟨T11, lo11, h11, fe11, X11, e11, N11, K11, A11, st11⟩ := lp2 n 0 .unset s₁ _ h0 (by omega) X0 e0 N0 (Keep.refl _ _) (by rw [own_mix0]; exact I2) One.u
  have z12 : h0.size ≤ h11.size := K11.1
  obtain ⟨s6_11, rfl, G11_0⟩ := A11
  have s13 : ∀ t_, Steps p.tables e below (T11.setTop (mkF m 44 #[.val (.ref ca), .val (.int (Int32.ofNat n)), .val (.ref ba), .val (.int (Int32.ofNat n)), .val (.int (Int32.ofNat n)), .val (.int (Int32.ofNat n)), s6_11] [])) t_ → Steps p.tables e below (s₁.setTop (entryFrame m #[(.ref ca), (.int (0 : Int32)), (.ref ba), (.int (0 : Int32)), (.int (Int32.ofNat n))] 7)) t_ := fun t_ k_ => s1 t_ (st11 t_ k_)
  have s14 : ∀ t_, Steps p.tables e below (T11.setTop (mkF m 46 #[.val (.ref ca), .val (.int (Int32.ofNat n)), .val (.ref ba), .val (.int (Int32.ofNat n)), .val (.int (Int32.ofNat n)), .val (.int (Int32.ofNat n)), s6_11] [(.int (Int32.ofNat n))])) t_ → Steps p.tables e below (s₁.setTop (entryFrame m #[(.ref ca), (.int (0 : Int32)), (.ref ba), (.int (0 : Int32)), (.int (Int32.ofNat n))] 7)) t_ := fun t_ k_ => s13 t_ (by
    show Steps p.tables e below (T11.setTop (mkF m 44 #[.val (.ref ca), .val (.int (Int32.ofNat n)), .val (.ref ba), .val (.int (Int32.ofNat n)), .val (.int (Int32.ofNat n)), .val (.int (Int32.ofNat n)), s6_11] [])) t_
    refine XS.iload X11.here hx rfl (Jvm.hb hby d_jdk_52_method_21_44) rfl ?_
    show Steps p.tables e below (T11.setTop (mkF m 46 #[.val (.ref ca), .val (.int (Int32.ofNat n)), .val (.ref ba), .val (.int (Int32.ofNat n)), .val (.int (Int32.ofNat n)), .val (.int (Int32.ofNat n)), s6_11] [(.int (Int32.ofNat n))])) _
    show Steps p.tables e below (T11.setTop (mkF m 46 #[.val (.ref ca), .val (.int (Int32.ofNat n)), .val (.ref ba), .val (.int (Int32.ofNat n)), .val (.int (Int32.ofNat n)), .val (.int (Int32.ofNat n)), s6_11] [(.int (Int32.ofNat n))])) t_
    exact k_)
  obtain ⟨fs, hr, hrun, hended, hW, hsame⟩ := X11.leave (v := some (.int (Int32.ofNat n))) (fun h => by rw [Bd.returns] at h; cases h)
  refine ⟨_, _, s14 _ ?_, hrun, hended, _, _, rfl, ?_, ⟨_, rfl⟩, hW, hsame.mono (by decide) (by decide)⟩
  · show Steps p.tables e below (T11.setTop (mkF m 46 #[.val (.ref ca), .val (.int (Int32.ofNat n)), .val (.ref ba), .val (.int (Int32.ofNat n)), .val (.int (Int32.ofNat n)), .val (.int (Int32.ofNat n)), s6_11] [(.int (Int32.ofNat n))])) _
    exact retI X11 hx Bd.returns (Jvm.hb hby d_jdk_52_method_21_46) hr
  · show Q_rmCmpL Z _ _ _ _ _ _ _ h0 n0 _ T11.heap _
    rw [e11]
    exact ⟨rfl, N11, ((Keep.refl h0 [ba]).trans K11 (allS (Or.inl (by simp)) all0)), G11_0⟩
theorem os_rmCmpW_13 {z0 : Value} {z1 : Value} {z2 : Value} {z3 : Value} {z4 : Value} {z5 : Value} {s6 : Slot} {v : Int32} (h : One s6) : storeLocals #[.val z0, .val z1, .val z2, .val z3, .val z4, .val z5, s6] 6 (.int v) = some #[.val z0, .val z1, .val z2, .val z3, .val z4, .val z5, .val (.int v)] := by
  rcases h with rfl | ⟨w, rfl, hw⟩
  · rfl
  · cases w <;> first | rfl | (simp [Value.category] at hw)
theorem d_jdk_52_method_21_23 : decode jdk_52_method_21_code 23 = .ok (.iload 5, 2) := by decide +kernel
theorem d_jdk_52_method_21_25 : decode jdk_52_method_21_code 25 = .ok (.ireturn, 1) := by decide +kernel
theorem ef_rmCmpW (m : MethodId) (x0 : Addr) (x1 : Int32) (x2 : Addr) (x3 : Int32) (x4 : Int32) : entryFrame m #[(.ref x0), (.int x1), (.ref x2), (.int x3), (.int x4)] 7 = mkF m 0 #[.val (.ref x0), .val (.int x1), .val (.ref x2), .val (.int x3), .val (.int x4), .unset, .unset] [] := by first | (simp [entryFrame, mkF, argsToLocals, Value.category]; done) | rfl
def Q_rmCmpW (Z : State) (ca : Addr) (ba : Addr) (cs : List Int32) (kc : ClassId) (n : Nat) (kb : ClassId) (vs : List Value) (i : Nat) (h0 : Heap) (n0 : Nat) (v : Option Value) (h : Heap) (L : List Loc) : Prop := (v = some (.int (Int32.ofNat i))) ∧ (Fr n0 L) ∧ (Keep h0 h [ba]) ∧ (Arv Z h ba kb .byte (Int32.ofNat n) (own_mix (own_low cs) vs i) (.int (0 : Int32)))
set_option maxRecDepth 65536 in
set_option maxHeartbeats 40000000 in
theorem rmCmpW (l : Launch) (Z : State) (a0 : Array Value) (hw : ∀ d ∈ tables_1, d.before a0 Z = true) (ws : List Jvm.Cond) (ca : Addr) (ba : Addr) (cs : List Int32) (kc : ClassId) (n : Nat) (kb : ClassId) (vs : List Value) (i : Nat) (h0 : Heap) (n0 : Nat) (Z0 : n0 ≤ h0.size) (I1 : Arv Z h0 ca kc .char (Int32.ofNat n) (cs.map Value.int) (.int (0 : Int32))) (I2 : Arv Z h0 ba kb .byte (Int32.ofNat n) vs (.int (0 : Int32))) (hn : cs.length = n) (hb : n ≤ 4) (hvs : vs.length = n) (gb : n0 ≤ ba) (hne : @Ne Nat ca ba) (hi : i < n) (hbad : (255 : Int32) < (cs.getD i 0)) (hpre : ∀ j, j < i → ¬ ((255 : Int32) < cs.getD j 0)) :
    MetFree l (⟨"java/lang/StringUTF16", "compress", "([CI[BII)I"⟩ : MethodName) (head1 (Jvm.Cond.code (⟨"java/lang/StringUTF16", "compress", "([CI[BII)I"⟩ : MethodName) jdk_52_method_21_code 7 (some .int) :: ws) ({ frames := 0, cells := 0, slots := 0, locals := 0 } : Room)) (fun ar_ U => ar_ = #[(.ref ca), (.int (0 : Int32)), (.ref ba), (.int (0 : Int32)), (.int (Int32.ofNat n))] ∧ Z.Warmed39 U.vm ∧ U.heap = h0) (fun _ _ _ _ _ => True) (fun _ U o U' => ∃ v L, o = .returned v ∧ Q_rmCmpW Z ca ba cs kc n kb vs i h0 n0 v U'.heap L ∧ FrameEnd U o U' L ({ frames := 0, cells := 0, slots := 0, locals := 0 } : Room).cells ({ frames := 0, cells := 0, slots := 0, locals := 0 } : Room).slots) := by
  refine MetFree.of_bodySF (plainFor_of_name pn_java_lang_StringUTF16) hisR ?_
  intro p e s m args below meth c s₁ Bd hml0 hP hK
  obtain ⟨rfl, hZ, hh⟩ := hP
  have hx := Bd.exec
  have hby := Bd.bytes
  have hml : c.maxLocals = 7 := hml0
  have hown : s.vm.findClass "java/lang/StringUTF16" = some m.cls := findClass_of_methodNamed Bd.named
  have hnm := (name_of_methodNamed Bd.named Bd.method).1
  have X0 : Stand p l e ({ frames := 0, cells := 0, slots := 0, locals := 0 } : Room) s m #[(.ref ca), (.int (0 : Int32)), (.ref ba), (.int (0 : Int32)), (.int (Int32.ofNat n))] below meth c s₁ [] 0 0 := Stand.of_body Bd
  have e0 : s₁.heap = h0 := by rw [← hh, Bd.state]; rfl
  have N0 := Fr.nil n0
  have pre0 : ∀ t_, Steps p.tables e below (s₁.setTop (mkF m 0 #[.val (.ref ca), .val (.int (0 : Int32)), .val (.ref ba), .val (.int (0 : Int32)), .val (.int (Int32.ofNat n)), .unset, .unset] [])) t_ → Steps p.tables e below (s₁.setTop (entryFrame m #[(.ref ca), (.int (0 : Int32)), (.ref ba), (.int (0 : Int32)), (.int (Int32.ofNat n))] 7)) t_ := fun t_ k_ => castTop (ef_rmCmpW m ca (0 : Int32) ba (0 : Int32) (Int32.ofNat n)) k_
  have lt_I1 : @LT.lt Nat _ ca h0.size := I1.lt
  have lt_I2 : @LT.lt Nat _ ba h0.size := I2.lt
  have s1 : ∀ t_, Steps p.tables e below (s₁.setTop (mkF m 3 #[.val (.ref ca), .val (.int (0 : Int32)), .val (.ref ba), .val (.int (0 : Int32)), .val (.int (Int32.ofNat n)), .val (.int (0 : Int32)), .unset] [])) t_ → Steps p.tables e below (s₁.setTop (entryFrame m #[(.ref ca), (.int (0 : Int32)), (.ref ba), (.int (0 : Int32)), (.int (Int32.ofNat n))] 7)) t_ := fun t_ k_ => pre0 t_ (by
    show Steps p.tables e below (s₁.setTop (mkF m 0 #[.val (.ref ca), .val (.int (0 : Int32)), .val (.ref ba), .val (.int (0 : Int32)), .val (.int (Int32.ofNat n)), .unset, .unset] [])) t_
    refine XS.iconst X0.here hx rfl (Jvm.hb hby d_jdk_52_method_21_0) ?_
    show Steps p.tables e below (s₁.setTop (mkF m 1 #[.val (.ref ca), .val (.int (0 : Int32)), .val (.ref ba), .val (.int (0 : Int32)), .val (.int (Int32.ofNat n)), .unset, .unset] [(.int (0 : Int32))])) _
    refine XS.istore X0.here hx rfl (Jvm.hb hby d_jdk_52_method_21_1) rfl (l' := #[.val (.ref ca), .val (.int (0 : Int32)), .val (.ref ba), .val (.int (0 : Int32)), .val (.int (Int32.ofNat n)), .val (.int (0 : Int32)), .unset]) rfl ?_
    show Steps p.tables e below (s₁.setTop (mkF m 3 #[.val (.ref ca), .val (.int (0 : Int32)), .val (.ref ba), .val (.int (0 : Int32)), .val (.int (Int32.ofNat n)), .val (.int (0 : Int32)), .unset] [])) _
    show Steps p.tables e below (s₁.setTop (mkF m 3 #[.val (.ref ca), .val (.int (0 : Int32)), .val (.ref ba), .val (.int (0 : Int32)), .val (.int (Int32.ofNat n)), .val (.int (0 : Int32)), .unset] [])) t_
    exact k_)
  have lp2 : ∀ (k_ : Nat) (j : Nat) (s6 : Slot) (T_ : State) (lo_ : List Loc) (hh2 : Heap), j + k_ = i → Stand p l e ({ frames := 0, cells := 0, slots := 0, locals := 0 } : Room) s m #[(.ref ca), (.int (0 : Int32)), (.ref ba), (.int (0 : Int32)), (.int (Int32.ofNat n))] below meth c T_ lo_ 0 0 → T_.heap = hh2 → Fr n0 lo_ → Keep h0 hh2 [ba] → Arv Z hh2 ba kb .byte (Int32.ofNat n) (own_mix (own_low cs) vs j) (.int (0 : Int32)) → (One s6) → ∃ (T' : State) (lo' : List Loc) (hx_ : Heap) (fe_ : JFrame), Stand p l e ({ frames := 0, cells := 0, slots := 0, locals := 0 } : Room) s m #[(.ref ca), (.int (0 : Int32)), (.ref ba), (.int (0 : Int32)), (.int (Int32.ofNat n))] below meth c T' lo' 0 0 ∧ T'.heap = hx_ ∧ Fr n0 lo' ∧ Keep h0 hx_ [ba] ∧ ((fe_ = (mkF m 23 #[.val (.ref ca), .val (.int (Int32.ofNat i)), .val (.ref ba), .val (.int (Int32.ofNat i)), .val (.int (Int32.ofNat n)), .val (.int (Int32.ofNat i)), .val (.int (cs.getD i 0))] []) ∧ Arv Z hx_ ba kb .byte (Int32.ofNat n) (own_mix (own_low cs) vs i) (.int (0 : Int32)))) ∧ ∀ t_, Steps p.tables e below (T'.setTop fe_) t_ → Steps p.tables e below (T_.setTop (mkF m 3 #[.val (.ref ca), .val (.int (Int32.ofNat j)), .val (.ref ba), .val (.int (Int32.ofNat j)), .val (.int (Int32.ofNat n)), .val (.int (Int32.ofNat j)), s6] [])) t_ := by
    intro k_
    induction k_ with
    | zero => 
      intro j s6 T_ lo_ hh2 hm_ X_ e_ N_ K_ F_0 hs6
      have zk_ : h0.size ≤ hh2.size := K_.1
      have f3 : Arv Z hh2 ca kc .char (Int32.ofNat n) (cs.map Value.int) (.int (0 : Int32)) := (I1.keep K_ (ninS (show @Ne Nat ca ba by omega) nin0))
      obtain ⟨cl4, Ar4, -, S4, M4, H4, -⟩ := id f3
      have hin4 : ¬ ((Int32.ofNat j) < 0 ∨ cl4.slots.size ≤ ((Int32.ofNat j)).toNatClampNeg) := inb_of S4 (own_in (by omega) (by omega))
      have hat4 : cl4.slots[((Int32.ofNat j)).toNatClampNeg]? = some (.int (cs.getD j 0)) := H4.at hin4 (own_getc cs j _ (by omega) (by omega))
      have s5 : ∀ t_, Steps p.tables e below (T_.setTop (mkF m 23 #[.val (.ref ca), .val (.int (Int32.ofNat j)), .val (.ref ba), .val (.int (Int32.ofNat j)), .val (.int (Int32.ofNat n)), .val (.int (Int32.ofNat j)), .val (.int (cs.getD j 0))] [])) t_ → Steps p.tables e below (T_.setTop (mkF m 3 #[.val (.ref ca), .val (.int (Int32.ofNat j)), .val (.ref ba), .val (.int (Int32.ofNat j)), .val (.int (Int32.ofNat n)), .val (.int (Int32.ofNat j)), s6] [])) t_ := fun t_ k_ => (fun _ k_ => k_) t_ (by
        show Steps p.tables e below (T_.setTop (mkF m 3 #[.val (.ref ca), .val (.int (Int32.ofNat j)), .val (.ref ba), .val (.int (Int32.ofNat j)), .val (.int (Int32.ofNat n)), .val (.int (Int32.ofNat j)), s6] [])) t_
        refine XS.iload X_.here hx rfl (Jvm.hb hby d_jdk_52_method_21_3) rfl ?_
        show Steps p.tables e below (T_.setTop (mkF m 5 #[.val (.ref ca), .val (.int (Int32.ofNat j)), .val (.ref ba), .val (.int (Int32.ofNat j)), .val (.int (Int32.ofNat n)), .val (.int (Int32.ofNat j)), s6] [(.int (Int32.ofNat j))])) _
        refine XS.iload X_.here hx rfl (Jvm.hb hby d_jdk_52_method_21_5) rfl ?_
        show Steps p.tables e below (T_.setTop (mkF m 7 #[.val (.ref ca), .val (.int (Int32.ofNat j)), .val (.ref ba), .val (.int (Int32.ofNat j)), .val (.int (Int32.ofNat n)), .val (.int (Int32.ofNat j)), s6] [(.int (Int32.ofNat n)), (.int (Int32.ofNat j))])) _
        refine XS.icmpNo X_.here hx rfl (Jvm.hb hby d_jdk_52_method_21_7) rfl (tlt (own_lt (by omega) (by omega))).2.1 ?_
        show Steps p.tables e below (T_.setTop (mkF m 10 #[.val (.ref ca), .val (.int (Int32.ofNat j)), .val (.ref ba), .val (.int (Int32.ofNat j)), .val (.int (Int32.ofNat n)), .val (.int (Int32.ofNat j)), s6] [])) _
        refine XS.aloadN X_.here hx rfl (Jvm.hb hby d_jdk_52_method_21_10) rfl rfl ?_
        show Steps p.tables e below (T_.setTop (mkF m 11 #[.val (.ref ca), .val (.int (Int32.ofNat j)), .val (.ref ba), .val (.int (Int32.ofNat j)), .val (.int (Int32.ofNat n)), .val (.int (Int32.ofNat j)), s6] [(.ref ca)])) _
        refine XS.iloadN X_.here hx rfl (Jvm.hb hby d_jdk_52_method_21_11) rfl ?_
        show Steps p.tables e below (T_.setTop (mkF m 12 #[.val (.ref ca), .val (.int (Int32.ofNat j)), .val (.ref ba), .val (.int (Int32.ofNat j)), .val (.int (Int32.ofNat n)), .val (.int (Int32.ofNat j)), s6] [(.int (Int32.ofNat j)), (.ref ca)])) _
        refine X_.caload hx (j := (Int32.ofNat j)) (v := (.int (cs.getD j 0))) (by rw [e_]; exact Ar4.1) (State.isArrayOf_alike hZ.alike Ar4.2.1) Ar4.2.2 hin4 hat4 (g := (mkF m 12 #[.val (.ref ca), .val (.int (Int32.ofNat j)), .val (.ref ba), .val (.int (Int32.ofNat j)), .val (.int (Int32.ofNat n)), .val (.int (Int32.ofNat j)), s6] [(.int (Int32.ofNat j)), (.ref ca)])) rfl rfl (Jvm.hb hby d_jdk_52_method_21_12) _ ?_
        show Steps p.tables e below (T_.setTop (mkF m 13 #[.val (.ref ca), .val (.int (Int32.ofNat j)), .val (.ref ba), .val (.int (Int32.ofNat j)), .val (.int (Int32.ofNat n)), .val (.int (Int32.ofNat j)), s6] [(.int (cs.getD j 0))])) _
        refine XS.istore X_.here hx rfl (Jvm.hb hby d_jdk_52_method_21_13) rfl (l' := #[.val (.ref ca), .val (.int (Int32.ofNat j)), .val (.ref ba), .val (.int (Int32.ofNat j)), .val (.int (Int32.ofNat n)), .val (.int (Int32.ofNat j)), .val (.int (cs.getD j 0))]) (os_rmCmpW_13 hs6) ?_
        show Steps p.tables e below (T_.setTop (mkF m 15 #[.val (.ref ca), .val (.int (Int32.ofNat j)), .val (.ref ba), .val (.int (Int32.ofNat j)), .val (.int (Int32.ofNat n)), .val (.int (Int32.ofNat j)), .val (.int (cs.getD j 0))] [])) _
        refine XS.iload X_.here hx rfl (Jvm.hb hby d_jdk_52_method_21_15) rfl ?_
        show Steps p.tables e below (T_.setTop (mkF m 17 #[.val (.ref ca), .val (.int (Int32.ofNat j)), .val (.ref ba), .val (.int (Int32.ofNat j)), .val (.int (Int32.ofNat n)), .val (.int (Int32.ofNat j)), .val (.int (cs.getD j 0))] [(.int (cs.getD j 0))])) _
        refine XS.sipush X_.here hx rfl (Jvm.hb hby d_jdk_52_method_21_17) ?_
        show Steps p.tables e below (T_.setTop (mkF m 20 #[.val (.ref ca), .val (.int (Int32.ofNat j)), .val (.ref ba), .val (.int (Int32.ofNat j)), .val (.int (Int32.ofNat n)), .val (.int (Int32.ofNat j)), .val (.int (cs.getD j 0))] [(.int (255 : Int32)), (.int (cs.getD j 0))])) _
        refine XS.icmpNo X_.here hx rfl (Jvm.hb hby d_jdk_52_method_21_20) rfl (tlt (by rw [show j = i by omega]; exact hbad)).2.2.2 ?_
        show Steps p.tables e below (T_.setTop (mkF m 23 #[.val (.ref ca), .val (.int (Int32.ofNat j)), .val (.ref ba), .val (.int (Int32.ofNat j)), .val (.int (Int32.ofNat n)), .val (.int (Int32.ofNat j)), .val (.int (cs.getD j 0))] [])) _
        show Steps p.tables e below (T_.setTop (mkF m 23 #[.val (.ref ca), .val (.int (Int32.ofNat j)), .val (.ref ba), .val (.int (Int32.ofNat j)), .val (.int (Int32.ofNat n)), .val (.int (Int32.ofNat j)), .val (.int (cs.getD j 0))] [])) t_
        exact k_)
      exact ⟨T_, _, _, _, X_, e_, N_, ((Keep.refl h0 [ba]).trans K_ (allS (Or.inl (by simp)) all0)), ⟨(by rw [show j = i by omega]), (by obtain rfl : j = i := (by omega); exact F_0)⟩, s5⟩
    | succ k_ ih => 
      intro j s6 T_ lo_ hh2 hm_ X_ e_ N_ K_ F_0 hs6
      have zk_ : h0.size ≤ hh2.size := K_.1
      have f6 : Arv Z hh2 ca kc .char (Int32.ofNat n) (cs.map Value.int) (.int (0 : Int32)) := (I1.keep K_ (ninS (show @Ne Nat ca ba by omega) nin0))
      obtain ⟨cl7, Ar7, -, S7, M7, H7, -⟩ := id f6
      have hin7 : ¬ ((Int32.ofNat j) < 0 ∨ cl7.slots.size ≤ ((Int32.ofNat j)).toNatClampNeg) := inb_of S7 (own_in (by omega) (by omega))
      have hat7 : cl7.slots[((Int32.ofNat j)).toNatClampNeg]? = some (.int (cs.getD j 0)) := H7.at hin7 (own_getc cs j _ (by omega) (by omega))
      obtain ⟨cl8, Ar8, q8, S8, M8, H8, G8⟩ := id F_0
      have hin8 : ¬ ((Int32.ofNat j) < 0 ∨ cl8.slots.size ≤ ((Int32.ofNat j)).toNatClampNeg) := inb_of S8 (own_in (by omega) (by omega))
      obtain ⟨T9, h9, X9, e9, W9, st9⟩ := stB X_ hx hZ e_ Ar8 (j := (Int32.ofNat j)) hin8 (g := (mkF m 31 #[.val (.ref ca), .val (.int (Int32.ofNat j)), .val (.ref ba), .val (.int (Int32.ofNat j)), .val (.int (Int32.ofNat n)), .val (.int (Int32.ofNat j)), .val (.int (cs.getD j 0))] [(.int (own_lo (cs.getD j 0))), (.int (Int32.ofNat j)), (.ref ba)])) rfl rfl (Jvm.hb hby d_jdk_52_method_21_31)
      have z10 : hh2.size ≤ h9.size := Nat.le_of_eq W9.size.symm
      have V9 : Arv Z h9 ba kb .byte (Int32.ofNat n) (own_mix (own_low cs) vs (j + 1)) (.int (0 : Int32)) := by
        have q : Arv Z h9 ba kb .byte (Int32.ofNat n) ((own_mix (own_low cs) vs j).set j (.int (nar .byte (own_lo (cs.getD j 0))))) (.int (0 : Int32)) := Arv.set Ar8 q8 S8 M8 H8 G8 (fits_nar_byte _) W9 j (own_tn (by omega)) (by rw [own_mixl _ _ _ (by rw [own_lowl]; omega)]; omega)
        rw [own_mixc cs vs j (by omega) (by omega)] at q
        exact q
      have N9 := Fr.snoc X9 N_ (show n0 ≤ ba by omega)
      have s11 : ∀ t_, Steps p.tables e below (T9.setTop (mkF m 3 #[.val (.ref ca), .val (.int ((Int32.ofNat j) + (1 : Int32))), .val (.ref ba), .val (.int ((Int32.ofNat j) + (1 : Int32))), .val (.int (Int32.ofNat n)), .val (.int ((Int32.ofNat j) + (1 : Int32))), .val (.int (cs.getD j 0))] [])) t_ → Steps p.tables e below (T_.setTop (mkF m 3 #[.val (.ref ca), .val (.int (Int32.ofNat j)), .val (.ref ba), .val (.int (Int32.ofNat j)), .val (.int (Int32.ofNat n)), .val (.int (Int32.ofNat j)), s6] [])) t_ := fun t_ k_ => (fun _ k_ => k_) t_ (by
        show Steps p.tables e below (T_.setTop (mkF m 3 #[.val (.ref ca), .val (.int (Int32.ofNat j)), .val (.ref ba), .val (.int (Int32.ofNat j)), .val (.int (Int32.ofNat n)), .val (.int (Int32.ofNat j)), s6] [])) t_
        refine XS.iload X_.here hx rfl (Jvm.hb hby d_jdk_52_method_21_3) rfl ?_
        show Steps p.tables e below (T_.setTop (mkF m 5 #[.val (.ref ca), .val (.int (Int32.ofNat j)), .val (.ref ba), .val (.int (Int32.ofNat j)), .val (.int (Int32.ofNat n)), .val (.int (Int32.ofNat j)), s6] [(.int (Int32.ofNat j))])) _
        refine XS.iload X_.here hx rfl (Jvm.hb hby d_jdk_52_method_21_5) rfl ?_
        show Steps p.tables e below (T_.setTop (mkF m 7 #[.val (.ref ca), .val (.int (Int32.ofNat j)), .val (.ref ba), .val (.int (Int32.ofNat j)), .val (.int (Int32.ofNat n)), .val (.int (Int32.ofNat j)), s6] [(.int (Int32.ofNat n)), (.int (Int32.ofNat j))])) _
        refine XS.icmpNo X_.here hx rfl (Jvm.hb hby d_jdk_52_method_21_7) rfl (tlt (own_lt (by omega) (by omega))).2.1 ?_
        show Steps p.tables e below (T_.setTop (mkF m 10 #[.val (.ref ca), .val (.int (Int32.ofNat j)), .val (.ref ba), .val (.int (Int32.ofNat j)), .val (.int (Int32.ofNat n)), .val (.int (Int32.ofNat j)), s6] [])) _
        refine XS.aloadN X_.here hx rfl (Jvm.hb hby d_jdk_52_method_21_10) rfl rfl ?_
        show Steps p.tables e below (T_.setTop (mkF m 11 #[.val (.ref ca), .val (.int (Int32.ofNat j)), .val (.ref ba), .val (.int (Int32.ofNat j)), .val (.int (Int32.ofNat n)), .val (.int (Int32.ofNat j)), s6] [(.ref ca)])) _
        refine XS.iloadN X_.here hx rfl (Jvm.hb hby d_jdk_52_method_21_11) rfl ?_
        show Steps p.tables e below (T_.setTop (mkF m 12 #[.val (.ref ca), .val (.int (Int32.ofNat j)), .val (.ref ba), .val (.int (Int32.ofNat j)), .val (.int (Int32.ofNat n)), .val (.int (Int32.ofNat j)), s6] [(.int (Int32.ofNat j)), (.ref ca)])) _
        refine X_.caload hx (j := (Int32.ofNat j)) (v := (.int (cs.getD j 0))) (by rw [e_]; exact Ar7.1) (State.isArrayOf_alike hZ.alike Ar7.2.1) Ar7.2.2 hin7 hat7 (g := (mkF m 12 #[.val (.ref ca), .val (.int (Int32.ofNat j)), .val (.ref ba), .val (.int (Int32.ofNat j)), .val (.int (Int32.ofNat n)), .val (.int (Int32.ofNat j)), s6] [(.int (Int32.ofNat j)), (.ref ca)])) rfl rfl (Jvm.hb hby d_jdk_52_method_21_12) _ ?_
        show Steps p.tables e below (T_.setTop (mkF m 13 #[.val (.ref ca), .val (.int (Int32.ofNat j)), .val (.ref ba), .val (.int (Int32.ofNat j)), .val (.int (Int32.ofNat n)), .val (.int (Int32.ofNat j)), s6] [(.int (cs.getD j 0))])) _
        refine XS.istore X_.here hx rfl (Jvm.hb hby d_jdk_52_method_21_13) rfl (l' := #[.val (.ref ca), .val (.int (Int32.ofNat j)), .val (.ref ba), .val (.int (Int32.ofNat j)), .val (.int (Int32.ofNat n)), .val (.int (Int32.ofNat j)), .val (.int (cs.getD j 0))]) (os_rmCmpW_13 hs6) ?_
        show Steps p.tables e below (T_.setTop (mkF m 15 #[.val (.ref ca), .val (.int (Int32.ofNat j)), .val (.ref ba), .val (.int (Int32.ofNat j)), .val (.int (Int32.ofNat n)), .val (.int (Int32.ofNat j)), .val (.int (cs.getD j 0))] [])) _
        refine XS.iload X_.here hx rfl (Jvm.hb hby d_jdk_52_method_21_15) rfl ?_
        show Steps p.tables e below (T_.setTop (mkF m 17 #[.val (.ref ca), .val (.int (Int32.ofNat j)), .val (.ref ba), .val (.int (Int32.ofNat j)), .val (.int (Int32.ofNat n)), .val (.int (Int32.ofNat j)), .val (.int (cs.getD j 0))] [(.int (cs.getD j 0))])) _
        refine XS.sipush X_.here hx rfl (Jvm.hb hby d_jdk_52_method_21_17) ?_
        show Steps p.tables e below (T_.setTop (mkF m 20 #[.val (.ref ca), .val (.int (Int32.ofNat j)), .val (.ref ba), .val (.int (Int32.ofNat j)), .val (.int (Int32.ofNat n)), .val (.int (Int32.ofNat j)), .val (.int (cs.getD j 0))] [(.int (255 : Int32)), (.int (cs.getD j 0))])) _
        refine XS.icmpYes X_.here hx rfl (pc0 := 20) (pc' := 26) rfl (Jvm.hb hby d_jdk_52_method_21_20) rfl (flt (hpre j (by omega))).2.2.2 (by decide) (by decide) ?_
        show Steps p.tables e below (T_.setTop (mkF m 26 #[.val (.ref ca), .val (.int (Int32.ofNat j)), .val (.ref ba), .val (.int (Int32.ofNat j)), .val (.int (Int32.ofNat n)), .val (.int (Int32.ofNat j)), .val (.int (cs.getD j 0))] [])) _
        refine XS.aloadN X_.here hx rfl (Jvm.hb hby d_jdk_52_method_21_26) rfl rfl ?_
        show Steps p.tables e below (T_.setTop (mkF m 27 #[.val (.ref ca), .val (.int (Int32.ofNat j)), .val (.ref ba), .val (.int (Int32.ofNat j)), .val (.int (Int32.ofNat n)), .val (.int (Int32.ofNat j)), .val (.int (cs.getD j 0))] [(.ref ba)])) _
        refine XS.iloadN X_.here hx rfl (Jvm.hb hby d_jdk_52_method_21_27) rfl ?_
        show Steps p.tables e below (T_.setTop (mkF m 28 #[.val (.ref ca), .val (.int (Int32.ofNat j)), .val (.ref ba), .val (.int (Int32.ofNat j)), .val (.int (Int32.ofNat n)), .val (.int (Int32.ofNat j)), .val (.int (cs.getD j 0))] [(.int (Int32.ofNat j)), (.ref ba)])) _
        refine XS.iload X_.here hx rfl (Jvm.hb hby d_jdk_52_method_21_28) rfl ?_
        show Steps p.tables e below (T_.setTop (mkF m 30 #[.val (.ref ca), .val (.int (Int32.ofNat j)), .val (.ref ba), .val (.int (Int32.ofNat j)), .val (.int (Int32.ofNat n)), .val (.int (Int32.ofNat j)), .val (.int (cs.getD j 0))] [(.int (cs.getD j 0)), (.int (Int32.ofNat j)), (.ref ba)])) _
        refine XS.i2b X_.here hx rfl (Jvm.hb hby d_jdk_52_method_21_30) rfl ?_
        show Steps p.tables e below (T_.setTop (mkF m 31 #[.val (.ref ca), .val (.int (Int32.ofNat j)), .val (.ref ba), .val (.int (Int32.ofNat j)), .val (.int (Int32.ofNat n)), .val (.int (Int32.ofNat j)), .val (.int (cs.getD j 0))] [(.int (own_lo (cs.getD j 0))), (.int (Int32.ofNat j)), (.ref ba)])) _
        refine st9 _ ?_
        show Steps p.tables e below (T9.setTop (mkF m 32 #[.val (.ref ca), .val (.int (Int32.ofNat j)), .val (.ref ba), .val (.int (Int32.ofNat j)), .val (.int (Int32.ofNat n)), .val (.int (Int32.ofNat j)), .val (.int (cs.getD j 0))] [])) _
        refine XS.iinc X9.here hx rfl (Jvm.hb hby d_jdk_52_method_21_32) rfl (l' := #[.val (.ref ca), .val (.int ((Int32.ofNat j) + (1 : Int32))), .val (.ref ba), .val (.int (Int32.ofNat j)), .val (.int (Int32.ofNat n)), .val (.int (Int32.ofNat j)), .val (.int (cs.getD j 0))]) rfl ?_
        show Steps p.tables e below (T9.setTop (mkF m 35 #[.val (.ref ca), .val (.int ((Int32.ofNat j) + (1 : Int32))), .val (.ref ba), .val (.int (Int32.ofNat j)), .val (.int (Int32.ofNat n)), .val (.int (Int32.ofNat j)), .val (.int (cs.getD j 0))] [])) _
        refine XS.iinc X9.here hx rfl (Jvm.hb hby d_jdk_52_method_21_35) rfl (l' := #[.val (.ref ca), .val (.int ((Int32.ofNat j) + (1 : Int32))), .val (.ref ba), .val (.int ((Int32.ofNat j) + (1 : Int32))), .val (.int (Int32.ofNat n)), .val (.int (Int32.ofNat j)), .val (.int (cs.getD j 0))]) rfl ?_
        show Steps p.tables e below (T9.setTop (mkF m 38 #[.val (.ref ca), .val (.int ((Int32.ofNat j) + (1 : Int32))), .val (.ref ba), .val (.int ((Int32.ofNat j) + (1 : Int32))), .val (.int (Int32.ofNat n)), .val (.int (Int32.ofNat j)), .val (.int (cs.getD j 0))] [])) _
        refine XS.iinc X9.here hx rfl (Jvm.hb hby d_jdk_52_method_21_38) rfl (l' := #[.val (.ref ca), .val (.int ((Int32.ofNat j) + (1 : Int32))), .val (.ref ba), .val (.int ((Int32.ofNat j) + (1 : Int32))), .val (.int (Int32.ofNat n)), .val (.int ((Int32.ofNat j) + (1 : Int32))), .val (.int (cs.getD j 0))]) rfl ?_
        show Steps p.tables e below (T9.setTop (mkF m 41 #[.val (.ref ca), .val (.int ((Int32.ofNat j) + (1 : Int32))), .val (.ref ba), .val (.int ((Int32.ofNat j) + (1 : Int32))), .val (.int (Int32.ofNat n)), .val (.int ((Int32.ofNat j) + (1 : Int32))), .val (.int (cs.getD j 0))] [])) _
        refine XS.goto X9.here hx rfl (pc0 := 41) (pc' := 3) rfl (Jvm.hb hby d_jdk_52_method_21_41) (by decide) (by decide) ?_
        show Steps p.tables e below (T9.setTop (mkF m 3 #[.val (.ref ca), .val (.int ((Int32.ofNat j) + (1 : Int32))), .val (.ref ba), .val (.int ((Int32.ofNat j) + (1 : Int32))), .val (.int (Int32.ofNat n)), .val (.int ((Int32.ofNat j) + (1 : Int32))), .val (.int (cs.getD j 0))] [])) _
        show Steps p.tables e below (T9.setTop (mkF m 3 #[.val (.ref ca), .val (.int ((Int32.ofNat j) + (1 : Int32))), .val (.ref ba), .val (.int ((Int32.ofNat j) + (1 : Int32))), .val (.int (Int32.ofNat n)), .val (.int ((Int32.ofNat j) + (1 : Int32))), .val (.int (cs.getD j 0))] [])) t_
        exact k_)
      obtain ⟨T12, lo12, h12, fe12, X12, e12, N12, K12, A12, st12⟩ := ih (j + 1) (.val (.int (cs.getD j 0))) T9 _ h9 (by omega) X9 e9 N9 (((Keep.refl h0 [ba]).trans K_ (allS (Or.inl (by simp)) all0)).wr W9 (Or.inl (by simp))) V9 (One.val rfl)
      exact ⟨T12, lo12, h12, fe12, X12, e12, N12, K12, A12, fun t_ k_ => s11 t_ (castTop (by rw [own_up]) (st12 t_ k_))⟩
  obtain ⟨T13, lo13, h13, fe13, X13, e13, N13, K13, A13, st13⟩ := lp2 i 0 .unset s₁ _ h0 (by omega) X0 e0 N0 (Keep.refl _ _) (by rw [own_mix0]; exact I2) One.u
  have z14 : h0.size ≤ h13.size := K13.1
  obtain ⟨rfl, G13_0⟩ := A13
  have s15 : ∀ t_, Steps p.tables e below (T13.setTop (mkF m 23 #[.val (.ref ca), .val (.int (Int32.ofNat i)), .val (.ref ba), .val (.int (Int32.ofNat i)), .val (.int (Int32.ofNat n)), .val (.int (Int32.ofNat i)), .val (.int (cs.getD i 0))] [])) t_ → Steps p.tables e below (s₁.setTop (entryFrame m #[(.ref ca), (.int (0 : Int32)), (.ref ba), (.int (0 : Int32)), (.int (Int32.ofNat n))] 7)) t_ := fun t_ k_ => s1 t_ (st13 t_ k_)
  have s16 : ∀ t_, Steps p.tables e below (T13.setTop (mkF m 25 #[.val (.ref ca), .val (.int (Int32.ofNat i)), .val (.ref ba), .val (.int (Int32.ofNat i)), .val (.int (Int32.ofNat n)), .val (.int (Int32.ofNat i)), .val (.int (cs.getD i 0))] [(.int (Int32.ofNat i))])) t_ → Steps p.tables e below (s₁.setTop (entryFrame m #[(.ref ca), (.int (0 : Int32)), (.ref ba), (.int (0 : Int32)), (.int (Int32.ofNat n))] 7)) t_ := fun t_ k_ => s15 t_ (by
    show Steps p.tables e below (T13.setTop (mkF m 23 #[.val (.ref ca), .val (.int (Int32.ofNat i)), .val (.ref ba), .val (.int (Int32.ofNat i)), .val (.int (Int32.ofNat n)), .val (.int (Int32.ofNat i)), .val (.int (cs.getD i 0))] [])) t_
    refine XS.iload X13.here hx rfl (Jvm.hb hby d_jdk_52_method_21_23) rfl ?_
    show Steps p.tables e below (T13.setTop (mkF m 25 #[.val (.ref ca), .val (.int (Int32.ofNat i)), .val (.ref ba), .val (.int (Int32.ofNat i)), .val (.int (Int32.ofNat n)), .val (.int (Int32.ofNat i)), .val (.int (cs.getD i 0))] [(.int (Int32.ofNat i))])) _
    show Steps p.tables e below (T13.setTop (mkF m 25 #[.val (.ref ca), .val (.int (Int32.ofNat i)), .val (.ref ba), .val (.int (Int32.ofNat i)), .val (.int (Int32.ofNat n)), .val (.int (Int32.ofNat i)), .val (.int (cs.getD i 0))] [(.int (Int32.ofNat i))])) t_
    exact k_)
  obtain ⟨fs, hr, hrun, hended, hW, hsame⟩ := X13.leave (v := some (.int (Int32.ofNat i))) (fun h => by rw [Bd.returns] at h; cases h)
  refine ⟨_, _, s16 _ ?_, hrun, hended, _, _, rfl, ?_, ⟨_, rfl⟩, hW, hsame.mono (by decide) (by decide)⟩
  · show Steps p.tables e below (T13.setTop (mkF m 25 #[.val (.ref ca), .val (.int (Int32.ofNat i)), .val (.ref ba), .val (.int (Int32.ofNat i)), .val (.int (Int32.ofNat n)), .val (.int (Int32.ofNat i)), .val (.int (cs.getD i 0))] [(.int (Int32.ofNat i))])) _
    exact retI X13 hx Bd.returns (Jvm.hb hby d_jdk_52_method_21_25) hr
  · show Q_rmCmpW Z _ _ _ _ _ _ _ _ h0 n0 _ T13.heap _
    rw [e13]
    exact ⟨rfl, N13, ((Keep.refl h0 [ba]).trans K13 (allS (Or.inl (by simp)) all0)), G13_0⟩
theorem d_jdk_52_method_15_0 : decode jdk_52_method_15_code 0 = .ok (.iload_n 1, 1) := by decide +kernel
theorem d_jdk_52_method_15_1 : decode jdk_52_method_15_code 1 = .ok (.aload_n 0, 1) := by decide +kernel
theorem d_jdk_52_method_15_2 : decode jdk_52_method_15_code 2 = .ok (.arraylength, 1) := by decide +kernel
theorem d_jdk_52_method_15_3 : decode jdk_52_method_15_code 3 = .ok (.isub, 1) := by decide +kernel
theorem d_jdk_52_method_15_4 : decode jdk_52_method_15_code 4 = .ok (.bipush 31, 2) := by decide +kernel
theorem d_jdk_52_method_15_6 : decode jdk_52_method_15_code 6 = .ok (.iushr, 1) := by decide +kernel
theorem d_jdk_52_method_15_7 : decode jdk_52_method_15_code 7 = .ok (.i2b, 1) := by decide +kernel
theorem d_jdk_52_method_15_8 : decode jdk_52_method_15_code 8 = .ok (.ireturn, 1) := by decide +kernel
theorem ef_rmCod (m : MethodId) (x0 : Addr) (x1 : Int32) : entryFrame m #[(.ref x0), (.int x1)] 2 = mkF m 0 #[.val (.ref x0), .val (.int x1)] [] := by first | (simp [entryFrame, mkF, argsToLocals, Value.category]; done) | rfl
def Q_rmCod (Z : State) (ba : Addr) (nn : Int32) (kb : ClassId) (zz : Int32) (vs : List Value) (h0 : Heap) (n0 : Nat) (v : Option Value) (h : Heap) (L : List Loc) : Prop := (v = some (.int (nar .byte (own_lo (ushr (nn - zz) (31 : Int32)))))) ∧ (Fr n0 L) ∧ (h = h0)
set_option maxRecDepth 65536 in
set_option maxHeartbeats 40000000 in
theorem rmCod (l : Launch) (Z : State) (a0 : Array Value) (hw : ∀ d ∈ tables_1, d.before a0 Z = true) (ws : List Jvm.Cond) (ba : Addr) (nn : Int32) (kb : ClassId) (zz : Int32) (vs : List Value) (h0 : Heap) (n0 : Nat) (Z0 : n0 ≤ h0.size) (I1 : Arv Z h0 ba kb .byte zz vs (.int (0 : Int32))) :
    MetFree l (⟨"java/lang/StringUTF16", "coderFromArrayLen", "([BI)B"⟩ : MethodName) (head1 (Jvm.Cond.code (⟨"java/lang/StringUTF16", "coderFromArrayLen", "([BI)B"⟩ : MethodName) jdk_52_method_15_code 2 (some .byte) :: ws) ({ frames := 0, cells := 0, slots := 0, locals := 0 } : Room)) (fun ar_ U => ar_ = #[(.ref ba), (.int nn)] ∧ Z.Warmed39 U.vm ∧ U.heap = h0) (fun _ _ _ _ _ => True) (fun _ U o U' => ∃ v L, o = .returned v ∧ Q_rmCod Z ba nn kb zz vs h0 n0 v U'.heap L ∧ FrameEnd U o U' L ({ frames := 0, cells := 0, slots := 0, locals := 0 } : Room).cells ({ frames := 0, cells := 0, slots := 0, locals := 0 } : Room).slots) := by
  refine MetFree.of_bodySF (plainFor_of_name pn_java_lang_StringUTF16) hisR ?_
  intro p e s m args below meth c s₁ Bd hml0 hP hK
  obtain ⟨rfl, hZ, hh⟩ := hP
  have hx := Bd.exec
  have hby := Bd.bytes
  have hml : c.maxLocals = 2 := hml0
  have hown : s.vm.findClass "java/lang/StringUTF16" = some m.cls := findClass_of_methodNamed Bd.named
  have hnm := (name_of_methodNamed Bd.named Bd.method).1
  have X0 : Stand p l e ({ frames := 0, cells := 0, slots := 0, locals := 0 } : Room) s m #[(.ref ba), (.int nn)] below meth c s₁ [] 0 0 := Stand.of_body Bd
  have e0 : s₁.heap = h0 := by rw [← hh, Bd.state]; rfl
  have N0 := Fr.nil n0
  have pre0 : ∀ t_, Steps p.tables e below (s₁.setTop (mkF m 0 #[.val (.ref ba), .val (.int nn)] [])) t_ → Steps p.tables e below (s₁.setTop (entryFrame m #[(.ref ba), (.int nn)] 2)) t_ := fun t_ k_ => castTop (ef_rmCod m ba nn) k_
  have lt_I1 : @LT.lt Nat _ ba h0.size := I1.lt
  obtain ⟨cl1, Ar1, -, S1, M1, -, -⟩ := id I1
  have s2 : ∀ t_, Steps p.tables e below (s₁.setTop (mkF m 8 #[.val (.ref ba), .val (.int nn)] [(.int (own_lo (ushr (nn - zz) (31 : Int32))))])) t_ → Steps p.tables e below (s₁.setTop (entryFrame m #[(.ref ba), (.int nn)] 2)) t_ := fun t_ k_ => pre0 t_ (by
    show Steps p.tables e below (s₁.setTop (mkF m 0 #[.val (.ref ba), .val (.int nn)] [])) t_
    refine XS.iloadN X0.here hx rfl (Jvm.hb hby d_jdk_52_method_15_0) rfl ?_
    show Steps p.tables e below (s₁.setTop (mkF m 1 #[.val (.ref ba), .val (.int nn)] [(.int nn)])) _
    refine XS.aloadN X0.here hx rfl (Jvm.hb hby d_jdk_52_method_15_1) rfl rfl ?_
    show Steps p.tables e below (s₁.setTop (mkF m 2 #[.val (.ref ba), .val (.int nn)] [(.ref ba), (.int nn)])) _
    refine X0.arraylength hx (by rw [e0]; exact Ar1.1) (State.isArrayOf_alike hZ.alike Ar1.2.1) (g := (mkF m 2 #[.val (.ref ba), .val (.int nn)] [(.ref ba), (.int nn)])) rfl rfl (Jvm.hb hby d_jdk_52_method_15_2) _ ?_
    rw [len_of S1 M1]
    show Steps p.tables e below (s₁.setTop (mkF m 3 #[.val (.ref ba), .val (.int nn)] [(.int zz), (.int nn)])) _
    refine XS.isub X0.here hx rfl (Jvm.hb hby d_jdk_52_method_15_3) rfl ?_
    show Steps p.tables e below (s₁.setTop (mkF m 4 #[.val (.ref ba), .val (.int nn)] [(.int (nn - zz))])) _
    refine XS.bipush X0.here hx rfl (Jvm.hb hby d_jdk_52_method_15_4) ?_
    show Steps p.tables e below (s₁.setTop (mkF m 6 #[.val (.ref ba), .val (.int nn)] [(.int (31 : Int32)), (.int (nn - zz))])) _
    refine XS.iushr X0.here hx rfl (Jvm.hb hby d_jdk_52_method_15_6) rfl ?_
    show Steps p.tables e below (s₁.setTop (mkF m 7 #[.val (.ref ba), .val (.int nn)] [(.int (ushr (nn - zz) (31 : Int32)))])) _
    refine XS.i2b X0.here hx rfl (Jvm.hb hby d_jdk_52_method_15_7) rfl ?_
    show Steps p.tables e below (s₁.setTop (mkF m 8 #[.val (.ref ba), .val (.int nn)] [(.int (own_lo (ushr (nn - zz) (31 : Int32))))])) _
    show Steps p.tables e below (s₁.setTop (mkF m 8 #[.val (.ref ba), .val (.int nn)] [(.int (own_lo (ushr (nn - zz) (31 : Int32))))])) t_
    exact k_)
  obtain ⟨fs, hr, hrun, hended, hW, hsame⟩ := X0.leave (v := some (.int (nar .byte (own_lo (ushr (nn - zz) (31 : Int32)))))) (fun h => by rw [Bd.returns] at h; cases h)
  refine ⟨_, _, s2 _ ?_, hrun, hended, _, _, rfl, ?_, ⟨_, rfl⟩, hW, hsame.mono (by decide) (by decide)⟩
  · show Steps p.tables e below (s₁.setTop (mkF m 8 #[.val (.ref ba), .val (.int nn)] [(.int (own_lo (ushr (nn - zz) (31 : Int32))))])) _
    exact retN X0 hx (t := .byte) Bd.returns (by simp) (Jvm.hb hby d_jdk_52_method_15_8) hr
  · show Q_rmCod Z _ _ _ _ _ h0 n0 _ s₁.heap _
    rw [e0]
    exact ⟨rfl, N0, rfl⟩
theorem d_jdk_52_method_3_0 : decode jdk_52_method_3_code 0 = .ok (.iload_n 0, 1) := by decide +kernel
theorem d_jdk_52_method_3_1 : decode jdk_52_method_3_code 1 = .ok (.ifCond .ge 11, 3) := by decide +kernel
theorem d_jdk_52_method_3_12 : decode jdk_52_method_3_code 12 = .ok (.iload_n 0, 1) := by decide +kernel
theorem d_jdk_52_method_3_13 : decode jdk_52_method_3_code 13 = .ok (.ldc 20, 2) := by decide +kernel
theorem d_jdk_52_method_3_15 : decode jdk_52_method_3_code 15 = .ok (.if_icmp .lt 40, 3) := by decide +kernel
theorem d_jdk_52_method_3_55 : decode jdk_52_method_3_code 55 = .ok (.iload_n 0, 1) := by decide +kernel
theorem d_jdk_52_method_3_56 : decode jdk_52_method_3_code 56 = .ok (.iconst 1, 1) := by decide +kernel
theorem d_jdk_52_method_3_57 : decode jdk_52_method_3_code 57 = .ok (.ishl, 1) := by decide +kernel
theorem d_jdk_52_method_3_58 : decode jdk_52_method_3_code 58 = .ok (.ireturn, 1) := by decide +kernel
theorem ef_rmNBL (m : MethodId) (x0 : Int32) : entryFrame m #[(.int x0)] 1 = mkF m 0 #[.val (.int x0)] [] := by first | (simp [entryFrame, mkF, argsToLocals, Value.category]; done) | rfl
def Q_rmNBL (Z : State) (n : Nat) (h0 : Heap) (n0 : Nat) (v : Option Value) (h : Heap) (L : List Loc) : Prop := (v = some (.int (Int32.ofNat (2 * n)))) ∧ (Fr n0 L) ∧ (h = h0)
set_option maxRecDepth 65536 in
set_option maxHeartbeats 40000000 in
theorem rmNBL (l : Launch) (Z : State) (a0 : Array Value) (hw : ∀ d ∈ tables_1, d.before a0 Z = true) (ws : List Jvm.Cond) (n : Nat) (h0 : Heap) (n0 : Nat) (Z0 : n0 ≤ h0.size) (hb : n ≤ 4) :
    MetFree l (⟨"java/lang/StringUTF16", "newBytesLength", "(I)I"⟩ : MethodName) (head1 (Jvm.Cond.code (⟨"java/lang/StringUTF16", "newBytesLength", "(I)I"⟩ : MethodName) jdk_52_method_3_code 1 (some .int) :: ws) ({ frames := 0, cells := 0, slots := 0, locals := 0 } : Room)) (fun ar_ U => ar_ = #[(.int (Int32.ofNat n))] ∧ Z.Warmed39 U.vm ∧ U.heap = h0) (fun _ _ _ _ _ => True) (fun _ U o U' => ∃ v L, o = .returned v ∧ Q_rmNBL Z n h0 n0 v U'.heap L ∧ FrameEnd U o U' L ({ frames := 0, cells := 0, slots := 0, locals := 0 } : Room).cells ({ frames := 0, cells := 0, slots := 0, locals := 0 } : Room).slots) := by
  refine MetFree.of_bodySF (plainFor_of_name pn_java_lang_StringUTF16) hisR ?_
  intro p e s m args below meth c s₁ Bd hml0 hP hK
  obtain ⟨rfl, hZ, hh⟩ := hP
  have hx := Bd.exec
  have hby := Bd.bytes
  have hml : c.maxLocals = 1 := hml0
  have hown : s.vm.findClass "java/lang/StringUTF16" = some m.cls := findClass_of_methodNamed Bd.named
  have hnm := (name_of_methodNamed Bd.named Bd.method).1
  have X0 : Stand p l e ({ frames := 0, cells := 0, slots := 0, locals := 0 } : Room) s m #[(.int (Int32.ofNat n))] below meth c s₁ [] 0 0 := Stand.of_body Bd
  have e0 : s₁.heap = h0 := by rw [← hh, Bd.state]; rfl
  have N0 := Fr.nil n0
  have pre0 : ∀ t_, Steps p.tables e below (s₁.setTop (mkF m 0 #[.val (.int (Int32.ofNat n))] [])) t_ → Steps p.tables e below (s₁.setTop (entryFrame m #[(.int (Int32.ofNat n))] 1)) t_ := fun t_ k_ => castTop (ef_rmNBL m (Int32.ofNat n)) k_
  have s1 : ∀ t_, Steps p.tables e below (s₁.setTop (mkF m 58 #[.val (.int (Int32.ofNat n))] [(.int ((Int32.ofNat n) <<< ((1 : Int32) &&& 31)))])) t_ → Steps p.tables e below (s₁.setTop (entryFrame m #[(.int (Int32.ofNat n))] 1)) t_ := fun t_ k_ => pre0 t_ (by
    show Steps p.tables e below (s₁.setTop (mkF m 0 #[.val (.int (Int32.ofNat n))] [])) t_
    refine XS.iloadN X0.here hx rfl (Jvm.hb hby d_jdk_52_method_3_0) rfl ?_
    show Steps p.tables e below (s₁.setTop (mkF m 1 #[.val (.int (Int32.ofNat n))] [(.int (Int32.ofNat n))])) _
    refine XS.ifYes X0.here hx rfl (pc0 := 1) (pc' := 12) rfl (Jvm.hb hby d_jdk_52_method_3_1) rfl ((if0 _ _).trans (flt (own_nn (by omega))).2.1) (by decide) (by decide) ?_
    show Steps p.tables e below (s₁.setTop (mkF m 12 #[.val (.int (Int32.ofNat n))] [])) _
    refine XS.iloadN X0.here hx rfl (Jvm.hb hby d_jdk_52_method_3_12) rfl ?_
    show Steps p.tables e below (s₁.setTop (mkF m 13 #[.val (.int (Int32.ofNat n))] [(.int (Int32.ofNat n))])) _
    refine X0.ldcInt hx hown (mvT hZ (hw _ (List.mem_of_getElem? (i := 91) rfl))) (g := (mkF m 13 #[.val (.int (Int32.ofNat n))] [(.int (Int32.ofNat n))])) rfl (Jvm.hb hby d_jdk_52_method_3_13) _ ?_
    show Steps p.tables e below (s₁.setTop (mkF m 15 #[.val (.int (Int32.ofNat n))] [(.int (1073741823 : Int32)), (.int (Int32.ofNat n))])) _
    refine XS.icmpYes X0.here hx rfl (pc0 := 15) (pc' := 55) rfl (Jvm.hb hby d_jdk_52_method_3_15) rfl (tlt (own_ltbig (by omega))).1 (by decide) (by decide) ?_
    show Steps p.tables e below (s₁.setTop (mkF m 55 #[.val (.int (Int32.ofNat n))] [])) _
    refine XS.iloadN X0.here hx rfl (Jvm.hb hby d_jdk_52_method_3_55) rfl ?_
    show Steps p.tables e below (s₁.setTop (mkF m 56 #[.val (.int (Int32.ofNat n))] [(.int (Int32.ofNat n))])) _
    refine XS.iconst X0.here hx rfl (Jvm.hb hby d_jdk_52_method_3_56) ?_
    show Steps p.tables e below (s₁.setTop (mkF m 57 #[.val (.int (Int32.ofNat n))] [(.int (1 : Int32)), (.int (Int32.ofNat n))])) _
    refine XS.ishl X0.here hx rfl (Jvm.hb hby d_jdk_52_method_3_57) rfl ?_
    show Steps p.tables e below (s₁.setTop (mkF m 58 #[.val (.int (Int32.ofNat n))] [(.int ((Int32.ofNat n) <<< ((1 : Int32) &&& 31)))])) _
    show Steps p.tables e below (s₁.setTop (mkF m 58 #[.val (.int (Int32.ofNat n))] [(.int ((Int32.ofNat n) <<< ((1 : Int32) &&& 31)))])) t_
    exact k_)
  obtain ⟨fs, hr, hrun, hended, hW, hsame⟩ := X0.leave (v := some (.int ((Int32.ofNat n) <<< ((1 : Int32) &&& 31)))) (fun h => by rw [Bd.returns] at h; cases h)
  refine ⟨_, _, s1 _ ?_, hrun, hended, _, _, rfl, ?_, ⟨_, rfl⟩, hW, hsame.mono (by decide) (by decide)⟩
  · show Steps p.tables e below (s₁.setTop (mkF m 58 #[.val (.int (Int32.ofNat n))] [(.int ((Int32.ofNat n) <<< ((1 : Int32) &&& 31)))])) _
    exact retI X0 hx Bd.returns (Jvm.hb hby d_jdk_52_method_3_58) hr
  · show Q_rmNBL Z _ h0 n0 _ s₁.heap _
    rw [e0]
    exact ⟨(by rw [own_shl1 (by omega)]), N0, rfl⟩
theorem d_jdk_52_method_2_0 : decode jdk_52_method_2_code 0 = .ok (.iload_n 0, 1) := by decide +kernel
theorem pd__I_I : parseMethodDescriptor "(I)I" = some ⟨[.int], some .int⟩ := by decide +kernel
theorem d_jdk_52_method_2_1 : decode jdk_52_method_2_code 1 = .ok (.invokestatic 11, 3) := by decide +kernel
theorem d_jdk_52_method_2_4 : decode jdk_52_method_2_code 4 = .ok (.newarray .byte, 2) := by decide +kernel
theorem d_jdk_52_method_2_6 : decode jdk_52_method_2_code 6 = .ok (.areturn, 1) := by decide +kernel
theorem ef_rmNBF (m : MethodId) (x0 : Int32) : entryFrame m #[(.int x0)] 1 = mkF m 0 #[.val (.int x0)] [] := by first | (simp [entryFrame, mkF, argsToLocals, Value.category]; done) | rfl
def Q_rmNBF (Z : State) (n : Nat) (h0 : Heap) (n0 : Nat) (v : Option Value) (h : Heap) (L : List Loc) : Prop := ∃ (b : Addr), ∃ (kb : ClassId), (v = some (.ref b)) ∧ (Fr n0 L) ∧ (Keep h0 h []) ∧ (Arv Z h b kb .byte (Int32.ofNat (2 * n)) (List.replicate (2 * n) (.int (0 : Int32))) (.int (0 : Int32))) ∧ (h0.size ≤ b)
set_option maxRecDepth 65536 in
set_option maxHeartbeats 40000000 in
theorem rmNBF (l : Launch) (Z : State) (a0 : Array Value) (hw : ∀ d ∈ tables_1, d.before a0 Z = true) (ws : List Jvm.Cond) (n : Nat) (h0 : Heap) (n0 : Nat) (Z0 : n0 ≤ h0.size) (hb : n ≤ 4) :
    MetFree l (⟨"java/lang/StringUTF16", "newBytesFor", "(I)[B"⟩ : MethodName) (head1 (Jvm.Cond.code (⟨"java/lang/StringUTF16", "newBytesFor", "(I)[B"⟩ : MethodName) jdk_52_method_2_code 1 (some (.array .byte)) :: ws) ({ frames := 1, cells := 1, slots := 8, locals := 12 } : Room)) (fun ar_ U => ar_ = #[(.int (Int32.ofNat n))] ∧ Z.Warmed39 U.vm ∧ U.heap = h0) (fun _ _ _ _ _ => True) (fun _ U o U' => ∃ v L, o = .returned v ∧ Q_rmNBF Z n h0 n0 v U'.heap L ∧ FrameEnd U o U' L ({ frames := 1, cells := 1, slots := 8, locals := 12 } : Room).cells ({ frames := 1, cells := 1, slots := 8, locals := 12 } : Room).slots) := by
  refine MetFree.of_bodySF (plainFor_of_name pn_java_lang_StringUTF16) hisR ?_
  intro p e s m args below meth c s₁ Bd hml0 hP hK
  obtain ⟨rfl, hZ, hh⟩ := hP
  have hx := Bd.exec
  have hby := Bd.bytes
  have hml : c.maxLocals = 1 := hml0
  have hown : s.vm.findClass "java/lang/StringUTF16" = some m.cls := findClass_of_methodNamed Bd.named
  have hnm := (name_of_methodNamed Bd.named Bd.method).1
  have X0 : Stand p l e ({ frames := 1, cells := 1, slots := 8, locals := 12 } : Room) s m #[(.int (Int32.ofNat n))] below meth c s₁ [] 0 0 := Stand.of_body Bd
  have e0 : s₁.heap = h0 := by rw [← hh, Bd.state]; rfl
  have N0 := Fr.nil n0
  have pre0 : ∀ t_, Steps p.tables e below (s₁.setTop (mkF m 0 #[.val (.int (Int32.ofNat n))] [])) t_ → Steps p.tables e below (s₁.setTop (entryFrame m #[(.int (Int32.ofNat n))] 1)) t_ := fun t_ k_ => castTop (ef_rmNBF m (Int32.ofNat n)) k_
  have Zc1 : n0 ≤ h0.size := by omega
  obtain ⟨_, _, ⟨T2, L2, k2, n2⟩, -, X2, ⟨Lc2, hQ2, l2, y2, z2⟩, st2⟩ := Jvm.LawKit.callS X0 hx (y := (⟨"java/lang/StringUTF16", "newBytesLength", "(I)I"⟩ : MethodName)) hown (mvT hZ (hw _ (List.mem_of_getElem? (i := 88) rfl))) (mvT hZ (hw _ (List.mem_of_getElem? (i := 89) rfl))) (mvT hZ (hw _ (List.mem_of_getElem? (i := 39) rfl))) (mvT hZ (hw _ (List.mem_of_getElem? (i := 90) rfl))) (by decide) (backOf (W := 0) (rmNBL l Z a0 hw [] n h0 n0 Zc1 (hb : n ≤ 4)) hZ (hw _ (List.mem_of_getElem? (i := 90) rfl)) (hw _ (List.mem_of_getElem? (i := 39) rfl)) (by decide) (by decide)) (g := (mkF m 1 #[.val (.int (Int32.ofNat n))] [(.int (Int32.ofNat n))])) rfl (by rw [hml]; rfl) (argsL := [(.int (Int32.ofNat n))]) (rest := []) (lenOf pd__I_I rfl) rfl (by show 2 * 0 + _ ≤ _; exact Nat.le_of_eq rfl) (Jvm.hb hby d_jdk_52_method_2_1) (fun _ _ => ⟨rfl, e0, (by decide : 0 + 0 ≤ _), (by decide : 0 + 0 ≤ _)⟩)
  dsimp only [Pt.U, Pt.locs, Pt.cells, Pt.slots] at X2 l2 y2 z2 st2 hQ2
  subst l2 y2 z2
  obtain ⟨rfl, N2q, e2⟩ := hQ2
  have N2 := Fr.app N0 N2q
  obtain ⟨T3, h3, k3, X3, e3, E3, A3, st3⟩ := newP X2 hx hZ (hw _ (List.mem_of_getElem? (i := 20) rfl)) e2 (g := (mkF m 4 #[.val (.int (Int32.ofNat n))] [(.int (Int32.ofNat (2 * n)))])) rfl (Jvm.hb hby d_jdk_52_method_2_4) rfl (own_nn (by omega)) (cap := 8) (by rw [own_tn (by omega)]; omega) (by decide) (by decide) (by decide)
  obtain ⟨b3, g3⟩ : ∃ z, z = h0.size := ⟨_, rfl⟩
  rw [← g3] at A3 st3
  have z4 : h0.size ≤ h3.size := E3.1
  have l3 : b3 < h3.size := A3.lt
  have V3 : Arv Z h3 b3 k3 .byte (Int32.ofNat (2 * n)) (List.replicate (2 * n) (.int (0 : Int32))) (.int (0 : Int32)) := (Arv.new A3 (own_nn (by omega))).pad (pad_rep [] _ (2 * n))
  have s5 : ∀ t_, Steps p.tables e below (T3.setTop (mkF m 6 #[.val (.int (Int32.ofNat n))] [(.ref b3)])) t_ → Steps p.tables e below (s₁.setTop (entryFrame m #[(.int (Int32.ofNat n))] 1)) t_ := fun t_ k_ => pre0 t_ (by
    show Steps p.tables e below (s₁.setTop (mkF m 0 #[.val (.int (Int32.ofNat n))] [])) t_
    refine XS.iloadN X0.here hx rfl (Jvm.hb hby d_jdk_52_method_2_0) rfl ?_
    show Steps p.tables e below (s₁.setTop (mkF m 1 #[.val (.int (Int32.ofNat n))] [(.int (Int32.ofNat n))])) _
    refine st2 _ ?_
    show Steps p.tables e below (T2.setTop (mkF m 4 #[.val (.int (Int32.ofNat n))] [(.int (Int32.ofNat (2 * n)))])) _
    refine st3 _ ?_
    show Steps p.tables e below (T3.setTop (mkF m 6 #[.val (.int (Int32.ofNat n))] [(.ref b3)])) _
    show Steps p.tables e below (T3.setTop (mkF m 6 #[.val (.int (Int32.ofNat n))] [(.ref b3)])) t_
    exact k_)
  obtain ⟨fs, hr, hrun, hended, hW, hsame⟩ := X3.leave (v := some (.ref b3)) (fun h => by rw [Bd.returns] at h; cases h)
  refine ⟨_, _, s5 _ ?_, hrun, hended, _, _, rfl, ?_, ⟨_, rfl⟩, hW, hsame.mono (by decide) (by decide)⟩
  · show Steps p.tables e below (T3.setTop (mkF m 6 #[.val (.int (Int32.ofNat n))] [(.ref b3)])) _
    jvm_step X3.here [X3.here.top, hx, (Jvm.hb hby d_jdk_52_method_2_6), X3.method', Bd.returns, Value.isRef, FieldType.isReference]
    first | (intro acts; rw [hr _ acts rfl rfl rfl]) | rw [hr _ _ rfl rfl rfl]
    exact Steps.refl _
  · show Q_rmNBF Z _ h0 n0 _ T3.heap _
    rw [e3]
    exact ⟨b3, k3, rfl, N2, ((Keep.refl h0 []).ext E3), V3, by omega⟩
theorem d_jdk_52_method_4_0 : decode jdk_52_method_4_code 0 = .ok (.getstatic 44, 3) := by decide +kernel
theorem d_jdk_52_method_4_3 : decode jdk_52_method_4_code 3 = .ok (.ifCond .ne 25, 3) := by decide +kernel
theorem d_jdk_52_method_4_28 : decode jdk_52_method_4_code 28 = .ok (.iload_n 1, 1) := by decide +kernel
theorem d_jdk_52_method_4_29 : decode jdk_52_method_4_code 29 = .ok (.iconst 1, 1) := by decide +kernel
theorem d_jdk_52_method_4_30 : decode jdk_52_method_4_code 30 = .ok (.ishl, 1) := by decide +kernel
theorem d_jdk_52_method_4_31 : decode jdk_52_method_4_code 31 = .ok (.istore_n 1, 1) := by decide +kernel
theorem d_jdk_52_method_4_32 : decode jdk_52_method_4_code 32 = .ok (.aload_n 0, 1) := by decide +kernel
theorem d_jdk_52_method_4_33 : decode jdk_52_method_4_code 33 = .ok (.iload_n 1, 1) := by decide +kernel
theorem d_jdk_52_method_4_34 : decode jdk_52_method_4_code 34 = .ok (.iinc 1 1, 3) := by decide +kernel
theorem d_jdk_52_method_4_37 : decode jdk_52_method_4_code 37 = .ok (.iload_n 2, 1) := by decide +kernel
theorem d_jdk_52_method_4_38 : decode jdk_52_method_4_code 38 = .ok (.getstatic 59, 3) := by decide +kernel
theorem d_jdk_52_method_4_41 : decode jdk_52_method_4_code 41 = .ok (.ishr, 1) := by decide +kernel
theorem d_jdk_52_method_4_42 : decode jdk_52_method_4_code 42 = .ok (.i2b, 1) := by decide +kernel
theorem d_jdk_52_method_4_43 : decode jdk_52_method_4_code 43 = .ok (.bastore, 1) := by decide +kernel
theorem d_jdk_52_method_4_44 : decode jdk_52_method_4_code 44 = .ok (.aload_n 0, 1) := by decide +kernel
theorem d_jdk_52_method_4_45 : decode jdk_52_method_4_code 45 = .ok (.iload_n 1, 1) := by decide +kernel
theorem d_jdk_52_method_4_46 : decode jdk_52_method_4_code 46 = .ok (.iload_n 2, 1) := by decide +kernel
theorem d_jdk_52_method_4_47 : decode jdk_52_method_4_code 47 = .ok (.getstatic 63, 3) := by decide +kernel
theorem d_jdk_52_method_4_50 : decode jdk_52_method_4_code 50 = .ok (.ishr, 1) := by decide +kernel
theorem d_jdk_52_method_4_51 : decode jdk_52_method_4_code 51 = .ok (.i2b, 1) := by decide +kernel
theorem d_jdk_52_method_4_52 : decode jdk_52_method_4_code 52 = .ok (.bastore, 1) := by decide +kernel
theorem d_jdk_52_method_4_53 : decode jdk_52_method_4_code 53 = .ok (.return_, 1) := by decide +kernel
theorem ef_rmPut (m : MethodId) (x0 : Addr) (x1 : Int32) (x2 : Int32) : entryFrame m #[(.ref x0), (.int x1), (.int x2)] 3 = mkF m 0 #[.val (.ref x0), .val (.int x1), .val (.int x2)] [] := by first | (simp [entryFrame, mkF, argsToLocals, Value.category]; done) | rfl
def Q_rmPut (Z : State) (ba : Addr) (ch : Int32) (kb : ClassId) (us : List Value) (n : Nat) (j : Nat) (h0 : Heap) (n0 : Nat) (v : Option Value) (h : Heap) (L : List Loc) : Prop := (v = none) ∧ (Fr n0 L) ∧ (Keep h0 h [ba]) ∧ (Arv Z h ba kb .byte (Int32.ofNat (2 * n)) ((us.set (2 * j) (.int (own_lo (ch >>> ((0 : Int32) &&& 31))))).set (2 * j + 1) (.int (own_lo (ch >>> ((8 : Int32) &&& 31))))) (.int (0 : Int32)))
set_option maxRecDepth 65536 in
set_option maxHeartbeats 40000000 in
theorem rmPut (l : Launch) (Z : State) (a0 : Array Value) (hw : ∀ d ∈ tables_1, d.before a0 Z = true) (ws : List Jvm.Cond) (ba : Addr) (ch : Int32) (kb : ClassId) (us : List Value) (n : Nat) (j : Nat) (h0 : Heap) (n0 : Nat) (Z0 : n0 ≤ h0.size) (I1 : Sta Z Z.heap "java/lang/StringUTF16" "$assertionsDisabled" "Z" (.int (1 : Int32))) (I2 : Sta Z Z.heap "java/lang/StringUTF16" "HI_BYTE_SHIFT" "I" (.int (0 : Int32))) (I3 : Sta Z Z.heap "java/lang/StringUTF16" "LO_BYTE_SHIFT" "I" (.int (8 : Int32))) (OX : Old Z n0 h0) (I4 : Arv Z h0 ba kb .byte (Int32.ofNat (2 * n)) us (.int (0 : Int32))) (hb : n ≤ 4) (hj : j < n) (hus : us.length = 2 * n) (gb : n0 ≤ ba) :
    MetFree l (⟨"java/lang/StringUTF16", "putChar", "([BII)V"⟩ : MethodName) (head1 (Jvm.Cond.code (⟨"java/lang/StringUTF16", "putChar", "([BII)V"⟩ : MethodName) jdk_52_method_4_code 3 none :: ws) ({ frames := 0, cells := 0, slots := 0, locals := 0 } : Room)) (fun ar_ U => ar_ = #[(.ref ba), (.int (Int32.ofNat j)), (.int ch)] ∧ Z.Warmed39 U.vm ∧ U.heap = h0) (fun _ _ _ _ _ => True) (fun _ U o U' => ∃ v L, o = .returned v ∧ Q_rmPut Z ba ch kb us n j h0 n0 v U'.heap L ∧ FrameEnd U o U' L ({ frames := 0, cells := 0, slots := 0, locals := 0 } : Room).cells ({ frames := 0, cells := 0, slots := 0, locals := 0 } : Room).slots) := by
  refine MetFree.of_bodySF (plainFor_of_name pn_java_lang_StringUTF16) hisR ?_
  intro p e s m args below meth c s₁ Bd hml0 hP hK
  obtain ⟨rfl, hZ, hh⟩ := hP
  have hx := Bd.exec
  have hby := Bd.bytes
  have hml : c.maxLocals = 3 := hml0
  have hown : s.vm.findClass "java/lang/StringUTF16" = some m.cls := findClass_of_methodNamed Bd.named
  have hnm := (name_of_methodNamed Bd.named Bd.method).1
  have X0 : Stand p l e ({ frames := 0, cells := 0, slots := 0, locals := 0 } : Room) s m #[(.ref ba), (.int (Int32.ofNat j)), (.int ch)] below meth c s₁ [] 0 0 := Stand.of_body Bd
  have e0 : s₁.heap = h0 := by rw [← hh, Bd.state]; rfl
  have N0 := Fr.nil n0
  have pre0 : ∀ t_, Steps p.tables e below (s₁.setTop (mkF m 0 #[.val (.ref ba), .val (.int (Int32.ofNat j)), .val (.int ch)] [])) t_ → Steps p.tables e below (s₁.setTop (entryFrame m #[(.ref ba), (.int (Int32.ofNat j)), (.int ch)] 3)) t_ := fun t_ k_ => castTop (ef_rmPut m ba (Int32.ofNat j) ch) k_
  have lt_I4 : @LT.lt Nat _ ba h0.size := I4.lt
  obtain ⟨T1, X1, e1, st1⟩ := getS2 X0 hx hZ hown (host := "") (Or.inl (hw _ (List.mem_of_getElem? (i := 95) rfl))) Via.refl e0 (I1.ext OX.2) (g := (mkF m 0 #[.val (.ref ba), .val (.int (Int32.ofNat j)), .val (.int ch)] [])) rfl (Jvm.hb hby d_jdk_52_method_4_0)
  obtain ⟨T2, X2, e2, st2⟩ := getS2 X1 hx hZ hown (host := "") (Or.inl (hw _ (List.mem_of_getElem? (i := 96) rfl))) Via.refl e1 (I2.ext OX.2) (g := (mkF m 38 #[.val (.ref ba), .val (.int ((Int32.ofNat (2 * j)) + (1 : Int32))), .val (.int ch)] [(.int ch), (.int (Int32.ofNat (2 * j))), (.ref ba)])) rfl (Jvm.hb hby d_jdk_52_method_4_38)
  obtain ⟨cl3, Ar3, q3, S3, M3, H3, G3⟩ := id I4
  have hin3 : ¬ ((Int32.ofNat (2 * j)) < 0 ∨ cl3.slots.size ≤ ((Int32.ofNat (2 * j))).toNatClampNeg) := inb_of S3 (own_in (by omega) (by omega))
  obtain ⟨T4, h4, X4, e4, W4, st4⟩ := stB X2 hx hZ e2 Ar3 (j := (Int32.ofNat (2 * j))) hin3 (g := (mkF m 43 #[.val (.ref ba), .val (.int ((Int32.ofNat (2 * j)) + (1 : Int32))), .val (.int ch)] [(.int (own_lo (ch >>> ((0 : Int32) &&& 31)))), (.int (Int32.ofNat (2 * j))), (.ref ba)])) rfl rfl (Jvm.hb hby d_jdk_52_method_4_43)
  have z5 : h0.size ≤ h4.size := Nat.le_of_eq W4.size.symm
  have V4 : Arv Z h4 ba kb .byte (Int32.ofNat (2 * n)) (us.set (2 * j) (.int (own_lo (ch >>> ((0 : Int32) &&& 31))))) (.int (0 : Int32)) := by
    have q : Arv Z h4 ba kb .byte (Int32.ofNat (2 * n)) (us.set (2 * j) (.int (nar .byte (own_lo (ch >>> ((0 : Int32) &&& 31)))))) (.int (0 : Int32)) := Arv.set Ar3 q3 S3 M3 H3 G3 (fits_nar_byte _) W4 ((2 * j)) (own_tn (by omega)) (by first | omega | (simp only [List.length_set]; omega))
    rw [own_lolo] at q
    exact q
  have N4 := Fr.snoc X4 N0 (show n0 ≤ ba by omega)
  have O6 : Old Z n0 h4 := (OX.wr W4 (show n0 ≤ ba by omega))
  obtain ⟨T7, X7, e7, st7⟩ := getS2 X4 hx hZ hown (host := "") (Or.inl (hw _ (List.mem_of_getElem? (i := 97) rfl))) Via.refl e4 (I3.ext O6.2) (g := (mkF m 47 #[.val (.ref ba), .val (.int (Int32.ofNat (2 * j + 1))), .val (.int ch)] [(.int ch), (.int (Int32.ofNat (2 * j + 1))), (.ref ba)])) rfl (Jvm.hb hby d_jdk_52_method_4_47)
  obtain ⟨cl8, Ar8, q8, S8, M8, H8, G8⟩ := id V4
  have hin8 : ¬ ((Int32.ofNat (2 * j + 1)) < 0 ∨ cl8.slots.size ≤ ((Int32.ofNat (2 * j + 1))).toNatClampNeg) := inb_of S8 (own_in (by omega) (by omega))
  obtain ⟨T9, h9, X9, e9, W9, st9⟩ := stB X7 hx hZ e7 Ar8 (j := (Int32.ofNat (2 * j + 1))) hin8 (g := (mkF m 52 #[.val (.ref ba), .val (.int (Int32.ofNat (2 * j + 1))), .val (.int ch)] [(.int (own_lo (ch >>> ((8 : Int32) &&& 31)))), (.int (Int32.ofNat (2 * j + 1))), (.ref ba)])) rfl rfl (Jvm.hb hby d_jdk_52_method_4_52)
  have z10 : h4.size ≤ h9.size := Nat.le_of_eq W9.size.symm
  have V9 : Arv Z h9 ba kb .byte (Int32.ofNat (2 * n)) ((us.set (2 * j) (.int (own_lo (ch >>> ((0 : Int32) &&& 31))))).set (2 * j + 1) (.int (own_lo (ch >>> ((8 : Int32) &&& 31))))) (.int (0 : Int32)) := by
    have q : Arv Z h9 ba kb .byte (Int32.ofNat (2 * n)) ((us.set (2 * j) (.int (own_lo (ch >>> ((0 : Int32) &&& 31))))).set (2 * j + 1) (.int (nar .byte (own_lo (ch >>> ((8 : Int32) &&& 31)))))) (.int (0 : Int32)) := Arv.set Ar8 q8 S8 M8 H8 G8 (fits_nar_byte _) W9 ((2 * j + 1)) (own_tn (by omega)) (by first | omega | (simp only [List.length_set]; omega))
    rw [own_lolo] at q
    exact q
  have N9 := Fr.snoc X9 N4 (show n0 ≤ ba by omega)
  have s11 : ∀ t_, Steps p.tables e below (T9.setTop (mkF m 53 #[.val (.ref ba), .val (.int (Int32.ofNat (2 * j + 1))), .val (.int ch)] [])) t_ → Steps p.tables e below (s₁.setTop (entryFrame m #[(.ref ba), (.int (Int32.ofNat j)), (.int ch)] 3)) t_ := fun t_ k_ => pre0 t_ (by
    show Steps p.tables e below (s₁.setTop (mkF m 0 #[.val (.ref ba), .val (.int (Int32.ofNat j)), .val (.int ch)] [])) t_
    refine st1 _ ?_
    show Steps p.tables e below (T1.setTop (mkF m 3 #[.val (.ref ba), .val (.int (Int32.ofNat j)), .val (.int ch)] [(.int (1 : Int32))])) _
    refine XS.ifYes X1.here hx rfl (pc0 := 3) (pc' := 28) rfl (Jvm.hb hby d_jdk_52_method_4_3) rfl ((if0 _ _).trans (feq (by decide : ¬ ((1 : Int32) = (0 : Int32)))).2) (by decide) (by decide) ?_
    show Steps p.tables e below (T1.setTop (mkF m 28 #[.val (.ref ba), .val (.int (Int32.ofNat j)), .val (.int ch)] [])) _
    refine XS.iloadN X1.here hx rfl (Jvm.hb hby d_jdk_52_method_4_28) rfl ?_
    show Steps p.tables e below (T1.setTop (mkF m 29 #[.val (.ref ba), .val (.int (Int32.ofNat j)), .val (.int ch)] [(.int (Int32.ofNat j))])) _
    refine XS.iconst X1.here hx rfl (Jvm.hb hby d_jdk_52_method_4_29) ?_
    show Steps p.tables e below (T1.setTop (mkF m 30 #[.val (.ref ba), .val (.int (Int32.ofNat j)), .val (.int ch)] [(.int (1 : Int32)), (.int (Int32.ofNat j))])) _
    refine XS.ishl X1.here hx rfl (Jvm.hb hby d_jdk_52_method_4_30) rfl ?_
    show Steps p.tables e below (T1.setTop (mkF m 31 #[.val (.ref ba), .val (.int (Int32.ofNat j)), .val (.int ch)] [(.int ((Int32.ofNat j) <<< ((1 : Int32) &&& 31)))])) _
    refine castTop (g' := (mkF m 31 #[.val (.ref ba), .val (.int (Int32.ofNat j)), .val (.int ch)] [(.int (Int32.ofNat (2 * j)))])) (by rw [own_shl1 (by omega)]) ?_
    show Steps p.tables e below (T1.setTop (mkF m 31 #[.val (.ref ba), .val (.int (Int32.ofNat j)), .val (.int ch)] [(.int (Int32.ofNat (2 * j)))])) _
    refine XS.istoreN X1.here hx rfl (Jvm.hb hby d_jdk_52_method_4_31) rfl (l' := #[.val (.ref ba), .val (.int (Int32.ofNat (2 * j))), .val (.int ch)]) rfl ?_
    show Steps p.tables e below (T1.setTop (mkF m 32 #[.val (.ref ba), .val (.int (Int32.ofNat (2 * j))), .val (.int ch)] [])) _
    refine XS.aloadN X1.here hx rfl (Jvm.hb hby d_jdk_52_method_4_32) rfl rfl ?_
    show Steps p.tables e below (T1.setTop (mkF m 33 #[.val (.ref ba), .val (.int (Int32.ofNat (2 * j))), .val (.int ch)] [(.ref ba)])) _
    refine XS.iloadN X1.here hx rfl (Jvm.hb hby d_jdk_52_method_4_33) rfl ?_
    show Steps p.tables e below (T1.setTop (mkF m 34 #[.val (.ref ba), .val (.int (Int32.ofNat (2 * j))), .val (.int ch)] [(.int (Int32.ofNat (2 * j))), (.ref ba)])) _
    refine XS.iinc X1.here hx rfl (Jvm.hb hby d_jdk_52_method_4_34) rfl (l' := #[.val (.ref ba), .val (.int ((Int32.ofNat (2 * j)) + (1 : Int32))), .val (.int ch)]) rfl ?_
    show Steps p.tables e below (T1.setTop (mkF m 37 #[.val (.ref ba), .val (.int ((Int32.ofNat (2 * j)) + (1 : Int32))), .val (.int ch)] [(.int (Int32.ofNat (2 * j))), (.ref ba)])) _
    refine XS.iloadN X1.here hx rfl (Jvm.hb hby d_jdk_52_method_4_37) rfl ?_
    show Steps p.tables e below (T1.setTop (mkF m 38 #[.val (.ref ba), .val (.int ((Int32.ofNat (2 * j)) + (1 : Int32))), .val (.int ch)] [(.int ch), (.int (Int32.ofNat (2 * j))), (.ref ba)])) _
    refine st2 _ ?_
    show Steps p.tables e below (T2.setTop (mkF m 41 #[.val (.ref ba), .val (.int ((Int32.ofNat (2 * j)) + (1 : Int32))), .val (.int ch)] [(.int (0 : Int32)), (.int ch), (.int (Int32.ofNat (2 * j))), (.ref ba)])) _
    refine XS.ishr X2.here hx rfl (Jvm.hb hby d_jdk_52_method_4_41) rfl ?_
    show Steps p.tables e below (T2.setTop (mkF m 42 #[.val (.ref ba), .val (.int ((Int32.ofNat (2 * j)) + (1 : Int32))), .val (.int ch)] [(.int (ch >>> ((0 : Int32) &&& 31))), (.int (Int32.ofNat (2 * j))), (.ref ba)])) _
    refine XS.i2b X2.here hx rfl (Jvm.hb hby d_jdk_52_method_4_42) rfl ?_
    show Steps p.tables e below (T2.setTop (mkF m 43 #[.val (.ref ba), .val (.int ((Int32.ofNat (2 * j)) + (1 : Int32))), .val (.int ch)] [(.int (own_lo (ch >>> ((0 : Int32) &&& 31)))), (.int (Int32.ofNat (2 * j))), (.ref ba)])) _
    refine st4 _ ?_
    show Steps p.tables e below (T4.setTop (mkF m 44 #[.val (.ref ba), .val (.int ((Int32.ofNat (2 * j)) + (1 : Int32))), .val (.int ch)] [])) _
    refine castTop (g' := (mkF m 44 #[.val (.ref ba), .val (.int (Int32.ofNat (2 * j + 1))), .val (.int ch)] [])) (by rw [← own_up]) ?_
    show Steps p.tables e below (T4.setTop (mkF m 44 #[.val (.ref ba), .val (.int (Int32.ofNat (2 * j + 1))), .val (.int ch)] [])) _
    refine XS.aloadN X4.here hx rfl (Jvm.hb hby d_jdk_52_method_4_44) rfl rfl ?_
    show Steps p.tables e below (T4.setTop (mkF m 45 #[.val (.ref ba), .val (.int (Int32.ofNat (2 * j + 1))), .val (.int ch)] [(.ref ba)])) _
    refine XS.iloadN X4.here hx rfl (Jvm.hb hby d_jdk_52_method_4_45) rfl ?_
    show Steps p.tables e below (T4.setTop (mkF m 46 #[.val (.ref ba), .val (.int (Int32.ofNat (2 * j + 1))), .val (.int ch)] [(.int (Int32.ofNat (2 * j + 1))), (.ref ba)])) _
    refine XS.iloadN X4.here hx rfl (Jvm.hb hby d_jdk_52_method_4_46) rfl ?_
    show Steps p.tables e below (T4.setTop (mkF m 47 #[.val (.ref ba), .val (.int (Int32.ofNat (2 * j + 1))), .val (.int ch)] [(.int ch), (.int (Int32.ofNat (2 * j + 1))), (.ref ba)])) _
    refine st7 _ ?_
    show Steps p.tables e below (T7.setTop (mkF m 50 #[.val (.ref ba), .val (.int (Int32.ofNat (2 * j + 1))), .val (.int ch)] [(.int (8 : Int32)), (.int ch), (.int (Int32.ofNat (2 * j + 1))), (.ref ba)])) _
    refine XS.ishr X7.here hx rfl (Jvm.hb hby d_jdk_52_method_4_50) rfl ?_
    show Steps p.tables e below (T7.setTop (mkF m 51 #[.val (.ref ba), .val (.int (Int32.ofNat (2 * j + 1))), .val (.int ch)] [(.int (ch >>> ((8 : Int32) &&& 31))), (.int (Int32.ofNat (2 * j + 1))), (.ref ba)])) _
    refine XS.i2b X7.here hx rfl (Jvm.hb hby d_jdk_52_method_4_51) rfl ?_
    show Steps p.tables e below (T7.setTop (mkF m 52 #[.val (.ref ba), .val (.int (Int32.ofNat (2 * j + 1))), .val (.int ch)] [(.int (own_lo (ch >>> ((8 : Int32) &&& 31)))), (.int (Int32.ofNat (2 * j + 1))), (.ref ba)])) _
    refine st9 _ ?_
    show Steps p.tables e below (T9.setTop (mkF m 53 #[.val (.ref ba), .val (.int (Int32.ofNat (2 * j + 1))), .val (.int ch)] [])) _
    show Steps p.tables e below (T9.setTop (mkF m 53 #[.val (.ref ba), .val (.int (Int32.ofNat (2 * j + 1))), .val (.int ch)] [])) t_
    exact k_)
  obtain ⟨fs, hr, hrun, hended, hW, hsame⟩ := X9.leave (v := none) (fun _ => rfl)
  refine ⟨_, _, s11 _ ?_, hrun, hended, _, _, rfl, ?_, ⟨_, rfl⟩, hW, hsame.mono (by decide) (by decide)⟩
  · show Steps p.tables e below (T9.setTop (mkF m 53 #[.val (.ref ba), .val (.int (Int32.ofNat (2 * j + 1))), .val (.int ch)] [])) _
    exact X9.returnOut hx Bd.returns (Jvm.hb hby d_jdk_52_method_4_53) hr
  · show Q_rmPut Z _ _ _ _ _ _ h0 n0 _ T9.heap _
    rw [e9]
    exact ⟨rfl, N9, (((Keep.refl h0 [ba]).wr W4 (Or.inl (by simp))).wr W9 (Or.inl (by simp))), V9⟩
theorem d_jdk_52_method_5_0 : decode jdk_52_method_5_code 0 = .ok (.getstatic 44, 3) := by decide +kernel
theorem d_jdk_52_method_5_3 : decode jdk_52_method_5_code 3 = .ok (.ifCond .ne 25, 3) := by decide +kernel
theorem d_jdk_52_method_5_28 : decode jdk_52_method_5_code 28 = .ok (.iload_n 1, 1) := by decide +kernel
theorem d_jdk_52_method_5_29 : decode jdk_52_method_5_code 29 = .ok (.iconst 1, 1) := by decide +kernel
theorem d_jdk_52_method_5_30 : decode jdk_52_method_5_code 30 = .ok (.ishl, 1) := by decide +kernel
theorem d_jdk_52_method_5_31 : decode jdk_52_method_5_code 31 = .ok (.istore_n 1, 1) := by decide +kernel
theorem d_jdk_52_method_5_32 : decode jdk_52_method_5_code 32 = .ok (.aload_n 0, 1) := by decide +kernel
theorem d_jdk_52_method_5_33 : decode jdk_52_method_5_code 33 = .ok (.iload_n 1, 1) := by decide +kernel
theorem d_jdk_52_method_5_34 : decode jdk_52_method_5_code 34 = .ok (.iinc 1 1, 3) := by decide +kernel
theorem d_jdk_52_method_5_37 : decode jdk_52_method_5_code 37 = .ok (.baload, 1) := by decide +kernel
theorem d_jdk_52_method_5_38 : decode jdk_52_method_5_code 38 = .ok (.sipush 255, 3) := by decide +kernel
theorem d_jdk_52_method_5_41 : decode jdk_52_method_5_code 41 = .ok (.iand, 1) := by decide +kernel
theorem d_jdk_52_method_5_42 : decode jdk_52_method_5_code 42 = .ok (.getstatic 59, 3) := by decide +kernel
theorem d_jdk_52_method_5_45 : decode jdk_52_method_5_code 45 = .ok (.ishl, 1) := by decide +kernel
theorem d_jdk_52_method_5_46 : decode jdk_52_method_5_code 46 = .ok (.aload_n 0, 1) := by decide +kernel
theorem d_jdk_52_method_5_47 : decode jdk_52_method_5_code 47 = .ok (.iload_n 1, 1) := by decide +kernel
theorem d_jdk_52_method_5_48 : decode jdk_52_method_5_code 48 = .ok (.baload, 1) := by decide +kernel
theorem d_jdk_52_method_5_49 : decode jdk_52_method_5_code 49 = .ok (.sipush 255, 3) := by decide +kernel
theorem d_jdk_52_method_5_52 : decode jdk_52_method_5_code 52 = .ok (.iand, 1) := by decide +kernel
theorem d_jdk_52_method_5_53 : decode jdk_52_method_5_code 53 = .ok (.getstatic 63, 3) := by decide +kernel
theorem d_jdk_52_method_5_56 : decode jdk_52_method_5_code 56 = .ok (.ishl, 1) := by decide +kernel
theorem d_jdk_52_method_5_57 : decode jdk_52_method_5_code 57 = .ok (.ior, 1) := by decide +kernel
theorem d_jdk_52_method_5_58 : decode jdk_52_method_5_code 58 = .ok (.i2c, 1) := by decide +kernel
theorem d_jdk_52_method_5_59 : decode jdk_52_method_5_code 59 = .ok (.ireturn, 1) := by decide +kernel
theorem ef_rmGet (m : MethodId) (x0 : Addr) (x1 : Int32) : entryFrame m #[(.ref x0), (.int x1)] 2 = mkF m 0 #[.val (.ref x0), .val (.int x1)] [] := by first | (simp [entryFrame, mkF, argsToLocals, Value.category]; done) | rfl
def Q_rmGet (Z : State) (ba : Addr) (kb : ClassId) (us : List Value) (n : Nat) (j : Nat) (ch : Int32) (h0 : Heap) (n0 : Nat) (v : Option Value) (h : Heap) (L : List Loc) : Prop := (v = some (.int ch)) ∧ (Fr n0 L) ∧ (h = h0)
set_option maxRecDepth 65536 in
set_option maxHeartbeats 40000000 in
theorem rmGet (l : Launch) (Z : State) (a0 : Array Value) (hw : ∀ d ∈ tables_1, d.before a0 Z = true) (ws : List Jvm.Cond) (ba : Addr) (kb : ClassId) (us : List Value) (n : Nat) (j : Nat) (ch : Int32) (h0 : Heap) (n0 : Nat) (Z0 : n0 ≤ h0.size) (I1 : Sta Z Z.heap "java/lang/StringUTF16" "$assertionsDisabled" "Z" (.int (1 : Int32))) (I2 : Sta Z Z.heap "java/lang/StringUTF16" "HI_BYTE_SHIFT" "I" (.int (0 : Int32))) (I3 : Sta Z Z.heap "java/lang/StringUTF16" "LO_BYTE_SHIFT" "I" (.int (8 : Int32))) (OX : Old Z n0 h0) (I4 : Arv Z h0 ba kb .byte (Int32.ofNat (2 * n)) us (.int (0 : Int32))) (hb : n ≤ 4) (hj : j < n) (hu0 : us.getD (2 * j) (.int (0 : Int32)) = .int (own_lo (ch >>> ((0 : Int32) &&& 31)))) (hu1 : us.getD (2 * j + 1) (.int (0 : Int32)) = .int (own_lo (ch >>> ((8 : Int32) &&& 31)))) (hc0 : ¬ (ch < (0 : Int32))) (hc1 : ¬ ((65535 : Int32) < ch)) :
    MetFree l (⟨"java/lang/StringUTF16", "getChar", "([BI)C"⟩ : MethodName) (head1 (Jvm.Cond.code (⟨"java/lang/StringUTF16", "getChar", "([BI)C"⟩ : MethodName) jdk_52_method_5_code 2 (some .char) :: ws) ({ frames := 0, cells := 0, slots := 0, locals := 0 } : Room)) (fun ar_ U => ar_ = #[(.ref ba), (.int (Int32.ofNat j))] ∧ Z.Warmed39 U.vm ∧ U.heap = h0) (fun _ _ _ _ _ => True) (fun _ U o U' => ∃ v L, o = .returned v ∧ Q_rmGet Z ba kb us n j ch h0 n0 v U'.heap L ∧ FrameEnd U o U' L ({ frames := 0, cells := 0, slots := 0, locals := 0 } : Room).cells ({ frames := 0, cells := 0, slots := 0, locals := 0 } : Room).slots) := by
  refine MetFree.of_bodySF (plainFor_of_name pn_java_lang_StringUTF16) hisR ?_
  intro p e s m args below meth c s₁ Bd hml0 hP hK
  obtain ⟨rfl, hZ, hh⟩ := hP
  have hx := Bd.exec
  have hby := Bd.bytes
  have hml : c.maxLocals = 2 := hml0
  have hown : s.vm.findClass "java/lang/StringUTF16" = some m.cls := findClass_of_methodNamed Bd.named
  have hnm := (name_of_methodNamed Bd.named Bd.method).1
  have X0 : Stand p l e ({ frames := 0, cells := 0, slots := 0, locals := 0 } : Room) s m #[(.ref ba), (.int (Int32.ofNat j))] below meth c s₁ [] 0 0 := Stand.of_body Bd
  have e0 : s₁.heap = h0 := by rw [← hh, Bd.state]; rfl
  have N0 := Fr.nil n0
  have pre0 : ∀ t_, Steps p.tables e below (s₁.setTop (mkF m 0 #[.val (.ref ba), .val (.int (Int32.ofNat j))] [])) t_ → Steps p.tables e below (s₁.setTop (entryFrame m #[(.ref ba), (.int (Int32.ofNat j))] 2)) t_ := fun t_ k_ => castTop (ef_rmGet m ba (Int32.ofNat j)) k_
  have lt_I4 : @LT.lt Nat _ ba h0.size := I4.lt
  obtain ⟨T1, X1, e1, st1⟩ := getS2 X0 hx hZ hown (host := "") (Or.inl (hw _ (List.mem_of_getElem? (i := 95) rfl))) Via.refl e0 (I1.ext OX.2) (g := (mkF m 0 #[.val (.ref ba), .val (.int (Int32.ofNat j))] [])) rfl (Jvm.hb hby d_jdk_52_method_5_0)
  obtain ⟨cl2, Ar2, -, S2, M2, H2, -⟩ := id I4
  have hin2 : ¬ ((Int32.ofNat (2 * j)) < 0 ∨ cl2.slots.size ≤ ((Int32.ofNat (2 * j))).toNatClampNeg) := inb_of S2 (own_in (by omega) (by omega))
  have hat2 : cl2.slots[((Int32.ofNat (2 * j))).toNatClampNeg]? = some (.int (own_lo (ch >>> ((0 : Int32) &&& 31)))) := H2.at hin2 (by rw [own_tn (by omega)]; exact hu0)
  obtain ⟨T3, X3, e3, st3⟩ := getS2 X1 hx hZ hown (host := "") (Or.inl (hw _ (List.mem_of_getElem? (i := 96) rfl))) Via.refl e1 (I2.ext OX.2) (g := (mkF m 42 #[.val (.ref ba), .val (.int (Int32.ofNat (2 * j + 1)))] [(.int ((own_lo (ch >>> ((0 : Int32) &&& 31))) &&& (255 : Int32)))])) rfl (Jvm.hb hby d_jdk_52_method_5_42)
  obtain ⟨cl4, Ar4, -, S4, M4, H4, -⟩ := id I4
  have hin4 : ¬ ((Int32.ofNat (2 * j + 1)) < 0 ∨ cl4.slots.size ≤ ((Int32.ofNat (2 * j + 1))).toNatClampNeg) := inb_of S4 (own_in (by omega) (by omega))
  have hat4 : cl4.slots[((Int32.ofNat (2 * j + 1))).toNatClampNeg]? = some (.int (own_lo (ch >>> ((8 : Int32) &&& 31)))) := H4.at hin4 (by rw [own_tn (by omega)]; exact hu1)
  obtain ⟨T5, X5, e5, st5⟩ := getS2 X3 hx hZ hown (host := "") (Or.inl (hw _ (List.mem_of_getElem? (i := 97) rfl))) Via.refl e3 (I3.ext OX.2) (g := (mkF m 53 #[.val (.ref ba), .val (.int (Int32.ofNat (2 * j + 1)))] [(.int ((own_lo (ch >>> ((8 : Int32) &&& 31))) &&& (255 : Int32))), (.int (((own_lo (ch >>> ((0 : Int32) &&& 31))) &&& (255 : Int32)) <<< ((0 : Int32) &&& 31)))])) rfl (Jvm.hb hby d_jdk_52_method_5_53)
  have s6 : ∀ t_, Steps p.tables e below (T5.setTop (mkF m 59 #[.val (.ref ba), .val (.int (Int32.ofNat (2 * j + 1)))] [(.int (i2c ((((own_lo (ch >>> ((0 : Int32) &&& 31))) &&& (255 : Int32)) <<< ((0 : Int32) &&& 31)) ||| (((own_lo (ch >>> ((8 : Int32) &&& 31))) &&& (255 : Int32)) <<< ((8 : Int32) &&& 31)))))])) t_ → Steps p.tables e below (s₁.setTop (entryFrame m #[(.ref ba), (.int (Int32.ofNat j))] 2)) t_ := fun t_ k_ => pre0 t_ (by
    show Steps p.tables e below (s₁.setTop (mkF m 0 #[.val (.ref ba), .val (.int (Int32.ofNat j))] [])) t_
    refine st1 _ ?_
    show Steps p.tables e below (T1.setTop (mkF m 3 #[.val (.ref ba), .val (.int (Int32.ofNat j))] [(.int (1 : Int32))])) _
    refine XS.ifYes X1.here hx rfl (pc0 := 3) (pc' := 28) rfl (Jvm.hb hby d_jdk_52_method_5_3) rfl ((if0 _ _).trans (feq (by decide : ¬ ((1 : Int32) = (0 : Int32)))).2) (by decide) (by decide) ?_
    show Steps p.tables e below (T1.setTop (mkF m 28 #[.val (.ref ba), .val (.int (Int32.ofNat j))] [])) _
    refine XS.iloadN X1.here hx rfl (Jvm.hb hby d_jdk_52_method_5_28) rfl ?_
    show Steps p.tables e below (T1.setTop (mkF m 29 #[.val (.ref ba), .val (.int (Int32.ofNat j))] [(.int (Int32.ofNat j))])) _
    refine XS.iconst X1.here hx rfl (Jvm.hb hby d_jdk_52_method_5_29) ?_
    show Steps p.tables e below (T1.setTop (mkF m 30 #[.val (.ref ba), .val (.int (Int32.ofNat j))] [(.int (1 : Int32)), (.int (Int32.ofNat j))])) _
    refine XS.ishl X1.here hx rfl (Jvm.hb hby d_jdk_52_method_5_30) rfl ?_
    show Steps p.tables e below (T1.setTop (mkF m 31 #[.val (.ref ba), .val (.int (Int32.ofNat j))] [(.int ((Int32.ofNat j) <<< ((1 : Int32) &&& 31)))])) _
    refine castTop (g' := (mkF m 31 #[.val (.ref ba), .val (.int (Int32.ofNat j))] [(.int (Int32.ofNat (2 * j)))])) (by rw [own_shl1 (by omega)]) ?_
    show Steps p.tables e below (T1.setTop (mkF m 31 #[.val (.ref ba), .val (.int (Int32.ofNat j))] [(.int (Int32.ofNat (2 * j)))])) _
    refine XS.istoreN X1.here hx rfl (Jvm.hb hby d_jdk_52_method_5_31) rfl (l' := #[.val (.ref ba), .val (.int (Int32.ofNat (2 * j)))]) rfl ?_
    show Steps p.tables e below (T1.setTop (mkF m 32 #[.val (.ref ba), .val (.int (Int32.ofNat (2 * j)))] [])) _
    refine XS.aloadN X1.here hx rfl (Jvm.hb hby d_jdk_52_method_5_32) rfl rfl ?_
    show Steps p.tables e below (T1.setTop (mkF m 33 #[.val (.ref ba), .val (.int (Int32.ofNat (2 * j)))] [(.ref ba)])) _
    refine XS.iloadN X1.here hx rfl (Jvm.hb hby d_jdk_52_method_5_33) rfl ?_
    show Steps p.tables e below (T1.setTop (mkF m 34 #[.val (.ref ba), .val (.int (Int32.ofNat (2 * j)))] [(.int (Int32.ofNat (2 * j))), (.ref ba)])) _
    refine XS.iinc X1.here hx rfl (Jvm.hb hby d_jdk_52_method_5_34) rfl (l' := #[.val (.ref ba), .val (.int ((Int32.ofNat (2 * j)) + (1 : Int32)))]) rfl ?_
    show Steps p.tables e below (T1.setTop (mkF m 37 #[.val (.ref ba), .val (.int ((Int32.ofNat (2 * j)) + (1 : Int32)))] [(.int (Int32.ofNat (2 * j))), (.ref ba)])) _
    refine castTop (g' := (mkF m 37 #[.val (.ref ba), .val (.int (Int32.ofNat (2 * j + 1)))] [(.int (Int32.ofNat (2 * j))), (.ref ba)])) (by rw [← own_up]) ?_
    show Steps p.tables e below (T1.setTop (mkF m 37 #[.val (.ref ba), .val (.int (Int32.ofNat (2 * j + 1)))] [(.int (Int32.ofNat (2 * j))), (.ref ba)])) _
    refine X1.baloadBytes hx (j := (Int32.ofNat (2 * j))) (v := (.int (own_lo (ch >>> ((0 : Int32) &&& 31))))) (by rw [e1]; exact Ar2.1) (State.isArrayOf_alike hZ.alike Ar2.2.1) Ar2.2.2 hin2 hat2 (g := (mkF m 37 #[.val (.ref ba), .val (.int (Int32.ofNat (2 * j + 1)))] [(.int (Int32.ofNat (2 * j))), (.ref ba)])) rfl rfl (Jvm.hb hby d_jdk_52_method_5_37) _ ?_
    show Steps p.tables e below (T1.setTop (mkF m 38 #[.val (.ref ba), .val (.int (Int32.ofNat (2 * j + 1)))] [(.int (own_lo (ch >>> ((0 : Int32) &&& 31))))])) _
    refine XS.sipush X1.here hx rfl (Jvm.hb hby d_jdk_52_method_5_38) ?_
    show Steps p.tables e below (T1.setTop (mkF m 41 #[.val (.ref ba), .val (.int (Int32.ofNat (2 * j + 1)))] [(.int (255 : Int32)), (.int (own_lo (ch >>> ((0 : Int32) &&& 31))))])) _
    refine XS.iand X1.here hx rfl (Jvm.hb hby d_jdk_52_method_5_41) rfl ?_
    show Steps p.tables e below (T1.setTop (mkF m 42 #[.val (.ref ba), .val (.int (Int32.ofNat (2 * j + 1)))] [(.int ((own_lo (ch >>> ((0 : Int32) &&& 31))) &&& (255 : Int32)))])) _
    refine st3 _ ?_
    show Steps p.tables e below (T3.setTop (mkF m 45 #[.val (.ref ba), .val (.int (Int32.ofNat (2 * j + 1)))] [(.int (0 : Int32)), (.int ((own_lo (ch >>> ((0 : Int32) &&& 31))) &&& (255 : Int32)))])) _
    refine XS.ishl X3.here hx rfl (Jvm.hb hby d_jdk_52_method_5_45) rfl ?_
    show Steps p.tables e below (T3.setTop (mkF m 46 #[.val (.ref ba), .val (.int (Int32.ofNat (2 * j + 1)))] [(.int (((own_lo (ch >>> ((0 : Int32) &&& 31))) &&& (255 : Int32)) <<< ((0 : Int32) &&& 31)))])) _
    refine XS.aloadN X3.here hx rfl (Jvm.hb hby d_jdk_52_method_5_46) rfl rfl ?_
    show Steps p.tables e below (T3.setTop (mkF m 47 #[.val (.ref ba), .val (.int (Int32.ofNat (2 * j + 1)))] [(.ref ba), (.int (((own_lo (ch >>> ((0 : Int32) &&& 31))) &&& (255 : Int32)) <<< ((0 : Int32) &&& 31)))])) _
    refine XS.iloadN X3.here hx rfl (Jvm.hb hby d_jdk_52_method_5_47) rfl ?_
    show Steps p.tables e below (T3.setTop (mkF m 48 #[.val (.ref ba), .val (.int (Int32.ofNat (2 * j + 1)))] [(.int (Int32.ofNat (2 * j + 1))), (.ref ba), (.int (((own_lo (ch >>> ((0 : Int32) &&& 31))) &&& (255 : Int32)) <<< ((0 : Int32) &&& 31)))])) _
    refine X3.baloadBytes hx (j := (Int32.ofNat (2 * j + 1))) (v := (.int (own_lo (ch >>> ((8 : Int32) &&& 31))))) (by rw [e3]; exact Ar4.1) (State.isArrayOf_alike hZ.alike Ar4.2.1) Ar4.2.2 hin4 hat4 (g := (mkF m 48 #[.val (.ref ba), .val (.int (Int32.ofNat (2 * j + 1)))] [(.int (Int32.ofNat (2 * j + 1))), (.ref ba), (.int (((own_lo (ch >>> ((0 : Int32) &&& 31))) &&& (255 : Int32)) <<< ((0 : Int32) &&& 31)))])) rfl rfl (Jvm.hb hby d_jdk_52_method_5_48) _ ?_
    show Steps p.tables e below (T3.setTop (mkF m 49 #[.val (.ref ba), .val (.int (Int32.ofNat (2 * j + 1)))] [(.int (own_lo (ch >>> ((8 : Int32) &&& 31)))), (.int (((own_lo (ch >>> ((0 : Int32) &&& 31))) &&& (255 : Int32)) <<< ((0 : Int32) &&& 31)))])) _
    refine XS.sipush X3.here hx rfl (Jvm.hb hby d_jdk_52_method_5_49) ?_
    show Steps p.tables e below (T3.setTop (mkF m 52 #[.val (.ref ba), .val (.int (Int32.ofNat (2 * j + 1)))] [(.int (255 : Int32)), (.int (own_lo (ch >>> ((8 : Int32) &&& 31)))), (.int (((own_lo (ch >>> ((0 : Int32) &&& 31))) &&& (255 : Int32)) <<< ((0 : Int32) &&& 31)))])) _
    refine XS.iand X3.here hx rfl (Jvm.hb hby d_jdk_52_method_5_52) rfl ?_
    show Steps p.tables e below (T3.setTop (mkF m 53 #[.val (.ref ba), .val (.int (Int32.ofNat (2 * j + 1)))] [(.int ((own_lo (ch >>> ((8 : Int32) &&& 31))) &&& (255 : Int32))), (.int (((own_lo (ch >>> ((0 : Int32) &&& 31))) &&& (255 : Int32)) <<< ((0 : Int32) &&& 31)))])) _
    refine st5 _ ?_
    show Steps p.tables e below (T5.setTop (mkF m 56 #[.val (.ref ba), .val (.int (Int32.ofNat (2 * j + 1)))] [(.int (8 : Int32)), (.int ((own_lo (ch >>> ((8 : Int32) &&& 31))) &&& (255 : Int32))), (.int (((own_lo (ch >>> ((0 : Int32) &&& 31))) &&& (255 : Int32)) <<< ((0 : Int32) &&& 31)))])) _
    refine XS.ishl X5.here hx rfl (Jvm.hb hby d_jdk_52_method_5_56) rfl ?_
    show Steps p.tables e below (T5.setTop (mkF m 57 #[.val (.ref ba), .val (.int (Int32.ofNat (2 * j + 1)))] [(.int (((own_lo (ch >>> ((8 : Int32) &&& 31))) &&& (255 : Int32)) <<< ((8 : Int32) &&& 31))), (.int (((own_lo (ch >>> ((0 : Int32) &&& 31))) &&& (255 : Int32)) <<< ((0 : Int32) &&& 31)))])) _
    refine XS.ior X5.here hx rfl (Jvm.hb hby d_jdk_52_method_5_57) rfl ?_
    show Steps p.tables e below (T5.setTop (mkF m 58 #[.val (.ref ba), .val (.int (Int32.ofNat (2 * j + 1)))] [(.int ((((own_lo (ch >>> ((0 : Int32) &&& 31))) &&& (255 : Int32)) <<< ((0 : Int32) &&& 31)) ||| (((own_lo (ch >>> ((8 : Int32) &&& 31))) &&& (255 : Int32)) <<< ((8 : Int32) &&& 31))))])) _
    refine XS.i2c X5.here hx rfl (Jvm.hb hby d_jdk_52_method_5_58) rfl ?_
    show Steps p.tables e below (T5.setTop (mkF m 59 #[.val (.ref ba), .val (.int (Int32.ofNat (2 * j + 1)))] [(.int (i2c ((((own_lo (ch >>> ((0 : Int32) &&& 31))) &&& (255 : Int32)) <<< ((0 : Int32) &&& 31)) ||| (((own_lo (ch >>> ((8 : Int32) &&& 31))) &&& (255 : Int32)) <<< ((8 : Int32) &&& 31)))))])) _
    show Steps p.tables e below (T5.setTop (mkF m 59 #[.val (.ref ba), .val (.int (Int32.ofNat (2 * j + 1)))] [(.int (i2c ((((own_lo (ch >>> ((0 : Int32) &&& 31))) &&& (255 : Int32)) <<< ((0 : Int32) &&& 31)) ||| (((own_lo (ch >>> ((8 : Int32) &&& 31))) &&& (255 : Int32)) <<< ((8 : Int32) &&& 31)))))])) t_
    exact k_)
  obtain ⟨fs, hr, hrun, hended, hW, hsame⟩ := X5.leave (v := some (.int (nar .char (i2c ((((own_lo (ch >>> ((0 : Int32) &&& 31))) &&& (255 : Int32)) <<< ((0 : Int32) &&& 31)) ||| (((own_lo (ch >>> ((8 : Int32) &&& 31))) &&& (255 : Int32)) <<< ((8 : Int32) &&& 31))))))) (fun h => by rw [Bd.returns] at h; cases h)
  refine ⟨_, _, s6 _ ?_, hrun, hended, _, _, rfl, ?_, ⟨_, rfl⟩, hW, hsame.mono (by decide) (by decide)⟩
  · show Steps p.tables e below (T5.setTop (mkF m 59 #[.val (.ref ba), .val (.int (Int32.ofNat (2 * j + 1)))] [(.int (i2c ((((own_lo (ch >>> ((0 : Int32) &&& 31))) &&& (255 : Int32)) <<< ((0 : Int32) &&& 31)) ||| (((own_lo (ch >>> ((8 : Int32) &&& 31))) &&& (255 : Int32)) <<< ((8 : Int32) &&& 31)))))])) _
    exact retN X5 hx (t := .char) Bd.returns (by simp) (Jvm.hb hby d_jdk_52_method_5_59) hr
  · show Q_rmGet Z _ _ _ _ _ _ h0 n0 _ T5.heap _
    rw [e5]
    exact ⟨(by rw [own_pair hc0 hc1, own_narc hc0 hc1]), N0, rfl⟩
theorem d_jdk_52_method_14_0 : decode jdk_52_method_14_code 0 = .ok (.iload_n 2, 1) := by decide +kernel
theorem pd__I__B : parseMethodDescriptor "(I)[B" = some ⟨[.int], some (.array .byte)⟩ := by decide +kernel
theorem d_jdk_52_method_14_1 : decode jdk_52_method_14_code 1 = .ok (.invokestatic 107, 3) := by decide +kernel
theorem d_jdk_52_method_14_4 : decode jdk_52_method_14_code 4 = .ok (.astore_n 3, 1) := by decide +kernel
theorem d_jdk_52_method_14_5 : decode jdk_52_method_14_code 5 = .ok (.iconst 0, 1) := by decide +kernel
theorem d_jdk_52_method_14_6 : decode jdk_52_method_14_code 6 = .ok (.istore 4, 2) := by decide +kernel
theorem d_jdk_52_method_14_8 : decode jdk_52_method_14_code 8 = .ok (.iload 4, 2) := by decide +kernel
theorem d_jdk_52_method_14_10 : decode jdk_52_method_14_code 10 = .ok (.iload_n 2, 1) := by decide +kernel
theorem d_jdk_52_method_14_11 : decode jdk_52_method_14_code 11 = .ok (.if_icmp .ge 21, 3) := by decide +kernel
theorem d_jdk_52_method_14_14 : decode jdk_52_method_14_code 14 = .ok (.aload_n 3, 1) := by decide +kernel
theorem d_jdk_52_method_14_15 : decode jdk_52_method_14_code 15 = .ok (.iload 4, 2) := by decide +kernel
theorem d_jdk_52_method_14_17 : decode jdk_52_method_14_code 17 = .ok (.aload_n 0, 1) := by decide +kernel
theorem d_jdk_52_method_14_18 : decode jdk_52_method_14_code 18 = .ok (.iload_n 1, 1) := by decide +kernel
theorem d_jdk_52_method_14_19 : decode jdk_52_method_14_code 19 = .ok (.caload, 1) := by decide +kernel
theorem pd___BII_V : parseMethodDescriptor "([BII)V" = some ⟨[(.array .byte), .int, .int], none⟩ := by decide +kernel
theorem d_jdk_52_method_14_20 : decode jdk_52_method_14_code 20 = .ok (.invokestatic 111, 3) := by decide +kernel
theorem d_jdk_52_method_14_23 : decode jdk_52_method_14_code 23 = .ok (.iinc 1 1, 3) := by decide +kernel
theorem d_jdk_52_method_14_26 : decode jdk_52_method_14_code 26 = .ok (.iinc 4 1, 3) := by decide +kernel
theorem d_jdk_52_method_14_29 : decode jdk_52_method_14_code 29 = .ok (.goto (-21), 3) := by decide +kernel
theorem d_jdk_52_method_14_32 : decode jdk_52_method_14_code 32 = .ok (.aload_n 3, 1) := by decide +kernel
theorem d_jdk_52_method_14_33 : decode jdk_52_method_14_code 33 = .ok (.areturn, 1) := by decide +kernel
theorem ef_rmTo (m : MethodId) (x0 : Addr) (x1 : Int32) (x2 : Int32) : entryFrame m #[(.ref x0), (.int x1), (.int x2)] 5 = mkF m 0 #[.val (.ref x0), .val (.int x1), .val (.int x2), .unset, .unset] [] := by first | (simp [entryFrame, mkF, argsToLocals, Value.category]; done) | rfl
def Q_rmTo (Z : State) (ca : Addr) (cs : List Int32) (kc : ClassId) (n : Nat) (h0 : Heap) (n0 : Nat) (v : Option Value) (h : Heap) (L : List Loc) : Prop := ∃ (b : Addr), ∃ (kb : ClassId), (v = some (.ref b)) ∧ (Fr n0 L) ∧ (Keep h0 h []) ∧ (Arv Z h b kb .byte (Int32.ofNat (2 * n)) (own_wide cs) (.int (0 : Int32))) ∧ (h0.size ≤ b)
set_option maxRecDepth 65536 in
set_option maxHeartbeats 40000000 in
theorem rmTo (l : Launch) (Z : State) (a0 : Array Value) (hw : ∀ d ∈ tables_1, d.before a0 Z = true) (ws : List Jvm.Cond) (ca : Addr) (cs : List Int32) (kc : ClassId) (n : Nat) (h0 : Heap) (n0 : Nat) (Z0 : n0 ≤ h0.size) (I1 : Sta Z Z.heap "java/lang/StringUTF16" "$assertionsDisabled" "Z" (.int (1 : Int32))) (I2 : Sta Z Z.heap "java/lang/StringUTF16" "HI_BYTE_SHIFT" "I" (.int (0 : Int32))) (I3 : Sta Z Z.heap "java/lang/StringUTF16" "LO_BYTE_SHIFT" "I" (.int (8 : Int32))) (OX : Old Z n0 h0) (I4 : Arv Z h0 ca kc .char (Int32.ofNat n) (cs.map Value.int) (.int (0 : Int32))) (hn : cs.length = n) (hb : n ≤ 4) :
    MetFree l (⟨"java/lang/StringUTF16", "toBytes", "([CII)[B"⟩ : MethodName) (head1 (Jvm.Cond.code (⟨"java/lang/StringUTF16", "toBytes", "([CII)[B"⟩ : MethodName) jdk_52_method_14_code 5 (some (.array .byte)) :: ws) ({ frames := 2, cells := 1, slots := 8, locals := 24 } : Room)) (fun ar_ U => ar_ = #[(.ref ca), (.int (0 : Int32)), (.int (Int32.ofNat n))] ∧ Z.Warmed39 U.vm ∧ U.heap = h0) (fun _ _ _ _ _ => True) (fun _ U o U' => ∃ v L, o = .returned v ∧ Q_rmTo Z ca cs kc n h0 n0 v U'.heap L ∧ FrameEnd U o U' L ({ frames := 2, cells := 1, slots := 8, locals := 24 } : Room).cells ({ frames := 2, cells := 1, slots := 8, locals := 24 } : Room).slots) := by
  refine MetFree.of_bodySF (plainFor_of_name pn_java_lang_StringUTF16) hisR ?_
  intro p e s m args below meth c s₁ Bd hml0 hP hK
  obtain ⟨rfl, hZ, hh⟩ := hP
  have hx := Bd.exec
  have hby := Bd.bytes
  have hml : c.maxLocals = 5 := hml0
  have hown : s.vm.findClass "java/lang/StringUTF16" = some m.cls := findClass_of_methodNamed Bd.named
  have hnm := (name_of_methodNamed Bd.named Bd.method).1
  have X0 : Stand p l e ({ frames := 2, cells := 1, slots := 8, locals := 24 } : Room) s m #[(.ref ca), (.int (0 : Int32)), (.int (Int32.ofNat n))] below meth c s₁ [] 0 0 := Stand.of_body Bd
  have e0 : s₁.heap = h0 := by rw [← hh, Bd.state]; rfl
  have N0 := Fr.nil n0
  have pre0 : ∀ t_, Steps p.tables e below (s₁.setTop (mkF m 0 #[.val (.ref ca), .val (.int (0 : Int32)), .val (.int (Int32.ofNat n)), .unset, .unset] [])) t_ → Steps p.tables e below (s₁.setTop (entryFrame m #[(.ref ca), (.int (0 : Int32)), (.int (Int32.ofNat n))] 5)) t_ := fun t_ k_ => castTop (ef_rmTo m ca (0 : Int32) (Int32.ofNat n)) k_
  have lt_I4 : @LT.lt Nat _ ca h0.size := I4.lt
  have Zc1 : n0 ≤ h0.size := by omega
  obtain ⟨_, _, ⟨T2, L2, k2, n2⟩, -, X2, ⟨Lc2, hQ2, l2, y2, z2⟩, st2⟩ := Jvm.LawKit.callS X0 hx (y := (⟨"java/lang/StringUTF16", "newBytesFor", "(I)[B"⟩ : MethodName)) hown (mvT hZ (hw _ (List.mem_of_getElem? (i := 85) rfl))) (mvT hZ (hw _ (List.mem_of_getElem? (i := 86) rfl))) (mvT hZ (hw _ (List.mem_of_getElem? (i := 39) rfl))) (mvT hZ (hw _ (List.mem_of_getElem? (i := 87) rfl))) (by decide) (backOf (W := 0) (rmNBF l Z a0 hw [] n h0 n0 Zc1 (hb : n ≤ 4)) hZ (hw _ (List.mem_of_getElem? (i := 87) rfl)) (hw _ (List.mem_of_getElem? (i := 39) rfl)) (by decide) (by decide)) (g := (mkF m 1 #[.val (.ref ca), .val (.int (0 : Int32)), .val (.int (Int32.ofNat n)), .unset, .unset] [(.int (Int32.ofNat n))])) rfl (by rw [hml]; rfl) (argsL := [(.int (Int32.ofNat n))]) (rest := []) (lenOf pd__I__B rfl) rfl (by show 2 * 0 + _ ≤ _; exact Nat.le_of_eq rfl) (Jvm.hb hby d_jdk_52_method_14_1) (fun _ _ => ⟨rfl, e0, (by decide : 0 + 1 ≤ _), (by decide : 0 + 8 ≤ _)⟩)
  dsimp only [Pt.U, Pt.locs, Pt.cells, Pt.slots] at X2 l2 y2 z2 st2 hQ2
  subst l2 y2 z2
  obtain ⟨b_2, kb_2, rfl, N2q, K2, Fq2_0, P2_0⟩ := hQ2
  have N2 := Fr.app N0 N2q
  obtain ⟨h2, e2⟩ : ∃ z, T2.heap = z := ⟨_, rfl⟩
  rw [e2] at K2 Fq2_0
  have z3 : h0.size ≤ h2.size := K2.1
  have lt2_0 : @LT.lt Nat _ b_2 h2.size := Fq2_0.lt
  have s4 : ∀ t_, Steps p.tables e below (T2.setTop (mkF m 8 #[.val (.ref ca), .val (.int (0 : Int32)), .val (.int (Int32.ofNat n)), .val (.ref b_2), .val (.int (0 : Int32))] [])) t_ → Steps p.tables e below (s₁.setTop (entryFrame m #[(.ref ca), (.int (0 : Int32)), (.int (Int32.ofNat n))] 5)) t_ := fun t_ k_ => pre0 t_ (by
    show Steps p.tables e below (s₁.setTop (mkF m 0 #[.val (.ref ca), .val (.int (0 : Int32)), .val (.int (Int32.ofNat n)), .unset, .unset] [])) t_
    refine XS.iloadN X0.here hx rfl (Jvm.hb hby d_jdk_52_method_14_0) rfl ?_
    show Steps p.tables e below (s₁.setTop (mkF m 1 #[.val (.ref ca), .val (.int (0 : Int32)), .val (.int (Int32.ofNat n)), .unset, .unset] [(.int (Int32.ofNat n))])) _
    refine st2 _ ?_
    show Steps p.tables e below (T2.setTop (mkF m 4 #[.val (.ref ca), .val (.int (0 : Int32)), .val (.int (Int32.ofNat n)), .unset, .unset] [(.ref b_2)])) _
    refine XS.astoreN X2.here hx rfl (Jvm.hb hby d_jdk_52_method_14_4) rfl rfl (l' := #[.val (.ref ca), .val (.int (0 : Int32)), .val (.int (Int32.ofNat n)), .val (.ref b_2), .unset]) rfl ?_
    show Steps p.tables e below (T2.setTop (mkF m 5 #[.val (.ref ca), .val (.int (0 : Int32)), .val (.int (Int32.ofNat n)), .val (.ref b_2), .unset] [])) _
    refine XS.iconst X2.here hx rfl (Jvm.hb hby d_jdk_52_method_14_5) ?_
    show Steps p.tables e below (T2.setTop (mkF m 6 #[.val (.ref ca), .val (.int (0 : Int32)), .val (.int (Int32.ofNat n)), .val (.ref b_2), .unset] [(.int (0 : Int32))])) _
    refine XS.istore X2.here hx rfl (Jvm.hb hby d_jdk_52_method_14_6) rfl (l' := #[.val (.ref ca), .val (.int (0 : Int32)), .val (.int (Int32.ofNat n)), .val (.ref b_2), .val (.int (0 : Int32))]) rfl ?_
    show Steps p.tables e below (T2.setTop (mkF m 8 #[.val (.ref ca), .val (.int (0 : Int32)), .val (.int (Int32.ofNat n)), .val (.ref b_2), .val (.int (0 : Int32))] [])) _
    show Steps p.tables e below (T2.setTop (mkF m 8 #[.val (.ref ca), .val (.int (0 : Int32)), .val (.int (Int32.ofNat n)), .val (.ref b_2), .val (.int (0 : Int32))] [])) t_
    exact k_)
  have lp5 : ∀ (k_ : Nat) (j : Nat) (T_ : State) (lo_ : List Loc) (hh5 : Heap), j + k_ = n → Stand p l e ({ frames := 2, cells := 1, slots := 8, locals := 24 } : Room) s m #[(.ref ca), (.int (0 : Int32)), (.int (Int32.ofNat n))] below meth c T_ lo_ 1 8 → T_.heap = hh5 → Fr n0 lo_ → Keep h2 hh5 [b_2] → Arv Z hh5 b_2 kb_2 .byte (Int32.ofNat (2 * n)) (own_mix (own_wide cs) (List.replicate (2 * n) (.int (0 : Int32))) (2 * j)) (.int (0 : Int32)) → ∃ (T' : State) (lo' : List Loc) (hx_ : Heap) (fe_ : JFrame), Stand p l e ({ frames := 2, cells := 1, slots := 8, locals := 24 } : Room) s m #[(.ref ca), (.int (0 : Int32)), (.int (Int32.ofNat n))] below meth c T' lo' 1 8 ∧ T'.heap = hx_ ∧ Fr n0 lo' ∧ Keep h2 hx_ [b_2] ∧ ((fe_ = (mkF m 32 #[.val (.ref ca), .val (.int (Int32.ofNat n)), .val (.int (Int32.ofNat n)), .val (.ref b_2), .val (.int (Int32.ofNat n))] []) ∧ Arv Z hx_ b_2 kb_2 .byte (Int32.ofNat (2 * n)) (own_mix (own_wide cs) (List.replicate (2 * n) (.int (0 : Int32))) (2 * n)) (.int (0 : Int32)))) ∧ ∀ t_, Steps p.tables e below (T'.setTop fe_) t_ → Steps p.tables e below (T_.setTop (mkF m 8 #[.val (.ref ca), .val (.int (Int32.ofNat j)), .val (.int (Int32.ofNat n)), .val (.ref b_2), .val (.int (Int32.ofNat j))] [])) t_ := by
    intro k_
    induction k_ with
    | zero => 
      intro j T_ lo_ hh5 hm_ X_ e_ N_ K_ F_0
      have zk_ : h2.size ≤ hh5.size := K_.1
      have s6 : ∀ t_, Steps p.tables e below (T_.setTop (mkF m 32 #[.val (.ref ca), .val (.int (Int32.ofNat j)), .val (.int (Int32.ofNat n)), .val (.ref b_2), .val (.int (Int32.ofNat j))] [])) t_ → Steps p.tables e below (T_.setTop (mkF m 8 #[.val (.ref ca), .val (.int (Int32.ofNat j)), .val (.int (Int32.ofNat n)), .val (.ref b_2), .val (.int (Int32.ofNat j))] [])) t_ := fun t_ k_ => (fun _ k_ => k_) t_ (by
        show Steps p.tables e below (T_.setTop (mkF m 8 #[.val (.ref ca), .val (.int (Int32.ofNat j)), .val (.int (Int32.ofNat n)), .val (.ref b_2), .val (.int (Int32.ofNat j))] [])) t_
        refine XS.iload X_.here hx rfl (Jvm.hb hby d_jdk_52_method_14_8) rfl ?_
        show Steps p.tables e below (T_.setTop (mkF m 10 #[.val (.ref ca), .val (.int (Int32.ofNat j)), .val (.int (Int32.ofNat n)), .val (.ref b_2), .val (.int (Int32.ofNat j))] [(.int (Int32.ofNat j))])) _
        refine XS.iloadN X_.here hx rfl (Jvm.hb hby d_jdk_52_method_14_10) rfl ?_
        show Steps p.tables e below (T_.setTop (mkF m 11 #[.val (.ref ca), .val (.int (Int32.ofNat j)), .val (.int (Int32.ofNat n)), .val (.ref b_2), .val (.int (Int32.ofNat j))] [(.int (Int32.ofNat n)), (.int (Int32.ofNat j))])) _
        refine XS.icmpYes X_.here hx rfl (pc0 := 11) (pc' := 32) rfl (Jvm.hb hby d_jdk_52_method_14_11) rfl (flt (own_nlt (by omega) (by omega))).2.1 (by decide) (by decide) ?_
        show Steps p.tables e below (T_.setTop (mkF m 32 #[.val (.ref ca), .val (.int (Int32.ofNat j)), .val (.int (Int32.ofNat n)), .val (.ref b_2), .val (.int (Int32.ofNat j))] [])) _
        show Steps p.tables e below (T_.setTop (mkF m 32 #[.val (.ref ca), .val (.int (Int32.ofNat j)), .val (.int (Int32.ofNat n)), .val (.ref b_2), .val (.int (Int32.ofNat j))] [])) t_
        exact k_)
      exact ⟨T_, _, _, _, X_, e_, N_, ((Keep.refl h2 [b_2]).trans K_ (allS (Or.inl (by simp)) all0)), ⟨(by rw [show j = n by omega]), (by obtain rfl : j = n := (by omega); exact F_0)⟩, s6⟩
    | succ k_ ih => 
      intro j T_ lo_ hh5 hm_ X_ e_ N_ K_ F_0
      have zk_ : h2.size ≤ hh5.size := K_.1
      have f7 : Arv Z hh5 ca kc .char (Int32.ofNat n) (cs.map Value.int) (.int (0 : Int32)) := ((I4.keep K2 nin0).keep K_ (ninS (show @Ne Nat ca b_2 by omega) nin0))
      obtain ⟨cl8, Ar8, -, S8, M8, H8, -⟩ := id f7
      have hin8 : ¬ ((Int32.ofNat j) < 0 ∨ cl8.slots.size ≤ ((Int32.ofNat j)).toNatClampNeg) := inb_of S8 (own_in (by omega) (by omega))
      have hat8 : cl8.slots[((Int32.ofNat j)).toNatClampNeg]? = some (.int (cs.getD j 0)) := H8.at hin8 (own_getc cs j _ (by omega) (by omega))
      have O9 : Old Z n0 hh5 := ((OX.keep K2 all0).keep K_ (allS (show n0 ≤ b_2 by omega) all0))
      have Zc10 : n0 ≤ hh5.size := by omega
      obtain ⟨_, _, ⟨T11, L11, k11, n11⟩, -, X11, ⟨Lc11, hQ11, l11, y11, z11⟩, st11⟩ := Jvm.LawKit.callS X_ hx (y := (⟨"java/lang/StringUTF16", "putChar", "([BII)V"⟩ : MethodName)) hown (mvT hZ (hw _ (List.mem_of_getElem? (i := 92) rfl))) (mvT hZ (hw _ (List.mem_of_getElem? (i := 93) rfl))) (mvT hZ (hw _ (List.mem_of_getElem? (i := 39) rfl))) (mvT hZ (hw _ (List.mem_of_getElem? (i := 94) rfl))) (by decide) (backOf (W := 0) (rmPut l Z a0 hw [] b_2 (cs.getD j 0) kb_2 (own_mix (own_wide cs) (List.replicate (2 * n) (.int (0 : Int32))) (2 * j)) n j hh5 n0 Zc10 I1 I2 I3 O9 F_0 (hb : n ≤ 4) (by first | assumption | rfl | decide | omega : j < n) (by rw [own_mixl _ _ _ (by rw [own_widel]; simp; omega)]; simp) (by first | assumption | rfl | decide | omega : n0 ≤ b_2)) hZ (hw _ (List.mem_of_getElem? (i := 94) rfl)) (hw _ (List.mem_of_getElem? (i := 39) rfl)) (by decide) (by decide)) (g := (mkF m 20 #[.val (.ref ca), .val (.int (Int32.ofNat j)), .val (.int (Int32.ofNat n)), .val (.ref b_2), .val (.int (Int32.ofNat j))] [(.int (cs.getD j 0)), (.int (Int32.ofNat j)), (.ref b_2)])) rfl (by rw [hml]; rfl) (argsL := [(.ref b_2), (.int (Int32.ofNat j)), (.int (cs.getD j 0))]) (rest := []) (lenOf pd___BII_V rfl) rfl (by show 2 * 0 + _ ≤ _; exact Nat.le_of_eq rfl) (Jvm.hb hby d_jdk_52_method_14_20) (fun _ _ => ⟨rfl, e_, (by decide : 1 + 0 ≤ _), (by decide : 8 + 0 ≤ _)⟩)
      dsimp only [Pt.U, Pt.locs, Pt.cells, Pt.slots] at X11 l11 y11 z11 st11 hQ11
      subst l11 y11 z11
      obtain ⟨rfl, N11q, K11, Fq11_0⟩ := hQ11
      have N11 := Fr.app N_ N11q
      obtain ⟨h11, e11⟩ : ∃ z, T11.heap = z := ⟨_, rfl⟩
      rw [e11] at K11 Fq11_0
      have z12 : hh5.size ≤ h11.size := K11.1
      have lt11_0 : @LT.lt Nat _ b_2 h11.size := Fq11_0.lt
      have V13 : Arv Z h11 b_2 kb_2 .byte (Int32.ofNat (2 * n)) (own_mix (own_wide cs) (List.replicate (2 * n) (.int (0 : Int32))) (2 * (j + 1))) (.int (0 : Int32)) := by have q := Fq11_0; rw [own_mixw cs _ j (by simp; omega) (by omega)] at q; exact q
      have s14 : ∀ t_, Steps p.tables e below (T11.setTop (mkF m 8 #[.val (.ref ca), .val (.int ((Int32.ofNat j) + (1 : Int32))), .val (.int (Int32.ofNat n)), .val (.ref b_2), .val (.int ((Int32.ofNat j) + (1 : Int32)))] [])) t_ → Steps p.tables e below (T_.setTop (mkF m 8 #[.val (.ref ca), .val (.int (Int32.ofNat j)), .val (.int (Int32.ofNat n)), .val (.ref b_2), .val (.int (Int32.ofNat j))] [])) t_ := fun t_ k_ => (fun _ k_ => k_) t_ (by
        show Steps p.tables e below (T_.setTop (mkF m 8 #[.val (.ref ca), .val (.int (Int32.ofNat j)), .val (.int (Int32.ofNat n)), .val (.ref b_2), .val (.int (Int32.ofNat j))] [])) t_
        refine XS.iload X_.here hx rfl (Jvm.hb hby d_jdk_52_method_14_8) rfl ?_
        show Steps p.tables e below (T_.setTop (mkF m 10 #[.val (.ref ca), .val (.int (Int32.ofNat j)), .val (.int (Int32.ofNat n)), .val (.ref b_2), .val (.int (Int32.ofNat j))] [(.int (Int32.ofNat j))])) _
        refine XS.iloadN X_.here hx rfl (Jvm.hb hby d_jdk_52_method_14_10) rfl ?_
        show Steps p.tables e below (T_.setTop (mkF m 11 #[.val (.ref ca), .val (.int (Int32.ofNat j)), .val (.int (Int32.ofNat n)), .val (.ref b_2), .val (.int (Int32.ofNat j))] [(.int (Int32.ofNat n)), (.int (Int32.ofNat j))])) _
        refine XS.icmpNo X_.here hx rfl (Jvm.hb hby d_jdk_52_method_14_11) rfl (tlt (own_lt (by omega) (by omega))).2.1 ?_
        show Steps p.tables e below (T_.setTop (mkF m 14 #[.val (.ref ca), .val (.int (Int32.ofNat j)), .val (.int (Int32.ofNat n)), .val (.ref b_2), .val (.int (Int32.ofNat j))] [])) _
        refine XS.aloadN X_.here hx rfl (Jvm.hb hby d_jdk_52_method_14_14) rfl rfl ?_
        show Steps p.tables e below (T_.setTop (mkF m 15 #[.val (.ref ca), .val (.int (Int32.ofNat j)), .val (.int (Int32.ofNat n)), .val (.ref b_2), .val (.int (Int32.ofNat j))] [(.ref b_2)])) _
        refine XS.iload X_.here hx rfl (Jvm.hb hby d_jdk_52_method_14_15) rfl ?_
        show Steps p.tables e below (T_.setTop (mkF m 17 #[.val (.ref ca), .val (.int (Int32.ofNat j)), .val (.int (Int32.ofNat n)), .val (.ref b_2), .val (.int (Int32.ofNat j))] [(.int (Int32.ofNat j)), (.ref b_2)])) _
        refine XS.aloadN X_.here hx rfl (Jvm.hb hby d_jdk_52_method_14_17) rfl rfl ?_
        show Steps p.tables e below (T_.setTop (mkF m 18 #[.val (.ref ca), .val (.int (Int32.ofNat j)), .val (.int (Int32.ofNat n)), .val (.ref b_2), .val (.int (Int32.ofNat j))] [(.ref ca), (.int (Int32.ofNat j)), (.ref b_2)])) _
        refine XS.iloadN X_.here hx rfl (Jvm.hb hby d_jdk_52_method_14_18) rfl ?_
        show Steps p.tables e below (T_.setTop (mkF m 19 #[.val (.ref ca), .val (.int (Int32.ofNat j)), .val (.int (Int32.ofNat n)), .val (.ref b_2), .val (.int (Int32.ofNat j))] [(.int (Int32.ofNat j)), (.ref ca), (.int (Int32.ofNat j)), (.ref b_2)])) _
        refine X_.caload hx (j := (Int32.ofNat j)) (v := (.int (cs.getD j 0))) (by rw [e_]; exact Ar8.1) (State.isArrayOf_alike hZ.alike Ar8.2.1) Ar8.2.2 hin8 hat8 (g := (mkF m 19 #[.val (.ref ca), .val (.int (Int32.ofNat j)), .val (.int (Int32.ofNat n)), .val (.ref b_2), .val (.int (Int32.ofNat j))] [(.int (Int32.ofNat j)), (.ref ca), (.int (Int32.ofNat j)), (.ref b_2)])) rfl rfl (Jvm.hb hby d_jdk_52_method_14_19) _ ?_
        show Steps p.tables e below (T_.setTop (mkF m 20 #[.val (.ref ca), .val (.int (Int32.ofNat j)), .val (.int (Int32.ofNat n)), .val (.ref b_2), .val (.int (Int32.ofNat j))] [(.int (cs.getD j 0)), (.int (Int32.ofNat j)), (.ref b_2)])) _
        refine st11 _ ?_
        show Steps p.tables e below (T11.setTop (mkF m 23 #[.val (.ref ca), .val (.int (Int32.ofNat j)), .val (.int (Int32.ofNat n)), .val (.ref b_2), .val (.int (Int32.ofNat j))] [])) _
        refine XS.iinc X11.here hx rfl (Jvm.hb hby d_jdk_52_method_14_23) rfl (l' := #[.val (.ref ca), .val (.int ((Int32.ofNat j) + (1 : Int32))), .val (.int (Int32.ofNat n)), .val (.ref b_2), .val (.int (Int32.ofNat j))]) rfl ?_
        show Steps p.tables e below (T11.setTop (mkF m 26 #[.val (.ref ca), .val (.int ((Int32.ofNat j) + (1 : Int32))), .val (.int (Int32.ofNat n)), .val (.ref b_2), .val (.int (Int32.ofNat j))] [])) _
        refine XS.iinc X11.here hx rfl (Jvm.hb hby d_jdk_52_method_14_26) rfl (l' := #[.val (.ref ca), .val (.int ((Int32.ofNat j) + (1 : Int32))), .val (.int (Int32.ofNat n)), .val (.ref b_2), .val (.int ((Int32.ofNat j) + (1 : Int32)))]) rfl ?_
        show Steps p.tables e below (T11.setTop (mkF m 29 #[.val (.ref ca), .val (.int ((Int32.ofNat j) + (1 : Int32))), .val (.int (Int32.ofNat n)), .val (.ref b_2), .val (.int ((Int32.ofNat j) + (1 : Int32)))] [])) _
        refine XS.goto X11.here hx rfl (pc0 := 29) (pc' := 8) rfl (Jvm.hb hby d_jdk_52_method_14_29) (by decide) (by decide) ?_
        show Steps p.tables e below (T11.setTop (mkF m 8 #[.val (.ref ca), .val (.int ((Int32.ofNat j) + (1 : Int32))), .val (.int (Int32.ofNat n)), .val (.ref b_2), .val (.int ((Int32.ofNat j) + (1 : Int32)))] [])) _
        show Steps p.tables e below (T11.setTop (mkF m 8 #[.val (.ref ca), .val (.int ((Int32.ofNat j) + (1 : Int32))), .val (.int (Int32.ofNat n)), .val (.ref b_2), .val (.int ((Int32.ofNat j) + (1 : Int32)))] [])) t_
        exact k_)
      obtain ⟨T15, lo15, h15, fe15, X15, e15, N15, K15, A15, st15⟩ := ih (j + 1) T11 _ h11 (by omega) X11 e11 N11 (((Keep.refl h2 [b_2]).trans K_ (allS (Or.inl (by simp)) all0)).trans K11 (allS (Or.inl (by simp)) all0)) V13 
      exact ⟨T15, lo15, h15, fe15, X15, e15, N15, K15, A15, fun t_ k_ => s14 t_ (castTop (by rw [own_up]) (st15 t_ k_))⟩
  obtain ⟨T16, lo16, h16, fe16, X16, e16, N16, K16, A16, st16⟩ := lp5 n 0 T2 _ h2 (by omega) X2 e2 N2 (Keep.refl _ _) (by rw [show 2 * 0 = 0 from rfl, own_mix0]; exact Fq2_0) 
  have z17 : h2.size ≤ h16.size := K16.1
  obtain ⟨rfl, G16_0⟩ := A16
  have s18 : ∀ t_, Steps p.tables e below (T16.setTop (mkF m 32 #[.val (.ref ca), .val (.int (Int32.ofNat n)), .val (.int (Int32.ofNat n)), .val (.ref b_2), .val (.int (Int32.ofNat n))] [])) t_ → Steps p.tables e below (s₁.setTop (entryFrame m #[(.ref ca), (.int (0 : Int32)), (.int (Int32.ofNat n))] 5)) t_ := fun t_ k_ => s4 t_ (st16 t_ k_)
  have s19 : ∀ t_, Steps p.tables e below (T16.setTop (mkF m 33 #[.val (.ref ca), .val (.int (Int32.ofNat n)), .val (.int (Int32.ofNat n)), .val (.ref b_2), .val (.int (Int32.ofNat n))] [(.ref b_2)])) t_ → Steps p.tables e below (s₁.setTop (entryFrame m #[(.ref ca), (.int (0 : Int32)), (.int (Int32.ofNat n))] 5)) t_ := fun t_ k_ => s18 t_ (by
    show Steps p.tables e below (T16.setTop (mkF m 32 #[.val (.ref ca), .val (.int (Int32.ofNat n)), .val (.int (Int32.ofNat n)), .val (.ref b_2), .val (.int (Int32.ofNat n))] [])) t_
    refine XS.aloadN X16.here hx rfl (Jvm.hb hby d_jdk_52_method_14_32) rfl rfl ?_
    show Steps p.tables e below (T16.setTop (mkF m 33 #[.val (.ref ca), .val (.int (Int32.ofNat n)), .val (.int (Int32.ofNat n)), .val (.ref b_2), .val (.int (Int32.ofNat n))] [(.ref b_2)])) _
    show Steps p.tables e below (T16.setTop (mkF m 33 #[.val (.ref ca), .val (.int (Int32.ofNat n)), .val (.int (Int32.ofNat n)), .val (.ref b_2), .val (.int (Int32.ofNat n))] [(.ref b_2)])) t_
    exact k_)
  obtain ⟨fs, hr, hrun, hended, hW, hsame⟩ := X16.leave (v := some (.ref b_2)) (fun h => by rw [Bd.returns] at h; cases h)
  refine ⟨_, _, s19 _ ?_, hrun, hended, _, _, rfl, ?_, ⟨_, rfl⟩, hW, hsame.mono (by decide) (by decide)⟩
  · show Steps p.tables e below (T16.setTop (mkF m 33 #[.val (.ref ca), .val (.int (Int32.ofNat n)), .val (.int (Int32.ofNat n)), .val (.ref b_2), .val (.int (Int32.ofNat n))] [(.ref b_2)])) _
    jvm_step X16.here [X16.here.top, hx, (Jvm.hb hby d_jdk_52_method_14_33), X16.method', Bd.returns, Value.isRef, FieldType.isReference]
    first | (intro acts; rw [hr _ acts rfl rfl rfl]) | rw [hr _ _ rfl rfl rfl]
    exact Steps.refl _
  · show Q_rmTo Z _ _ _ _ h0 n0 _ T16.heap _
    rw [e16]
    exact ⟨b_2, kb_2, rfl, N16, (((Keep.refl h0 []).trans K2 all0).trans K16 (allS (Or.inr (show h0.size ≤ b_2 by omega)) all0)), (by have q := G16_0; rw [own_mixn _ _ (2 * n) (by rw [own_widel]; omega) (by simp)] at q; exact q), by omega⟩
theorem d_jdk_52_method_16_0 : decode jdk_52_method_16_code 0 = .ok (.iload_n 2, 1) := by decide +kernel
theorem d_jdk_52_method_16_1 : decode jdk_52_method_16_code 1 = .ok (.newarray .byte, 2) := by decide +kernel
theorem d_jdk_52_method_16_3 : decode jdk_52_method_16_code 3 = .ok (.astore_n 3, 1) := by decide +kernel
theorem d_jdk_52_method_16_4 : decode jdk_52_method_16_code 4 = .ok (.aload_n 0, 1) := by decide +kernel
theorem d_jdk_52_method_16_5 : decode jdk_52_method_16_code 5 = .ok (.iload_n 1, 1) := by decide +kernel
theorem d_jdk_52_method_16_6 : decode jdk_52_method_16_code 6 = .ok (.aload_n 3, 1) := by decide +kernel
theorem d_jdk_52_method_16_7 : decode jdk_52_method_16_code 7 = .ok (.iconst 0, 1) := by decide +kernel
theorem d_jdk_52_method_16_8 : decode jdk_52_method_16_code 8 = .ok (.iload_n 2, 1) := by decide +kernel
theorem pd___CI_BII_I : parseMethodDescriptor "([CI[BII)I" = some ⟨[(.array .char), .int, (.array .byte), .int, .int], some .int⟩ := by decide +kernel
theorem d_jdk_52_method_16_9 : decode jdk_52_method_16_code 9 = .ok (.invokestatic 115, 3) := by decide +kernel
theorem d_jdk_52_method_16_12 : decode jdk_52_method_16_code 12 = .ok (.istore 4, 2) := by decide +kernel
theorem d_jdk_52_method_16_14 : decode jdk_52_method_16_code 14 = .ok (.iload 4, 2) := by decide +kernel
theorem d_jdk_52_method_16_16 : decode jdk_52_method_16_code 16 = .ok (.iload_n 2, 1) := by decide +kernel
theorem d_jdk_52_method_16_17 : decode jdk_52_method_16_code 17 = .ok (.if_icmp .eq 40, 3) := by decide +kernel
theorem d_jdk_52_method_16_57 : decode jdk_52_method_16_code 57 = .ok (.aload_n 3, 1) := by decide +kernel
theorem d_jdk_52_method_16_58 : decode jdk_52_method_16_code 58 = .ok (.areturn, 1) := by decide +kernel
theorem d_jdk_52_method_16_20 : decode jdk_52_method_16_code 20 = .ok (.aload_n 0, 1) := by decide +kernel
theorem d_jdk_52_method_16_21 : decode jdk_52_method_16_code 21 = .ok (.iload_n 1, 1) := by decide +kernel
theorem d_jdk_52_method_16_22 : decode jdk_52_method_16_code 22 = .ok (.iload_n 2, 1) := by decide +kernel
theorem pd___CII__B : parseMethodDescriptor "([CII)[B" = some ⟨[(.array .char), .int, .int], some (.array .byte)⟩ := by decide +kernel
theorem d_jdk_52_method_16_23 : decode jdk_52_method_16_code 23 = .ok (.invokestatic 119, 3) := by decide +kernel
theorem d_jdk_52_method_16_26 : decode jdk_52_method_16_code 26 = .ok (.astore 5, 2) := by decide +kernel
theorem d_jdk_52_method_16_28 : decode jdk_52_method_16_code 28 = .ok (.aload 5, 2) := by decide +kernel
theorem d_jdk_52_method_16_30 : decode jdk_52_method_16_code 30 = .ok (.iload 4, 2) := by decide +kernel
theorem pd___BI_C : parseMethodDescriptor "([BI)C" = some ⟨[(.array .byte), .int], some .char⟩ := by decide +kernel
theorem d_jdk_52_method_16_32 : decode jdk_52_method_16_code 32 = .ok (.invokestatic 71, 3) := by decide +kernel
theorem d_jdk_52_method_16_35 : decode jdk_52_method_16_code 35 = .ok (.sipush 255, 3) := by decide +kernel
theorem d_jdk_52_method_16_38 : decode jdk_52_method_16_code 38 = .ok (.if_icmp .gt 16, 3) := by decide +kernel
theorem d_jdk_52_method_16_54 : decode jdk_52_method_16_code 54 = .ok (.aload 5, 2) := by decide +kernel
theorem d_jdk_52_method_16_56 : decode jdk_52_method_16_code 56 = .ok (.areturn, 1) := by decide +kernel
theorem ef_rmComp (m : MethodId) (x0 : Addr) (x1 : Int32) (x2 : Int32) : entryFrame m #[(.ref x0), (.int x1), (.int x2)] 6 = mkF m 0 #[.val (.ref x0), .val (.int x1), .val (.int x2), .unset, .unset, .unset] [] := by first | (simp [entryFrame, mkF, argsToLocals, Value.category]; done) | rfl
def Q_rmComp (Z : State) (ca : Addr) (cs : List Int32) (kc : ClassId) (n : Nat) (h0 : Heap) (n0 : Nat) (v : Option Value) (h : Heap) (L : List Loc) : Prop := ∃ (b : Addr), ∃ (kb : ClassId), (v = some (.ref b)) ∧ (Fr n0 L) ∧ (Keep h0 h []) ∧ (Arv Z h b kb .byte (Int32.ofNat (own_enl cs)) (own_enc cs) (.int (0 : Int32))) ∧ (h0.size ≤ b)
set_option maxRecDepth 65536 in
set_option maxHeartbeats 40000000 in
theorem rmComp (l : Launch) (Z : State) (a0 : Array Value) (hw : ∀ d ∈ tables_1, d.before a0 Z = true) (ws : List Jvm.Cond) (ca : Addr) (cs : List Int32) (kc : ClassId) (n : Nat) (h0 : Heap) (n0 : Nat) (Z0 : n0 ≤ h0.size) (I1 : Sta Z Z.heap "java/lang/StringUTF16" "$assertionsDisabled" "Z" (.int (1 : Int32))) (I2 : Sta Z Z.heap "java/lang/StringUTF16" "HI_BYTE_SHIFT" "I" (.int (0 : Int32))) (I3 : Sta Z Z.heap "java/lang/StringUTF16" "LO_BYTE_SHIFT" "I" (.int (8 : Int32))) (OX : Old Z n0 h0) (I4 : Arv Z h0 ca kc .char (Int32.ofNat n) (cs.map Value.int) (.int (0 : Int32))) (hn : cs.length = n) (hb : n ≤ 4) (hchs : own_chs cs) :
    MetFree l (⟨"java/lang/StringUTF16", "compress", "([CII)[B"⟩ : MethodName) (head1 (Jvm.Cond.code (⟨"java/lang/StringUTF16", "compress", "([CII)[B"⟩ : MethodName) jdk_52_method_16_code 6 (some (.array .byte)) :: ws) ({ frames := 3, cells := 2, slots := 12, locals := 40 } : Room)) (fun ar_ U => ar_ = #[(.ref ca), (.int (0 : Int32)), (.int (Int32.ofNat n))] ∧ Z.Warmed39 U.vm ∧ U.heap = h0) (fun _ _ _ _ _ => True) (fun _ U o U' => ∃ v L, o = .returned v ∧ Q_rmComp Z ca cs kc n h0 n0 v U'.heap L ∧ FrameEnd U o U' L ({ frames := 3, cells := 2, slots := 12, locals := 40 } : Room).cells ({ frames := 3, cells := 2, slots := 12, locals := 40 } : Room).slots) := by
  refine MetFree.of_bodySF (plainFor_of_name pn_java_lang_StringUTF16) hisR ?_
  intro p e s m args below meth c s₁ Bd hml0 hP hK
  obtain ⟨rfl, hZ, hh⟩ := hP
  have hx := Bd.exec
  have hby := Bd.bytes
  have hml : c.maxLocals = 6 := hml0
  have hown : s.vm.findClass "java/lang/StringUTF16" = some m.cls := findClass_of_methodNamed Bd.named
  have hnm := (name_of_methodNamed Bd.named Bd.method).1
  have X0 : Stand p l e ({ frames := 3, cells := 2, slots := 12, locals := 40 } : Room) s m #[(.ref ca), (.int (0 : Int32)), (.int (Int32.ofNat n))] below meth c s₁ [] 0 0 := Stand.of_body Bd
  have e0 : s₁.heap = h0 := by rw [← hh, Bd.state]; rfl
  have N0 := Fr.nil n0
  have pre0 : ∀ t_, Steps p.tables e below (s₁.setTop (mkF m 0 #[.val (.ref ca), .val (.int (0 : Int32)), .val (.int (Int32.ofNat n)), .unset, .unset, .unset] [])) t_ → Steps p.tables e below (s₁.setTop (entryFrame m #[(.ref ca), (.int (0 : Int32)), (.int (Int32.ofNat n))] 6)) t_ := fun t_ k_ => castTop (ef_rmComp m ca (0 : Int32) (Int32.ofNat n)) k_
  have lt_I4 : @LT.lt Nat _ ca h0.size := I4.lt
  by_cases h1 : own_lat cs
  · have s2 : ∀ t_, Steps p.tables e below (s₁.setTop (mkF m 0 #[.val (.ref ca), .val (.int (0 : Int32)), .val (.int (Int32.ofNat n)), .unset, .unset, .unset] [])) t_ → Steps p.tables e below (s₁.setTop (entryFrame m #[(.ref ca), (.int (0 : Int32)), (.int (Int32.ofNat n))] 6)) t_ := fun t_ k_ => pre0 t_ (castTop (by rfl) k_)
    obtain ⟨T3, h3, k3, X3, e3, E3, A3, st3⟩ := newP X0 hx hZ (hw _ (List.mem_of_getElem? (i := 20) rfl)) e0 (g := (mkF m 1 #[.val (.ref ca), .val (.int (0 : Int32)), .val (.int (Int32.ofNat n)), .unset, .unset, .unset] [(.int (Int32.ofNat n))])) rfl (Jvm.hb hby d_jdk_52_method_16_1) rfl (own_nn (by omega)) (cap := 4) (by rw [own_tn (by omega)]; omega) (by decide) (by decide) (by decide)
    obtain ⟨b3, g3⟩ : ∃ z, z = h0.size := ⟨_, rfl⟩
    rw [← g3] at A3 st3
    have z4 : h0.size ≤ h3.size := E3.1
    have l3 : b3 < h3.size := A3.lt
    have V3 : Arv Z h3 b3 k3 .byte (Int32.ofNat n) (List.replicate n (.int (0 : Int32))) (.int (0 : Int32)) := (Arv.new A3 (own_nn (by omega))).pad (pad_rep [] _ n)
    have f5 : Arv Z h3 ca kc .char (Int32.ofNat n) (cs.map Value.int) (.int (0 : Int32)) := (I4.ext E3)
    have Zc6 : n0 ≤ h3.size := by omega
    obtain ⟨_, _, ⟨T7, L7, k7, n7⟩, -, X7, ⟨Lc7, hQ7, l7, y7, z7⟩, st7⟩ := Jvm.LawKit.callS X3 hx (y := (⟨"java/lang/StringUTF16", "compress", "([CI[BII)I"⟩ : MethodName)) hown (mvT hZ (hw _ (List.mem_of_getElem? (i := 41) rfl))) (mvT hZ (hw _ (List.mem_of_getElem? (i := 42) rfl))) (mvT hZ (hw _ (List.mem_of_getElem? (i := 39) rfl))) (mvT hZ (hw _ (List.mem_of_getElem? (i := 43) rfl))) (by decide) (backOf (W := 0) (rmCmpL l Z a0 hw [] ca b3 cs kc n k3 (List.replicate n (.int (0 : Int32))) h3 n0 Zc6 f5 V3 (hn : cs.length = n) (hb : n ≤ 4) (by simp) (by first | assumption | rfl | decide | omega : n0 ≤ b3) (by first | assumption | rfl | decide | omega : @Ne Nat ca b3) (by first | assumption | rfl | decide | omega : own_lat cs)) hZ (hw _ (List.mem_of_getElem? (i := 43) rfl)) (hw _ (List.mem_of_getElem? (i := 39) rfl)) (by decide) (by decide)) (g := (mkF m 9 #[.val (.ref ca), .val (.int (0 : Int32)), .val (.int (Int32.ofNat n)), .val (.ref b3), .unset, .unset] [(.int (Int32.ofNat n)), (.int (0 : Int32)), (.ref b3), (.int (0 : Int32)), (.ref ca)])) rfl (by rw [hml]; rfl) (argsL := [(.ref ca), (.int (0 : Int32)), (.ref b3), (.int (0 : Int32)), (.int (Int32.ofNat n))]) (rest := []) (lenOf pd___CI_BII_I rfl) rfl (by show 2 * 0 + _ ≤ _; exact Nat.le_of_eq rfl) (Jvm.hb hby d_jdk_52_method_16_9) (fun _ _ => ⟨rfl, e3, (by decide : 1 + 0 ≤ _), (by decide : 4 + 0 ≤ _)⟩)
    dsimp only [Pt.U, Pt.locs, Pt.cells, Pt.slots] at X7 l7 y7 z7 st7 hQ7
    subst l7 y7 z7
    obtain ⟨rfl, N7q, K7, Fq7_0⟩ := hQ7
    have N7 := Fr.app N0 N7q
    obtain ⟨h7, e7⟩ : ∃ z, T7.heap = z := ⟨_, rfl⟩
    rw [e7] at K7 Fq7_0
    have z8 : h3.size ≤ h7.size := K7.1
    have lt7_0 : @LT.lt Nat _ b3 h7.size := Fq7_0.lt
    have s9 : ∀ t_, Steps p.tables e below (T7.setTop (mkF m 58 #[.val (.ref ca), .val (.int (0 : Int32)), .val (.int (Int32.ofNat n)), .val (.ref b3), .val (.int (Int32.ofNat n)), .unset] [(.ref b3)])) t_ → Steps p.tables e below (s₁.setTop (entryFrame m #[(.ref ca), (.int (0 : Int32)), (.int (Int32.ofNat n))] 6)) t_ := fun t_ k_ => s2 t_ (by
      show Steps p.tables e below (s₁.setTop (mkF m 0 #[.val (.ref ca), .val (.int (0 : Int32)), .val (.int (Int32.ofNat n)), .unset, .unset, .unset] [])) t_
      refine XS.iloadN X0.here hx rfl (Jvm.hb hby d_jdk_52_method_16_0) rfl ?_
      show Steps p.tables e below (s₁.setTop (mkF m 1 #[.val (.ref ca), .val (.int (0 : Int32)), .val (.int (Int32.ofNat n)), .unset, .unset, .unset] [(.int (Int32.ofNat n))])) _
      refine st3 _ ?_
      show Steps p.tables e below (T3.setTop (mkF m 3 #[.val (.ref ca), .val (.int (0 : Int32)), .val (.int (Int32.ofNat n)), .unset, .unset, .unset] [(.ref b3)])) _
      refine XS.astoreN X3.here hx rfl (Jvm.hb hby d_jdk_52_method_16_3) rfl rfl (l' := #[.val (.ref ca), .val (.int (0 : Int32)), .val (.int (Int32.ofNat n)), .val (.ref b3), .unset, .unset]) rfl ?_
      show Steps p.tables e below (T3.setTop (mkF m 4 #[.val (.ref ca), .val (.int (0 : Int32)), .val (.int (Int32.ofNat n)), .val (.ref b3), .unset, .unset] [])) _
      refine XS.aloadN X3.here hx rfl (Jvm.hb hby d_jdk_52_method_16_4) rfl rfl ?_
      show Steps p.tables e below (T3.setTop (mkF m 5 #[.val (.ref ca), .val (.int (0 : Int32)), .val (.int (Int32.ofNat n)), .val (.ref b3), .unset, .unset] [(.ref ca)])) _
      refine XS.iloadN X3.here hx rfl (Jvm.hb hby d_jdk_52_method_16_5) rfl ?_
      show Steps p.tables e below (T3.setTop (mkF m 6 #[.val (.ref ca), .val (.int (0 : Int32)), .val (.int (Int32.ofNat n)), .val (.ref b3), .unset, .unset] [(.int (0 : Int32)), (.ref ca)])) _
      refine XS.aloadN X3.here hx rfl (Jvm.hb hby d_jdk_52_method_16_6) rfl rfl ?_
      show Steps p.tables e below (T3.setTop (mkF m 7 #[.val (.ref ca), .val (.int (0 : Int32)), .val (.int (Int32.ofNat n)), .val (.ref b3), .unset, .unset] [(.ref b3), (.int (0 : Int32)), (.ref ca)])) _
      refine XS.iconst X3.here hx rfl (Jvm.hb hby d_jdk_52_method_16_7) ?_
      show Steps p.tables e below (T3.setTop (mkF m 8 #[.val (.ref ca), .val (.int (0 : Int32)), .val (.int (Int32.ofNat n)), .val (.ref b3), .unset, .unset] [(.int (0 : Int32)), (.ref b3), (.int (0 : Int32)), (.ref ca)])) _
      refine XS.iloadN X3.here hx rfl (Jvm.hb hby d_jdk_52_method_16_8) rfl ?_
      show Steps p.tables e below (T3.setTop (mkF m 9 #[.val (.ref ca), .val (.int (0 : Int32)), .val (.int (Int32.ofNat n)), .val (.ref b3), .unset, .unset] [(.int (Int32.ofNat n)), (.int (0 : Int32)), (.ref b3), (.int (0 : Int32)), (.ref ca)])) _
      refine st7 _ ?_
      show Steps p.tables e below (T7.setTop (mkF m 12 #[.val (.ref ca), .val (.int (0 : Int32)), .val (.int (Int32.ofNat n)), .val (.ref b3), .unset, .unset] [(.int (Int32.ofNat n))])) _
      refine XS.istore X7.here hx rfl (Jvm.hb hby d_jdk_52_method_16_12) rfl (l' := #[.val (.ref ca), .val (.int (0 : Int32)), .val (.int (Int32.ofNat n)), .val (.ref b3), .val (.int (Int32.ofNat n)), .unset]) rfl ?_
      show Steps p.tables e below (T7.setTop (mkF m 14 #[.val (.ref ca), .val (.int (0 : Int32)), .val (.int (Int32.ofNat n)), .val (.ref b3), .val (.int (Int32.ofNat n)), .unset] [])) _
      refine XS.iload X7.here hx rfl (Jvm.hb hby d_jdk_52_method_16_14) rfl ?_
      show Steps p.tables e below (T7.setTop (mkF m 16 #[.val (.ref ca), .val (.int (0 : Int32)), .val (.int (Int32.ofNat n)), .val (.ref b3), .val (.int (Int32.ofNat n)), .unset] [(.int (Int32.ofNat n))])) _
      refine XS.iloadN X7.here hx rfl (Jvm.hb hby d_jdk_52_method_16_16) rfl ?_
      show Steps p.tables e below (T7.setTop (mkF m 17 #[.val (.ref ca), .val (.int (0 : Int32)), .val (.int (Int32.ofNat n)), .val (.ref b3), .val (.int (Int32.ofNat n)), .unset] [(.int (Int32.ofNat n)), (.int (Int32.ofNat n))])) _
      refine XS.icmpYes X7.here hx rfl (pc0 := 17) (pc' := 57) rfl (Jvm.hb hby d_jdk_52_method_16_17) rfl (teq rfl).1 (by decide) (by decide) ?_
      show Steps p.tables e below (T7.setTop (mkF m 57 #[.val (.ref ca), .val (.int (0 : Int32)), .val (.int (Int32.ofNat n)), .val (.ref b3), .val (.int (Int32.ofNat n)), .unset] [])) _
      refine XS.aloadN X7.here hx rfl (Jvm.hb hby d_jdk_52_method_16_57) rfl rfl ?_
      show Steps p.tables e below (T7.setTop (mkF m 58 #[.val (.ref ca), .val (.int (0 : Int32)), .val (.int (Int32.ofNat n)), .val (.ref b3), .val (.int (Int32.ofNat n)), .unset] [(.ref b3)])) _
      show Steps p.tables e below (T7.setTop (mkF m 58 #[.val (.ref ca), .val (.int (0 : Int32)), .val (.int (Int32.ofNat n)), .val (.ref b3), .val (.int (Int32.ofNat n)), .unset] [(.ref b3)])) t_
      exact k_)
    obtain ⟨fs, hr, hrun, hended, hW, hsame⟩ := X7.leave (v := some (.ref b3)) (fun h => by rw [Bd.returns] at h; cases h)
    refine ⟨_, _, s9 _ ?_, hrun, hended, _, _, rfl, ?_, ⟨_, rfl⟩, hW, hsame.mono (by decide) (by decide)⟩
    · show Steps p.tables e below (T7.setTop (mkF m 58 #[.val (.ref ca), .val (.int (0 : Int32)), .val (.int (Int32.ofNat n)), .val (.ref b3), .val (.int (Int32.ofNat n)), .unset] [(.ref b3)])) _
      jvm_step X7.here [X7.here.top, hx, (Jvm.hb hby d_jdk_52_method_16_58), X7.method', Bd.returns, Value.isRef, FieldType.isReference]
      first | (intro acts; rw [hr _ acts rfl rfl rfl]) | rw [hr _ _ rfl rfl rfl]
      exact Steps.refl _
    · show Q_rmComp Z _ _ _ _ h0 n0 _ T7.heap _
      rw [e7]
      exact ⟨b3, k3, rfl, N7, (((Keep.refl h0 []).ext E3).trans K7 (allS (Or.inr (show h0.size ≤ b3 by omega)) all0)), (own_fixL h1 Fq7_0 hn (by simp)), by omega⟩
  · have s10 : ∀ t_, Steps p.tables e below (s₁.setTop (mkF m 0 #[.val (.ref ca), .val (.int (0 : Int32)), .val (.int (Int32.ofNat n)), .unset, .unset, .unset] [])) t_ → Steps p.tables e below (s₁.setTop (entryFrame m #[(.ref ca), (.int (0 : Int32)), (.int (Int32.ofNat n))] 6)) t_ := fun t_ k_ => pre0 t_ (castTop (by rfl) k_)
    obtain ⟨i_, hi_, hbad_, hpre_⟩ := own_first h1
    rw [hn] at hi_
    obtain ⟨T11, h11, k11, X11, e11, E11, A11, st11⟩ := newP X0 hx hZ (hw _ (List.mem_of_getElem? (i := 20) rfl)) e0 (g := (mkF m 1 #[.val (.ref ca), .val (.int (0 : Int32)), .val (.int (Int32.ofNat n)), .unset, .unset, .unset] [(.int (Int32.ofNat n))])) rfl (Jvm.hb hby d_jdk_52_method_16_1) rfl (own_nn (by omega)) (cap := 4) (by rw [own_tn (by omega)]; omega) (by decide) (by decide) (by decide)
    obtain ⟨b11, g11⟩ : ∃ z, z = h0.size := ⟨_, rfl⟩
    rw [← g11] at A11 st11
    have z12 : h0.size ≤ h11.size := E11.1
    have l11 : b11 < h11.size := A11.lt
    have V11 : Arv Z h11 b11 k11 .byte (Int32.ofNat n) (List.replicate n (.int (0 : Int32))) (.int (0 : Int32)) := (Arv.new A11 (own_nn (by omega))).pad (pad_rep [] _ n)
    have f13 : Arv Z h11 ca kc .char (Int32.ofNat n) (cs.map Value.int) (.int (0 : Int32)) := (I4.ext E11)
    have Zc14 : n0 ≤ h11.size := by omega
    obtain ⟨_, _, ⟨T15, L15, k15, n15⟩, -, X15, ⟨Lc15, hQ15, l15, y15, z15⟩, st15⟩ := Jvm.LawKit.callS X11 hx (y := (⟨"java/lang/StringUTF16", "compress", "([CI[BII)I"⟩ : MethodName)) hown (mvT hZ (hw _ (List.mem_of_getElem? (i := 41) rfl))) (mvT hZ (hw _ (List.mem_of_getElem? (i := 42) rfl))) (mvT hZ (hw _ (List.mem_of_getElem? (i := 39) rfl))) (mvT hZ (hw _ (List.mem_of_getElem? (i := 43) rfl))) (by decide) (backOf (W := 0) (rmCmpW l Z a0 hw [] ca b11 cs kc n k11 (List.replicate n (.int (0 : Int32))) i_ h11 n0 Zc14 f13 V11 (hn : cs.length = n) (hb : n ≤ 4) (by simp) (by first | assumption | rfl | decide | omega : n0 ≤ b11) (by first | assumption | rfl | decide | omega : @Ne Nat ca b11) hi_ hbad_ hpre_) hZ (hw _ (List.mem_of_getElem? (i := 43) rfl)) (hw _ (List.mem_of_getElem? (i := 39) rfl)) (by decide) (by decide)) (g := (mkF m 9 #[.val (.ref ca), .val (.int (0 : Int32)), .val (.int (Int32.ofNat n)), .val (.ref b11), .unset, .unset] [(.int (Int32.ofNat n)), (.int (0 : Int32)), (.ref b11), (.int (0 : Int32)), (.ref ca)])) rfl (by rw [hml]; rfl) (argsL := [(.ref ca), (.int (0 : Int32)), (.ref b11), (.int (0 : Int32)), (.int (Int32.ofNat n))]) (rest := []) (lenOf pd___CI_BII_I rfl) rfl (by show 2 * 0 + _ ≤ _; exact Nat.le_of_eq rfl) (Jvm.hb hby d_jdk_52_method_16_9) (fun _ _ => ⟨rfl, e11, (by decide : 1 + 0 ≤ _), (by decide : 4 + 0 ≤ _)⟩)
    dsimp only [Pt.U, Pt.locs, Pt.cells, Pt.slots] at X15 l15 y15 z15 st15 hQ15
    subst l15 y15 z15
    obtain ⟨rfl, N15q, K15, Fq15_0⟩ := hQ15
    have N15 := Fr.app N0 N15q
    obtain ⟨h15, e15⟩ : ∃ z, T15.heap = z := ⟨_, rfl⟩
    rw [e15] at K15 Fq15_0
    have z16 : h11.size ≤ h15.size := K15.1
    have lt15_0 : @LT.lt Nat _ b11 h15.size := Fq15_0.lt
    have O17 : Old Z n0 h15 := ((OX.ext E11).keep K15 (allS (show n0 ≤ b11 by omega) all0))
    have f18 : Arv Z h15 ca kc .char (Int32.ofNat n) (cs.map Value.int) (.int (0 : Int32)) := (f13.keep K15 (ninS (show @Ne Nat ca b11 by omega) nin0))
    have Zc19 : n0 ≤ h15.size := by omega
    obtain ⟨_, _, ⟨T20, L20, k20, n20⟩, -, X20, ⟨Lc20, hQ20, l20, y20, z20⟩, st20⟩ := Jvm.LawKit.callS X15 hx (y := (⟨"java/lang/StringUTF16", "toBytes", "([CII)[B"⟩ : MethodName)) hown (mvT hZ (hw _ (List.mem_of_getElem? (i := 82) rfl))) (mvT hZ (hw _ (List.mem_of_getElem? (i := 83) rfl))) (mvT hZ (hw _ (List.mem_of_getElem? (i := 39) rfl))) (mvT hZ (hw _ (List.mem_of_getElem? (i := 84) rfl))) (by decide) (backOf (W := 0) (rmTo l Z a0 hw [] ca cs kc n h15 n0 Zc19 I1 I2 I3 O17 f18 (hn : cs.length = n) (hb : n ≤ 4)) hZ (hw _ (List.mem_of_getElem? (i := 84) rfl)) (hw _ (List.mem_of_getElem? (i := 39) rfl)) (by decide) (by decide)) (g := (mkF m 23 #[.val (.ref ca), .val (.int (0 : Int32)), .val (.int (Int32.ofNat n)), .val (.ref b11), .val (.int (Int32.ofNat i_)), .unset] [(.int (Int32.ofNat n)), (.int (0 : Int32)), (.ref ca)])) rfl (by rw [hml]; rfl) (argsL := [(.ref ca), (.int (0 : Int32)), (.int (Int32.ofNat n))]) (rest := []) (lenOf pd___CII__B rfl) rfl (by show 2 * 0 + _ ≤ _; exact Nat.le_of_eq rfl) (Jvm.hb hby d_jdk_52_method_16_23) (fun _ _ => ⟨rfl, e15, (by decide : 1 + 1 ≤ _), (by decide : 4 + 8 ≤ _)⟩)
    dsimp only [Pt.U, Pt.locs, Pt.cells, Pt.slots] at X20 l20 y20 z20 st20 hQ20
    subst l20 y20 z20
    obtain ⟨b_20, kb_20, rfl, N20q, K20, Fq20_0, P20_0⟩ := hQ20
    have N20 := Fr.app N15 N20q
    obtain ⟨h20, e20⟩ : ∃ z, T20.heap = z := ⟨_, rfl⟩
    rw [e20] at K20 Fq20_0
    have z21 : h15.size ≤ h20.size := K20.1
    have lt20_0 : @LT.lt Nat _ b_20 h20.size := Fq20_0.lt
    have O22 : Old Z n0 h20 := (O17.keep K20 all0)
    have Zc23 : n0 ≤ h20.size := by omega
    obtain ⟨_, _, ⟨T24, L24, k24, n24⟩, -, X24, ⟨Lc24, hQ24, l24, y24, z24⟩, st24⟩ := Jvm.LawKit.callS X20 hx (y := (⟨"java/lang/StringUTF16", "getChar", "([BI)C"⟩ : MethodName)) hown (mvT hZ (hw _ (List.mem_of_getElem? (i := 98) rfl))) (mvT hZ (hw _ (List.mem_of_getElem? (i := 99) rfl))) (mvT hZ (hw _ (List.mem_of_getElem? (i := 39) rfl))) (mvT hZ (hw _ (List.mem_of_getElem? (i := 100) rfl))) (by decide) (backOf (W := 0) (rmGet l Z a0 hw [] b_20 kb_20 (own_wide cs) n i_ (cs.getD i_ 0) h20 n0 Zc23 I1 I2 I3 O22 Fq20_0 (hb : n ≤ 4) hi_ (own_wide0 _ cs i_ (by omega)) (own_wide1 _ cs i_ (by omega)) (hchs _ (own_mem cs i_ (by omega))).1 (hchs _ (own_mem cs i_ (by omega))).2) hZ (hw _ (List.mem_of_getElem? (i := 100) rfl)) (hw _ (List.mem_of_getElem? (i := 39) rfl)) (by decide) (by decide)) (g := (mkF m 32 #[.val (.ref ca), .val (.int (0 : Int32)), .val (.int (Int32.ofNat n)), .val (.ref b11), .val (.int (Int32.ofNat i_)), .val (.ref b_20)] [(.int (Int32.ofNat i_)), (.ref b_20)])) rfl (by rw [hml]; rfl) (argsL := [(.ref b_20), (.int (Int32.ofNat i_))]) (rest := []) (lenOf pd___BI_C rfl) rfl (by show 2 * 0 + _ ≤ _; exact Nat.le_of_eq rfl) (Jvm.hb hby d_jdk_52_method_16_32) (fun _ _ => ⟨rfl, e20, (by decide : 2 + 0 ≤ _), (by decide : 12 + 0 ≤ _)⟩)
    dsimp only [Pt.U, Pt.locs, Pt.cells, Pt.slots] at X24 l24 y24 z24 st24 hQ24
    subst l24 y24 z24
    obtain ⟨rfl, N24q, e24⟩ := hQ24
    have N24 := Fr.app N20 N24q
    have s25 : ∀ t_, Steps p.tables e below (T24.setTop (mkF m 56 #[.val (.ref ca), .val (.int (0 : Int32)), .val (.int (Int32.ofNat n)), .val (.ref b11), .val (.int (Int32.ofNat i_)), .val (.ref b_20)] [(.ref b_20)])) t_ → Steps p.tables e below (s₁.setTop (entryFrame m #[(.ref ca), (.int (0 : Int32)), (.int (Int32.ofNat n))] 6)) t_ := fun t_ k_ => s10 t_ (by
      show Steps p.tables e below (s₁.setTop (mkF m 0 #[.val (.ref ca), .val (.int (0 : Int32)), .val (.int (Int32.ofNat n)), .unset, .unset, .unset] [])) t_
      refine XS.iloadN X0.here hx rfl (Jvm.hb hby d_jdk_52_method_16_0) rfl ?_
      show Steps p.tables e below (s₁.setTop (mkF m 1 #[.val (.ref ca), .val (.int (0 : Int32)), .val (.int (Int32.ofNat n)), .unset, .unset, .unset] [(.int (Int32.ofNat n))])) _
      refine st11 _ ?_
      show Steps p.tables e below (T11.setTop (mkF m 3 #[.val (.ref ca), .val (.int (0 : Int32)), .val (.int (Int32.ofNat n)), .unset, .unset, .unset] [(.ref b11)])) _
      refine XS.astoreN X11.here hx rfl (Jvm.hb hby d_jdk_52_method_16_3) rfl rfl (l' := #[.val (.ref ca), .val (.int (0 : Int32)), .val (.int (Int32.ofNat n)), .val (.ref b11), .unset, .unset]) rfl ?_
      show Steps p.tables e below (T11.setTop (mkF m 4 #[.val (.ref ca), .val (.int (0 : Int32)), .val (.int (Int32.ofNat n)), .val (.ref b11), .unset, .unset] [])) _
      refine XS.aloadN X11.here hx rfl (Jvm.hb hby d_jdk_52_method_16_4) rfl rfl ?_
      show Steps p.tables e below (T11.setTop (mkF m 5 #[.val (.ref ca), .val (.int (0 : Int32)), .val (.int (Int32.ofNat n)), .val (.ref b11), .unset, .unset] [(.ref ca)])) _
      refine XS.iloadN X11.here hx rfl (Jvm.hb hby d_jdk_52_method_16_5) rfl ?_
      show Steps p.tables e below (T11.setTop (mkF m 6 #[.val (.ref ca), .val (.int (0 : Int32)), .val (.int (Int32.ofNat n)), .val (.ref b11), .unset, .unset] [(.int (0 : Int32)), (.ref ca)])) _
      refine XS.aloadN X11.here hx rfl (Jvm.hb hby d_jdk_52_method_16_6) rfl rfl ?_
      show Steps p.tables e below (T11.setTop (mkF m 7 #[.val (.ref ca), .val (.int (0 : Int32)), .val (.int (Int32.ofNat n)), .val (.ref b11), .unset, .unset] [(.ref b11), (.int (0 : Int32)), (.ref ca)])) _
      refine XS.iconst X11.here hx rfl (Jvm.hb hby d_jdk_52_method_16_7) ?_
      show Steps p.tables e below (T11.setTop (mkF m 8 #[.val (.ref ca), .val (.int (0 : Int32)), .val (.int (Int32.ofNat n)), .val (.ref b11), .unset, .unset] [(.int (0 : Int32)), (.ref b11), (.int (0 : Int32)), (.ref ca)])) _
      refine XS.iloadN X11.here hx rfl (Jvm.hb hby d_jdk_52_method_16_8) rfl ?_
      show Steps p.tables e below (T11.setTop (mkF m 9 #[.val (.ref ca), .val (.int (0 : Int32)), .val (.int (Int32.ofNat n)), .val (.ref b11), .unset, .unset] [(.int (Int32.ofNat n)), (.int (0 : Int32)), (.ref b11), (.int (0 : Int32)), (.ref ca)])) _
      refine st15 _ ?_
      show Steps p.tables e below (T15.setTop (mkF m 12 #[.val (.ref ca), .val (.int (0 : Int32)), .val (.int (Int32.ofNat n)), .val (.ref b11), .unset, .unset] [(.int (Int32.ofNat i_))])) _
      refine XS.istore X15.here hx rfl (Jvm.hb hby d_jdk_52_method_16_12) rfl (l' := #[.val (.ref ca), .val (.int (0 : Int32)), .val (.int (Int32.ofNat n)), .val (.ref b11), .val (.int (Int32.ofNat i_)), .unset]) rfl ?_
      show Steps p.tables e below (T15.setTop (mkF m 14 #[.val (.ref ca), .val (.int (0 : Int32)), .val (.int (Int32.ofNat n)), .val (.ref b11), .val (.int (Int32.ofNat i_)), .unset] [])) _
      refine XS.iload X15.here hx rfl (Jvm.hb hby d_jdk_52_method_16_14) rfl ?_
      show Steps p.tables e below (T15.setTop (mkF m 16 #[.val (.ref ca), .val (.int (0 : Int32)), .val (.int (Int32.ofNat n)), .val (.ref b11), .val (.int (Int32.ofNat i_)), .unset] [(.int (Int32.ofNat i_))])) _
      refine XS.iloadN X15.here hx rfl (Jvm.hb hby d_jdk_52_method_16_16) rfl ?_
      show Steps p.tables e below (T15.setTop (mkF m 17 #[.val (.ref ca), .val (.int (0 : Int32)), .val (.int (Int32.ofNat n)), .val (.ref b11), .val (.int (Int32.ofNat i_)), .unset] [(.int (Int32.ofNat n)), (.int (Int32.ofNat i_))])) _
      refine XS.icmpNo X15.here hx rfl (Jvm.hb hby d_jdk_52_method_16_17) rfl (feq (fun e => by have := own_inj (by omega) (by omega) e; omega)).1 ?_
      show Steps p.tables e below (T15.setTop (mkF m 20 #[.val (.ref ca), .val (.int (0 : Int32)), .val (.int (Int32.ofNat n)), .val (.ref b11), .val (.int (Int32.ofNat i_)), .unset] [])) _
      refine XS.aloadN X15.here hx rfl (Jvm.hb hby d_jdk_52_method_16_20) rfl rfl ?_
      show Steps p.tables e below (T15.setTop (mkF m 21 #[.val (.ref ca), .val (.int (0 : Int32)), .val (.int (Int32.ofNat n)), .val (.ref b11), .val (.int (Int32.ofNat i_)), .unset] [(.ref ca)])) _
      refine XS.iloadN X15.here hx rfl (Jvm.hb hby d_jdk_52_method_16_21) rfl ?_
      show Steps p.tables e below (T15.setTop (mkF m 22 #[.val (.ref ca), .val (.int (0 : Int32)), .val (.int (Int32.ofNat n)), .val (.ref b11), .val (.int (Int32.ofNat i_)), .unset] [(.int (0 : Int32)), (.ref ca)])) _
      refine XS.iloadN X15.here hx rfl (Jvm.hb hby d_jdk_52_method_16_22) rfl ?_
      show Steps p.tables e below (T15.setTop (mkF m 23 #[.val (.ref ca), .val (.int (0 : Int32)), .val (.int (Int32.ofNat n)), .val (.ref b11), .val (.int (Int32.ofNat i_)), .unset] [(.int (Int32.ofNat n)), (.int (0 : Int32)), (.ref ca)])) _
      refine st20 _ ?_
      show Steps p.tables e below (T20.setTop (mkF m 26 #[.val (.ref ca), .val (.int (0 : Int32)), .val (.int (Int32.ofNat n)), .val (.ref b11), .val (.int (Int32.ofNat i_)), .unset] [(.ref b_20)])) _
      refine XS.astore X20.here hx rfl (Jvm.hb hby d_jdk_52_method_16_26) rfl rfl (l' := #[.val (.ref ca), .val (.int (0 : Int32)), .val (.int (Int32.ofNat n)), .val (.ref b11), .val (.int (Int32.ofNat i_)), .val (.ref b_20)]) rfl ?_
      show Steps p.tables e below (T20.setTop (mkF m 28 #[.val (.ref ca), .val (.int (0 : Int32)), .val (.int (Int32.ofNat n)), .val (.ref b11), .val (.int (Int32.ofNat i_)), .val (.ref b_20)] [])) _
      refine XS.aload X20.here hx rfl (Jvm.hb hby d_jdk_52_method_16_28) rfl rfl ?_
      show Steps p.tables e below (T20.setTop (mkF m 30 #[.val (.ref ca), .val (.int (0 : Int32)), .val (.int (Int32.ofNat n)), .val (.ref b11), .val (.int (Int32.ofNat i_)), .val (.ref b_20)] [(.ref b_20)])) _
      refine XS.iload X20.here hx rfl (Jvm.hb hby d_jdk_52_method_16_30) rfl ?_
      show Steps p.tables e below (T20.setTop (mkF m 32 #[.val (.ref ca), .val (.int (0 : Int32)), .val (.int (Int32.ofNat n)), .val (.ref b11), .val (.int (Int32.ofNat i_)), .val (.ref b_20)] [(.int (Int32.ofNat i_)), (.ref b_20)])) _
      refine st24 _ ?_
      show Steps p.tables e below (T24.setTop (mkF m 35 #[.val (.ref ca), .val (.int (0 : Int32)), .val (.int (Int32.ofNat n)), .val (.ref b11), .val (.int (Int32.ofNat i_)), .val (.ref b_20)] [(.int (cs.getD i_ 0))])) _
      refine XS.sipush X24.here hx rfl (Jvm.hb hby d_jdk_52_method_16_35) ?_
      show Steps p.tables e below (T24.setTop (mkF m 38 #[.val (.ref ca), .val (.int (0 : Int32)), .val (.int (Int32.ofNat n)), .val (.ref b11), .val (.int (Int32.ofNat i_)), .val (.ref b_20)] [(.int (255 : Int32)), (.int (cs.getD i_ 0))])) _
      refine XS.icmpYes X24.here hx rfl (pc0 := 38) (pc' := 54) rfl (Jvm.hb hby d_jdk_52_method_16_38) rfl (tlt hbad_).2.2.1 (by decide) (by decide) ?_
      show Steps p.tables e below (T24.setTop (mkF m 54 #[.val (.ref ca), .val (.int (0 : Int32)), .val (.int (Int32.ofNat n)), .val (.ref b11), .val (.int (Int32.ofNat i_)), .val (.ref b_20)] [])) _
      refine XS.aload X24.here hx rfl (Jvm.hb hby d_jdk_52_method_16_54) rfl rfl ?_
      show Steps p.tables e below (T24.setTop (mkF m 56 #[.val (.ref ca), .val (.int (0 : Int32)), .val (.int (Int32.ofNat n)), .val (.ref b11), .val (.int (Int32.ofNat i_)), .val (.ref b_20)] [(.ref b_20)])) _
      show Steps p.tables e below (T24.setTop (mkF m 56 #[.val (.ref ca), .val (.int (0 : Int32)), .val (.int (Int32.ofNat n)), .val (.ref b11), .val (.int (Int32.ofNat i_)), .val (.ref b_20)] [(.ref b_20)])) t_
      exact k_)
    obtain ⟨fs, hr, hrun, hended, hW, hsame⟩ := X24.leave (v := some (.ref b_20)) (fun h => by rw [Bd.returns] at h; cases h)
    refine ⟨_, _, s25 _ ?_, hrun, hended, _, _, rfl, ?_, ⟨_, rfl⟩, hW, hsame.mono (by decide) (by decide)⟩
    · show Steps p.tables e below (T24.setTop (mkF m 56 #[.val (.ref ca), .val (.int (0 : Int32)), .val (.int (Int32.ofNat n)), .val (.ref b11), .val (.int (Int32.ofNat i_)), .val (.ref b_20)] [(.ref b_20)])) _
      jvm_step X24.here [X24.here.top, hx, (Jvm.hb hby d_jdk_52_method_16_56), X24.method', Bd.returns, Value.isRef, FieldType.isReference]
      first | (intro acts; rw [hr _ acts rfl rfl rfl]) | rw [hr _ _ rfl rfl rfl]
      exact Steps.refl _
    · show Q_rmComp Z _ _ _ _ h0 n0 _ T24.heap _
      rw [e24]
      exact ⟨b_20, kb_20, rfl, N24, ((((Keep.refl h0 []).ext E11).trans K15 (allS (Or.inr (show h0.size ≤ b11 by omega)) all0)).trans K20 all0), (own_fixW h1 Fq20_0 hn), by omega⟩
theorem pn_java_lang_String : plainName "java/lang/String" = true := by first | (simp [plainName, overriddenIn]; done) | decide +kernel
theorem d_jdk_42_method_149_0 : decode jdk_42_method_149_code 0 = .ok (.aload_n 0, 1) := by decide +kernel
theorem d_jdk_42_method_149_1 : decode jdk_42_method_149_code 1 = .ok (.invokespecial 1, 3) := by decide +kernel
theorem d_jdk_42_method_149_4 : decode jdk_42_method_149_code 4 = .ok (.iload_n 3, 1) := by decide +kernel
theorem d_jdk_42_method_149_5 : decode jdk_42_method_149_code 5 = .ok (.ifCond .ne 22, 3) := by decide +kernel
theorem d_jdk_42_method_149_8 : decode jdk_42_method_149_code 8 = .ok (.aload_n 0, 1) := by decide +kernel
theorem d_jdk_42_method_149_9 : decode jdk_42_method_149_code 9 = .ok (.ldc 7, 2) := by decide +kernel
theorem d_jdk_42_method_149_11 : decode jdk_42_method_149_code 11 = .ok (.getfield 9, 3) := by decide +kernel
theorem d_jdk_42_method_149_14 : decode jdk_42_method_149_code 14 = .ok (.putfield 9, 3) := by decide +kernel
theorem d_jdk_42_method_149_17 : decode jdk_42_method_149_code 17 = .ok (.aload_n 0, 1) := by decide +kernel
theorem d_jdk_42_method_149_18 : decode jdk_42_method_149_code 18 = .ok (.ldc 7, 2) := by decide +kernel
theorem d_jdk_42_method_149_20 : decode jdk_42_method_149_code 20 = .ok (.getfield 15, 3) := by decide +kernel
theorem d_jdk_42_method_149_23 : decode jdk_42_method_149_code 23 = .ok (.putfield 15, 3) := by decide +kernel
theorem d_jdk_42_method_149_26 : decode jdk_42_method_149_code 26 = .ok (.return_, 1) := by decide +kernel
theorem d_jdk_42_method_149_27 : decode jdk_42_method_149_code 27 = .ok (.getstatic 38, 3) := by decide +kernel
theorem d_jdk_42_method_149_30 : decode jdk_42_method_149_code 30 = .ok (.ifCond .eq 28, 3) := by decide +kernel
theorem d_jdk_42_method_149_33 : decode jdk_42_method_149_code 33 = .ok (.aload_n 1, 1) := by decide +kernel
theorem d_jdk_42_method_149_34 : decode jdk_42_method_149_code 34 = .ok (.iload_n 2, 1) := by decide +kernel
theorem d_jdk_42_method_149_35 : decode jdk_42_method_149_code 35 = .ok (.iload_n 3, 1) := by decide +kernel
theorem d_jdk_42_method_149_36 : decode jdk_42_method_149_code 36 = .ok (.invokestatic 177, 3) := by decide +kernel
theorem d_jdk_42_method_149_39 : decode jdk_42_method_149_code 39 = .ok (.astore 5, 2) := by decide +kernel
theorem d_jdk_42_method_149_41 : decode jdk_42_method_149_code 41 = .ok (.aload_n 0, 1) := by decide +kernel
theorem d_jdk_42_method_149_42 : decode jdk_42_method_149_code 42 = .ok (.aload 5, 2) := by decide +kernel
theorem d_jdk_42_method_149_44 : decode jdk_42_method_149_code 44 = .ok (.iload_n 3, 1) := by decide +kernel
theorem pd___BI_B : parseMethodDescriptor "([BI)B" = some ⟨[(.array .byte), .int], some .byte⟩ := by decide +kernel
theorem d_jdk_42_method_149_45 : decode jdk_42_method_149_code 45 = .ok (.invokestatic 47, 3) := by decide +kernel
theorem d_jdk_42_method_149_48 : decode jdk_42_method_149_code 48 = .ok (.putfield 15, 3) := by decide +kernel
theorem d_jdk_42_method_149_51 : decode jdk_42_method_149_code 51 = .ok (.aload_n 0, 1) := by decide +kernel
theorem d_jdk_42_method_149_52 : decode jdk_42_method_149_code 52 = .ok (.aload 5, 2) := by decide +kernel
theorem d_jdk_42_method_149_54 : decode jdk_42_method_149_code 54 = .ok (.putfield 9, 3) := by decide +kernel
theorem d_jdk_42_method_149_57 : decode jdk_42_method_149_code 57 = .ok (.return_, 1) := by decide +kernel
theorem ef_rmIni4 (m : MethodId) (x0 : Addr) (x1 : Addr) (x2 : Int32) (x3 : Int32) : entryFrame m #[(.ref x0), (.ref x1), (.int x2), (.int x3), .null] 6 = mkF m 0 #[.val (.ref x0), .val (.ref x1), .val (.int x2), .val (.int x3), .val .null, .unset] [] := by first | (simp [entryFrame, mkF, argsToLocals, Value.category]; done) | rfl
def Q_rmIni4 (Z : State) (a : Addr) (ca : Addr) (cst : Int32) (cs : List Int32) (kc : ClassId) (n : Nat) (h0 : Heap) (n0 : Nat) (v : Option Value) (h : Heap) (L : List Loc) : Prop := ∃ (b : Addr), ∃ (kb : ClassId), (v = none) ∧ (Fr n0 L) ∧ (Keep h0 h [a]) ∧ (Exa Z h a "java/lang/String") ∧ (Fld Z h a "java/lang/String" "value" "[B" (.ref b)) ∧ (Fld Z h a "java/lang/String" "coder" "B" (.int (own_cod cs))) ∧ (Arv Z h b kb .byte (Int32.ofNat (own_enl cs)) (own_enc cs) (.int (0 : Int32)))
set_option maxRecDepth 65536 in
set_option maxHeartbeats 40000000 in
theorem rmIni4 (l : Launch) (Z : State) (a0 : Array Value) (hw : ∀ d ∈ tables_1, d.before a0 Z = true) (ws : List Jvm.Cond) (a : Addr) (ca : Addr) (cst : Int32) (cs : List Int32) (kc : ClassId) (n : Nat) (h0 : Heap) (n0 : Nat) (Z0 : n0 ≤ h0.size) (I1 : Sta Z Z.heap "java/lang/String" "COMPACT_STRINGS" "Z" (.int cst)) (I2 : Sta Z Z.heap "java/lang/StringUTF16" "$assertionsDisabled" "Z" (.int (1 : Int32))) (I3 : Sta Z Z.heap "java/lang/StringUTF16" "HI_BYTE_SHIFT" "I" (.int (0 : Int32))) (I4 : Sta Z Z.heap "java/lang/StringUTF16" "LO_BYTE_SHIFT" "I" (.int (8 : Int32))) (OX : Old Z n0 h0) (hcst : ¬ (cst = (0 : Int32))) (I5 : Exa Z h0 a "java/lang/String") (I6 : Fld Z h0 a "java/lang/String" "value" "[B" .null) (I7 : Fld Z h0 a "java/lang/String" "coder" "B" (.int (0 : Int32))) (I8 : Arv Z h0 ca kc .char (Int32.ofNat n) (cs.map Value.int) (.int (0 : Int32))) (hn : cs.length = n) (hb : n ≤ 4) (hchs : own_chs cs) (ga : n0 ≤ a) (hac : @Ne Nat a ca) :
    MetFree l (⟨"java/lang/String", "<init>", "([CIILjava/lang/Void;)V"⟩ : MethodName) (head1 (Jvm.Cond.code (⟨"java/lang/String", "<init>", "([CIILjava/lang/Void;)V"⟩ : MethodName) jdk_42_method_149_code 6 none :: ws) ({ frames := 4, cells := 4, slots := 12, locals := 57 } : Room)) (fun ar_ U => ar_ = #[(.ref a), (.ref ca), (.int (0 : Int32)), (.int (Int32.ofNat n)), .null] ∧ Z.Warmed39 U.vm ∧ U.heap = h0 ∧ CHv Z ELs U.vm h0) (fun _ _ _ _ _ => True) (fun _ U o U' => ∃ v L, o = .returned v ∧ Q_rmIni4 Z a ca cst cs kc n h0 n0 v U'.heap L ∧ CHr Z ELs U.vm U.heap U'.vm U'.heap ∧ ReturnedEndW U o U' L ({ frames := 4, cells := 4, slots := 12, locals := 57 } : Room).cells ({ frames := 4, cells := 4, slots := 12, locals := 57 } : Room).slots) := by
  refine MetFree.of_bodySF (plainFor_of_name pn_java_lang_String) hisR ?_
  intro p e s m args below meth c s₁ Bd hml0 hP hK
  obtain ⟨rfl, hZ, hh, hCH⟩ := hP
  have hx := Bd.exec
  have hby := Bd.bytes
  have hml : c.maxLocals = 6 := hml0
  have hown : s.vm.findClass "java/lang/String" = some m.cls := findClass_of_methodNamed Bd.named
  have hnm := (name_of_methodNamed Bd.named Bd.method).1
  have X0 : Stand p l e ({ frames := 4, cells := 4, slots := 12, locals := 57 } : Room) (s.setVm s.vm) m #[(.ref a), (.ref ca), (.int (0 : Int32)), (.int (Int32.ofNat n)), .null] below meth c s₁ [] 0 0 := Stand.of_body Bd
  have e0 : s₁.heap = h0 := by rw [← hh, Bd.state]; rfl
  have N0 := Fr.nil n0
  have pre0 : ∀ t_, Steps p.tables e below (s₁.setTop (mkF m 0 #[.val (.ref a), .val (.ref ca), .val (.int (0 : Int32)), .val (.int (Int32.ofNat n)), .val .null, .unset] [])) t_ → Steps p.tables e below (s₁.setTop (entryFrame m #[(.ref a), (.ref ca), (.int (0 : Int32)), (.int (Int32.ofNat n)), .null] 6)) t_ := fun t_ k_ => castTop (ef_rmIni4 m a ca (0 : Int32) (Int32.ofNat n)) k_
  have hEL : EW Z a0 ELs := own_EW hw
  have wS : ∀ a ∈ Bundle.stringAtoms, a.before a0 Z = true := own_wS hw
  have hS : s.Since s.vm s.heap.size := (State.WarmedH.refl s).since _
  have hk : s.heap.size ≤ h0.size := by rw [hh]; exact Nat.le_refl _
  have CR : CHr Z ELs s.vm h0 s.vm h0 := CHr.refl hCH
  have lt_I5 : @LT.lt Nat _ a h0.size := I5.lt
  have lt_I6 : @LT.lt Nat _ a h0.size := I6.lt
  have lt_I7 : @LT.lt Nat _ a h0.size := I7.lt
  have lt_I8 : @LT.lt Nat _ ca h0.size := I8.lt
  obtain ⟨T1, X1, e1, st1⟩ := initO X0 hx hZ hown (hw _ (List.mem_of_getElem? (i := 16) rfl)) (hw _ (List.mem_of_getElem? (i := 17) rfl)) (hw _ (List.mem_of_getElem? (i := 18) rfl)) e0 (g := (mkF m 1 #[.val (.ref a), .val (.ref ca), .val (.int (0 : Int32)), .val (.int (Int32.ofNat n)), .val .null, .unset] [(.ref a)])) rfl (by rw [hml]; rfl) rfl (Jvm.hb hby d_jdk_42_method_149_1) (by decide) (W := 0) (by show 2 * 0 + _ ≤ _; exact Nat.le_of_eq rfl) (by decide)
  have s2 : ∀ t_, Steps p.tables e below (T1.setTop (mkF m 5 #[.val (.ref a), .val (.ref ca), .val (.int (0 : Int32)), .val (.int (Int32.ofNat n)), .val .null, .unset] [(.int (Int32.ofNat n))])) t_ → Steps p.tables e below (s₁.setTop (entryFrame m #[(.ref a), (.ref ca), (.int (0 : Int32)), (.int (Int32.ofNat n)), .null] 6)) t_ := fun t_ k_ => pre0 t_ (by
    show Steps p.tables e below (s₁.setTop (mkF m 0 #[.val (.ref a), .val (.ref ca), .val (.int (0 : Int32)), .val (.int (Int32.ofNat n)), .val .null, .unset] [])) t_
    refine XS.aloadN X0.here hx rfl (Jvm.hb hby d_jdk_42_method_149_0) rfl rfl ?_
    show Steps p.tables e below (s₁.setTop (mkF m 1 #[.val (.ref a), .val (.ref ca), .val (.int (0 : Int32)), .val (.int (Int32.ofNat n)), .val .null, .unset] [(.ref a)])) _
    refine st1 _ ?_
    show Steps p.tables e below (T1.setTop (mkF m 4 #[.val (.ref a), .val (.ref ca), .val (.int (0 : Int32)), .val (.int (Int32.ofNat n)), .val .null, .unset] [])) _
    refine XS.iloadN X1.here hx rfl (Jvm.hb hby d_jdk_42_method_149_4) rfl ?_
    show Steps p.tables e below (T1.setTop (mkF m 5 #[.val (.ref a), .val (.ref ca), .val (.int (0 : Int32)), .val (.int (Int32.ofNat n)), .val .null, .unset] [(.int (Int32.ofNat n))])) _
    show Steps p.tables e below (T1.setTop (mkF m 5 #[.val (.ref a), .val (.ref ca), .val (.int (0 : Int32)), .val (.int (Int32.ofNat n)), .val .null, .unset] [(.int (Int32.ofNat n))])) t_
    exact k_)
  by_cases h3 : (Int32.ofNat n) = (0 : Int32)
  · have s5 : ∀ t_, Steps p.tables e below (T1.setTop (mkF m 9 #[.val (.ref a), .val (.ref ca), .val (.int (0 : Int32)), .val (.int (Int32.ofNat n)), .val .null, .unset] [(.ref a)])) t_ → Steps p.tables e below (s₁.setTop (entryFrame m #[(.ref a), (.ref ca), (.int (0 : Int32)), (.int (Int32.ofNat n)), .null] 6)) t_ := fun t_ k_ => s2 t_ (by
      show Steps p.tables e below (T1.setTop (mkF m 5 #[.val (.ref a), .val (.ref ca), .val (.int (0 : Int32)), .val (.int (Int32.ofNat n)), .val .null, .unset] [(.int (Int32.ofNat n))])) t_
      refine XS.ifNo X1.here hx rfl (Jvm.hb hby d_jdk_42_method_149_5) rfl ((if0 _ _).trans (teq h3).2) ?_
      show Steps p.tables e below (T1.setTop (mkF m 8 #[.val (.ref a), .val (.ref ca), .val (.int (0 : Int32)), .val (.int (Int32.ofNat n)), .val .null, .unset] [])) _
      refine XS.aloadN X1.here hx rfl (Jvm.hb hby d_jdk_42_method_149_8) rfl rfl ?_
      show Steps p.tables e below (T1.setTop (mkF m 9 #[.val (.ref a), .val (.ref ca), .val (.int (0 : Int32)), .val (.int (Int32.ofNat n)), .val .null, .unset] [(.ref a)])) _
      show Steps p.tables e below (T1.setTop (mkF m 9 #[.val (.ref a), .val (.ref ca), .val (.int (0 : Int32)), .val (.int (Int32.ofNat n)), .val .null, .unset] [(.ref a)])) t_
      exact k_)
    obtain ⟨a4, T4, h4, k4, b4, kk4, X4, e4, E4, hS, hk, hZ, hown, Ex4, Fc4, Fv4, Av4, la4, lb4, Cp4, Li4, Sa4, st4⟩ := ldcCH X1 hx hZ hown (hw _ (List.mem_of_getElem? (i := 19) rfl)) wS e1 hS hk hEL (List.mem_of_getElem? (i := 0) rfl) CR.1 (vs := []) (z := (0 : Int32)) ⟨by decide, by decide⟩ (by decide) rfl (g := (mkF m 9 #[.val (.ref a), .val (.ref ca), .val (.int (0 : Int32)), .val (.int (Int32.ofNat n)), .val .null, .unset] [(.ref a)])) rfl (Jvm.hb hby d_jdk_42_method_149_9) (n := 0) (by decide) (by decide) (by decide) (by decide)
    have z6 : h0.size ≤ h4.size := E4.1
    have CR := CR.trans Cp4
    obtain ⟨T7, X7, e7, st7⟩ := getF X4 hx hZ hown (host := "") (Or.inl (hw _ (List.mem_of_getElem? (i := 25) rfl))) Via.refl e4 Fv4 (g := (mkF m 11 #[.val (.ref a), .val (.ref ca), .val (.int (0 : Int32)), .val (.int (Int32.ofNat n)), .val .null, .unset] [(.ref a4), (.ref a)])) rfl rfl (Jvm.hb hby d_jdk_42_method_149_11)
    have f8 : Exa Z h4 a "java/lang/String" := (I5.ext E4)
    have f9 : Fld Z h4 a "java/lang/String" "value" "[B" .null := (I6.ext E4)
    obtain ⟨T10, h10, X10, e10, W10, st10⟩ := putF X7 hx hZ hown (host := "") (Or.inl (hw _ (List.mem_of_getElem? (i := 25) rfl))) Via.refl e7 f9 f8 (Or.inr ⟨(hw _ (List.mem_of_getElem? (i := 21) rfl)), rfl, hnm⟩) (hw _ (List.mem_of_getElem? (i := 6) rfl)) (ty := (.array .byte)) (by decide) rfl rfl (g := (mkF m 14 #[.val (.ref a), .val (.ref ca), .val (.int (0 : Int32)), .val (.int (Int32.ofNat n)), .val .null, .unset] [(.ref b4), (.ref a)])) rfl rfl (Jvm.hb hby d_jdk_42_method_149_14)
    have Sf12 : Safe Z ELs T4.vm h4 a := own_safeN hZ.alike f8 f9
    have z11 : h4.size ≤ h10.size := Nat.le_of_eq W10.size.symm
    have Cp11 : CHr Z ELs T4.vm h4 T4.vm h10 := CHr.wr W10 Sf12 CR.1
    have hk := Nat.le_trans hk z11
    have CR := CR.trans Cp11
    have F10 : Fld Z h10 a "java/lang/String" "value" "[B" (.ref b4) := f9.same W10
    have N10 := Fr.snoc X10 N0 (show n0 ≤ a by omega)
    have s14 : ∀ t_, Steps p.tables e below (T10.setTop (mkF m 18 #[.val (.ref a), .val (.ref ca), .val (.int (0 : Int32)), .val (.int (Int32.ofNat n)), .val .null, .unset] [(.ref a)])) t_ → Steps p.tables e below (s₁.setTop (entryFrame m #[(.ref a), (.ref ca), (.int (0 : Int32)), (.int (Int32.ofNat n)), .null] 6)) t_ := fun t_ k_ => s5 t_ (by
      show Steps p.tables e below (T1.setTop (mkF m 9 #[.val (.ref a), .val (.ref ca), .val (.int (0 : Int32)), .val (.int (Int32.ofNat n)), .val .null, .unset] [(.ref a)])) t_
      refine st4 _ ?_
      show Steps p.tables e below (T4.setTop (mkF m 11 #[.val (.ref a), .val (.ref ca), .val (.int (0 : Int32)), .val (.int (Int32.ofNat n)), .val .null, .unset] [(.ref a4), (.ref a)])) _
      refine st7 _ ?_
      show Steps p.tables e below (T7.setTop (mkF m 14 #[.val (.ref a), .val (.ref ca), .val (.int (0 : Int32)), .val (.int (Int32.ofNat n)), .val .null, .unset] [(.ref b4), (.ref a)])) _
      refine st10 _ ?_
      show Steps p.tables e below (T10.setTop (mkF m 17 #[.val (.ref a), .val (.ref ca), .val (.int (0 : Int32)), .val (.int (Int32.ofNat n)), .val .null, .unset] [])) _
      refine XS.aloadN X10.here hx rfl (Jvm.hb hby d_jdk_42_method_149_17) rfl rfl ?_
      show Steps p.tables e below (T10.setTop (mkF m 18 #[.val (.ref a), .val (.ref ca), .val (.int (0 : Int32)), .val (.int (Int32.ofNat n)), .val .null, .unset] [(.ref a)])) _
      show Steps p.tables e below (T10.setTop (mkF m 18 #[.val (.ref a), .val (.ref ca), .val (.int (0 : Int32)), .val (.int (Int32.ofNat n)), .val .null, .unset] [(.ref a)])) t_
      exact k_)
    obtain ⟨a13, T13, h13, k13, b13, kk13, X13, e13, E13, hS, hk, hZ, hown, Ex13, Fc13, Fv13, Av13, la13, lb13, Cp13, Li13, Sa13, st13⟩ := ldcCH X10 hx hZ hown (hw _ (List.mem_of_getElem? (i := 19) rfl)) wS e10 hS hk hEL (List.mem_of_getElem? (i := 0) rfl) CR.1 (vs := []) (z := (0 : Int32)) ⟨by decide, by decide⟩ (by decide) rfl (g := (mkF m 18 #[.val (.ref a), .val (.ref ca), .val (.int (0 : Int32)), .val (.int (Int32.ofNat n)), .val .null, .unset] [(.ref a)])) rfl (Jvm.hb hby d_jdk_42_method_149_18) (n := 0) (by decide) (by decide) (by decide) (by decide)
    have z15 : h10.size ≤ h13.size := E13.1
    have CR := CR.trans Cp13
    obtain ⟨T16, X16, e16, st16⟩ := getF X13 hx hZ hown (host := "") (Or.inl (hw _ (List.mem_of_getElem? (i := 26) rfl))) Via.refl e13 Fc13 (g := (mkF m 20 #[.val (.ref a), .val (.ref ca), .val (.int (0 : Int32)), .val (.int (Int32.ofNat n)), .val .null, .unset] [(.ref a13), (.ref a)])) rfl rfl (Jvm.hb hby d_jdk_42_method_149_20)
    have f17 : Exa Z h13 a "java/lang/String" := ((f8.wr W10).ext E13)
    have f18 : Fld Z h13 a "java/lang/String" "coder" "B" (.int (0 : Int32)) := (((I7.ext E4).other W10 (Or.inr (slot_ne (Or.inr (hw _ (List.mem_of_getElem? (i := 22) rfl))) (Or.inr (hw _ (List.mem_of_getElem? (i := 21) rfl))) (by decide) (t := .byte) (t' := (.array .byte)) (by decide) (by decide)))).ext E13)
    obtain ⟨T19, h19, X19, e19, W19, st19⟩ := putFN X16 hx hZ hown (hw _ (List.mem_of_getElem? (i := 26) rfl)) Via.refl e16 f18 f17 (Or.inr ⟨(hw _ (List.mem_of_getElem? (i := 22) rfl)), rfl, hnm⟩) (hw _ (List.mem_of_getElem? (i := 6) rfl)) (ty := .byte) (v' := (.int (0 : Int32))) (by decide) rfl rfl (g := (mkF m 23 #[.val (.ref a), .val (.ref ca), .val (.int (0 : Int32)), .val (.int (Int32.ofNat n)), .val .null, .unset] [(.int (0 : Int32)), (.ref a)])) rfl rfl (Jvm.hb hby d_jdk_42_method_149_23)
    have Sf21 : Safe Z ELs T13.vm h13 a := (Cp13.safe (show @LT.lt Nat _ a h10.size by omega) (Cp11.safe (show @LT.lt Nat _ a h4.size by omega) Sf12))
    have z20 : h13.size ≤ h19.size := Nat.le_of_eq W19.size.symm
    have Cp20 : CHr Z ELs T13.vm h13 T13.vm h19 := CHr.wr W19 Sf21 CR.1
    have hk := Nat.le_trans hk z20
    have CR := CR.trans Cp20
    have F19 : Fld Z h19 a "java/lang/String" "coder" "B" (.int (0 : Int32)) := f18.same W19
    have N19 := Fr.snoc X19 N10 (show n0 ≤ a by omega)
    have s22 : ∀ t_, Steps p.tables e below (T19.setTop (mkF m 26 #[.val (.ref a), .val (.ref ca), .val (.int (0 : Int32)), .val (.int (Int32.ofNat n)), .val .null, .unset] [])) t_ → Steps p.tables e below (s₁.setTop (entryFrame m #[(.ref a), (.ref ca), (.int (0 : Int32)), (.int (Int32.ofNat n)), .null] 6)) t_ := fun t_ k_ => s14 t_ (by
      show Steps p.tables e below (T10.setTop (mkF m 18 #[.val (.ref a), .val (.ref ca), .val (.int (0 : Int32)), .val (.int (Int32.ofNat n)), .val .null, .unset] [(.ref a)])) t_
      refine st13 _ ?_
      show Steps p.tables e below (T13.setTop (mkF m 20 #[.val (.ref a), .val (.ref ca), .val (.int (0 : Int32)), .val (.int (Int32.ofNat n)), .val .null, .unset] [(.ref a13), (.ref a)])) _
      refine st16 _ ?_
      show Steps p.tables e below (T16.setTop (mkF m 23 #[.val (.ref a), .val (.ref ca), .val (.int (0 : Int32)), .val (.int (Int32.ofNat n)), .val .null, .unset] [(.int (0 : Int32)), (.ref a)])) _
      refine st19 _ ?_
      show Steps p.tables e below (T19.setTop (mkF m 26 #[.val (.ref a), .val (.ref ca), .val (.int (0 : Int32)), .val (.int (Int32.ofNat n)), .val .null, .unset] [])) _
      show Steps p.tables e below (T19.setTop (mkF m 26 #[.val (.ref a), .val (.ref ca), .val (.int (0 : Int32)), .val (.int (Int32.ofNat n)), .val .null, .unset] [])) t_
      exact k_)
    obtain ⟨fs, hr, hrun, hended, hREW⟩ := X19.leaveW hS (by first | exact Nat.le_refl _ | (rw [e19]; exact hk)) (v := none) (fun _ => rfl)
    have hnil : cs = [] := List.eq_nil_of_length_eq_zero (hn.trans (own_inj (n := 0) (by omega) (by decide) h3))
    have F23 : Fld Z h19 a "java/lang/String" "coder" "B" (.int (own_cod cs)) := by have q := F19; rw [← own_cod0 (cs := cs) (by rw [hnil]; exact own_lat0)] at q; exact q
    have f24 : Arv Z h19 b4 kk4 .byte (0 : Int32) [] (.int (0 : Int32)) := (((Av4.other W10 (Ne.symm (Exa.neArv f8 Av4 (hw _ (List.mem_of_getElem? (i := 6) rfl))))).ext E13).other W19 (Ne.symm (Exa.neArv f17 ((Av4.other W10 (Ne.symm (Exa.neArv f8 Av4 (hw _ (List.mem_of_getElem? (i := 6) rfl))))).ext E13) (hw _ (List.mem_of_getElem? (i := 6) rfl)))))
    have f25 : Exa Z h19 a "java/lang/String" := (f17.wr W19)
    have f26 : Fld Z h19 a "java/lang/String" "value" "[B" (.ref b4) := ((F10.ext E13).other W19 (Or.inr (slot_ne (Or.inr (hw _ (List.mem_of_getElem? (i := 21) rfl))) (Or.inr (hw _ (List.mem_of_getElem? (i := 22) rfl))) (by decide) (t := (.array .byte)) (t' := .byte) (by decide) (by decide))))
    refine ⟨_, _, s22 _ ?_, hrun, hended, _, _, rfl, ?_, (by show CHr Z ELs s.vm s.heap T19.vm T19.heap; rw [hh, e19]; exact CR.trans (CHv.at X19 hZ hEL CR.1)), hREW.1, hREW.2.1, hREW.2.2.1, hREW.2.2.2.mono (by decide) (by decide)⟩
    · show Steps p.tables e below (T19.setTop (mkF m 26 #[.val (.ref a), .val (.ref ca), .val (.int (0 : Int32)), .val (.int (Int32.ofNat n)), .val .null, .unset] [])) _
      exact X19.returnOut hx Bd.returns (Jvm.hb hby d_jdk_42_method_149_26) hr
    · show Q_rmIni4 Z _ _ _ _ _ _ h0 n0 _ T19.heap _
      rw [e19]
      exact ⟨b4, kk4, rfl, N19, (((((Keep.refl h0 [a]).ext E4).wr W10 (Or.inl (by simp))).ext E13).wr W19 (Or.inl (by simp))), f25, f26, F23, (own_fix0 hnil f24)⟩
  · obtain ⟨T27, X27, e27, st27⟩ := getS2 X1 hx hZ hown (host := "") (Or.inl (hw _ (List.mem_of_getElem? (i := 36) rfl))) Via.refl e1 (I1.ext OX.2) (g := (mkF m 27 #[.val (.ref a), .val (.ref ca), .val (.int (0 : Int32)), .val (.int (Int32.ofNat n)), .val .null, .unset] [])) rfl (Jvm.hb hby d_jdk_42_method_149_27)
    have Zc28 : n0 ≤ h0.size := by omega
    obtain ⟨_, _, ⟨T29, L29, k29, n29⟩, -, X29, ⟨Lc29, hQ29, l29, y29, z29⟩, st29⟩ := Jvm.LawKit.callS X27 hx (y := (⟨"java/lang/StringUTF16", "compress", "([CII)[B"⟩ : MethodName)) hown (mvT hZ (hw _ (List.mem_of_getElem? (i := 37) rfl))) (mvT hZ (hw _ (List.mem_of_getElem? (i := 38) rfl))) (mvT hZ (hw _ (List.mem_of_getElem? (i := 39) rfl))) (mvT hZ (hw _ (List.mem_of_getElem? (i := 40) rfl))) (by decide) (backOf (W := 0) (rmComp l Z a0 hw [] ca cs kc n h0 n0 Zc28 I2 I3 I4 OX I8 (hn : cs.length = n) (hb : n ≤ 4) (hchs : own_chs cs)) hZ (hw _ (List.mem_of_getElem? (i := 40) rfl)) (hw _ (List.mem_of_getElem? (i := 39) rfl)) (by decide) (by decide)) (g := (mkF m 36 #[.val (.ref a), .val (.ref ca), .val (.int (0 : Int32)), .val (.int (Int32.ofNat n)), .val .null, .unset] [(.int (Int32.ofNat n)), (.int (0 : Int32)), (.ref ca)])) rfl (by rw [hml]; rfl) (argsL := [(.ref ca), (.int (0 : Int32)), (.int (Int32.ofNat n))]) (rest := []) (lenOf pd___CII__B rfl) rfl (by show 2 * 0 + _ ≤ _; exact Nat.le_of_eq rfl) (Jvm.hb hby d_jdk_42_method_149_36) (fun _ _ => ⟨rfl, e27, (by decide : 0 + 2 ≤ _), (by decide : 0 + 12 ≤ _)⟩)
    dsimp only [Pt.U, Pt.locs, Pt.cells, Pt.slots] at X29 l29 y29 z29 st29 hQ29
    subst l29 y29 z29
    obtain ⟨b_29, kb_29, rfl, N29q, K29, Fq29_0, P29_0⟩ := hQ29
    have N29 := Fr.app N0 N29q
    obtain ⟨h29, e29⟩ : ∃ z, T29.heap = z := ⟨_, rfl⟩
    rw [e29] at K29 Fq29_0
    have z30 : h0.size ≤ h29.size := K29.1
    have Cp30 : CHr Z ELs s.vm h0 s.vm h29 := CHr.keep K29 sf0 CR.1
    have hk := Nat.le_trans hk z30
    have CR := CR.trans Cp30
    have lt29_0 : @LT.lt Nat _ b_29 h29.size := Fq29_0.lt
    have Zc31 : n0 ≤ h29.size := by omega
    obtain ⟨_, _, ⟨T32, L32, k32, n32⟩, -, X32, ⟨Lc32, hQ32, l32, y32, z32⟩, st32⟩ := Jvm.LawKit.callS X29 hx (y := (⟨"java/lang/StringUTF16", "coderFromArrayLen", "([BI)B"⟩ : MethodName)) hown (mvT hZ (hw _ (List.mem_of_getElem? (i := 44) rfl))) (mvT hZ (hw _ (List.mem_of_getElem? (i := 45) rfl))) (mvT hZ (hw _ (List.mem_of_getElem? (i := 39) rfl))) (mvT hZ (hw _ (List.mem_of_getElem? (i := 46) rfl))) (by decide) (backOf (W := 1) (rmCod l Z a0 hw [] b_29 (Int32.ofNat n) kb_29 (Int32.ofNat (own_enl cs)) (own_enc cs) h29 n0 Zc31 Fq29_0) hZ (hw _ (List.mem_of_getElem? (i := 46) rfl)) (hw _ (List.mem_of_getElem? (i := 39) rfl)) (by decide) (by decide)) (g := (mkF m 45 #[.val (.ref a), .val (.ref ca), .val (.int (0 : Int32)), .val (.int (Int32.ofNat n)), .val .null, .val (.ref b_29)] [(.int (Int32.ofNat n)), (.ref b_29), (.ref a)])) rfl (by rw [hml]; rfl) (argsL := [(.ref b_29), (.int (Int32.ofNat n))]) (rest := [(.ref a)]) (lenOf pd___BI_B rfl) rfl (by show 2 * 0 + _ ≤ _; exact Nat.le_of_eq rfl) (Jvm.hb hby d_jdk_42_method_149_45) (fun _ _ => ⟨rfl, e29, (by decide : 2 + 0 ≤ _), (by decide : 12 + 0 ≤ _)⟩)
    dsimp only [Pt.U, Pt.locs, Pt.cells, Pt.slots] at X32 l32 y32 z32 st32 hQ32
    subst l32 y32 z32
    obtain ⟨rfl, N32q, e32⟩ := hQ32
    have N32 := Fr.app N29 N32q
    have f33 : Exa Z h29 a "java/lang/String" := (I5.keep K29)
    have f34 : Fld Z h29 a "java/lang/String" "coder" "B" (.int (0 : Int32)) := (I7.keep K29 nin0)
    obtain ⟨T35, h35, X35, e35, W35, st35⟩ := putFN X32 hx hZ hown (hw _ (List.mem_of_getElem? (i := 26) rfl)) Via.refl e32 f34 f33 (Or.inr ⟨(hw _ (List.mem_of_getElem? (i := 22) rfl)), rfl, hnm⟩) (hw _ (List.mem_of_getElem? (i := 6) rfl)) (ty := .byte) (v' := (.int (own_cod cs))) (by decide) (own_cnar cs) (own_cfit cs) (g := (mkF m 48 #[.val (.ref a), .val (.ref ca), .val (.int (0 : Int32)), .val (.int (Int32.ofNat n)), .val .null, .val (.ref b_29)] [(.int (own_cod cs)), (.ref a)])) rfl rfl (Jvm.hb hby d_jdk_42_method_149_48)
    have f38 : Fld Z h29 a "java/lang/String" "value" "[B" .null := (I6.keep K29 nin0)
    have Sf37 : Safe Z ELs s.vm h29 a := own_safeN hZ.alike f33 f38
    have z36 : h29.size ≤ h35.size := Nat.le_of_eq W35.size.symm
    have Cp36 : CHr Z ELs s.vm h29 s.vm h35 := CHr.wr W35 Sf37 CR.1
    have hk := Nat.le_trans hk z36
    have CR := CR.trans Cp36
    have F35 : Fld Z h35 a "java/lang/String" "coder" "B" (.int (own_cod cs)) := f34.same W35
    have N35 := Fr.snoc X35 N32 (show n0 ≤ a by omega)
    have f39 : Exa Z h35 a "java/lang/String" := (f33.wr W35)
    have f40 : Fld Z h35 a "java/lang/String" "value" "[B" .null := (f38.other W35 (Or.inr (slot_ne (Or.inr (hw _ (List.mem_of_getElem? (i := 21) rfl))) (Or.inr (hw _ (List.mem_of_getElem? (i := 22) rfl))) (by decide) (t := (.array .byte)) (t' := .byte) (by decide) (by decide))))
    obtain ⟨T41, h41, X41, e41, W41, st41⟩ := putF X35 hx hZ hown (host := "") (Or.inl (hw _ (List.mem_of_getElem? (i := 25) rfl))) Via.refl e35 f40 f39 (Or.inr ⟨(hw _ (List.mem_of_getElem? (i := 21) rfl)), rfl, hnm⟩) (hw _ (List.mem_of_getElem? (i := 6) rfl)) (ty := (.array .byte)) (by decide) rfl rfl (g := (mkF m 54 #[.val (.ref a), .val (.ref ca), .val (.int (0 : Int32)), .val (.int (Int32.ofNat n)), .val .null, .val (.ref b_29)] [(.ref b_29), (.ref a)])) rfl rfl (Jvm.hb hby d_jdk_42_method_149_54)
    have Sf43 : Safe Z ELs s.vm h35 a := (Cp36.safe (show @LT.lt Nat _ a h29.size by omega) Sf37)
    have z42 : h35.size ≤ h41.size := Nat.le_of_eq W41.size.symm
    have Cp42 : CHr Z ELs s.vm h35 s.vm h41 := CHr.wr W41 Sf43 CR.1
    have hk := Nat.le_trans hk z42
    have CR := CR.trans Cp42
    have F41 : Fld Z h41 a "java/lang/String" "value" "[B" (.ref b_29) := f40.same W41
    have N41 := Fr.snoc X41 N35 (show n0 ≤ a by omega)
    have s44 : ∀ t_, Steps p.tables e below (T41.setTop (mkF m 57 #[.val (.ref a), .val (.ref ca), .val (.int (0 : Int32)), .val (.int (Int32.ofNat n)), .val .null, .val (.ref b_29)] [])) t_ → Steps p.tables e below (s₁.setTop (entryFrame m #[(.ref a), (.ref ca), (.int (0 : Int32)), (.int (Int32.ofNat n)), .null] 6)) t_ := fun t_ k_ => s2 t_ (by
      show Steps p.tables e below (T1.setTop (mkF m 5 #[.val (.ref a), .val (.ref ca), .val (.int (0 : Int32)), .val (.int (Int32.ofNat n)), .val .null, .unset] [(.int (Int32.ofNat n))])) t_
      refine XS.ifYes X1.here hx rfl (pc0 := 5) (pc' := 27) rfl (Jvm.hb hby d_jdk_42_method_149_5) rfl ((if0 _ _).trans (feq h3).2) (by decide) (by decide) ?_
      show Steps p.tables e below (T1.setTop (mkF m 27 #[.val (.ref a), .val (.ref ca), .val (.int (0 : Int32)), .val (.int (Int32.ofNat n)), .val .null, .unset] [])) _
      refine st27 _ ?_
      show Steps p.tables e below (T27.setTop (mkF m 30 #[.val (.ref a), .val (.ref ca), .val (.int (0 : Int32)), .val (.int (Int32.ofNat n)), .val .null, .unset] [(.int cst)])) _
      refine XS.ifNo X27.here hx rfl (Jvm.hb hby d_jdk_42_method_149_30) rfl ((if0 _ _).trans (feq hcst).1) ?_
      show Steps p.tables e below (T27.setTop (mkF m 33 #[.val (.ref a), .val (.ref ca), .val (.int (0 : Int32)), .val (.int (Int32.ofNat n)), .val .null, .unset] [])) _
      refine XS.aloadN X27.here hx rfl (Jvm.hb hby d_jdk_42_method_149_33) rfl rfl ?_
      show Steps p.tables e below (T27.setTop (mkF m 34 #[.val (.ref a), .val (.ref ca), .val (.int (0 : Int32)), .val (.int (Int32.ofNat n)), .val .null, .unset] [(.ref ca)])) _
      refine XS.iloadN X27.here hx rfl (Jvm.hb hby d_jdk_42_method_149_34) rfl ?_
      show Steps p.tables e below (T27.setTop (mkF m 35 #[.val (.ref a), .val (.ref ca), .val (.int (0 : Int32)), .val (.int (Int32.ofNat n)), .val .null, .unset] [(.int (0 : Int32)), (.ref ca)])) _
      refine XS.iloadN X27.here hx rfl (Jvm.hb hby d_jdk_42_method_149_35) rfl ?_
      show Steps p.tables e below (T27.setTop (mkF m 36 #[.val (.ref a), .val (.ref ca), .val (.int (0 : Int32)), .val (.int (Int32.ofNat n)), .val .null, .unset] [(.int (Int32.ofNat n)), (.int (0 : Int32)), (.ref ca)])) _
      refine st29 _ ?_
      show Steps p.tables e below (T29.setTop (mkF m 39 #[.val (.ref a), .val (.ref ca), .val (.int (0 : Int32)), .val (.int (Int32.ofNat n)), .val .null, .unset] [(.ref b_29)])) _
      refine XS.astore X29.here hx rfl (Jvm.hb hby d_jdk_42_method_149_39) rfl rfl (l' := #[.val (.ref a), .val (.ref ca), .val (.int (0 : Int32)), .val (.int (Int32.ofNat n)), .val .null, .val (.ref b_29)]) rfl ?_
      show Steps p.tables e below (T29.setTop (mkF m 41 #[.val (.ref a), .val (.ref ca), .val (.int (0 : Int32)), .val (.int (Int32.ofNat n)), .val .null, .val (.ref b_29)] [])) _
      refine XS.aloadN X29.here hx rfl (Jvm.hb hby d_jdk_42_method_149_41) rfl rfl ?_
      show Steps p.tables e below (T29.setTop (mkF m 42 #[.val (.ref a), .val (.ref ca), .val (.int (0 : Int32)), .val (.int (Int32.ofNat n)), .val .null, .val (.ref b_29)] [(.ref a)])) _
      refine XS.aload X29.here hx rfl (Jvm.hb hby d_jdk_42_method_149_42) rfl rfl ?_
      show Steps p.tables e below (T29.setTop (mkF m 44 #[.val (.ref a), .val (.ref ca), .val (.int (0 : Int32)), .val (.int (Int32.ofNat n)), .val .null, .val (.ref b_29)] [(.ref b_29), (.ref a)])) _
      refine XS.iloadN X29.here hx rfl (Jvm.hb hby d_jdk_42_method_149_44) rfl ?_
      show Steps p.tables e below (T29.setTop (mkF m 45 #[.val (.ref a), .val (.ref ca), .val (.int (0 : Int32)), .val (.int (Int32.ofNat n)), .val .null, .val (.ref b_29)] [(.int (Int32.ofNat n)), (.ref b_29), (.ref a)])) _
      refine st32 _ ?_
      show Steps p.tables e below (T32.setTop (mkF m 48 #[.val (.ref a), .val (.ref ca), .val (.int (0 : Int32)), .val (.int (Int32.ofNat n)), .val .null, .val (.ref b_29)] [(.int (nar .byte (own_lo (ushr ((Int32.ofNat n) - (Int32.ofNat (own_enl cs))) (31 : Int32))))), (.ref a)])) _
      refine castTop (g' := (mkF m 48 #[.val (.ref a), .val (.ref ca), .val (.int (0 : Int32)), .val (.int (Int32.ofNat n)), .val .null, .val (.ref b_29)] [(.int (own_cod cs)), (.ref a)])) (by rw [own_codl hn (own_pos h3) (by omega)]) ?_
      show Steps p.tables e below (T32.setTop (mkF m 48 #[.val (.ref a), .val (.ref ca), .val (.int (0 : Int32)), .val (.int (Int32.ofNat n)), .val .null, .val (.ref b_29)] [(.int (own_cod cs)), (.ref a)])) _
      refine st35 _ ?_
      show Steps p.tables e below (T35.setTop (mkF m 51 #[.val (.ref a), .val (.ref ca), .val (.int (0 : Int32)), .val (.int (Int32.ofNat n)), .val .null, .val (.ref b_29)] [])) _
      refine XS.aloadN X35.here hx rfl (Jvm.hb hby d_jdk_42_method_149_51) rfl rfl ?_
      show Steps p.tables e below (T35.setTop (mkF m 52 #[.val (.ref a), .val (.ref ca), .val (.int (0 : Int32)), .val (.int (Int32.ofNat n)), .val .null, .val (.ref b_29)] [(.ref a)])) _
      refine XS.aload X35.here hx rfl (Jvm.hb hby d_jdk_42_method_149_52) rfl rfl ?_
      show Steps p.tables e below (T35.setTop (mkF m 54 #[.val (.ref a), .val (.ref ca), .val (.int (0 : Int32)), .val (.int (Int32.ofNat n)), .val .null, .val (.ref b_29)] [(.ref b_29), (.ref a)])) _
      refine st41 _ ?_
      show Steps p.tables e below (T41.setTop (mkF m 57 #[.val (.ref a), .val (.ref ca), .val (.int (0 : Int32)), .val (.int (Int32.ofNat n)), .val .null, .val (.ref b_29)] [])) _
      show Steps p.tables e below (T41.setTop (mkF m 57 #[.val (.ref a), .val (.ref ca), .val (.int (0 : Int32)), .val (.int (Int32.ofNat n)), .val .null, .val (.ref b_29)] [])) t_
      exact k_)
    obtain ⟨fs, hr, hrun, hended, hREW⟩ := X41.leaveW hS (by first | exact Nat.le_refl _ | (rw [e41]; exact hk)) (v := none) (fun _ => rfl)
    have f45 : Arv Z h41 b_29 kb_29 .byte (Int32.ofNat (own_enl cs)) (own_enc cs) (.int (0 : Int32)) := ((Fq29_0.other W35 (show @Ne Nat b_29 a by omega)).other W41 (show @Ne Nat b_29 a by omega))
    have f46 : Exa Z h41 a "java/lang/String" := (f39.wr W41)
    have f47 : Fld Z h41 a "java/lang/String" "coder" "B" (.int (own_cod cs)) := (F35.other W41 (Or.inr (slot_ne (Or.inr (hw _ (List.mem_of_getElem? (i := 22) rfl))) (Or.inr (hw _ (List.mem_of_getElem? (i := 21) rfl))) (by decide) (t := .byte) (t' := (.array .byte)) (by decide) (by decide))))
    refine ⟨_, _, s44 _ ?_, hrun, hended, _, _, rfl, ?_, (by show CHr Z ELs s.vm s.heap T41.vm T41.heap; rw [hh, e41]; exact CR.trans (CHv.at X41 hZ hEL CR.1)), hREW.1, hREW.2.1, hREW.2.2.1, hREW.2.2.2.mono (by decide) (by decide)⟩
    · show Steps p.tables e below (T41.setTop (mkF m 57 #[.val (.ref a), .val (.ref ca), .val (.int (0 : Int32)), .val (.int (Int32.ofNat n)), .val .null, .val (.ref b_29)] [])) _
      exact X41.returnOut hx Bd.returns (Jvm.hb hby d_jdk_42_method_149_57) hr
    · show Q_rmIni4 Z _ _ _ _ _ _ h0 n0 _ T41.heap _
      rw [e41]
      exact ⟨b_29, kb_29, rfl, N41, ((((Keep.refl h0 [a]).trans K29 all0).wr W35 (Or.inl (by simp))).wr W41 (Or.inl (by simp))), f46, F41, f47, f45⟩
theorem d_jdk_42_method_3_0 : decode jdk_42_method_3_code 0 = .ok (.aload_n 0, 1) := by decide +kernel
theorem d_jdk_42_method_3_1 : decode jdk_42_method_3_code 1 = .ok (.aload_n 1, 1) := by decide +kernel
theorem d_jdk_42_method_3_2 : decode jdk_42_method_3_code 2 = .ok (.iconst 0, 1) := by decide +kernel
theorem d_jdk_42_method_3_3 : decode jdk_42_method_3_code 3 = .ok (.aload_n 1, 1) := by decide +kernel
theorem d_jdk_42_method_3_4 : decode jdk_42_method_3_code 4 = .ok (.arraylength, 1) := by decide +kernel
theorem d_jdk_42_method_3_5 : decode jdk_42_method_3_code 5 = .ok (.aconst_null, 1) := by decide +kernel
theorem pd___CIILjava_lang_Void__V : parseMethodDescriptor "([CIILjava/lang/Void;)V" = some ⟨[(.array .char), .int, .int, (.object "java/lang/Void")], none⟩ := by decide +kernel
theorem d_jdk_42_method_3_6 : decode jdk_42_method_3_code 6 = .ok (.invokespecial 27, 3) := by decide +kernel
theorem d_jdk_42_method_3_9 : decode jdk_42_method_3_code 9 = .ok (.return_, 1) := by decide +kernel
theorem ef_rmIni1 (m : MethodId) (x0 : Addr) (x1 : Addr) : entryFrame m #[(.ref x0), (.ref x1)] 2 = mkF m 0 #[.val (.ref x0), .val (.ref x1)] [] := by first | (simp [entryFrame, mkF, argsToLocals, Value.category]; done) | rfl
def Q_rmIni1 (Z : State) (a : Addr) (ca : Addr) (cst : Int32) (cs : List Int32) (kc : ClassId) (n : Nat) (h0 : Heap) (n0 : Nat) (v : Option Value) (h : Heap) (L : List Loc) : Prop := ∃ (b : Addr), ∃ (kb : ClassId), (v = none) ∧ (Fr n0 L) ∧ (Keep h0 h [a]) ∧ (Exa Z h a "java/lang/String") ∧ (Fld Z h a "java/lang/String" "value" "[B" (.ref b)) ∧ (Fld Z h a "java/lang/String" "coder" "B" (.int (own_cod cs))) ∧ (Arv Z h b kb .byte (Int32.ofNat (own_enl cs)) (own_enc cs) (.int (0 : Int32)))
set_option maxRecDepth 65536 in
set_option maxHeartbeats 40000000 in
theorem rmIni1 (l : Launch) (Z : State) (a0 : Array Value) (hw : ∀ d ∈ tables_1, d.before a0 Z = true) (ws : List Jvm.Cond) (a : Addr) (ca : Addr) (cst : Int32) (cs : List Int32) (kc : ClassId) (n : Nat) (h0 : Heap) (n0 : Nat) (Z0 : n0 ≤ h0.size) (I1 : Sta Z Z.heap "java/lang/String" "COMPACT_STRINGS" "Z" (.int cst)) (I2 : Sta Z Z.heap "java/lang/StringUTF16" "$assertionsDisabled" "Z" (.int (1 : Int32))) (I3 : Sta Z Z.heap "java/lang/StringUTF16" "HI_BYTE_SHIFT" "I" (.int (0 : Int32))) (I4 : Sta Z Z.heap "java/lang/StringUTF16" "LO_BYTE_SHIFT" "I" (.int (8 : Int32))) (OX : Old Z n0 h0) (hcst : ¬ (cst = (0 : Int32))) (I5 : Exa Z h0 a "java/lang/String") (I6 : Fld Z h0 a "java/lang/String" "value" "[B" .null) (I7 : Fld Z h0 a "java/lang/String" "coder" "B" (.int (0 : Int32))) (I8 : Arv Z h0 ca kc .char (Int32.ofNat n) (cs.map Value.int) (.int (0 : Int32))) (hn : cs.length = n) (hb : n ≤ 4) (hchs : own_chs cs) (ga : n0 ≤ a) (hac : @Ne Nat a ca) :
    MetFree l (⟨"java/lang/String", "<init>", "([C)V"⟩ : MethodName) (head1 (Jvm.Cond.code (⟨"java/lang/String", "<init>", "([C)V"⟩ : MethodName) jdk_42_method_3_code 2 none :: ws) ({ frames := 5, cells := 4, slots := 12, locals := 74 } : Room)) (fun ar_ U => ar_ = #[(.ref a), (.ref ca)] ∧ Z.Warmed39 U.vm ∧ U.heap = h0 ∧ CHv Z ELs U.vm h0) (fun _ _ _ _ _ => True) (fun _ U o U' => ∃ v L, o = .returned v ∧ Q_rmIni1 Z a ca cst cs kc n h0 n0 v U'.heap L ∧ CHr Z ELs U.vm U.heap U'.vm U'.heap ∧ ReturnedEndW U o U' L ({ frames := 5, cells := 4, slots := 12, locals := 74 } : Room).cells ({ frames := 5, cells := 4, slots := 12, locals := 74 } : Room).slots) := by
  refine MetFree.of_bodySF (plainFor_of_name pn_java_lang_String) hisR ?_
  intro p e s m args below meth c s₁ Bd hml0 hP hK
  obtain ⟨rfl, hZ, hh, hCH⟩ := hP
  have hx := Bd.exec
  have hby := Bd.bytes
  have hml : c.maxLocals = 2 := hml0
  have hown : s.vm.findClass "java/lang/String" = some m.cls := findClass_of_methodNamed Bd.named
  have hnm := (name_of_methodNamed Bd.named Bd.method).1
  have X0 : Stand p l e ({ frames := 5, cells := 4, slots := 12, locals := 74 } : Room) (s.setVm s.vm) m #[(.ref a), (.ref ca)] below meth c s₁ [] 0 0 := Stand.of_body Bd
  have e0 : s₁.heap = h0 := by rw [← hh, Bd.state]; rfl
  have N0 := Fr.nil n0
  have pre0 : ∀ t_, Steps p.tables e below (s₁.setTop (mkF m 0 #[.val (.ref a), .val (.ref ca)] [])) t_ → Steps p.tables e below (s₁.setTop (entryFrame m #[(.ref a), (.ref ca)] 2)) t_ := fun t_ k_ => castTop (ef_rmIni1 m a ca) k_
  have hEL : EW Z a0 ELs := own_EW hw
  have wS : ∀ a ∈ Bundle.stringAtoms, a.before a0 Z = true := own_wS hw
  have hS : s.Since s.vm s.heap.size := (State.WarmedH.refl s).since _
  have hk : s.heap.size ≤ h0.size := by rw [hh]; exact Nat.le_refl _
  have CR : CHr Z ELs s.vm h0 s.vm h0 := CHr.refl hCH
  have lt_I5 : @LT.lt Nat _ a h0.size := I5.lt
  have lt_I6 : @LT.lt Nat _ a h0.size := I6.lt
  have lt_I7 : @LT.lt Nat _ a h0.size := I7.lt
  have lt_I8 : @LT.lt Nat _ ca h0.size := I8.lt
  obtain ⟨cl1, Ar1, -, S1, M1, -, -⟩ := id I8
  have Zc2 : n0 ≤ h0.size := by omega
  have s4 : ∀ t_, Steps p.tables e below (s₁.setTop (mkF m 6 #[.val (.ref a), .val (.ref ca)] [.null, (.int (Int32.ofNat n)), (.int (0 : Int32)), (.ref ca), (.ref a)])) t_ → Steps p.tables e below (s₁.setTop (entryFrame m #[(.ref a), (.ref ca)] 2)) t_ := fun t_ k_ => pre0 t_ (by
    show Steps p.tables e below (s₁.setTop (mkF m 0 #[.val (.ref a), .val (.ref ca)] [])) t_
    refine XS.aloadN X0.here hx rfl (Jvm.hb hby d_jdk_42_method_3_0) rfl rfl ?_
    show Steps p.tables e below (s₁.setTop (mkF m 1 #[.val (.ref a), .val (.ref ca)] [(.ref a)])) _
    refine XS.aloadN X0.here hx rfl (Jvm.hb hby d_jdk_42_method_3_1) rfl rfl ?_
    show Steps p.tables e below (s₁.setTop (mkF m 2 #[.val (.ref a), .val (.ref ca)] [(.ref ca), (.ref a)])) _
    refine XS.iconst X0.here hx rfl (Jvm.hb hby d_jdk_42_method_3_2) ?_
    show Steps p.tables e below (s₁.setTop (mkF m 3 #[.val (.ref a), .val (.ref ca)] [(.int (0 : Int32)), (.ref ca), (.ref a)])) _
    refine XS.aloadN X0.here hx rfl (Jvm.hb hby d_jdk_42_method_3_3) rfl rfl ?_
    show Steps p.tables e below (s₁.setTop (mkF m 4 #[.val (.ref a), .val (.ref ca)] [(.ref ca), (.int (0 : Int32)), (.ref ca), (.ref a)])) _
    refine X0.arraylength hx (by rw [e0]; exact Ar1.1) (State.isArrayOf_alike hZ.alike Ar1.2.1) (g := (mkF m 4 #[.val (.ref a), .val (.ref ca)] [(.ref ca), (.int (0 : Int32)), (.ref ca), (.ref a)])) rfl rfl (Jvm.hb hby d_jdk_42_method_3_4) _ ?_
    rw [len_of S1 M1]
    show Steps p.tables e below (s₁.setTop (mkF m 5 #[.val (.ref a), .val (.ref ca)] [(.int (Int32.ofNat n)), (.int (0 : Int32)), (.ref ca), (.ref a)])) _
    refine XS.aconstNull X0.here hx rfl (Jvm.hb hby d_jdk_42_method_3_5) ?_
    show Steps p.tables e below (s₁.setTop (mkF m 6 #[.val (.ref a), .val (.ref ca)] [.null, (.int (Int32.ofNat n)), (.int (0 : Int32)), (.ref ca), (.ref a)])) _
    show Steps p.tables e below (s₁.setTop (mkF m 6 #[.val (.ref a), .val (.ref ca)] [.null, (.int (Int32.ofNat n)), (.int (0 : Int32)), (.ref ca), (.ref a)])) t_
    exact k_)
  obtain ⟨_, _, ⟨T3, L3, k3, n3⟩, -, Xr3, hSr3, hg3, ⟨Lc3, hQ3, l3, y3, z3, Cp3⟩, st3⟩ := X0.specialBackS hx (y := (⟨"java/lang/String", "<init>", "([CIILjava/lang/Void;)V"⟩ : MethodName)) rfl hown (mvT hZ (hw _ (List.mem_of_getElem? (i := 12) rfl))) (mvT hZ (hw _ (List.mem_of_getElem? (i := 13) rfl))) (mvT hZ (hw _ (List.mem_of_getElem? (i := 15) rfl))) (by decide) (backOfSH (s := s) (vm0 := s.vm) (W := 0) (rmIni4 l Z a0 hw [] a ca cst cs kc n h0 n0 Zc2 I1 I2 I3 I4 OX (hcst : ¬ (cst = (0 : Int32))) I5 I6 I7 I8 (hn : cs.length = n) (hb : n ≤ 4) (hchs : own_chs cs) (ga : n0 ≤ a) (hac : @Ne Nat a ca)) hZ (hw _ (List.mem_of_getElem? (i := 15) rfl)) (hw _ (List.mem_of_getElem? (i := 7) rfl)) (by decide) (by decide) hEL CR.1) (g := (mkF m 6 #[.val (.ref a), .val (.ref ca)] [.null, (.int (Int32.ofNat n)), (.int (0 : Int32)), (.ref ca), (.ref a)])) rfl (by rw [hml]; rfl) (Steps.refl _) (a := a) (argsL := [(.ref ca), (.int (0 : Int32)), (.int (Int32.ofNat n)), .null]) (rest := []) (lenOf pd___CIILjava_lang_Void__V rfl) rfl (by show 2 * 0 + _ ≤ _; exact Nat.le_of_eq rfl) (Jvm.hb hby d_jdk_42_method_3_6) (fun _ _ => ⟨rfl, e0, (by decide : 0 + 4 ≤ _), (by decide : 0 + 12 ≤ _)⟩)
  dsimp only [Pt.U, Pt.locs, Pt.cells, Pt.slots] at Xr3 hSr3 hg3 l3 y3 z3 st3 hQ3 Cp3
  subst l3 y3 z3
  obtain ⟨X3, hS, hZ, hown⟩ := rebS (own := "java/lang/String") hS (by first | exact Nat.le_refl _ | (rw [e0]; exact hk)) Xr3 hSr3 hg3 hZ hown
  obtain ⟨b_3, kb_3, rfl, N3q, K3, Fq3_0, Fq3_1, Fq3_2, Fq3_3⟩ := hQ3
  have N3 := Fr.app N0 N3q
  obtain ⟨h3, e3⟩ : ∃ z, T3.heap = z := ⟨_, rfl⟩
  rw [e3] at K3 Fq3_0 Fq3_1 Fq3_2 Fq3_3 Cp3
  have hk : T3.heap.size ≤ h3.size := Nat.le_of_eq (congrArg Array.size e3)
  have z5 : h0.size ≤ h3.size := K3.1
  have CR := CR.trans Cp3
  have lt3_0 : @LT.lt Nat _ a h3.size := Fq3_0.lt
  have lt3_3 : @LT.lt Nat _ b_3 h3.size := Fq3_3.lt
  have s6 : ∀ t_, Steps p.tables e below (T3.setTop (mkF m 9 #[.val (.ref a), .val (.ref ca)] [])) t_ → Steps p.tables e below (s₁.setTop (entryFrame m #[(.ref a), (.ref ca)] 2)) t_ := fun t_ k_ => s4 t_ (by
    show Steps p.tables e below (s₁.setTop (mkF m 6 #[.val (.ref a), .val (.ref ca)] [.null, (.int (Int32.ofNat n)), (.int (0 : Int32)), (.ref ca), (.ref a)])) t_
    refine st3.trans ?_
    show Steps p.tables e below (T3.setTop (mkF m 9 #[.val (.ref a), .val (.ref ca)] [])) _
    show Steps p.tables e below (T3.setTop (mkF m 9 #[.val (.ref a), .val (.ref ca)] [])) t_
    exact k_)
  obtain ⟨fs, hr, hrun, hended, hREW⟩ := X3.leaveW hS (by first | exact Nat.le_refl _ | (rw [e3]; exact hk)) (v := none) (fun _ => rfl)
  refine ⟨_, _, s6 _ ?_, hrun, hended, _, _, rfl, ?_, (by show CHr Z ELs s.vm s.heap T3.vm T3.heap; rw [hh, e3]; exact CR.trans (CHv.at X3 hZ hEL CR.1)), hREW.1, hREW.2.1, hREW.2.2.1, hREW.2.2.2.mono (by decide) (by decide)⟩
  · show Steps p.tables e below (T3.setTop (mkF m 9 #[.val (.ref a), .val (.ref ca)] [])) _
    exact X3.returnOut hx Bd.returns (Jvm.hb hby d_jdk_42_method_3_9) hr
  · show Q_rmIni1 Z _ _ _ _ _ _ h0 n0 _ T3.heap _
    rw [e3]
    exact ⟨b_3, kb_3, rfl, N3, ((Keep.refl h0 [a]).trans K3 (allS (Or.inl (by simp)) all0)), Fq3_0, Fq3_1, Fq3_2, Fq3_3⟩
theorem d_jdk_42_method_152_0 : decode jdk_42_method_152_code 0 = .ok (.getstatic 38, 3) := by decide +kernel
theorem d_jdk_42_method_152_3 : decode jdk_42_method_152_code 3 = .ok (.ifCond .eq 10, 3) := by decide +kernel
theorem d_jdk_42_method_152_6 : decode jdk_42_method_152_code 6 = .ok (.aload_n 0, 1) := by decide +kernel
theorem d_jdk_42_method_152_7 : decode jdk_42_method_152_code 7 = .ok (.getfield 15, 3) := by decide +kernel
theorem d_jdk_42_method_152_10 : decode jdk_42_method_152_code 10 = .ok (.goto 4, 3) := by decide +kernel
theorem d_jdk_42_method_152_14 : decode jdk_42_method_152_code 14 = .ok (.ireturn, 1) := by decide +kernel
theorem ef_rmCdr (m : MethodId) (x0 : Addr) : entryFrame m #[(.ref x0)] 1 = mkF m 0 #[.val (.ref x0)] [] := by first | (simp [entryFrame, mkF, argsToLocals, Value.category]; done) | rfl
def Q_rmCdr (Z : State) (a : Addr) (cst : Int32) (cs : List Int32) (h0 : Heap) (n0 : Nat) (v : Option Value) (h : Heap) (L : List Loc) : Prop := (v = some (.int (own_cod cs))) ∧ (Fr n0 L) ∧ (h = h0)
set_option maxRecDepth 65536 in
set_option maxHeartbeats 40000000 in
theorem rmCdr (l : Launch) (Z : State) (a0 : Array Value) (hw : ∀ d ∈ tables_1, d.before a0 Z = true) (ws : List Jvm.Cond) (a : Addr) (cst : Int32) (cs : List Int32) (h0 : Heap) (n0 : Nat) (Z0 : n0 ≤ h0.size) (I1 : Sta Z Z.heap "java/lang/String" "COMPACT_STRINGS" "Z" (.int cst)) (OX : Old Z n0 h0) (hcst : ¬ (cst = (0 : Int32))) (I2 : Fld Z h0 a "java/lang/String" "coder" "B" (.int (own_cod cs))) :
    MetFree l (⟨"java/lang/String", "coder", "()B"⟩ : MethodName) (head1 (Jvm.Cond.code (⟨"java/lang/String", "coder", "()B"⟩ : MethodName) jdk_42_method_152_code 1 (some .byte) :: ws) ({ frames := 0, cells := 0, slots := 0, locals := 0 } : Room)) (fun ar_ U => ar_ = #[(.ref a)] ∧ Z.Warmed39 U.vm ∧ U.heap = h0) (fun _ _ _ _ _ => True) (fun _ U o U' => ∃ v L, o = .returned v ∧ Q_rmCdr Z a cst cs h0 n0 v U'.heap L ∧ FrameEnd U o U' L ({ frames := 0, cells := 0, slots := 0, locals := 0 } : Room).cells ({ frames := 0, cells := 0, slots := 0, locals := 0 } : Room).slots) := by
  refine MetFree.of_bodySF (plainFor_of_name pn_java_lang_String) hisR ?_
  intro p e s m args below meth c s₁ Bd hml0 hP hK
  obtain ⟨rfl, hZ, hh⟩ := hP
  have hx := Bd.exec
  have hby := Bd.bytes
  have hml : c.maxLocals = 1 := hml0
  have hown : s.vm.findClass "java/lang/String" = some m.cls := findClass_of_methodNamed Bd.named
  have hnm := (name_of_methodNamed Bd.named Bd.method).1
  have X0 : Stand p l e ({ frames := 0, cells := 0, slots := 0, locals := 0 } : Room) s m #[(.ref a)] below meth c s₁ [] 0 0 := Stand.of_body Bd
  have e0 : s₁.heap = h0 := by rw [← hh, Bd.state]; rfl
  have N0 := Fr.nil n0
  have pre0 : ∀ t_, Steps p.tables e below (s₁.setTop (mkF m 0 #[.val (.ref a)] [])) t_ → Steps p.tables e below (s₁.setTop (entryFrame m #[(.ref a)] 1)) t_ := fun t_ k_ => castTop (ef_rmCdr m a) k_
  have lt_I2 : @LT.lt Nat _ a h0.size := I2.lt
  obtain ⟨T1, X1, e1, st1⟩ := getS2 X0 hx hZ hown (host := "") (Or.inl (hw _ (List.mem_of_getElem? (i := 36) rfl))) Via.refl e0 (I1.ext OX.2) (g := (mkF m 0 #[.val (.ref a)] [])) rfl (Jvm.hb hby d_jdk_42_method_152_0)
  obtain ⟨T2, X2, e2, st2⟩ := getF X1 hx hZ hown (host := "") (Or.inl (hw _ (List.mem_of_getElem? (i := 26) rfl))) Via.refl e1 I2 (g := (mkF m 7 #[.val (.ref a)] [(.ref a)])) rfl rfl (Jvm.hb hby d_jdk_42_method_152_7)
  have s3 : ∀ t_, Steps p.tables e below (T2.setTop (mkF m 14 #[.val (.ref a)] [(.int (own_cod cs))])) t_ → Steps p.tables e below (s₁.setTop (entryFrame m #[(.ref a)] 1)) t_ := fun t_ k_ => pre0 t_ (by
    show Steps p.tables e below (s₁.setTop (mkF m 0 #[.val (.ref a)] [])) t_
    refine st1 _ ?_
    show Steps p.tables e below (T1.setTop (mkF m 3 #[.val (.ref a)] [(.int cst)])) _
    refine XS.ifNo X1.here hx rfl (Jvm.hb hby d_jdk_42_method_152_3) rfl ((if0 _ _).trans (feq hcst).1) ?_
    show Steps p.tables e below (T1.setTop (mkF m 6 #[.val (.ref a)] [])) _
    refine XS.aloadN X1.here hx rfl (Jvm.hb hby d_jdk_42_method_152_6) rfl rfl ?_
    show Steps p.tables e below (T1.setTop (mkF m 7 #[.val (.ref a)] [(.ref a)])) _
    refine st2 _ ?_
    show Steps p.tables e below (T2.setTop (mkF m 10 #[.val (.ref a)] [(.int (own_cod cs))])) _
    refine XS.goto X2.here hx rfl (pc0 := 10) (pc' := 14) rfl (Jvm.hb hby d_jdk_42_method_152_10) (by decide) (by decide) ?_
    show Steps p.tables e below (T2.setTop (mkF m 14 #[.val (.ref a)] [(.int (own_cod cs))])) _
    show Steps p.tables e below (T2.setTop (mkF m 14 #[.val (.ref a)] [(.int (own_cod cs))])) t_
    exact k_)
  obtain ⟨fs, hr, hrun, hended, hW, hsame⟩ := X2.leave (v := some (.int (nar .byte (own_cod cs)))) (fun h => by rw [Bd.returns] at h; cases h)
  refine ⟨_, _, s3 _ ?_, hrun, hended, _, _, rfl, ?_, ⟨_, rfl⟩, hW, hsame.mono (by decide) (by decide)⟩
  · show Steps p.tables e below (T2.setTop (mkF m 14 #[.val (.ref a)] [(.int (own_cod cs))])) _
    exact retN X2 hx (t := .byte) Bd.returns (by simp) (Jvm.hb hby d_jdk_42_method_152_14) hr
  · show Q_rmCdr Z _ _ _ h0 n0 _ T2.heap _
    rw [e2]
    exact ⟨(by rw [own_cnarb]), N0, rfl⟩
theorem d_jdk_42_method_54_0 : decode jdk_42_method_54_code 0 = .ok (.aload_n 0, 1) := by decide +kernel
theorem d_jdk_42_method_54_1 : decode jdk_42_method_54_code 1 = .ok (.getfield 9, 3) := by decide +kernel
theorem d_jdk_42_method_54_4 : decode jdk_42_method_54_code 4 = .ok (.arraylength, 1) := by decide +kernel
theorem d_jdk_42_method_54_5 : decode jdk_42_method_54_code 5 = .ok (.aload_n 0, 1) := by decide +kernel
theorem pd___B : parseMethodDescriptor "()B" = some ⟨[], some .byte⟩ := by decide +kernel
theorem d_jdk_42_method_54_6 : decode jdk_42_method_54_code 6 = .ok (.invokevirtual 335, 3) := by decide +kernel
theorem d_jdk_42_method_54_9 : decode jdk_42_method_54_code 9 = .ok (.ishr, 1) := by decide +kernel
theorem d_jdk_42_method_54_10 : decode jdk_42_method_54_code 10 = .ok (.ireturn, 1) := by decide +kernel
theorem ef_rmLen (m : MethodId) (x0 : Addr) : entryFrame m #[(.ref x0)] 1 = mkF m 0 #[.val (.ref x0)] [] := by first | (simp [entryFrame, mkF, argsToLocals, Value.category]; done) | rfl
def Q_rmLen (Z : State) (a : Addr) (cst : Int32) (b : Addr) (kb : ClassId) (cs : List Int32) (h0 : Heap) (n0 : Nat) (v : Option Value) (h : Heap) (L : List Loc) : Prop := (v = some (.int (Int32.ofNat cs.length))) ∧ (Fr n0 L) ∧ (h = h0)
set_option maxRecDepth 65536 in
set_option maxHeartbeats 40000000 in
theorem rmLen (l : Launch) (Z : State) (a0 : Array Value) (hw : ∀ d ∈ tables_1, d.before a0 Z = true) (ws : List Jvm.Cond) (a : Addr) (cst : Int32) (b : Addr) (kb : ClassId) (cs : List Int32) (h0 : Heap) (n0 : Nat) (Z0 : n0 ≤ h0.size) (I1 : Sta Z Z.heap "java/lang/String" "COMPACT_STRINGS" "Z" (.int cst)) (OX : Old Z n0 h0) (hcst : ¬ (cst = (0 : Int32))) (I2 : Exa Z h0 a "java/lang/String") (I3 : Fld Z h0 a "java/lang/String" "value" "[B" (.ref b)) (I4 : Fld Z h0 a "java/lang/String" "coder" "B" (.int (own_cod cs))) (I5 : Arv Z h0 b kb .byte (Int32.ofNat (own_enl cs)) (own_enc cs) (.int (0 : Int32))) (hb : cs.length ≤ 4) :
    MetFree l (⟨"java/lang/String", "length", "()I"⟩ : MethodName) (head1 (Jvm.Cond.code (⟨"java/lang/String", "length", "()I"⟩ : MethodName) jdk_42_method_54_code 1 (some .int) :: ws) ({ frames := 1, cells := 0, slots := 0, locals := 13 } : Room)) (fun ar_ U => ar_ = #[(.ref a)] ∧ Z.Warmed39 U.vm ∧ U.heap = h0) (fun _ _ _ _ _ => True) (fun _ U o U' => ∃ v L, o = .returned v ∧ Q_rmLen Z a cst b kb cs h0 n0 v U'.heap L ∧ FrameEnd U o U' L ({ frames := 1, cells := 0, slots := 0, locals := 13 } : Room).cells ({ frames := 1, cells := 0, slots := 0, locals := 13 } : Room).slots) := by
  refine MetFree.of_bodySF (plainFor_of_name pn_java_lang_String) hisR ?_
  intro p e s m args below meth c s₁ Bd hml0 hP hK
  obtain ⟨rfl, hZ, hh⟩ := hP
  have hx := Bd.exec
  have hby := Bd.bytes
  have hml : c.maxLocals = 1 := hml0
  have hown : s.vm.findClass "java/lang/String" = some m.cls := findClass_of_methodNamed Bd.named
  have hnm := (name_of_methodNamed Bd.named Bd.method).1
  have X0 : Stand p l e ({ frames := 1, cells := 0, slots := 0, locals := 13 } : Room) s m #[(.ref a)] below meth c s₁ [] 0 0 := Stand.of_body Bd
  have e0 : s₁.heap = h0 := by rw [← hh, Bd.state]; rfl
  have N0 := Fr.nil n0
  have pre0 : ∀ t_, Steps p.tables e below (s₁.setTop (mkF m 0 #[.val (.ref a)] [])) t_ → Steps p.tables e below (s₁.setTop (entryFrame m #[(.ref a)] 1)) t_ := fun t_ k_ => castTop (ef_rmLen m a) k_
  have lt_I2 : @LT.lt Nat _ a h0.size := I2.lt
  have lt_I3 : @LT.lt Nat _ a h0.size := I3.lt
  have lt_I4 : @LT.lt Nat _ a h0.size := I4.lt
  have lt_I5 : @LT.lt Nat _ b h0.size := I5.lt
  obtain ⟨T1, X1, e1, st1⟩ := getF X0 hx hZ hown (host := "") (Or.inl (hw _ (List.mem_of_getElem? (i := 25) rfl))) Via.refl e0 I3 (g := (mkF m 1 #[.val (.ref a)] [(.ref a)])) rfl rfl (Jvm.hb hby d_jdk_42_method_54_1)
  obtain ⟨cl2, Ar2, -, S2, M2, -, -⟩ := id I5
  have Zc3 : n0 ≤ h0.size := by omega
  obtain ⟨cq4, kq4, q4a, q4b, q4c⟩ := isOf hZ e1 I2
  obtain ⟨_, _, ⟨T4, L4, k4, n4⟩, -, X4, ⟨Lc4, hQ4, l4, y4, z4⟩, st4⟩ := X1.virtualBack hx (y := (⟨"java/lang/String", "coder", "()B"⟩ : MethodName)) (z := (⟨"java/lang/String", "coder", "()B"⟩ : MethodName)) hown (mvT hZ (hw _ (List.mem_of_getElem? (i := 55) rfl))) (mvT hZ (hw _ (List.mem_of_getElem? (i := 56) rfl))) (notFace_of_selects (args := #[]) (mvT hZ (hw _ (List.mem_of_getElem? (i := 58) rfl)))) (mvT hZ (hw _ (List.mem_of_getElem? (i := 58) rfl))) (mvT hZ (hw _ (List.mem_of_getElem? (i := 57) rfl))) (by decide) (backOf (W := 1) (rmCdr l Z a0 hw [] a cst cs h0 n0 Zc3 I1 OX (hcst : ¬ (cst = (0 : Int32))) I4) hZ (hw _ (List.mem_of_getElem? (i := 59) rfl)) (hw _ (List.mem_of_getElem? (i := 7) rfl)) (by decide) (by decide)) q4a q4c (g := (mkF m 6 #[.val (.ref a)] [(.ref a), (.int (Int32.ofNat (own_enl cs)))])) rfl (by rw [hml]; rfl) (Steps.refl _) (argsL := []) (rest := [(.int (Int32.ofNat (own_enl cs)))]) (lenOf pd___B rfl) rfl (by show 2 * 0 + _ ≤ _; exact Nat.le_of_eq rfl) (Jvm.hb hby d_jdk_42_method_54_6) (fun _ _ => ⟨rfl, e1, (by decide : 0 + 0 ≤ _), (by decide : 0 + 0 ≤ _)⟩)
  dsimp only [Pt.U, Pt.locs, Pt.cells, Pt.slots] at X4 l4 y4 z4 st4 hQ4
  subst l4 y4 z4
  obtain ⟨rfl, N4q, e4⟩ := hQ4
  have N4 := Fr.app N0 N4q
  have s5 : ∀ t_, Steps p.tables e below (T4.setTop (mkF m 10 #[.val (.ref a)] [(.int ((Int32.ofNat (own_enl cs)) >>> ((own_cod cs) &&& 31)))])) t_ → Steps p.tables e below (s₁.setTop (entryFrame m #[(.ref a)] 1)) t_ := fun t_ k_ => pre0 t_ (by
    show Steps p.tables e below (s₁.setTop (mkF m 0 #[.val (.ref a)] [])) t_
    refine XS.aloadN X0.here hx rfl (Jvm.hb hby d_jdk_42_method_54_0) rfl rfl ?_
    show Steps p.tables e below (s₁.setTop (mkF m 1 #[.val (.ref a)] [(.ref a)])) _
    refine st1 _ ?_
    show Steps p.tables e below (T1.setTop (mkF m 4 #[.val (.ref a)] [(.ref b)])) _
    refine X1.arraylength hx (by rw [e1]; exact Ar2.1) (State.isArrayOf_alike hZ.alike Ar2.2.1) (g := (mkF m 4 #[.val (.ref a)] [(.ref b)])) rfl rfl (Jvm.hb hby d_jdk_42_method_54_4) _ ?_
    rw [len_of S2 M2]
    show Steps p.tables e below (T1.setTop (mkF m 5 #[.val (.ref a)] [(.int (Int32.ofNat (own_enl cs)))])) _
    refine XS.aloadN X1.here hx rfl (Jvm.hb hby d_jdk_42_method_54_5) rfl rfl ?_
    show Steps p.tables e below (T1.setTop (mkF m 6 #[.val (.ref a)] [(.ref a), (.int (Int32.ofNat (own_enl cs)))])) _
    refine st4.trans ?_
    show Steps p.tables e below (T4.setTop (mkF m 9 #[.val (.ref a)] [(.int (own_cod cs)), (.int (Int32.ofNat (own_enl cs)))])) _
    refine XS.ishr X4.here hx rfl (Jvm.hb hby d_jdk_42_method_54_9) rfl ?_
    show Steps p.tables e below (T4.setTop (mkF m 10 #[.val (.ref a)] [(.int ((Int32.ofNat (own_enl cs)) >>> ((own_cod cs) &&& 31)))])) _
    show Steps p.tables e below (T4.setTop (mkF m 10 #[.val (.ref a)] [(.int ((Int32.ofNat (own_enl cs)) >>> ((own_cod cs) &&& 31)))])) t_
    exact k_)
  obtain ⟨fs, hr, hrun, hended, hW, hsame⟩ := X4.leave (v := some (.int ((Int32.ofNat (own_enl cs)) >>> ((own_cod cs) &&& 31)))) (fun h => by rw [Bd.returns] at h; cases h)
  refine ⟨_, _, s5 _ ?_, hrun, hended, _, _, rfl, ?_, ⟨_, rfl⟩, hW, hsame.mono (by decide) (by decide)⟩
  · show Steps p.tables e below (T4.setTop (mkF m 10 #[.val (.ref a)] [(.int ((Int32.ofNat (own_enl cs)) >>> ((own_cod cs) &&& 31)))])) _
    exact retI X4 hx Bd.returns (Jvm.hb hby d_jdk_42_method_54_10) hr
  · show Q_rmLen Z _ _ _ _ _ h0 n0 _ T4.heap _
    rw [e4]
    exact ⟨(by rw [own_lenq cs (by omega)]), N4, rfl⟩
theorem d_jdk_42_method_154_0 : decode jdk_42_method_154_code 0 = .ok (.getstatic 38, 3) := by decide +kernel
theorem d_jdk_42_method_154_3 : decode jdk_42_method_154_code 3 = .ok (.ifCond .eq 14, 3) := by decide +kernel
theorem d_jdk_42_method_154_6 : decode jdk_42_method_154_code 6 = .ok (.aload_n 0, 1) := by decide +kernel
theorem d_jdk_42_method_154_7 : decode jdk_42_method_154_code 7 = .ok (.getfield 15, 3) := by decide +kernel
theorem d_jdk_42_method_154_10 : decode jdk_42_method_154_code 10 = .ok (.ifCond .ne 7, 3) := by decide +kernel
theorem d_jdk_42_method_154_13 : decode jdk_42_method_154_code 13 = .ok (.iconst 1, 1) := by decide +kernel
theorem d_jdk_42_method_154_14 : decode jdk_42_method_154_code 14 = .ok (.goto 4, 3) := by decide +kernel
theorem d_jdk_42_method_154_18 : decode jdk_42_method_154_code 18 = .ok (.ireturn, 1) := by decide +kernel
theorem d_jdk_42_method_154_17 : decode jdk_42_method_154_code 17 = .ok (.iconst 0, 1) := by decide +kernel
theorem ef_rmIsL (m : MethodId) (x0 : Addr) : entryFrame m #[(.ref x0)] 1 = mkF m 0 #[.val (.ref x0)] [] := by first | (simp [entryFrame, mkF, argsToLocals, Value.category]; done) | rfl
def Q_rmIsL (Z : State) (a : Addr) (cst : Int32) (cs : List Int32) (h0 : Heap) (n0 : Nat) (v : Option Value) (h : Heap) (L : List Loc) : Prop := (v = some (.int (if own_cod cs = (0 : Int32) then (1 : Int32) else (0 : Int32)))) ∧ (Fr n0 L) ∧ (h = h0)
set_option maxRecDepth 65536 in
set_option maxHeartbeats 40000000 in
theorem rmIsL (l : Launch) (Z : State) (a0 : Array Value) (hw : ∀ d ∈ tables_1, d.before a0 Z = true) (ws : List Jvm.Cond) (a : Addr) (cst : Int32) (cs : List Int32) (h0 : Heap) (n0 : Nat) (Z0 : n0 ≤ h0.size) (I1 : Sta Z Z.heap "java/lang/String" "COMPACT_STRINGS" "Z" (.int cst)) (OX : Old Z n0 h0) (hcst : ¬ (cst = (0 : Int32))) (I2 : Fld Z h0 a "java/lang/String" "coder" "B" (.int (own_cod cs))) :
    MetFree l (⟨"java/lang/String", "isLatin1", "()Z"⟩ : MethodName) (head1 (Jvm.Cond.code (⟨"java/lang/String", "isLatin1", "()Z"⟩ : MethodName) jdk_42_method_154_code 1 (some .boolean) :: ws) ({ frames := 0, cells := 0, slots := 0, locals := 0 } : Room)) (fun ar_ U => ar_ = #[(.ref a)] ∧ Z.Warmed39 U.vm ∧ U.heap = h0) (fun _ _ _ _ _ => True) (fun _ U o U' => ∃ v L, o = .returned v ∧ Q_rmIsL Z a cst cs h0 n0 v U'.heap L ∧ FrameEnd U o U' L ({ frames := 0, cells := 0, slots := 0, locals := 0 } : Room).cells ({ frames := 0, cells := 0, slots := 0, locals := 0 } : Room).slots) := by
  refine MetFree.of_bodySF (plainFor_of_name pn_java_lang_String) hisR ?_
  intro p e s m args below meth c s₁ Bd hml0 hP hK
  obtain ⟨rfl, hZ, hh⟩ := hP
  have hx := Bd.exec
  have hby := Bd.bytes
  have hml : c.maxLocals = 1 := hml0
  have hown : s.vm.findClass "java/lang/String" = some m.cls := findClass_of_methodNamed Bd.named
  have hnm := (name_of_methodNamed Bd.named Bd.method).1
  have X0 : Stand p l e ({ frames := 0, cells := 0, slots := 0, locals := 0 } : Room) s m #[(.ref a)] below meth c s₁ [] 0 0 := Stand.of_body Bd
  have e0 : s₁.heap = h0 := by rw [← hh, Bd.state]; rfl
  have N0 := Fr.nil n0
  have pre0 : ∀ t_, Steps p.tables e below (s₁.setTop (mkF m 0 #[.val (.ref a)] [])) t_ → Steps p.tables e below (s₁.setTop (entryFrame m #[(.ref a)] 1)) t_ := fun t_ k_ => castTop (ef_rmIsL m a) k_
  have lt_I2 : @LT.lt Nat _ a h0.size := I2.lt
  obtain ⟨T1, X1, e1, st1⟩ := getS2 X0 hx hZ hown (host := "") (Or.inl (hw _ (List.mem_of_getElem? (i := 36) rfl))) Via.refl e0 (I1.ext OX.2) (g := (mkF m 0 #[.val (.ref a)] [])) rfl (Jvm.hb hby d_jdk_42_method_154_0)
  obtain ⟨T2, X2, e2, st2⟩ := getF X1 hx hZ hown (host := "") (Or.inl (hw _ (List.mem_of_getElem? (i := 26) rfl))) Via.refl e1 I2 (g := (mkF m 7 #[.val (.ref a)] [(.ref a)])) rfl rfl (Jvm.hb hby d_jdk_42_method_154_7)
  have s3 : ∀ t_, Steps p.tables e below (T2.setTop (mkF m 10 #[.val (.ref a)] [(.int (own_cod cs))])) t_ → Steps p.tables e below (s₁.setTop (entryFrame m #[(.ref a)] 1)) t_ := fun t_ k_ => pre0 t_ (by
    show Steps p.tables e below (s₁.setTop (mkF m 0 #[.val (.ref a)] [])) t_
    refine st1 _ ?_
    show Steps p.tables e below (T1.setTop (mkF m 3 #[.val (.ref a)] [(.int cst)])) _
    refine XS.ifNo X1.here hx rfl (Jvm.hb hby d_jdk_42_method_154_3) rfl ((if0 _ _).trans (feq hcst).1) ?_
    show Steps p.tables e below (T1.setTop (mkF m 6 #[.val (.ref a)] [])) _
    refine XS.aloadN X1.here hx rfl (Jvm.hb hby d_jdk_42_method_154_6) rfl rfl ?_
    show Steps p.tables e below (T1.setTop (mkF m 7 #[.val (.ref a)] [(.ref a)])) _
    refine st2 _ ?_
    show Steps p.tables e below (T2.setTop (mkF m 10 #[.val (.ref a)] [(.int (own_cod cs))])) _
    show Steps p.tables e below (T2.setTop (mkF m 10 #[.val (.ref a)] [(.int (own_cod cs))])) t_
    exact k_)
  by_cases h4 : (own_cod cs) = (0 : Int32)
  · have s5 : ∀ t_, Steps p.tables e below (T2.setTop (mkF m 18 #[.val (.ref a)] [(.int (1 : Int32))])) t_ → Steps p.tables e below (s₁.setTop (entryFrame m #[(.ref a)] 1)) t_ := fun t_ k_ => s3 t_ (by
      show Steps p.tables e below (T2.setTop (mkF m 10 #[.val (.ref a)] [(.int (own_cod cs))])) t_
      refine XS.ifNo X2.here hx rfl (Jvm.hb hby d_jdk_42_method_154_10) rfl ((if0 _ _).trans (teq h4).2) ?_
      show Steps p.tables e below (T2.setTop (mkF m 13 #[.val (.ref a)] [])) _
      refine XS.iconst X2.here hx rfl (Jvm.hb hby d_jdk_42_method_154_13) ?_
      show Steps p.tables e below (T2.setTop (mkF m 14 #[.val (.ref a)] [(.int (1 : Int32))])) _
      refine XS.goto X2.here hx rfl (pc0 := 14) (pc' := 18) rfl (Jvm.hb hby d_jdk_42_method_154_14) (by decide) (by decide) ?_
      show Steps p.tables e below (T2.setTop (mkF m 18 #[.val (.ref a)] [(.int (1 : Int32))])) _
      show Steps p.tables e below (T2.setTop (mkF m 18 #[.val (.ref a)] [(.int (1 : Int32))])) t_
      exact k_)
    obtain ⟨fs, hr, hrun, hended, hW, hsame⟩ := X2.leave (v := some (.int (1 : Int32))) (fun h => by rw [Bd.returns] at h; cases h)
    refine ⟨_, _, s5 _ ?_, hrun, hended, _, _, rfl, ?_, ⟨_, rfl⟩, hW, hsame.mono (by decide) (by decide)⟩
    · show Steps p.tables e below (T2.setTop (mkF m 18 #[.val (.ref a)] [(.int (1 : Int32))])) _
      exact retN X2 hx (t := .boolean) Bd.returns (by simp) (Jvm.hb hby d_jdk_42_method_154_18) hr
    · show Q_rmIsL Z _ _ _ h0 n0 _ T2.heap _
      rw [e2]
      exact ⟨(by first | rfl | (simp only [if_pos h4]; done) | (simp only [if_pos h4]; rfl) | (simp only [if_pos h4, own_narb]; done)), N0, rfl⟩
  · have s6 : ∀ t_, Steps p.tables e below (T2.setTop (mkF m 18 #[.val (.ref a)] [(.int (0 : Int32))])) t_ → Steps p.tables e below (s₁.setTop (entryFrame m #[(.ref a)] 1)) t_ := fun t_ k_ => s3 t_ (by
      show Steps p.tables e below (T2.setTop (mkF m 10 #[.val (.ref a)] [(.int (own_cod cs))])) t_
      refine XS.ifYes X2.here hx rfl (pc0 := 10) (pc' := 17) rfl (Jvm.hb hby d_jdk_42_method_154_10) rfl ((if0 _ _).trans (feq h4).2) (by decide) (by decide) ?_
      show Steps p.tables e below (T2.setTop (mkF m 17 #[.val (.ref a)] [])) _
      refine XS.iconst X2.here hx rfl (Jvm.hb hby d_jdk_42_method_154_17) ?_
      show Steps p.tables e below (T2.setTop (mkF m 18 #[.val (.ref a)] [(.int (0 : Int32))])) _
      show Steps p.tables e below (T2.setTop (mkF m 18 #[.val (.ref a)] [(.int (0 : Int32))])) t_
      exact k_)
    obtain ⟨fs, hr, hrun, hended, hW, hsame⟩ := X2.leave (v := some (.int (0 : Int32))) (fun h => by rw [Bd.returns] at h; cases h)
    refine ⟨_, _, s6 _ ?_, hrun, hended, _, _, rfl, ?_, ⟨_, rfl⟩, hW, hsame.mono (by decide) (by decide)⟩
    · show Steps p.tables e below (T2.setTop (mkF m 18 #[.val (.ref a)] [(.int (0 : Int32))])) _
      exact retN X2 hx (t := .boolean) Bd.returns (by simp) (Jvm.hb hby d_jdk_42_method_154_18) hr
    · show Q_rmIsL Z _ _ _ h0 n0 _ T2.heap _
      rw [e2]
      exact ⟨(by first | rfl | (simp only [if_neg h4]; done) | (simp only [if_neg h4]; rfl) | (simp only [if_neg h4, own_narb]; done)), N0, rfl⟩
theorem d_jdk_42_method_55_0 : decode jdk_42_method_55_code 0 = .ok (.aload_n 0, 1) := by decide +kernel
theorem d_jdk_42_method_55_1 : decode jdk_42_method_55_code 1 = .ok (.getfield 9, 3) := by decide +kernel
theorem d_jdk_42_method_55_4 : decode jdk_42_method_55_code 4 = .ok (.arraylength, 1) := by decide +kernel
theorem d_jdk_42_method_55_5 : decode jdk_42_method_55_code 5 = .ok (.ifCond .ne 7, 3) := by decide +kernel
theorem d_jdk_42_method_55_8 : decode jdk_42_method_55_code 8 = .ok (.iconst 1, 1) := by decide +kernel
theorem d_jdk_42_method_55_9 : decode jdk_42_method_55_code 9 = .ok (.goto 4, 3) := by decide +kernel
theorem d_jdk_42_method_55_13 : decode jdk_42_method_55_code 13 = .ok (.ireturn, 1) := by decide +kernel
theorem d_jdk_42_method_55_12 : decode jdk_42_method_55_code 12 = .ok (.iconst 0, 1) := by decide +kernel
theorem ef_rmEmp (m : MethodId) (x0 : Addr) : entryFrame m #[(.ref x0)] 1 = mkF m 0 #[.val (.ref x0)] [] := by first | (simp [entryFrame, mkF, argsToLocals, Value.category]; done) | rfl
def Q_rmEmp (Z : State) (a : Addr) (b : Addr) (kb : ClassId) (cs : List Int32) (h0 : Heap) (n0 : Nat) (v : Option Value) (h : Heap) (L : List Loc) : Prop := (v = some (.int (if cs = [] then (1 : Int32) else (0 : Int32)))) ∧ (Fr n0 L) ∧ (h = h0)
set_option maxRecDepth 65536 in
set_option maxHeartbeats 40000000 in
theorem rmEmp (l : Launch) (Z : State) (a0 : Array Value) (hw : ∀ d ∈ tables_1, d.before a0 Z = true) (ws : List Jvm.Cond) (a : Addr) (b : Addr) (kb : ClassId) (cs : List Int32) (h0 : Heap) (n0 : Nat) (Z0 : n0 ≤ h0.size) (I1 : Exa Z h0 a "java/lang/String") (I2 : Fld Z h0 a "java/lang/String" "value" "[B" (.ref b)) (I3 : Arv Z h0 b kb .byte (Int32.ofNat (own_enl cs)) (own_enc cs) (.int (0 : Int32))) (hb : cs.length ≤ 4) :
    MetFree l (⟨"java/lang/String", "isEmpty", "()Z"⟩ : MethodName) (head1 (Jvm.Cond.code (⟨"java/lang/String", "isEmpty", "()Z"⟩ : MethodName) jdk_42_method_55_code 1 (some .boolean) :: ws) ({ frames := 0, cells := 0, slots := 0, locals := 0 } : Room)) (fun ar_ U => ar_ = #[(.ref a)] ∧ Z.Warmed39 U.vm ∧ U.heap = h0) (fun _ _ _ _ _ => True) (fun _ U o U' => ∃ v L, o = .returned v ∧ Q_rmEmp Z a b kb cs h0 n0 v U'.heap L ∧ FrameEnd U o U' L ({ frames := 0, cells := 0, slots := 0, locals := 0 } : Room).cells ({ frames := 0, cells := 0, slots := 0, locals := 0 } : Room).slots) := by
  refine MetFree.of_bodySF (plainFor_of_name pn_java_lang_String) hisR ?_
  intro p e s m args below meth c s₁ Bd hml0 hP hK
  obtain ⟨rfl, hZ, hh⟩ := hP
  have hx := Bd.exec
  have hby := Bd.bytes
  have hml : c.maxLocals = 1 := hml0
  have hown : s.vm.findClass "java/lang/String" = some m.cls := findClass_of_methodNamed Bd.named
  have hnm := (name_of_methodNamed Bd.named Bd.method).1
  have X0 : Stand p l e ({ frames := 0, cells := 0, slots := 0, locals := 0 } : Room) s m #[(.ref a)] below meth c s₁ [] 0 0 := Stand.of_body Bd
  have e0 : s₁.heap = h0 := by rw [← hh, Bd.state]; rfl
  have N0 := Fr.nil n0
  have pre0 : ∀ t_, Steps p.tables e below (s₁.setTop (mkF m 0 #[.val (.ref a)] [])) t_ → Steps p.tables e below (s₁.setTop (entryFrame m #[(.ref a)] 1)) t_ := fun t_ k_ => castTop (ef_rmEmp m a) k_
  have lt_I1 : @LT.lt Nat _ a h0.size := I1.lt
  have lt_I2 : @LT.lt Nat _ a h0.size := I2.lt
  have lt_I3 : @LT.lt Nat _ b h0.size := I3.lt
  obtain ⟨T1, X1, e1, st1⟩ := getF X0 hx hZ hown (host := "") (Or.inl (hw _ (List.mem_of_getElem? (i := 25) rfl))) Via.refl e0 I2 (g := (mkF m 1 #[.val (.ref a)] [(.ref a)])) rfl rfl (Jvm.hb hby d_jdk_42_method_55_1)
  obtain ⟨cl2, Ar2, -, S2, M2, -, -⟩ := id I3
  have s3 : ∀ t_, Steps p.tables e below (T1.setTop (mkF m 5 #[.val (.ref a)] [(.int (Int32.ofNat (own_enl cs)))])) t_ → Steps p.tables e below (s₁.setTop (entryFrame m #[(.ref a)] 1)) t_ := fun t_ k_ => pre0 t_ (by
    show Steps p.tables e below (s₁.setTop (mkF m 0 #[.val (.ref a)] [])) t_
    refine XS.aloadN X0.here hx rfl (Jvm.hb hby d_jdk_42_method_55_0) rfl rfl ?_
    show Steps p.tables e below (s₁.setTop (mkF m 1 #[.val (.ref a)] [(.ref a)])) _
    refine st1 _ ?_
    show Steps p.tables e below (T1.setTop (mkF m 4 #[.val (.ref a)] [(.ref b)])) _
    refine X1.arraylength hx (by rw [e1]; exact Ar2.1) (State.isArrayOf_alike hZ.alike Ar2.2.1) (g := (mkF m 4 #[.val (.ref a)] [(.ref b)])) rfl rfl (Jvm.hb hby d_jdk_42_method_55_4) _ ?_
    rw [len_of S2 M2]
    show Steps p.tables e below (T1.setTop (mkF m 5 #[.val (.ref a)] [(.int (Int32.ofNat (own_enl cs)))])) _
    show Steps p.tables e below (T1.setTop (mkF m 5 #[.val (.ref a)] [(.int (Int32.ofNat (own_enl cs)))])) t_
    exact k_)
  by_cases h4 : (Int32.ofNat (own_enl cs)) = (0 : Int32)
  · have s5 : ∀ t_, Steps p.tables e below (T1.setTop (mkF m 13 #[.val (.ref a)] [(.int (1 : Int32))])) t_ → Steps p.tables e below (s₁.setTop (entryFrame m #[(.ref a)] 1)) t_ := fun t_ k_ => s3 t_ (by
      show Steps p.tables e below (T1.setTop (mkF m 5 #[.val (.ref a)] [(.int (Int32.ofNat (own_enl cs)))])) t_
      refine XS.ifNo X1.here hx rfl (Jvm.hb hby d_jdk_42_method_55_5) rfl ((if0 _ _).trans (teq h4).2) ?_
      show Steps p.tables e below (T1.setTop (mkF m 8 #[.val (.ref a)] [])) _
      refine XS.iconst X1.here hx rfl (Jvm.hb hby d_jdk_42_method_55_8) ?_
      show Steps p.tables e below (T1.setTop (mkF m 9 #[.val (.ref a)] [(.int (1 : Int32))])) _
      refine XS.goto X1.here hx rfl (pc0 := 9) (pc' := 13) rfl (Jvm.hb hby d_jdk_42_method_55_9) (by decide) (by decide) ?_
      show Steps p.tables e below (T1.setTop (mkF m 13 #[.val (.ref a)] [(.int (1 : Int32))])) _
      show Steps p.tables e below (T1.setTop (mkF m 13 #[.val (.ref a)] [(.int (1 : Int32))])) t_
      exact k_)
    obtain ⟨fs, hr, hrun, hended, hW, hsame⟩ := X1.leave (v := some (.int (1 : Int32))) (fun h => by rw [Bd.returns] at h; cases h)
    refine ⟨_, _, s5 _ ?_, hrun, hended, _, _, rfl, ?_, ⟨_, rfl⟩, hW, hsame.mono (by decide) (by decide)⟩
    · show Steps p.tables e below (T1.setTop (mkF m 13 #[.val (.ref a)] [(.int (1 : Int32))])) _
      exact retN X1 hx (t := .boolean) Bd.returns (by simp) (Jvm.hb hby d_jdk_42_method_55_13) hr
    · show Q_rmEmp Z _ _ _ _ h0 n0 _ T1.heap _
      rw [e1]
      exact ⟨(by rw [if_pos ((own_enl0 (by omega)).mp h4)]), N0, rfl⟩
  · have s6 : ∀ t_, Steps p.tables e below (T1.setTop (mkF m 13 #[.val (.ref a)] [(.int (0 : Int32))])) t_ → Steps p.tables e below (s₁.setTop (entryFrame m #[(.ref a)] 1)) t_ := fun t_ k_ => s3 t_ (by
      show Steps p.tables e below (T1.setTop (mkF m 5 #[.val (.ref a)] [(.int (Int32.ofNat (own_enl cs)))])) t_
      refine XS.ifYes X1.here hx rfl (pc0 := 5) (pc' := 12) rfl (Jvm.hb hby d_jdk_42_method_55_5) rfl ((if0 _ _).trans (feq h4).2) (by decide) (by decide) ?_
      show Steps p.tables e below (T1.setTop (mkF m 12 #[.val (.ref a)] [])) _
      refine XS.iconst X1.here hx rfl (Jvm.hb hby d_jdk_42_method_55_12) ?_
      show Steps p.tables e below (T1.setTop (mkF m 13 #[.val (.ref a)] [(.int (0 : Int32))])) _
      show Steps p.tables e below (T1.setTop (mkF m 13 #[.val (.ref a)] [(.int (0 : Int32))])) t_
      exact k_)
    obtain ⟨fs, hr, hrun, hended, hW, hsame⟩ := X1.leave (v := some (.int (0 : Int32))) (fun h => by rw [Bd.returns] at h; cases h)
    refine ⟨_, _, s6 _ ?_, hrun, hended, _, _, rfl, ?_, ⟨_, rfl⟩, hW, hsame.mono (by decide) (by decide)⟩
    · show Steps p.tables e below (T1.setTop (mkF m 13 #[.val (.ref a)] [(.int (0 : Int32))])) _
      exact retN X1 hx (t := .boolean) Bd.returns (by simp) (Jvm.hb hby d_jdk_42_method_55_13) hr
    · show Q_rmEmp Z _ _ _ _ h0 n0 _ T1.heap _
      rw [e1]
      exact ⟨(by rw [if_neg (fun e => h4 ((own_enl0 (by omega)).mpr e))]), N0, rfl⟩
theorem pn_jdk_internal_util_Preconditions : plainName "jdk/internal/util/Preconditions" = true := by first | (simp [plainName, overriddenIn]; done) | decide +kernel
theorem d_jdk_41_method_11_0 : decode jdk_41_method_11_code 0 = .ok (.iload_n 0, 1) := by decide +kernel
theorem d_jdk_41_method_11_1 : decode jdk_41_method_11_code 1 = .ok (.ifCond .lt 8, 3) := by decide +kernel
theorem d_jdk_41_method_11_4 : decode jdk_41_method_11_code 4 = .ok (.iload_n 0, 1) := by decide +kernel
theorem d_jdk_41_method_11_5 : decode jdk_41_method_11_code 5 = .ok (.iload_n 1, 1) := by decide +kernel
theorem d_jdk_41_method_11_6 : decode jdk_41_method_11_code 6 = .ok (.if_icmp .lt 10, 3) := by decide +kernel
theorem d_jdk_41_method_11_16 : decode jdk_41_method_11_code 16 = .ok (.iload_n 0, 1) := by decide +kernel
theorem d_jdk_41_method_11_17 : decode jdk_41_method_11_code 17 = .ok (.ireturn, 1) := by decide +kernel
theorem ef_rmPCk (m : MethodId) (x0 : Int32) (x1 : Int32) (x2 : Value) (hr_x2 : x2.isRef = true) : entryFrame m #[(.int x0), (.int x1), x2] 3 = mkF m 0 #[.val (.int x0), .val (.int x1), .val x2] [] := by first | (simp [entryFrame, mkF, argsToLocals, Value.category]; done) | rfl | (cases x2 <;> simp [Value.isRef] at hr_x2 <;> rfl)
def Q_rmPCk (Z : State) (fmt : Value) (i : Nat) (n : Nat) (h0 : Heap) (n0 : Nat) (v : Option Value) (h : Heap) (L : List Loc) : Prop := (v = some (.int (Int32.ofNat i))) ∧ (Fr n0 L) ∧ (h = h0)
set_option maxRecDepth 65536 in
set_option maxHeartbeats 40000000 in
theorem rmPCk (l : Launch) (Z : State) (a0 : Array Value) (hw : ∀ d ∈ tables_1, d.before a0 Z = true) (ws : List Jvm.Cond) (fmt : Value) (i : Nat) (n : Nat) (h0 : Heap) (n0 : Nat) (Z0 : n0 ≤ h0.size) (hfmt : fmt.isRef = true) (hin : i < n) (hn8 : n ≤ 8000) :
    MetFree l (⟨"jdk/internal/util/Preconditions", "checkIndex", "(IILjava/util/function/BiFunction;)I"⟩ : MethodName) (head1 (Jvm.Cond.code (⟨"jdk/internal/util/Preconditions", "checkIndex", "(IILjava/util/function/BiFunction;)I"⟩ : MethodName) jdk_41_method_11_code 3 (some .int) :: ws) ({ frames := 0, cells := 0, slots := 0, locals := 0 } : Room)) (fun ar_ U => ar_ = #[(.int (Int32.ofNat i)), (.int (Int32.ofNat n)), fmt] ∧ Z.Warmed39 U.vm ∧ U.heap = h0) (fun _ _ _ _ _ => True) (fun _ U o U' => ∃ v L, o = .returned v ∧ Q_rmPCk Z fmt i n h0 n0 v U'.heap L ∧ FrameEnd U o U' L ({ frames := 0, cells := 0, slots := 0, locals := 0 } : Room).cells ({ frames := 0, cells := 0, slots := 0, locals := 0 } : Room).slots) := by
  refine MetFree.of_bodySF (plainFor_of_name pn_jdk_internal_util_Preconditions) hisR ?_
  intro p e s m args below meth c s₁ Bd hml0 hP hK
  obtain ⟨rfl, hZ, hh⟩ := hP
  have hx := Bd.exec
  have hby := Bd.bytes
  have hml : c.maxLocals = 3 := hml0
  have hown : s.vm.findClass "jdk/internal/util/Preconditions" = some m.cls := findClass_of_methodNamed Bd.named
  have hnm := (name_of_methodNamed Bd.named Bd.method).1
  have X0 : Stand p l e ({ frames := 0, cells := 0, slots := 0, locals := 0 } : Room) s m #[(.int (Int32.ofNat i)), (.int (Int32.ofNat n)), fmt] below meth c s₁ [] 0 0 := Stand.of_body Bd
  have e0 : s₁.heap = h0 := by rw [← hh, Bd.state]; rfl
  have N0 := Fr.nil n0
  have pre0 : ∀ t_, Steps p.tables e below (s₁.setTop (mkF m 0 #[.val (.int (Int32.ofNat i)), .val (.int (Int32.ofNat n)), .val fmt] [])) t_ → Steps p.tables e below (s₁.setTop (entryFrame m #[(.int (Int32.ofNat i)), (.int (Int32.ofNat n)), fmt] 3)) t_ := fun t_ k_ => castTop (ef_rmPCk m (Int32.ofNat i) (Int32.ofNat n) fmt hfmt) k_
  have s1 : ∀ t_, Steps p.tables e below (s₁.setTop (mkF m 17 #[.val (.int (Int32.ofNat i)), .val (.int (Int32.ofNat n)), .val fmt] [(.int (Int32.ofNat i))])) t_ → Steps p.tables e below (s₁.setTop (entryFrame m #[(.int (Int32.ofNat i)), (.int (Int32.ofNat n)), fmt] 3)) t_ := fun t_ k_ => pre0 t_ (by
    show Steps p.tables e below (s₁.setTop (mkF m 0 #[.val (.int (Int32.ofNat i)), .val (.int (Int32.ofNat n)), .val fmt] [])) t_
    refine XS.iloadN X0.here hx rfl (Jvm.hb hby d_jdk_41_method_11_0) rfl ?_
    show Steps p.tables e below (s₁.setTop (mkF m 1 #[.val (.int (Int32.ofNat i)), .val (.int (Int32.ofNat n)), .val fmt] [(.int (Int32.ofNat i))])) _
    refine XS.ifNo X0.here hx rfl (Jvm.hb hby d_jdk_41_method_11_1) rfl ((if0 _ _).trans (flt (own_nn (by omega))).1) ?_
    show Steps p.tables e below (s₁.setTop (mkF m 4 #[.val (.int (Int32.ofNat i)), .val (.int (Int32.ofNat n)), .val fmt] [])) _
    refine XS.iloadN X0.here hx rfl (Jvm.hb hby d_jdk_41_method_11_4) rfl ?_
    show Steps p.tables e below (s₁.setTop (mkF m 5 #[.val (.int (Int32.ofNat i)), .val (.int (Int32.ofNat n)), .val fmt] [(.int (Int32.ofNat i))])) _
    refine XS.iloadN X0.here hx rfl (Jvm.hb hby d_jdk_41_method_11_5) rfl ?_
    show Steps p.tables e below (s₁.setTop (mkF m 6 #[.val (.int (Int32.ofNat i)), .val (.int (Int32.ofNat n)), .val fmt] [(.int (Int32.ofNat n)), (.int (Int32.ofNat i))])) _
    refine XS.icmpYes X0.here hx rfl (pc0 := 6) (pc' := 16) rfl (Jvm.hb hby d_jdk_41_method_11_6) rfl (tlt (own_lt (by omega) (by omega))).1 (by decide) (by decide) ?_
    show Steps p.tables e below (s₁.setTop (mkF m 16 #[.val (.int (Int32.ofNat i)), .val (.int (Int32.ofNat n)), .val fmt] [])) _
    refine XS.iloadN X0.here hx rfl (Jvm.hb hby d_jdk_41_method_11_16) rfl ?_
    show Steps p.tables e below (s₁.setTop (mkF m 17 #[.val (.int (Int32.ofNat i)), .val (.int (Int32.ofNat n)), .val fmt] [(.int (Int32.ofNat i))])) _
    show Steps p.tables e below (s₁.setTop (mkF m 17 #[.val (.int (Int32.ofNat i)), .val (.int (Int32.ofNat n)), .val fmt] [(.int (Int32.ofNat i))])) t_
    exact k_)
  obtain ⟨fs, hr, hrun, hended, hW, hsame⟩ := X0.leave (v := some (.int (Int32.ofNat i))) (fun h => by rw [Bd.returns] at h; cases h)
  refine ⟨_, _, s1 _ ?_, hrun, hended, _, _, rfl, ?_, ⟨_, rfl⟩, hW, hsame.mono (by decide) (by decide)⟩
  · show Steps p.tables e below (s₁.setTop (mkF m 17 #[.val (.int (Int32.ofNat i)), .val (.int (Int32.ofNat n)), .val fmt] [(.int (Int32.ofNat i))])) _
    exact retI X0 hx Bd.returns (Jvm.hb hby d_jdk_41_method_11_17) hr
  · show Q_rmPCk Z _ _ _ h0 n0 _ s₁.heap _
    rw [e0]
    exact ⟨rfl, N0, rfl⟩
theorem d_jdk_42_method_155_0 : decode jdk_42_method_155_code 0 = .ok (.iload_n 0, 1) := by decide +kernel
theorem d_jdk_42_method_155_1 : decode jdk_42_method_155_code 1 = .ok (.iload_n 1, 1) := by decide +kernel
theorem d_jdk_42_method_155_2 : decode jdk_42_method_155_code 2 = .ok (.getstatic 1053, 3) := by decide +kernel
theorem pd__IILjava_util_function_BiFunction__I : parseMethodDescriptor "(IILjava/util/function/BiFunction;)I" = some ⟨[.int, .int, (.object "java/util/function/BiFunction")], some .int⟩ := by decide +kernel
theorem d_jdk_42_method_155_5 : decode jdk_42_method_155_code 5 = .ok (.invokestatic 1059, 3) := by decide +kernel
theorem d_jdk_42_method_155_8 : decode jdk_42_method_155_code 8 = .ok (.pop, 1) := by decide +kernel
theorem d_jdk_42_method_155_9 : decode jdk_42_method_155_code 9 = .ok (.return_, 1) := by decide +kernel
theorem ef_rmSCk (m : MethodId) (x0 : Int32) (x1 : Int32) : entryFrame m #[(.int x0), (.int x1)] 2 = mkF m 0 #[.val (.int x0), .val (.int x1)] [] := by first | (simp [entryFrame, mkF, argsToLocals, Value.category]; done) | rfl
def Q_rmSCk (Z : State) (i : Nat) (n : Nat) (fmt : Value) (h0 : Heap) (n0 : Nat) (v : Option Value) (h : Heap) (L : List Loc) : Prop := (v = none) ∧ (Fr n0 L) ∧ (h = h0)
set_option maxRecDepth 65536 in
set_option maxHeartbeats 40000000 in
theorem rmSCk (l : Launch) (Z : State) (a0 : Array Value) (hw : ∀ d ∈ tables_1, d.before a0 Z = true) (ws : List Jvm.Cond) (i : Nat) (n : Nat) (fmt : Value) (h0 : Heap) (n0 : Nat) (Z0 : n0 ≤ h0.size) (hfmt : fmt.isRef = true) (I1 : Sta Z Z.heap "jdk/internal/util/Preconditions" "SIOOBE_FORMATTER" "Ljava/util/function/BiFunction;" fmt) (OX : Old Z n0 h0) (hin : i < n) (hn8 : n ≤ 8000) :
    MetFree l (⟨"java/lang/String", "checkIndex", "(II)V"⟩ : MethodName) (head1 (Jvm.Cond.code (⟨"java/lang/String", "checkIndex", "(II)V"⟩ : MethodName) jdk_42_method_155_code 2 none :: ws) ({ frames := 1, cells := 0, slots := 0, locals := 14 } : Room)) (fun ar_ U => ar_ = #[(.int (Int32.ofNat i)), (.int (Int32.ofNat n))] ∧ Z.Warmed39 U.vm ∧ U.heap = h0) (fun _ _ _ _ _ => True) (fun _ U o U' => ∃ v L, o = .returned v ∧ Q_rmSCk Z i n fmt h0 n0 v U'.heap L ∧ FrameEnd U o U' L ({ frames := 1, cells := 0, slots := 0, locals := 14 } : Room).cells ({ frames := 1, cells := 0, slots := 0, locals := 14 } : Room).slots) := by
  refine MetFree.of_bodySF (plainFor_of_name pn_java_lang_String) hisR ?_
  intro p e s m args below meth c s₁ Bd hml0 hP hK
  obtain ⟨rfl, hZ, hh⟩ := hP
  have hx := Bd.exec
  have hby := Bd.bytes
  have hml : c.maxLocals = 2 := hml0
  have hown : s.vm.findClass "java/lang/String" = some m.cls := findClass_of_methodNamed Bd.named
  have hnm := (name_of_methodNamed Bd.named Bd.method).1
  have X0 : Stand p l e ({ frames := 1, cells := 0, slots := 0, locals := 14 } : Room) s m #[(.int (Int32.ofNat i)), (.int (Int32.ofNat n))] below meth c s₁ [] 0 0 := Stand.of_body Bd
  have e0 : s₁.heap = h0 := by rw [← hh, Bd.state]; rfl
  have N0 := Fr.nil n0
  have pre0 : ∀ t_, Steps p.tables e below (s₁.setTop (mkF m 0 #[.val (.int (Int32.ofNat i)), .val (.int (Int32.ofNat n))] [])) t_ → Steps p.tables e below (s₁.setTop (entryFrame m #[(.int (Int32.ofNat i)), (.int (Int32.ofNat n))] 2)) t_ := fun t_ k_ => castTop (ef_rmSCk m (Int32.ofNat i) (Int32.ofNat n)) k_
  obtain ⟨T1, X1, e1, st1⟩ := getS2 X0 hx hZ hown (host := "") (Or.inl (hw _ (List.mem_of_getElem? (i := 77) rfl))) Via.refl e0 (I1.ext OX.2) (g := (mkF m 2 #[.val (.int (Int32.ofNat i)), .val (.int (Int32.ofNat n))] [(.int (Int32.ofNat n)), (.int (Int32.ofNat i))])) rfl (Jvm.hb hby d_jdk_42_method_155_2)
  have Zc2 : n0 ≤ h0.size := by omega
  obtain ⟨_, _, ⟨T3, L3, k3, n3⟩, -, X3, ⟨Lc3, hQ3, l3, y3, z3⟩, st3⟩ := Jvm.LawKit.callS X1 hx (y := (⟨"jdk/internal/util/Preconditions", "checkIndex", "(IILjava/util/function/BiFunction;)I"⟩ : MethodName)) hown (mvT hZ (hw _ (List.mem_of_getElem? (i := 79) rfl))) (mvT hZ (hw _ (List.mem_of_getElem? (i := 80) rfl))) (mvT hZ (hw _ (List.mem_of_getElem? (i := 78) rfl))) (mvT hZ (hw _ (List.mem_of_getElem? (i := 81) rfl))) (by decide) (backOf (W := 0) (rmPCk l Z a0 hw [] fmt i n h0 n0 Zc2 (hfmt : fmt.isRef = true) (hin : i < n) (hn8 : n ≤ 8000)) hZ (hw _ (List.mem_of_getElem? (i := 81) rfl)) (hw _ (List.mem_of_getElem? (i := 78) rfl)) (by decide) (by decide)) (g := (mkF m 5 #[.val (.int (Int32.ofNat i)), .val (.int (Int32.ofNat n))] [fmt, (.int (Int32.ofNat n)), (.int (Int32.ofNat i))])) rfl (by rw [hml]; rfl) (argsL := [(.int (Int32.ofNat i)), (.int (Int32.ofNat n)), fmt]) (rest := []) (lenOf pd__IILjava_util_function_BiFunction__I rfl) rfl (by show 2 * 0 + _ ≤ _; exact Nat.le_of_eq rfl) (Jvm.hb hby d_jdk_42_method_155_5) (fun _ _ => ⟨rfl, e1, (by decide : 0 + 0 ≤ _), (by decide : 0 + 0 ≤ _)⟩)
  dsimp only [Pt.U, Pt.locs, Pt.cells, Pt.slots] at X3 l3 y3 z3 st3 hQ3
  subst l3 y3 z3
  obtain ⟨rfl, N3q, e3⟩ := hQ3
  have N3 := Fr.app N0 N3q
  have s4 : ∀ t_, Steps p.tables e below (T3.setTop (mkF m 9 #[.val (.int (Int32.ofNat i)), .val (.int (Int32.ofNat n))] [])) t_ → Steps p.tables e below (s₁.setTop (entryFrame m #[(.int (Int32.ofNat i)), (.int (Int32.ofNat n))] 2)) t_ := fun t_ k_ => pre0 t_ (by
    show Steps p.tables e below (s₁.setTop (mkF m 0 #[.val (.int (Int32.ofNat i)), .val (.int (Int32.ofNat n))] [])) t_
    refine XS.iloadN X0.here hx rfl (Jvm.hb hby d_jdk_42_method_155_0) rfl ?_
    show Steps p.tables e below (s₁.setTop (mkF m 1 #[.val (.int (Int32.ofNat i)), .val (.int (Int32.ofNat n))] [(.int (Int32.ofNat i))])) _
    refine XS.iloadN X0.here hx rfl (Jvm.hb hby d_jdk_42_method_155_1) rfl ?_
    show Steps p.tables e below (s₁.setTop (mkF m 2 #[.val (.int (Int32.ofNat i)), .val (.int (Int32.ofNat n))] [(.int (Int32.ofNat n)), (.int (Int32.ofNat i))])) _
    refine st1 _ ?_
    show Steps p.tables e below (T1.setTop (mkF m 5 #[.val (.int (Int32.ofNat i)), .val (.int (Int32.ofNat n))] [fmt, (.int (Int32.ofNat n)), (.int (Int32.ofNat i))])) _
    refine st3 _ ?_
    show Steps p.tables e below (T3.setTop (mkF m 8 #[.val (.int (Int32.ofNat i)), .val (.int (Int32.ofNat n))] [(.int (Int32.ofNat i))])) _
    refine XS.pop X3.here hx rfl (Jvm.hb hby d_jdk_42_method_155_8) rfl rfl ?_
    show Steps p.tables e below (T3.setTop (mkF m 9 #[.val (.int (Int32.ofNat i)), .val (.int (Int32.ofNat n))] [])) _
    show Steps p.tables e below (T3.setTop (mkF m 9 #[.val (.int (Int32.ofNat i)), .val (.int (Int32.ofNat n))] [])) t_
    exact k_)
  obtain ⟨fs, hr, hrun, hended, hW, hsame⟩ := X3.leave (v := none) (fun _ => rfl)
  refine ⟨_, _, s4 _ ?_, hrun, hended, _, _, rfl, ?_, ⟨_, rfl⟩, hW, hsame.mono (by decide) (by decide)⟩
  · show Steps p.tables e below (T3.setTop (mkF m 9 #[.val (.int (Int32.ofNat i)), .val (.int (Int32.ofNat n))] [])) _
    exact X3.returnOut hx Bd.returns (Jvm.hb hby d_jdk_42_method_155_9) hr
  · show Q_rmSCk Z _ _ _ h0 n0 _ T3.heap _
    rw [e3]
    exact ⟨rfl, N3, rfl⟩
theorem pn_java_lang_StringLatin1 : plainName "java/lang/StringLatin1" = true := by first | (simp [plainName, overriddenIn]; done) | decide +kernel
theorem d_jdk_43_method_2_0 : decode jdk_43_method_2_code 0 = .ok (.iload_n 1, 1) := by decide +kernel
theorem d_jdk_43_method_2_1 : decode jdk_43_method_2_code 1 = .ok (.aload_n 0, 1) := by decide +kernel
theorem d_jdk_43_method_2_2 : decode jdk_43_method_2_code 2 = .ok (.arraylength, 1) := by decide +kernel
theorem pd__II_V : parseMethodDescriptor "(II)V" = some ⟨[.int, .int], none⟩ := by decide +kernel
theorem d_jdk_43_method_2_3 : decode jdk_43_method_2_code 3 = .ok (.invokestatic 9, 3) := by decide +kernel
theorem d_jdk_43_method_2_6 : decode jdk_43_method_2_code 6 = .ok (.aload_n 0, 1) := by decide +kernel
theorem d_jdk_43_method_2_7 : decode jdk_43_method_2_code 7 = .ok (.iload_n 1, 1) := by decide +kernel
theorem d_jdk_43_method_2_8 : decode jdk_43_method_2_code 8 = .ok (.baload, 1) := by decide +kernel
theorem d_jdk_43_method_2_9 : decode jdk_43_method_2_code 9 = .ok (.sipush 255, 3) := by decide +kernel
theorem d_jdk_43_method_2_12 : decode jdk_43_method_2_code 12 = .ok (.iand, 1) := by decide +kernel
theorem d_jdk_43_method_2_13 : decode jdk_43_method_2_code 13 = .ok (.i2c, 1) := by decide +kernel
theorem d_jdk_43_method_2_14 : decode jdk_43_method_2_code 14 = .ok (.ireturn, 1) := by decide +kernel
theorem ef_rmLCh (m : MethodId) (x0 : Addr) (x1 : Int32) : entryFrame m #[(.ref x0), (.int x1)] 2 = mkF m 0 #[.val (.ref x0), .val (.int x1)] [] := by first | (simp [entryFrame, mkF, argsToLocals, Value.category]; done) | rfl
def Q_rmLCh (Z : State) (b : Addr) (kb : ClassId) (cs : List Int32) (i : Nat) (fmt : Value) (h0 : Heap) (n0 : Nat) (v : Option Value) (h : Heap) (L : List Loc) : Prop := (v = some (.int (cs.getD i 0))) ∧ (Fr n0 L) ∧ (h = h0)
set_option maxRecDepth 65536 in
set_option maxHeartbeats 40000000 in
theorem rmLCh (l : Launch) (Z : State) (a0 : Array Value) (hw : ∀ d ∈ tables_1, d.before a0 Z = true) (ws : List Jvm.Cond) (b : Addr) (kb : ClassId) (cs : List Int32) (i : Nat) (fmt : Value) (h0 : Heap) (n0 : Nat) (Z0 : n0 ≤ h0.size) (hfmt : fmt.isRef = true) (I1 : Sta Z Z.heap "jdk/internal/util/Preconditions" "SIOOBE_FORMATTER" "Ljava/util/function/BiFunction;" fmt) (OX : Old Z n0 h0) (I2 : Arv Z h0 b kb .byte (Int32.ofNat cs.length) (own_enc cs) (.int (0 : Int32))) (hb : cs.length ≤ 4) (hi : i < cs.length) (hlat : own_lat cs) (hchs : own_chs cs) :
    MetFree l (⟨"java/lang/StringLatin1", "charAt", "([BI)C"⟩ : MethodName) (head1 (Jvm.Cond.code (⟨"java/lang/StringLatin1", "charAt", "([BI)C"⟩ : MethodName) jdk_43_method_2_code 2 (some .char) :: ws) ({ frames := 2, cells := 0, slots := 0, locals := 27 } : Room)) (fun ar_ U => ar_ = #[(.ref b), (.int (Int32.ofNat i))] ∧ Z.Warmed39 U.vm ∧ U.heap = h0) (fun _ _ _ _ _ => True) (fun _ U o U' => ∃ v L, o = .returned v ∧ Q_rmLCh Z b kb cs i fmt h0 n0 v U'.heap L ∧ FrameEnd U o U' L ({ frames := 2, cells := 0, slots := 0, locals := 27 } : Room).cells ({ frames := 2, cells := 0, slots := 0, locals := 27 } : Room).slots) := by
  refine MetFree.of_bodySF (plainFor_of_name pn_java_lang_StringLatin1) hisR ?_
  intro p e s m args below meth c s₁ Bd hml0 hP hK
  obtain ⟨rfl, hZ, hh⟩ := hP
  have hx := Bd.exec
  have hby := Bd.bytes
  have hml : c.maxLocals = 2 := hml0
  have hown : s.vm.findClass "java/lang/StringLatin1" = some m.cls := findClass_of_methodNamed Bd.named
  have hnm := (name_of_methodNamed Bd.named Bd.method).1
  have X0 : Stand p l e ({ frames := 2, cells := 0, slots := 0, locals := 27 } : Room) s m #[(.ref b), (.int (Int32.ofNat i))] below meth c s₁ [] 0 0 := Stand.of_body Bd
  have e0 : s₁.heap = h0 := by rw [← hh, Bd.state]; rfl
  have N0 := Fr.nil n0
  have pre0 : ∀ t_, Steps p.tables e below (s₁.setTop (mkF m 0 #[.val (.ref b), .val (.int (Int32.ofNat i))] [])) t_ → Steps p.tables e below (s₁.setTop (entryFrame m #[(.ref b), (.int (Int32.ofNat i))] 2)) t_ := fun t_ k_ => castTop (ef_rmLCh m b (Int32.ofNat i)) k_
  have lt_I2 : @LT.lt Nat _ b h0.size := I2.lt
  obtain ⟨cl1, Ar1, -, S1, M1, -, -⟩ := id I2
  have Zc2 : n0 ≤ h0.size := by omega
  obtain ⟨_, _, ⟨T3, L3, k3, n3⟩, -, X3, ⟨Lc3, hQ3, l3, y3, z3⟩, st3⟩ := Jvm.LawKit.callS X0 hx (y := (⟨"java/lang/String", "checkIndex", "(II)V"⟩ : MethodName)) hown (mvT hZ (hw _ (List.mem_of_getElem? (i := 74) rfl))) (mvT hZ (hw _ (List.mem_of_getElem? (i := 75) rfl))) (mvT hZ (hw _ (List.mem_of_getElem? (i := 7) rfl))) (mvT hZ (hw _ (List.mem_of_getElem? (i := 76) rfl))) (by decide) (backOf (W := 0) (rmSCk l Z a0 hw [] i cs.length fmt h0 n0 Zc2 (hfmt : fmt.isRef = true) I1 OX hi (by first | assumption | rfl | decide | omega : cs.length ≤ 8000)) hZ (hw _ (List.mem_of_getElem? (i := 76) rfl)) (hw _ (List.mem_of_getElem? (i := 7) rfl)) (by decide) (by decide)) (g := (mkF m 3 #[.val (.ref b), .val (.int (Int32.ofNat i))] [(.int (Int32.ofNat cs.length)), (.int (Int32.ofNat i))])) rfl (by rw [hml]; rfl) (argsL := [(.int (Int32.ofNat i)), (.int (Int32.ofNat cs.length))]) (rest := []) (lenOf pd__II_V rfl) rfl (by show 2 * 0 + _ ≤ _; exact Nat.le_of_eq rfl) (Jvm.hb hby d_jdk_43_method_2_3) (fun _ _ => ⟨rfl, e0, (by decide : 0 + 0 ≤ _), (by decide : 0 + 0 ≤ _)⟩)
  dsimp only [Pt.U, Pt.locs, Pt.cells, Pt.slots] at X3 l3 y3 z3 st3 hQ3
  subst l3 y3 z3
  obtain ⟨rfl, N3q, e3⟩ := hQ3
  have N3 := Fr.app N0 N3q
  obtain ⟨cl4, Ar4, -, S4, M4, H4, -⟩ := id I2
  have hin4 : ¬ ((Int32.ofNat i) < 0 ∨ cl4.slots.size ≤ ((Int32.ofNat i)).toNatClampNeg) := inb_of S4 (own_in hi (by omega))
  have hat4 : cl4.slots[((Int32.ofNat i)).toNatClampNeg]? = some (.int (own_lo (cs.getD i 0))) := H4.at hin4 (own_geth cs i _ hlat hi (by omega))
  have s5 : ∀ t_, Steps p.tables e below (T3.setTop (mkF m 14 #[.val (.ref b), .val (.int (Int32.ofNat i))] [(.int (i2c ((own_lo (cs.getD i 0)) &&& (255 : Int32))))])) t_ → Steps p.tables e below (s₁.setTop (entryFrame m #[(.ref b), (.int (Int32.ofNat i))] 2)) t_ := fun t_ k_ => pre0 t_ (by
    show Steps p.tables e below (s₁.setTop (mkF m 0 #[.val (.ref b), .val (.int (Int32.ofNat i))] [])) t_
    refine XS.iloadN X0.here hx rfl (Jvm.hb hby d_jdk_43_method_2_0) rfl ?_
    show Steps p.tables e below (s₁.setTop (mkF m 1 #[.val (.ref b), .val (.int (Int32.ofNat i))] [(.int (Int32.ofNat i))])) _
    refine XS.aloadN X0.here hx rfl (Jvm.hb hby d_jdk_43_method_2_1) rfl rfl ?_
    show Steps p.tables e below (s₁.setTop (mkF m 2 #[.val (.ref b), .val (.int (Int32.ofNat i))] [(.ref b), (.int (Int32.ofNat i))])) _
    refine X0.arraylength hx (by rw [e0]; exact Ar1.1) (State.isArrayOf_alike hZ.alike Ar1.2.1) (g := (mkF m 2 #[.val (.ref b), .val (.int (Int32.ofNat i))] [(.ref b), (.int (Int32.ofNat i))])) rfl rfl (Jvm.hb hby d_jdk_43_method_2_2) _ ?_
    rw [len_of S1 M1]
    show Steps p.tables e below (s₁.setTop (mkF m 3 #[.val (.ref b), .val (.int (Int32.ofNat i))] [(.int (Int32.ofNat cs.length)), (.int (Int32.ofNat i))])) _
    refine st3 _ ?_
    show Steps p.tables e below (T3.setTop (mkF m 6 #[.val (.ref b), .val (.int (Int32.ofNat i))] [])) _
    refine XS.aloadN X3.here hx rfl (Jvm.hb hby d_jdk_43_method_2_6) rfl rfl ?_
    show Steps p.tables e below (T3.setTop (mkF m 7 #[.val (.ref b), .val (.int (Int32.ofNat i))] [(.ref b)])) _
    refine XS.iloadN X3.here hx rfl (Jvm.hb hby d_jdk_43_method_2_7) rfl ?_
    show Steps p.tables e below (T3.setTop (mkF m 8 #[.val (.ref b), .val (.int (Int32.ofNat i))] [(.int (Int32.ofNat i)), (.ref b)])) _
    refine X3.baloadBytes hx (j := (Int32.ofNat i)) (v := (.int (own_lo (cs.getD i 0)))) (by rw [e3]; exact Ar4.1) (State.isArrayOf_alike hZ.alike Ar4.2.1) Ar4.2.2 hin4 hat4 (g := (mkF m 8 #[.val (.ref b), .val (.int (Int32.ofNat i))] [(.int (Int32.ofNat i)), (.ref b)])) rfl rfl (Jvm.hb hby d_jdk_43_method_2_8) _ ?_
    show Steps p.tables e below (T3.setTop (mkF m 9 #[.val (.ref b), .val (.int (Int32.ofNat i))] [(.int (own_lo (cs.getD i 0)))])) _
    refine XS.sipush X3.here hx rfl (Jvm.hb hby d_jdk_43_method_2_9) ?_
    show Steps p.tables e below (T3.setTop (mkF m 12 #[.val (.ref b), .val (.int (Int32.ofNat i))] [(.int (255 : Int32)), (.int (own_lo (cs.getD i 0)))])) _
    refine XS.iand X3.here hx rfl (Jvm.hb hby d_jdk_43_method_2_12) rfl ?_
    show Steps p.tables e below (T3.setTop (mkF m 13 #[.val (.ref b), .val (.int (Int32.ofNat i))] [(.int ((own_lo (cs.getD i 0)) &&& (255 : Int32)))])) _
    refine XS.i2c X3.here hx rfl (Jvm.hb hby d_jdk_43_method_2_13) rfl ?_
    show Steps p.tables e below (T3.setTop (mkF m 14 #[.val (.ref b), .val (.int (Int32.ofNat i))] [(.int (i2c ((own_lo (cs.getD i 0)) &&& (255 : Int32))))])) _
    show Steps p.tables e below (T3.setTop (mkF m 14 #[.val (.ref b), .val (.int (Int32.ofNat i))] [(.int (i2c ((own_lo (cs.getD i 0)) &&& (255 : Int32))))])) t_
    exact k_)
  obtain ⟨fs, hr, hrun, hended, hW, hsame⟩ := X3.leave (v := some (.int (nar .char (i2c ((own_lo (cs.getD i 0)) &&& (255 : Int32)))))) (fun h => by rw [Bd.returns] at h; cases h)
  refine ⟨_, _, s5 _ ?_, hrun, hended, _, _, rfl, ?_, ⟨_, rfl⟩, hW, hsame.mono (by decide) (by decide)⟩
  · show Steps p.tables e below (T3.setTop (mkF m 14 #[.val (.ref b), .val (.int (Int32.ofNat i))] [(.int (i2c ((own_lo (cs.getD i 0)) &&& (255 : Int32))))])) _
    exact retN X3 hx (t := .char) Bd.returns (by simp) (Jvm.hb hby d_jdk_43_method_2_14) hr
  · show Q_rmLCh Z _ _ _ _ _ h0 n0 _ T3.heap _
    rw [e3]
    exact ⟨(by rw [own_chr (hchs _ (own_mem cs i hi)).1 (hlat _ (own_mem cs i hi))]), N3, rfl⟩
theorem d_jdk_52_method_6_0 : decode jdk_52_method_6_code 0 = .ok (.aload_n 0, 1) := by decide +kernel
theorem d_jdk_52_method_6_1 : decode jdk_52_method_6_code 1 = .ok (.arraylength, 1) := by decide +kernel
theorem d_jdk_52_method_6_2 : decode jdk_52_method_6_code 2 = .ok (.iconst 1, 1) := by decide +kernel
theorem d_jdk_52_method_6_3 : decode jdk_52_method_6_code 3 = .ok (.ishr, 1) := by decide +kernel
theorem d_jdk_52_method_6_4 : decode jdk_52_method_6_code 4 = .ok (.ireturn, 1) := by decide +kernel
theorem ef_rmULen (m : MethodId) (x0 : Addr) : entryFrame m #[(.ref x0)] 1 = mkF m 0 #[.val (.ref x0)] [] := by first | (simp [entryFrame, mkF, argsToLocals, Value.category]; done) | rfl
def Q_rmULen (Z : State) (b : Addr) (kb : ClassId) (cs : List Int32) (h0 : Heap) (n0 : Nat) (v : Option Value) (h : Heap) (L : List Loc) : Prop := (v = some (.int (Int32.ofNat cs.length))) ∧ (Fr n0 L) ∧ (h = h0)
set_option maxRecDepth 65536 in
set_option maxHeartbeats 40000000 in
theorem rmULen (l : Launch) (Z : State) (a0 : Array Value) (hw : ∀ d ∈ tables_1, d.before a0 Z = true) (ws : List Jvm.Cond) (b : Addr) (kb : ClassId) (cs : List Int32) (h0 : Heap) (n0 : Nat) (Z0 : n0 ≤ h0.size) (I1 : Arv Z h0 b kb .byte (Int32.ofNat (2 * cs.length)) (own_wide cs) (.int (0 : Int32))) (hb : cs.length ≤ 4) :
    MetFree l (⟨"java/lang/StringUTF16", "length", "([B)I"⟩ : MethodName) (head1 (Jvm.Cond.code (⟨"java/lang/StringUTF16", "length", "([B)I"⟩ : MethodName) jdk_52_method_6_code 1 (some .int) :: ws) ({ frames := 0, cells := 0, slots := 0, locals := 0 } : Room)) (fun ar_ U => ar_ = #[(.ref b)] ∧ Z.Warmed39 U.vm ∧ U.heap = h0) (fun _ _ _ _ _ => True) (fun _ U o U' => ∃ v L, o = .returned v ∧ Q_rmULen Z b kb cs h0 n0 v U'.heap L ∧ FrameEnd U o U' L ({ frames := 0, cells := 0, slots := 0, locals := 0 } : Room).cells ({ frames := 0, cells := 0, slots := 0, locals := 0 } : Room).slots) := by
  refine MetFree.of_bodySF (plainFor_of_name pn_java_lang_StringUTF16) hisR ?_
  intro p e s m args below meth c s₁ Bd hml0 hP hK
  obtain ⟨rfl, hZ, hh⟩ := hP
  have hx := Bd.exec
  have hby := Bd.bytes
  have hml : c.maxLocals = 1 := hml0
  have hown : s.vm.findClass "java/lang/StringUTF16" = some m.cls := findClass_of_methodNamed Bd.named
  have hnm := (name_of_methodNamed Bd.named Bd.method).1
  have X0 : Stand p l e ({ frames := 0, cells := 0, slots := 0, locals := 0 } : Room) s m #[(.ref b)] below meth c s₁ [] 0 0 := Stand.of_body Bd
  have e0 : s₁.heap = h0 := by rw [← hh, Bd.state]; rfl
  have N0 := Fr.nil n0
  have pre0 : ∀ t_, Steps p.tables e below (s₁.setTop (mkF m 0 #[.val (.ref b)] [])) t_ → Steps p.tables e below (s₁.setTop (entryFrame m #[(.ref b)] 1)) t_ := fun t_ k_ => castTop (ef_rmULen m b) k_
  have lt_I1 : @LT.lt Nat _ b h0.size := I1.lt
  obtain ⟨cl1, Ar1, -, S1, M1, -, -⟩ := id I1
  have s2 : ∀ t_, Steps p.tables e below (s₁.setTop (mkF m 4 #[.val (.ref b)] [(.int ((Int32.ofNat (2 * cs.length)) >>> ((1 : Int32) &&& 31)))])) t_ → Steps p.tables e below (s₁.setTop (entryFrame m #[(.ref b)] 1)) t_ := fun t_ k_ => pre0 t_ (by
    show Steps p.tables e below (s₁.setTop (mkF m 0 #[.val (.ref b)] [])) t_
    refine XS.aloadN X0.here hx rfl (Jvm.hb hby d_jdk_52_method_6_0) rfl rfl ?_
    show Steps p.tables e below (s₁.setTop (mkF m 1 #[.val (.ref b)] [(.ref b)])) _
    refine X0.arraylength hx (by rw [e0]; exact Ar1.1) (State.isArrayOf_alike hZ.alike Ar1.2.1) (g := (mkF m 1 #[.val (.ref b)] [(.ref b)])) rfl rfl (Jvm.hb hby d_jdk_52_method_6_1) _ ?_
    rw [len_of S1 M1]
    show Steps p.tables e below (s₁.setTop (mkF m 2 #[.val (.ref b)] [(.int (Int32.ofNat (2 * cs.length)))])) _
    refine XS.iconst X0.here hx rfl (Jvm.hb hby d_jdk_52_method_6_2) ?_
    show Steps p.tables e below (s₁.setTop (mkF m 3 #[.val (.ref b)] [(.int (1 : Int32)), (.int (Int32.ofNat (2 * cs.length)))])) _
    refine XS.ishr X0.here hx rfl (Jvm.hb hby d_jdk_52_method_6_3) rfl ?_
    show Steps p.tables e below (s₁.setTop (mkF m 4 #[.val (.ref b)] [(.int ((Int32.ofNat (2 * cs.length)) >>> ((1 : Int32) &&& 31)))])) _
    show Steps p.tables e below (s₁.setTop (mkF m 4 #[.val (.ref b)] [(.int ((Int32.ofNat (2 * cs.length)) >>> ((1 : Int32) &&& 31)))])) t_
    exact k_)
  obtain ⟨fs, hr, hrun, hended, hW, hsame⟩ := X0.leave (v := some (.int ((Int32.ofNat (2 * cs.length)) >>> ((1 : Int32) &&& 31)))) (fun h => by rw [Bd.returns] at h; cases h)
  refine ⟨_, _, s2 _ ?_, hrun, hended, _, _, rfl, ?_, ⟨_, rfl⟩, hW, hsame.mono (by decide) (by decide)⟩
  · show Steps p.tables e below (s₁.setTop (mkF m 4 #[.val (.ref b)] [(.int ((Int32.ofNat (2 * cs.length)) >>> ((1 : Int32) &&& 31)))])) _
    exact retI X0 hx Bd.returns (Jvm.hb hby d_jdk_52_method_6_4) hr
  · show Q_rmULen Z _ _ _ h0 n0 _ s₁.heap _
    rw [e0]
    exact ⟨(by rw [own_shr1 (by omega)]), N0, rfl⟩
theorem d_jdk_52_method_91_0 : decode jdk_52_method_91_code 0 = .ok (.iload_n 0, 1) := by decide +kernel
theorem d_jdk_52_method_91_1 : decode jdk_52_method_91_code 1 = .ok (.aload_n 1, 1) := by decide +kernel
theorem pd___B_I : parseMethodDescriptor "([B)I" = some ⟨[(.array .byte)], some .int⟩ := by decide +kernel
theorem d_jdk_52_method_91_2 : decode jdk_52_method_91_code 2 = .ok (.invokestatic 48, 3) := by decide +kernel
theorem d_jdk_52_method_91_5 : decode jdk_52_method_91_code 5 = .ok (.invokestatic 414, 3) := by decide +kernel
theorem d_jdk_52_method_91_8 : decode jdk_52_method_91_code 8 = .ok (.return_, 1) := by decide +kernel
theorem ef_rmUCk (m : MethodId) (x0 : Int32) (x1 : Addr) : entryFrame m #[(.int x0), (.ref x1)] 2 = mkF m 0 #[.val (.int x0), .val (.ref x1)] [] := by first | (simp [entryFrame, mkF, argsToLocals, Value.category]; done) | rfl
def Q_rmUCk (Z : State) (b : Addr) (kb : ClassId) (cs : List Int32) (i : Nat) (fmt : Value) (h0 : Heap) (n0 : Nat) (v : Option Value) (h : Heap) (L : List Loc) : Prop := (v = none) ∧ (Fr n0 L) ∧ (h = h0)
set_option maxRecDepth 65536 in
set_option maxHeartbeats 40000000 in
theorem rmUCk (l : Launch) (Z : State) (a0 : Array Value) (hw : ∀ d ∈ tables_1, d.before a0 Z = true) (ws : List Jvm.Cond) (b : Addr) (kb : ClassId) (cs : List Int32) (i : Nat) (fmt : Value) (h0 : Heap) (n0 : Nat) (Z0 : n0 ≤ h0.size) (hfmt : fmt.isRef = true) (I1 : Sta Z Z.heap "jdk/internal/util/Preconditions" "SIOOBE_FORMATTER" "Ljava/util/function/BiFunction;" fmt) (OX : Old Z n0 h0) (I2 : Arv Z h0 b kb .byte (Int32.ofNat (2 * cs.length)) (own_wide cs) (.int (0 : Int32))) (hb : cs.length ≤ 4) (hi : i < cs.length) :
    MetFree l (⟨"java/lang/StringUTF16", "checkIndex", "(I[B)V"⟩ : MethodName) (head1 (Jvm.Cond.code (⟨"java/lang/StringUTF16", "checkIndex", "(I[B)V"⟩ : MethodName) jdk_52_method_91_code 2 none :: ws) ({ frames := 2, cells := 0, slots := 0, locals := 27 } : Room)) (fun ar_ U => ar_ = #[(.int (Int32.ofNat i)), (.ref b)] ∧ Z.Warmed39 U.vm ∧ U.heap = h0) (fun _ _ _ _ _ => True) (fun _ U o U' => ∃ v L, o = .returned v ∧ Q_rmUCk Z b kb cs i fmt h0 n0 v U'.heap L ∧ FrameEnd U o U' L ({ frames := 2, cells := 0, slots := 0, locals := 27 } : Room).cells ({ frames := 2, cells := 0, slots := 0, locals := 27 } : Room).slots) := by
  refine MetFree.of_bodySF (plainFor_of_name pn_java_lang_StringUTF16) hisR ?_
  intro p e s m args below meth c s₁ Bd hml0 hP hK
  obtain ⟨rfl, hZ, hh⟩ := hP
  have hx := Bd.exec
  have hby := Bd.bytes
  have hml : c.maxLocals = 2 := hml0
  have hown : s.vm.findClass "java/lang/StringUTF16" = some m.cls := findClass_of_methodNamed Bd.named
  have hnm := (name_of_methodNamed Bd.named Bd.method).1
  have X0 : Stand p l e ({ frames := 2, cells := 0, slots := 0, locals := 27 } : Room) s m #[(.int (Int32.ofNat i)), (.ref b)] below meth c s₁ [] 0 0 := Stand.of_body Bd
  have e0 : s₁.heap = h0 := by rw [← hh, Bd.state]; rfl
  have N0 := Fr.nil n0
  have pre0 : ∀ t_, Steps p.tables e below (s₁.setTop (mkF m 0 #[.val (.int (Int32.ofNat i)), .val (.ref b)] [])) t_ → Steps p.tables e below (s₁.setTop (entryFrame m #[(.int (Int32.ofNat i)), (.ref b)] 2)) t_ := fun t_ k_ => castTop (ef_rmUCk m (Int32.ofNat i) b) k_
  have lt_I2 : @LT.lt Nat _ b h0.size := I2.lt
  have Zc1 : n0 ≤ h0.size := by omega
  obtain ⟨_, _, ⟨T2, L2, k2, n2⟩, -, X2, ⟨Lc2, hQ2, l2, y2, z2⟩, st2⟩ := Jvm.LawKit.callS X0 hx (y := (⟨"java/lang/StringUTF16", "length", "([B)I"⟩ : MethodName)) hown (mvT hZ (hw _ (List.mem_of_getElem? (i := 107) rfl))) (mvT hZ (hw _ (List.mem_of_getElem? (i := 108) rfl))) (mvT hZ (hw _ (List.mem_of_getElem? (i := 39) rfl))) (mvT hZ (hw _ (List.mem_of_getElem? (i := 109) rfl))) (by decide) (backOf (W := 1) (rmULen l Z a0 hw [] b kb cs h0 n0 Zc1 I2 (hb : cs.length ≤ 4)) hZ (hw _ (List.mem_of_getElem? (i := 109) rfl)) (hw _ (List.mem_of_getElem? (i := 39) rfl)) (by decide) (by decide)) (g := (mkF m 2 #[.val (.int (Int32.ofNat i)), .val (.ref b)] [(.ref b), (.int (Int32.ofNat i))])) rfl (by rw [hml]; rfl) (argsL := [(.ref b)]) (rest := [(.int (Int32.ofNat i))]) (lenOf pd___B_I rfl) rfl (by show 2 * 0 + _ ≤ _; exact Nat.le_of_eq rfl) (Jvm.hb hby d_jdk_52_method_91_2) (fun _ _ => ⟨rfl, e0, (by decide : 0 + 0 ≤ _), (by decide : 0 + 0 ≤ _)⟩)
  dsimp only [Pt.U, Pt.locs, Pt.cells, Pt.slots] at X2 l2 y2 z2 st2 hQ2
  subst l2 y2 z2
  obtain ⟨rfl, N2q, e2⟩ := hQ2
  have N2 := Fr.app N0 N2q
  have Zc3 : n0 ≤ h0.size := by omega
  obtain ⟨_, _, ⟨T4, L4, k4, n4⟩, -, X4, ⟨Lc4, hQ4, l4, y4, z4⟩, st4⟩ := Jvm.LawKit.callS X2 hx (y := (⟨"java/lang/String", "checkIndex", "(II)V"⟩ : MethodName)) hown (mvT hZ (hw _ (List.mem_of_getElem? (i := 110) rfl))) (mvT hZ (hw _ (List.mem_of_getElem? (i := 75) rfl))) (mvT hZ (hw _ (List.mem_of_getElem? (i := 7) rfl))) (mvT hZ (hw _ (List.mem_of_getElem? (i := 76) rfl))) (by decide) (backOf (W := 0) (rmSCk l Z a0 hw [] i cs.length fmt h0 n0 Zc3 (hfmt : fmt.isRef = true) I1 OX hi (by first | assumption | rfl | decide | omega : cs.length ≤ 8000)) hZ (hw _ (List.mem_of_getElem? (i := 76) rfl)) (hw _ (List.mem_of_getElem? (i := 7) rfl)) (by decide) (by decide)) (g := (mkF m 5 #[.val (.int (Int32.ofNat i)), .val (.ref b)] [(.int (Int32.ofNat cs.length)), (.int (Int32.ofNat i))])) rfl (by rw [hml]; rfl) (argsL := [(.int (Int32.ofNat i)), (.int (Int32.ofNat cs.length))]) (rest := []) (lenOf pd__II_V rfl) rfl (by show 2 * 0 + _ ≤ _; exact Nat.le_of_eq rfl) (Jvm.hb hby d_jdk_52_method_91_5) (fun _ _ => ⟨rfl, e2, (by decide : 0 + 0 ≤ _), (by decide : 0 + 0 ≤ _)⟩)
  dsimp only [Pt.U, Pt.locs, Pt.cells, Pt.slots] at X4 l4 y4 z4 st4 hQ4
  subst l4 y4 z4
  obtain ⟨rfl, N4q, e4⟩ := hQ4
  have N4 := Fr.app N2 N4q
  have s5 : ∀ t_, Steps p.tables e below (T4.setTop (mkF m 8 #[.val (.int (Int32.ofNat i)), .val (.ref b)] [])) t_ → Steps p.tables e below (s₁.setTop (entryFrame m #[(.int (Int32.ofNat i)), (.ref b)] 2)) t_ := fun t_ k_ => pre0 t_ (by
    show Steps p.tables e below (s₁.setTop (mkF m 0 #[.val (.int (Int32.ofNat i)), .val (.ref b)] [])) t_
    refine XS.iloadN X0.here hx rfl (Jvm.hb hby d_jdk_52_method_91_0) rfl ?_
    show Steps p.tables e below (s₁.setTop (mkF m 1 #[.val (.int (Int32.ofNat i)), .val (.ref b)] [(.int (Int32.ofNat i))])) _
    refine XS.aloadN X0.here hx rfl (Jvm.hb hby d_jdk_52_method_91_1) rfl rfl ?_
    show Steps p.tables e below (s₁.setTop (mkF m 2 #[.val (.int (Int32.ofNat i)), .val (.ref b)] [(.ref b), (.int (Int32.ofNat i))])) _
    refine st2 _ ?_
    show Steps p.tables e below (T2.setTop (mkF m 5 #[.val (.int (Int32.ofNat i)), .val (.ref b)] [(.int (Int32.ofNat cs.length)), (.int (Int32.ofNat i))])) _
    refine st4 _ ?_
    show Steps p.tables e below (T4.setTop (mkF m 8 #[.val (.int (Int32.ofNat i)), .val (.ref b)] [])) _
    show Steps p.tables e below (T4.setTop (mkF m 8 #[.val (.int (Int32.ofNat i)), .val (.ref b)] [])) t_
    exact k_)
  obtain ⟨fs, hr, hrun, hended, hW, hsame⟩ := X4.leave (v := none) (fun _ => rfl)
  refine ⟨_, _, s5 _ ?_, hrun, hended, _, _, rfl, ?_, ⟨_, rfl⟩, hW, hsame.mono (by decide) (by decide)⟩
  · show Steps p.tables e below (T4.setTop (mkF m 8 #[.val (.int (Int32.ofNat i)), .val (.ref b)] [])) _
    exact X4.returnOut hx Bd.returns (Jvm.hb hby d_jdk_52_method_91_8) hr
  · show Q_rmUCk Z _ _ _ _ _ h0 n0 _ T4.heap _
    rw [e4]
    exact ⟨rfl, N4, rfl⟩
theorem d_jdk_52_method_83_0 : decode jdk_52_method_83_code 0 = .ok (.iload_n 1, 1) := by decide +kernel
theorem d_jdk_52_method_83_1 : decode jdk_52_method_83_code 1 = .ok (.aload_n 0, 1) := by decide +kernel
theorem pd__I_B_V : parseMethodDescriptor "(I[B)V" = some ⟨[.int, (.array .byte)], none⟩ := by decide +kernel
theorem d_jdk_52_method_83_2 : decode jdk_52_method_83_code 2 = .ok (.invokestatic 67, 3) := by decide +kernel
theorem d_jdk_52_method_83_5 : decode jdk_52_method_83_code 5 = .ok (.aload_n 0, 1) := by decide +kernel
theorem d_jdk_52_method_83_6 : decode jdk_52_method_83_code 6 = .ok (.iload_n 1, 1) := by decide +kernel
theorem d_jdk_52_method_83_7 : decode jdk_52_method_83_code 7 = .ok (.invokestatic 71, 3) := by decide +kernel
theorem d_jdk_52_method_83_10 : decode jdk_52_method_83_code 10 = .ok (.ireturn, 1) := by decide +kernel
theorem ef_rmUCh (m : MethodId) (x0 : Addr) (x1 : Int32) : entryFrame m #[(.ref x0), (.int x1)] 2 = mkF m 0 #[.val (.ref x0), .val (.int x1)] [] := by first | (simp [entryFrame, mkF, argsToLocals, Value.category]; done) | rfl
def Q_rmUCh (Z : State) (b : Addr) (kb : ClassId) (cs : List Int32) (i : Nat) (fmt : Value) (h0 : Heap) (n0 : Nat) (v : Option Value) (h : Heap) (L : List Loc) : Prop := (v = some (.int (cs.getD i 0))) ∧ (Fr n0 L) ∧ (h = h0)
set_option maxRecDepth 65536 in
set_option maxHeartbeats 40000000 in
theorem rmUCh (l : Launch) (Z : State) (a0 : Array Value) (hw : ∀ d ∈ tables_1, d.before a0 Z = true) (ws : List Jvm.Cond) (b : Addr) (kb : ClassId) (cs : List Int32) (i : Nat) (fmt : Value) (h0 : Heap) (n0 : Nat) (Z0 : n0 ≤ h0.size) (I1 : Sta Z Z.heap "java/lang/StringUTF16" "$assertionsDisabled" "Z" (.int (1 : Int32))) (I2 : Sta Z Z.heap "java/lang/StringUTF16" "HI_BYTE_SHIFT" "I" (.int (0 : Int32))) (I3 : Sta Z Z.heap "java/lang/StringUTF16" "LO_BYTE_SHIFT" "I" (.int (8 : Int32))) (hfmt : fmt.isRef = true) (I4 : Sta Z Z.heap "jdk/internal/util/Preconditions" "SIOOBE_FORMATTER" "Ljava/util/function/BiFunction;" fmt) (OX : Old Z n0 h0) (I5 : Arv Z h0 b kb .byte (Int32.ofNat (2 * cs.length)) (own_wide cs) (.int (0 : Int32))) (hb : cs.length ≤ 4) (hi : i < cs.length) (hchs : own_chs cs) :
    MetFree l (⟨"java/lang/StringUTF16", "charAt", "([BI)C"⟩ : MethodName) (head1 (Jvm.Cond.code (⟨"java/lang/StringUTF16", "charAt", "([BI)C"⟩ : MethodName) jdk_52_method_83_code 2 (some .char) :: ws) ({ frames := 3, cells := 0, slots := 0, locals := 40 } : Room)) (fun ar_ U => ar_ = #[(.ref b), (.int (Int32.ofNat i))] ∧ Z.Warmed39 U.vm ∧ U.heap = h0) (fun _ _ _ _ _ => True) (fun _ U o U' => ∃ v L, o = .returned v ∧ Q_rmUCh Z b kb cs i fmt h0 n0 v U'.heap L ∧ FrameEnd U o U' L ({ frames := 3, cells := 0, slots := 0, locals := 40 } : Room).cells ({ frames := 3, cells := 0, slots := 0, locals := 40 } : Room).slots) := by
  refine MetFree.of_bodySF (plainFor_of_name pn_java_lang_StringUTF16) hisR ?_
  intro p e s m args below meth c s₁ Bd hml0 hP hK
  obtain ⟨rfl, hZ, hh⟩ := hP
  have hx := Bd.exec
  have hby := Bd.bytes
  have hml : c.maxLocals = 2 := hml0
  have hown : s.vm.findClass "java/lang/StringUTF16" = some m.cls := findClass_of_methodNamed Bd.named
  have hnm := (name_of_methodNamed Bd.named Bd.method).1
  have X0 : Stand p l e ({ frames := 3, cells := 0, slots := 0, locals := 40 } : Room) s m #[(.ref b), (.int (Int32.ofNat i))] below meth c s₁ [] 0 0 := Stand.of_body Bd
  have e0 : s₁.heap = h0 := by rw [← hh, Bd.state]; rfl
  have N0 := Fr.nil n0
  have pre0 : ∀ t_, Steps p.tables e below (s₁.setTop (mkF m 0 #[.val (.ref b), .val (.int (Int32.ofNat i))] [])) t_ → Steps p.tables e below (s₁.setTop (entryFrame m #[(.ref b), (.int (Int32.ofNat i))] 2)) t_ := fun t_ k_ => castTop (ef_rmUCh m b (Int32.ofNat i)) k_
  have lt_I5 : @LT.lt Nat _ b h0.size := I5.lt
  have Zc1 : n0 ≤ h0.size := by omega
  obtain ⟨_, _, ⟨T2, L2, k2, n2⟩, -, X2, ⟨Lc2, hQ2, l2, y2, z2⟩, st2⟩ := Jvm.LawKit.callS X0 hx (y := (⟨"java/lang/StringUTF16", "checkIndex", "(I[B)V"⟩ : MethodName)) hown (mvT hZ (hw _ (List.mem_of_getElem? (i := 104) rfl))) (mvT hZ (hw _ (List.mem_of_getElem? (i := 105) rfl))) (mvT hZ (hw _ (List.mem_of_getElem? (i := 39) rfl))) (mvT hZ (hw _ (List.mem_of_getElem? (i := 106) rfl))) (by decide) (backOf (W := 0) (rmUCk l Z a0 hw [] b kb cs i fmt h0 n0 Zc1 (hfmt : fmt.isRef = true) I4 OX I5 (hb : cs.length ≤ 4) (hi : i < cs.length)) hZ (hw _ (List.mem_of_getElem? (i := 106) rfl)) (hw _ (List.mem_of_getElem? (i := 39) rfl)) (by decide) (by decide)) (g := (mkF m 2 #[.val (.ref b), .val (.int (Int32.ofNat i))] [(.ref b), (.int (Int32.ofNat i))])) rfl (by rw [hml]; rfl) (argsL := [(.int (Int32.ofNat i)), (.ref b)]) (rest := []) (lenOf pd__I_B_V rfl) rfl (by show 2 * 0 + _ ≤ _; exact Nat.le_of_eq rfl) (Jvm.hb hby d_jdk_52_method_83_2) (fun _ _ => ⟨rfl, e0, (by decide : 0 + 0 ≤ _), (by decide : 0 + 0 ≤ _)⟩)
  dsimp only [Pt.U, Pt.locs, Pt.cells, Pt.slots] at X2 l2 y2 z2 st2 hQ2
  subst l2 y2 z2
  obtain ⟨rfl, N2q, e2⟩ := hQ2
  have N2 := Fr.app N0 N2q
  have Zc3 : n0 ≤ h0.size := by omega
  obtain ⟨_, _, ⟨T4, L4, k4, n4⟩, -, X4, ⟨Lc4, hQ4, l4, y4, z4⟩, st4⟩ := Jvm.LawKit.callS X2 hx (y := (⟨"java/lang/StringUTF16", "getChar", "([BI)C"⟩ : MethodName)) hown (mvT hZ (hw _ (List.mem_of_getElem? (i := 98) rfl))) (mvT hZ (hw _ (List.mem_of_getElem? (i := 99) rfl))) (mvT hZ (hw _ (List.mem_of_getElem? (i := 39) rfl))) (mvT hZ (hw _ (List.mem_of_getElem? (i := 100) rfl))) (by decide) (backOf (W := 0) (rmGet l Z a0 hw [] b kb (own_wide cs) cs.length i (cs.getD i 0) h0 n0 Zc3 I1 I2 I3 OX I5 (hb : cs.length ≤ 4) hi (own_wide0 _ cs i hi) (own_wide1 _ cs i hi) (hchs _ (own_mem cs i hi)).1 (hchs _ (own_mem cs i hi)).2) hZ (hw _ (List.mem_of_getElem? (i := 100) rfl)) (hw _ (List.mem_of_getElem? (i := 39) rfl)) (by decide) (by decide)) (g := (mkF m 7 #[.val (.ref b), .val (.int (Int32.ofNat i))] [(.int (Int32.ofNat i)), (.ref b)])) rfl (by rw [hml]; rfl) (argsL := [(.ref b), (.int (Int32.ofNat i))]) (rest := []) (lenOf pd___BI_C rfl) rfl (by show 2 * 0 + _ ≤ _; exact Nat.le_of_eq rfl) (Jvm.hb hby d_jdk_52_method_83_7) (fun _ _ => ⟨rfl, e2, (by decide : 0 + 0 ≤ _), (by decide : 0 + 0 ≤ _)⟩)
  dsimp only [Pt.U, Pt.locs, Pt.cells, Pt.slots] at X4 l4 y4 z4 st4 hQ4
  subst l4 y4 z4
  obtain ⟨rfl, N4q, e4⟩ := hQ4
  have N4 := Fr.app N2 N4q
  have s5 : ∀ t_, Steps p.tables e below (T4.setTop (mkF m 10 #[.val (.ref b), .val (.int (Int32.ofNat i))] [(.int (cs.getD i 0))])) t_ → Steps p.tables e below (s₁.setTop (entryFrame m #[(.ref b), (.int (Int32.ofNat i))] 2)) t_ := fun t_ k_ => pre0 t_ (by
    show Steps p.tables e below (s₁.setTop (mkF m 0 #[.val (.ref b), .val (.int (Int32.ofNat i))] [])) t_
    refine XS.iloadN X0.here hx rfl (Jvm.hb hby d_jdk_52_method_83_0) rfl ?_
    show Steps p.tables e below (s₁.setTop (mkF m 1 #[.val (.ref b), .val (.int (Int32.ofNat i))] [(.int (Int32.ofNat i))])) _
    refine XS.aloadN X0.here hx rfl (Jvm.hb hby d_jdk_52_method_83_1) rfl rfl ?_
    show Steps p.tables e below (s₁.setTop (mkF m 2 #[.val (.ref b), .val (.int (Int32.ofNat i))] [(.ref b), (.int (Int32.ofNat i))])) _
    refine st2 _ ?_
    show Steps p.tables e below (T2.setTop (mkF m 5 #[.val (.ref b), .val (.int (Int32.ofNat i))] [])) _
    refine XS.aloadN X2.here hx rfl (Jvm.hb hby d_jdk_52_method_83_5) rfl rfl ?_
    show Steps p.tables e below (T2.setTop (mkF m 6 #[.val (.ref b), .val (.int (Int32.ofNat i))] [(.ref b)])) _
    refine XS.iloadN X2.here hx rfl (Jvm.hb hby d_jdk_52_method_83_6) rfl ?_
    show Steps p.tables e below (T2.setTop (mkF m 7 #[.val (.ref b), .val (.int (Int32.ofNat i))] [(.int (Int32.ofNat i)), (.ref b)])) _
    refine st4 _ ?_
    show Steps p.tables e below (T4.setTop (mkF m 10 #[.val (.ref b), .val (.int (Int32.ofNat i))] [(.int (cs.getD i 0))])) _
    show Steps p.tables e below (T4.setTop (mkF m 10 #[.val (.ref b), .val (.int (Int32.ofNat i))] [(.int (cs.getD i 0))])) t_
    exact k_)
  obtain ⟨fs, hr, hrun, hended, hW, hsame⟩ := X4.leave (v := some (.int (nar .char (cs.getD i 0)))) (fun h => by rw [Bd.returns] at h; cases h)
  refine ⟨_, _, s5 _ ?_, hrun, hended, _, _, rfl, ?_, ⟨_, rfl⟩, hW, hsame.mono (by decide) (by decide)⟩
  · show Steps p.tables e below (T4.setTop (mkF m 10 #[.val (.ref b), .val (.int (Int32.ofNat i))] [(.int (cs.getD i 0))])) _
    exact retN X4 hx (t := .char) Bd.returns (by simp) (Jvm.hb hby d_jdk_52_method_83_10) hr
  · show Q_rmUCh Z _ _ _ _ _ h0 n0 _ T4.heap _
    rw [e4]
    exact ⟨(by rw [own_narc (hchs _ (own_mem cs i hi)).1 (hchs _ (own_mem cs i hi)).2]), N4, rfl⟩
theorem d_jdk_42_method_56_0 : decode jdk_42_method_56_code 0 = .ok (.aload_n 0, 1) := by decide +kernel
theorem pd___Z : parseMethodDescriptor "()Z" = some ⟨[], some .boolean⟩ := by decide +kernel
theorem d_jdk_42_method_56_1 : decode jdk_42_method_56_code 1 = .ok (.invokevirtual 492, 3) := by decide +kernel
theorem d_jdk_42_method_56_4 : decode jdk_42_method_56_code 4 = .ok (.ifCond .eq 12, 3) := by decide +kernel
theorem d_jdk_42_method_56_7 : decode jdk_42_method_56_code 7 = .ok (.aload_n 0, 1) := by decide +kernel
theorem d_jdk_42_method_56_8 : decode jdk_42_method_56_code 8 = .ok (.getfield 9, 3) := by decide +kernel
theorem d_jdk_42_method_56_11 : decode jdk_42_method_56_code 11 = .ok (.iload_n 1, 1) := by decide +kernel
theorem d_jdk_42_method_56_12 : decode jdk_42_method_56_code 12 = .ok (.invokestatic 495, 3) := by decide +kernel
theorem d_jdk_42_method_56_15 : decode jdk_42_method_56_code 15 = .ok (.ireturn, 1) := by decide +kernel
theorem d_jdk_42_method_56_16 : decode jdk_42_method_56_code 16 = .ok (.aload_n 0, 1) := by decide +kernel
theorem d_jdk_42_method_56_17 : decode jdk_42_method_56_code 17 = .ok (.getfield 9, 3) := by decide +kernel
theorem d_jdk_42_method_56_20 : decode jdk_42_method_56_code 20 = .ok (.iload_n 1, 1) := by decide +kernel
theorem d_jdk_42_method_56_21 : decode jdk_42_method_56_code 21 = .ok (.invokestatic 498, 3) := by decide +kernel
theorem d_jdk_42_method_56_24 : decode jdk_42_method_56_code 24 = .ok (.ireturn, 1) := by decide +kernel
theorem ef_rmChA (m : MethodId) (x0 : Addr) (x1 : Int32) : entryFrame m #[(.ref x0), (.int x1)] 2 = mkF m 0 #[.val (.ref x0), .val (.int x1)] [] := by first | (simp [entryFrame, mkF, argsToLocals, Value.category]; done) | rfl
def Q_rmChA (Z : State) (a : Addr) (cst : Int32) (b : Addr) (kb : ClassId) (cs : List Int32) (i : Nat) (fmt : Value) (h0 : Heap) (n0 : Nat) (v : Option Value) (h : Heap) (L : List Loc) : Prop := (v = some (.int (cs.getD i 0))) ∧ (Fr n0 L) ∧ (h = h0)
set_option maxRecDepth 65536 in
set_option maxHeartbeats 40000000 in
theorem rmChA (l : Launch) (Z : State) (a0 : Array Value) (hw : ∀ d ∈ tables_1, d.before a0 Z = true) (ws : List Jvm.Cond) (a : Addr) (cst : Int32) (b : Addr) (kb : ClassId) (cs : List Int32) (i : Nat) (fmt : Value) (h0 : Heap) (n0 : Nat) (Z0 : n0 ≤ h0.size) (I1 : Sta Z Z.heap "java/lang/String" "COMPACT_STRINGS" "Z" (.int cst)) (I2 : Sta Z Z.heap "java/lang/StringUTF16" "$assertionsDisabled" "Z" (.int (1 : Int32))) (I3 : Sta Z Z.heap "java/lang/StringUTF16" "HI_BYTE_SHIFT" "I" (.int (0 : Int32))) (I4 : Sta Z Z.heap "java/lang/StringUTF16" "LO_BYTE_SHIFT" "I" (.int (8 : Int32))) (hfmt : fmt.isRef = true) (I5 : Sta Z Z.heap "jdk/internal/util/Preconditions" "SIOOBE_FORMATTER" "Ljava/util/function/BiFunction;" fmt) (OX : Old Z n0 h0) (hcst : ¬ (cst = (0 : Int32))) (I6 : Exa Z h0 a "java/lang/String") (I7 : Fld Z h0 a "java/lang/String" "value" "[B" (.ref b)) (I8 : Fld Z h0 a "java/lang/String" "coder" "B" (.int (own_cod cs))) (I9 : Arv Z h0 b kb .byte (Int32.ofNat (own_enl cs)) (own_enc cs) (.int (0 : Int32))) (hb : cs.length ≤ 4) (hi : i < cs.length) (hchs : own_chs cs) :
    MetFree l (⟨"java/lang/String", "charAt", "(I)C"⟩ : MethodName) (head1 (Jvm.Cond.code (⟨"java/lang/String", "charAt", "(I)C"⟩ : MethodName) jdk_42_method_56_code 2 (some .char) :: ws) ({ frames := 4, cells := 0, slots := 0, locals := 53 } : Room)) (fun ar_ U => ar_ = #[(.ref a), (.int (Int32.ofNat i))] ∧ Z.Warmed39 U.vm ∧ U.heap = h0) (fun _ _ _ _ _ => True) (fun _ U o U' => ∃ v L, o = .returned v ∧ Q_rmChA Z a cst b kb cs i fmt h0 n0 v U'.heap L ∧ FrameEnd U o U' L ({ frames := 4, cells := 0, slots := 0, locals := 53 } : Room).cells ({ frames := 4, cells := 0, slots := 0, locals := 53 } : Room).slots) := by
  refine MetFree.of_bodySF (plainFor_of_name pn_java_lang_String) hisR ?_
  intro p e s m args below meth c s₁ Bd hml0 hP hK
  obtain ⟨rfl, hZ, hh⟩ := hP
  have hx := Bd.exec
  have hby := Bd.bytes
  have hml : c.maxLocals = 2 := hml0
  have hown : s.vm.findClass "java/lang/String" = some m.cls := findClass_of_methodNamed Bd.named
  have hnm := (name_of_methodNamed Bd.named Bd.method).1
  have X0 : Stand p l e ({ frames := 4, cells := 0, slots := 0, locals := 53 } : Room) s m #[(.ref a), (.int (Int32.ofNat i))] below meth c s₁ [] 0 0 := Stand.of_body Bd
  have e0 : s₁.heap = h0 := by rw [← hh, Bd.state]; rfl
  have N0 := Fr.nil n0
  have pre0 : ∀ t_, Steps p.tables e below (s₁.setTop (mkF m 0 #[.val (.ref a), .val (.int (Int32.ofNat i))] [])) t_ → Steps p.tables e below (s₁.setTop (entryFrame m #[(.ref a), (.int (Int32.ofNat i))] 2)) t_ := fun t_ k_ => castTop (ef_rmChA m a (Int32.ofNat i)) k_
  have lt_I6 : @LT.lt Nat _ a h0.size := I6.lt
  have lt_I7 : @LT.lt Nat _ a h0.size := I7.lt
  have lt_I8 : @LT.lt Nat _ a h0.size := I8.lt
  have lt_I9 : @LT.lt Nat _ b h0.size := I9.lt
  by_cases h1 : own_lat cs
  · have s2 : ∀ t_, Steps p.tables e below (s₁.setTop (mkF m 0 #[.val (.ref a), .val (.int (Int32.ofNat i))] [])) t_ → Steps p.tables e below (s₁.setTop (entryFrame m #[(.ref a), (.int (Int32.ofNat i))] 2)) t_ := fun t_ k_ => pre0 t_ (castTop (by rfl) k_)
    have Zc3 : n0 ≤ h0.size := by omega
    obtain ⟨cq4, kq4, q4a, q4b, q4c⟩ := isOf hZ e0 I6
    obtain ⟨_, _, ⟨T4, L4, k4, n4⟩, -, X4, ⟨Lc4, hQ4, l4, y4, z4⟩, st4⟩ := X0.virtualBack hx (y := (⟨"java/lang/String", "isLatin1", "()Z"⟩ : MethodName)) (z := (⟨"java/lang/String", "isLatin1", "()Z"⟩ : MethodName)) hown (mvT hZ (hw _ (List.mem_of_getElem? (i := 65) rfl))) (mvT hZ (hw _ (List.mem_of_getElem? (i := 66) rfl))) (notFace_of_selects (args := #[]) (mvT hZ (hw _ (List.mem_of_getElem? (i := 68) rfl)))) (mvT hZ (hw _ (List.mem_of_getElem? (i := 68) rfl))) (mvT hZ (hw _ (List.mem_of_getElem? (i := 67) rfl))) (by decide) (backOf (W := 0) (rmIsL l Z a0 hw [] a cst cs h0 n0 Zc3 I1 OX (hcst : ¬ (cst = (0 : Int32))) I8) hZ (hw _ (List.mem_of_getElem? (i := 69) rfl)) (hw _ (List.mem_of_getElem? (i := 7) rfl)) (by decide) (by decide)) q4a q4c (g := (mkF m 1 #[.val (.ref a), .val (.int (Int32.ofNat i))] [(.ref a)])) rfl (by rw [hml]; rfl) (Steps.refl _) (argsL := []) (rest := []) (lenOf pd___Z rfl) rfl (by show 2 * 0 + _ ≤ _; exact Nat.le_of_eq rfl) (Jvm.hb hby d_jdk_42_method_56_1) (fun _ _ => ⟨rfl, e0, (by decide : 0 + 0 ≤ _), (by decide : 0 + 0 ≤ _)⟩)
    dsimp only [Pt.U, Pt.locs, Pt.cells, Pt.slots] at X4 l4 y4 z4 st4 hQ4
    subst l4 y4 z4
    obtain ⟨rfl, N4q, e4⟩ := hQ4
    have N4 := Fr.app N0 N4q
    obtain ⟨T5, X5, e5, st5⟩ := getF X4 hx hZ hown (host := "") (Or.inl (hw _ (List.mem_of_getElem? (i := 25) rfl))) Via.refl e4 I7 (g := (mkF m 8 #[.val (.ref a), .val (.int (Int32.ofNat i))] [(.ref a)])) rfl rfl (Jvm.hb hby d_jdk_42_method_56_8)
    have V6 : Arv Z h0 b kb .byte (Int32.ofNat cs.length) (own_enc cs) (.int (0 : Int32)) := by have q := I9; rw [own_enl, if_pos h1] at q; exact q
    have Zc7 : n0 ≤ h0.size := by omega
    obtain ⟨_, _, ⟨T8, L8, k8, n8⟩, -, X8, ⟨Lc8, hQ8, l8, y8, z8⟩, st8⟩ := Jvm.LawKit.callS X5 hx (y := (⟨"java/lang/StringLatin1", "charAt", "([BI)C"⟩ : MethodName)) hown (mvT hZ (hw _ (List.mem_of_getElem? (i := 70) rfl))) (mvT hZ (hw _ (List.mem_of_getElem? (i := 71) rfl))) (mvT hZ (hw _ (List.mem_of_getElem? (i := 72) rfl))) (mvT hZ (hw _ (List.mem_of_getElem? (i := 73) rfl))) (by decide) (backOf (W := 0) (rmLCh l Z a0 hw [] b kb cs i fmt h0 n0 Zc7 (hfmt : fmt.isRef = true) I5 OX V6 (hb : cs.length ≤ 4) (hi : i < cs.length) (by first | assumption | rfl | decide | omega : own_lat cs) (hchs : own_chs cs)) hZ (hw _ (List.mem_of_getElem? (i := 73) rfl)) (hw _ (List.mem_of_getElem? (i := 72) rfl)) (by decide) (by decide)) (g := (mkF m 12 #[.val (.ref a), .val (.int (Int32.ofNat i))] [(.int (Int32.ofNat i)), (.ref b)])) rfl (by rw [hml]; rfl) (argsL := [(.ref b), (.int (Int32.ofNat i))]) (rest := []) (lenOf pd___BI_C rfl) rfl (by show 2 * 0 + _ ≤ _; exact Nat.le_of_eq rfl) (Jvm.hb hby d_jdk_42_method_56_12) (fun _ _ => ⟨rfl, e5, (by decide : 0 + 0 ≤ _), (by decide : 0 + 0 ≤ _)⟩)
    dsimp only [Pt.U, Pt.locs, Pt.cells, Pt.slots] at X8 l8 y8 z8 st8 hQ8
    subst l8 y8 z8
    obtain ⟨rfl, N8q, e8⟩ := hQ8
    have N8 := Fr.app N4 N8q
    have s9 : ∀ t_, Steps p.tables e below (T8.setTop (mkF m 15 #[.val (.ref a), .val (.int (Int32.ofNat i))] [(.int (cs.getD i 0))])) t_ → Steps p.tables e below (s₁.setTop (entryFrame m #[(.ref a), (.int (Int32.ofNat i))] 2)) t_ := fun t_ k_ => s2 t_ (by
      show Steps p.tables e below (s₁.setTop (mkF m 0 #[.val (.ref a), .val (.int (Int32.ofNat i))] [])) t_
      refine XS.aloadN X0.here hx rfl (Jvm.hb hby d_jdk_42_method_56_0) rfl rfl ?_
      show Steps p.tables e below (s₁.setTop (mkF m 1 #[.val (.ref a), .val (.int (Int32.ofNat i))] [(.ref a)])) _
      refine st4.trans ?_
      show Steps p.tables e below (T4.setTop (mkF m 4 #[.val (.ref a), .val (.int (Int32.ofNat i))] [(.int (if own_cod cs = (0 : Int32) then (1 : Int32) else (0 : Int32)))])) _
      refine castTop (g' := (mkF m 4 #[.val (.ref a), .val (.int (Int32.ofNat i))] [(.int (1 : Int32))])) (by rw [if_pos (own_cod0 h1)]) ?_
      show Steps p.tables e below (T4.setTop (mkF m 4 #[.val (.ref a), .val (.int (Int32.ofNat i))] [(.int (1 : Int32))])) _
      refine XS.ifNo X4.here hx rfl (Jvm.hb hby d_jdk_42_method_56_4) rfl ((if0 _ _).trans (feq (by decide : ¬ ((1 : Int32) = (0 : Int32)))).1) ?_
      show Steps p.tables e below (T4.setTop (mkF m 7 #[.val (.ref a), .val (.int (Int32.ofNat i))] [])) _
      refine XS.aloadN X4.here hx rfl (Jvm.hb hby d_jdk_42_method_56_7) rfl rfl ?_
      show Steps p.tables e below (T4.setTop (mkF m 8 #[.val (.ref a), .val (.int (Int32.ofNat i))] [(.ref a)])) _
      refine st5 _ ?_
      show Steps p.tables e below (T5.setTop (mkF m 11 #[.val (.ref a), .val (.int (Int32.ofNat i))] [(.ref b)])) _
      refine XS.iloadN X5.here hx rfl (Jvm.hb hby d_jdk_42_method_56_11) rfl ?_
      show Steps p.tables e below (T5.setTop (mkF m 12 #[.val (.ref a), .val (.int (Int32.ofNat i))] [(.int (Int32.ofNat i)), (.ref b)])) _
      refine st8 _ ?_
      show Steps p.tables e below (T8.setTop (mkF m 15 #[.val (.ref a), .val (.int (Int32.ofNat i))] [(.int (cs.getD i 0))])) _
      show Steps p.tables e below (T8.setTop (mkF m 15 #[.val (.ref a), .val (.int (Int32.ofNat i))] [(.int (cs.getD i 0))])) t_
      exact k_)
    obtain ⟨fs, hr, hrun, hended, hW, hsame⟩ := X8.leave (v := some (.int (nar .char (cs.getD i 0)))) (fun h => by rw [Bd.returns] at h; cases h)
    refine ⟨_, _, s9 _ ?_, hrun, hended, _, _, rfl, ?_, ⟨_, rfl⟩, hW, hsame.mono (by decide) (by decide)⟩
    · show Steps p.tables e below (T8.setTop (mkF m 15 #[.val (.ref a), .val (.int (Int32.ofNat i))] [(.int (cs.getD i 0))])) _
      exact retN X8 hx (t := .char) Bd.returns (by simp) (Jvm.hb hby d_jdk_42_method_56_15) hr
    · show Q_rmChA Z _ _ _ _ _ _ _ h0 n0 _ T8.heap _
      rw [e8]
      exact ⟨(by rw [own_narc (hchs _ (own_mem cs i hi)).1 (hchs _ (own_mem cs i hi)).2]), N8, rfl⟩
  · have s10 : ∀ t_, Steps p.tables e below (s₁.setTop (mkF m 0 #[.val (.ref a), .val (.int (Int32.ofNat i))] [])) t_ → Steps p.tables e below (s₁.setTop (entryFrame m #[(.ref a), (.int (Int32.ofNat i))] 2)) t_ := fun t_ k_ => pre0 t_ (castTop (by rfl) k_)
    have Zc11 : n0 ≤ h0.size := by omega
    obtain ⟨cq12, kq12, q12a, q12b, q12c⟩ := isOf hZ e0 I6
    obtain ⟨_, _, ⟨T12, L12, k12, n12⟩, -, X12, ⟨Lc12, hQ12, l12, y12, z12⟩, st12⟩ := X0.virtualBack hx (y := (⟨"java/lang/String", "isLatin1", "()Z"⟩ : MethodName)) (z := (⟨"java/lang/String", "isLatin1", "()Z"⟩ : MethodName)) hown (mvT hZ (hw _ (List.mem_of_getElem? (i := 65) rfl))) (mvT hZ (hw _ (List.mem_of_getElem? (i := 66) rfl))) (notFace_of_selects (args := #[]) (mvT hZ (hw _ (List.mem_of_getElem? (i := 68) rfl)))) (mvT hZ (hw _ (List.mem_of_getElem? (i := 68) rfl))) (mvT hZ (hw _ (List.mem_of_getElem? (i := 67) rfl))) (by decide) (backOf (W := 0) (rmIsL l Z a0 hw [] a cst cs h0 n0 Zc11 I1 OX (hcst : ¬ (cst = (0 : Int32))) I8) hZ (hw _ (List.mem_of_getElem? (i := 69) rfl)) (hw _ (List.mem_of_getElem? (i := 7) rfl)) (by decide) (by decide)) q12a q12c (g := (mkF m 1 #[.val (.ref a), .val (.int (Int32.ofNat i))] [(.ref a)])) rfl (by rw [hml]; rfl) (Steps.refl _) (argsL := []) (rest := []) (lenOf pd___Z rfl) rfl (by show 2 * 0 + _ ≤ _; exact Nat.le_of_eq rfl) (Jvm.hb hby d_jdk_42_method_56_1) (fun _ _ => ⟨rfl, e0, (by decide : 0 + 0 ≤ _), (by decide : 0 + 0 ≤ _)⟩)
    dsimp only [Pt.U, Pt.locs, Pt.cells, Pt.slots] at X12 l12 y12 z12 st12 hQ12
    subst l12 y12 z12
    obtain ⟨rfl, N12q, e12⟩ := hQ12
    have N12 := Fr.app N0 N12q
    obtain ⟨T13, X13, e13, st13⟩ := getF X12 hx hZ hown (host := "") (Or.inl (hw _ (List.mem_of_getElem? (i := 25) rfl))) Via.refl e12 I7 (g := (mkF m 17 #[.val (.ref a), .val (.int (Int32.ofNat i))] [(.ref a)])) rfl rfl (Jvm.hb hby d_jdk_42_method_56_17)
    have V14 : Arv Z h0 b kb .byte (Int32.ofNat (2 * cs.length)) (own_wide cs) (.int (0 : Int32)) := by have q := I9; rw [own_enl, own_enc, if_neg h1, if_neg h1] at q; exact q
    have Zc15 : n0 ≤ h0.size := by omega
    obtain ⟨_, _, ⟨T16, L16, k16, n16⟩, -, X16, ⟨Lc16, hQ16, l16, y16, z16⟩, st16⟩ := Jvm.LawKit.callS X13 hx (y := (⟨"java/lang/StringUTF16", "charAt", "([BI)C"⟩ : MethodName)) hown (mvT hZ (hw _ (List.mem_of_getElem? (i := 101) rfl))) (mvT hZ (hw _ (List.mem_of_getElem? (i := 102) rfl))) (mvT hZ (hw _ (List.mem_of_getElem? (i := 39) rfl))) (mvT hZ (hw _ (List.mem_of_getElem? (i := 103) rfl))) (by decide) (backOf (W := 0) (rmUCh l Z a0 hw [] b kb cs i fmt h0 n0 Zc15 I2 I3 I4 (hfmt : fmt.isRef = true) I5 OX V14 (hb : cs.length ≤ 4) (hi : i < cs.length) (hchs : own_chs cs)) hZ (hw _ (List.mem_of_getElem? (i := 103) rfl)) (hw _ (List.mem_of_getElem? (i := 39) rfl)) (by decide) (by decide)) (g := (mkF m 21 #[.val (.ref a), .val (.int (Int32.ofNat i))] [(.int (Int32.ofNat i)), (.ref b)])) rfl (by rw [hml]; rfl) (argsL := [(.ref b), (.int (Int32.ofNat i))]) (rest := []) (lenOf pd___BI_C rfl) rfl (by show 2 * 0 + _ ≤ _; exact Nat.le_of_eq rfl) (Jvm.hb hby d_jdk_42_method_56_21) (fun _ _ => ⟨rfl, e13, (by decide : 0 + 0 ≤ _), (by decide : 0 + 0 ≤ _)⟩)
    dsimp only [Pt.U, Pt.locs, Pt.cells, Pt.slots] at X16 l16 y16 z16 st16 hQ16
    subst l16 y16 z16
    obtain ⟨rfl, N16q, e16⟩ := hQ16
    have N16 := Fr.app N12 N16q
    have s17 : ∀ t_, Steps p.tables e below (T16.setTop (mkF m 24 #[.val (.ref a), .val (.int (Int32.ofNat i))] [(.int (cs.getD i 0))])) t_ → Steps p.tables e below (s₁.setTop (entryFrame m #[(.ref a), (.int (Int32.ofNat i))] 2)) t_ := fun t_ k_ => s10 t_ (by
      show Steps p.tables e below (s₁.setTop (mkF m 0 #[.val (.ref a), .val (.int (Int32.ofNat i))] [])) t_
      refine XS.aloadN X0.here hx rfl (Jvm.hb hby d_jdk_42_method_56_0) rfl rfl ?_
      show Steps p.tables e below (s₁.setTop (mkF m 1 #[.val (.ref a), .val (.int (Int32.ofNat i))] [(.ref a)])) _
      refine st12.trans ?_
      show Steps p.tables e below (T12.setTop (mkF m 4 #[.val (.ref a), .val (.int (Int32.ofNat i))] [(.int (if own_cod cs = (0 : Int32) then (1 : Int32) else (0 : Int32)))])) _
      refine castTop (g' := (mkF m 4 #[.val (.ref a), .val (.int (Int32.ofNat i))] [(.int (0 : Int32))])) (by rw [if_neg (own_cod1 h1)]) ?_
      show Steps p.tables e below (T12.setTop (mkF m 4 #[.val (.ref a), .val (.int (Int32.ofNat i))] [(.int (0 : Int32))])) _
      refine XS.ifYes X12.here hx rfl (pc0 := 4) (pc' := 16) rfl (Jvm.hb hby d_jdk_42_method_56_4) rfl ((if0 _ _).trans (teq (rfl : (0 : Int32) = (0 : Int32))).1) (by decide) (by decide) ?_
      show Steps p.tables e below (T12.setTop (mkF m 16 #[.val (.ref a), .val (.int (Int32.ofNat i))] [])) _
      refine XS.aloadN X12.here hx rfl (Jvm.hb hby d_jdk_42_method_56_16) rfl rfl ?_
      show Steps p.tables e below (T12.setTop (mkF m 17 #[.val (.ref a), .val (.int (Int32.ofNat i))] [(.ref a)])) _
      refine st13 _ ?_
      show Steps p.tables e below (T13.setTop (mkF m 20 #[.val (.ref a), .val (.int (Int32.ofNat i))] [(.ref b)])) _
      refine XS.iloadN X13.here hx rfl (Jvm.hb hby d_jdk_42_method_56_20) rfl ?_
      show Steps p.tables e below (T13.setTop (mkF m 21 #[.val (.ref a), .val (.int (Int32.ofNat i))] [(.int (Int32.ofNat i)), (.ref b)])) _
      refine st16 _ ?_
      show Steps p.tables e below (T16.setTop (mkF m 24 #[.val (.ref a), .val (.int (Int32.ofNat i))] [(.int (cs.getD i 0))])) _
      show Steps p.tables e below (T16.setTop (mkF m 24 #[.val (.ref a), .val (.int (Int32.ofNat i))] [(.int (cs.getD i 0))])) t_
      exact k_)
    obtain ⟨fs, hr, hrun, hended, hW, hsame⟩ := X16.leave (v := some (.int (nar .char (cs.getD i 0)))) (fun h => by rw [Bd.returns] at h; cases h)
    refine ⟨_, _, s17 _ ?_, hrun, hended, _, _, rfl, ?_, ⟨_, rfl⟩, hW, hsame.mono (by decide) (by decide)⟩
    · show Steps p.tables e below (T16.setTop (mkF m 24 #[.val (.ref a), .val (.int (Int32.ofNat i))] [(.int (cs.getD i 0))])) _
      exact retN X16 hx (t := .char) Bd.returns (by simp) (Jvm.hb hby d_jdk_42_method_56_24) hr
    · show Q_rmChA Z _ _ _ _ _ _ _ h0 n0 _ T16.heap _
      rw [e16]
      exact ⟨(by rw [own_narc (hchs _ (own_mem cs i hi)).1 (hchs _ (own_mem cs i hi)).2]), N16, rfl⟩
theorem pn_com_example_zastupnik_zastupnik_protocol_AsciiDigitsOnlyPinLaw : plainName "com/example/zastupnik/zastupnik/protocol/AsciiDigitsOnlyPinLaw" = true := by first | (simp [plainName, overriddenIn]; done) | decide +kernel
theorem d_method_3_0 : decode method_3_code 0 = .ok (.iload_n 0, 1) := by decide +kernel
theorem d_method_3_1 : decode method_3_code 1 = .ok (.ifCond .ne 14, 3) := by decide +kernel
theorem d_method_3_4 : decode method_3_code 4 = .ok (.new 7, 3) := by decide +kernel
theorem d_method_3_7 : decode method_3_code 7 = .ok (.dup, 1) := by decide +kernel
theorem d_method_3_8 : decode method_3_code 8 = .ok (.iconst 0, 1) := by decide +kernel
theorem d_method_3_9 : decode method_3_code 9 = .ok (.newarray .char, 2) := by decide +kernel
theorem pd___C_V : parseMethodDescriptor "([C)V" = some ⟨[(.array .char)], none⟩ := by decide +kernel
theorem d_method_3_11 : decode method_3_code 11 = .ok (.invokespecial 9, 3) := by decide +kernel
theorem d_method_3_14 : decode method_3_code 14 = .ok (.areturn, 1) := by decide +kernel
theorem d_method_3_15 : decode method_3_code 15 = .ok (.iload_n 0, 1) := by decide +kernel
theorem d_method_3_16 : decode method_3_code 16 = .ok (.iconst 1, 1) := by decide +kernel
theorem d_method_3_17 : decode method_3_code 17 = .ok (.if_icmp .ne 18, 3) := by decide +kernel
theorem d_method_3_20 : decode method_3_code 20 = .ok (.new 7, 3) := by decide +kernel
theorem d_method_3_23 : decode method_3_code 23 = .ok (.dup, 1) := by decide +kernel
theorem d_method_3_24 : decode method_3_code 24 = .ok (.iconst 1, 1) := by decide +kernel
theorem d_method_3_25 : decode method_3_code 25 = .ok (.newarray .char, 2) := by decide +kernel
theorem d_method_3_27 : decode method_3_code 27 = .ok (.dup, 1) := by decide +kernel
theorem d_method_3_28 : decode method_3_code 28 = .ok (.iconst 0, 1) := by decide +kernel
theorem d_method_3_29 : decode method_3_code 29 = .ok (.iload_n 1, 1) := by decide +kernel
theorem d_method_3_30 : decode method_3_code 30 = .ok (.castore, 1) := by decide +kernel
theorem d_method_3_31 : decode method_3_code 31 = .ok (.invokespecial 9, 3) := by decide +kernel
theorem d_method_3_34 : decode method_3_code 34 = .ok (.areturn, 1) := by decide +kernel
theorem d_method_3_35 : decode method_3_code 35 = .ok (.iload_n 0, 1) := by decide +kernel
theorem d_method_3_36 : decode method_3_code 36 = .ok (.iconst 2, 1) := by decide +kernel
theorem d_method_3_37 : decode method_3_code 37 = .ok (.if_icmp .ne 22, 3) := by decide +kernel
theorem d_method_3_40 : decode method_3_code 40 = .ok (.new 7, 3) := by decide +kernel
theorem d_method_3_43 : decode method_3_code 43 = .ok (.dup, 1) := by decide +kernel
theorem d_method_3_44 : decode method_3_code 44 = .ok (.iconst 2, 1) := by decide +kernel
theorem d_method_3_45 : decode method_3_code 45 = .ok (.newarray .char, 2) := by decide +kernel
theorem d_method_3_47 : decode method_3_code 47 = .ok (.dup, 1) := by decide +kernel
theorem d_method_3_48 : decode method_3_code 48 = .ok (.iconst 0, 1) := by decide +kernel
theorem d_method_3_49 : decode method_3_code 49 = .ok (.iload_n 1, 1) := by decide +kernel
theorem d_method_3_50 : decode method_3_code 50 = .ok (.castore, 1) := by decide +kernel
theorem d_method_3_51 : decode method_3_code 51 = .ok (.dup, 1) := by decide +kernel
theorem d_method_3_52 : decode method_3_code 52 = .ok (.iconst 1, 1) := by decide +kernel
theorem d_method_3_53 : decode method_3_code 53 = .ok (.iload_n 2, 1) := by decide +kernel
theorem d_method_3_54 : decode method_3_code 54 = .ok (.castore, 1) := by decide +kernel
theorem d_method_3_55 : decode method_3_code 55 = .ok (.invokespecial 9, 3) := by decide +kernel
theorem d_method_3_58 : decode method_3_code 58 = .ok (.areturn, 1) := by decide +kernel
theorem d_method_3_59 : decode method_3_code 59 = .ok (.iload_n 0, 1) := by decide +kernel
theorem d_method_3_60 : decode method_3_code 60 = .ok (.iconst 3, 1) := by decide +kernel
theorem d_method_3_61 : decode method_3_code 61 = .ok (.if_icmp .ne 26, 3) := by decide +kernel
theorem d_method_3_64 : decode method_3_code 64 = .ok (.new 7, 3) := by decide +kernel
theorem d_method_3_67 : decode method_3_code 67 = .ok (.dup, 1) := by decide +kernel
theorem d_method_3_68 : decode method_3_code 68 = .ok (.iconst 3, 1) := by decide +kernel
theorem d_method_3_69 : decode method_3_code 69 = .ok (.newarray .char, 2) := by decide +kernel
theorem d_method_3_71 : decode method_3_code 71 = .ok (.dup, 1) := by decide +kernel
theorem d_method_3_72 : decode method_3_code 72 = .ok (.iconst 0, 1) := by decide +kernel
theorem d_method_3_73 : decode method_3_code 73 = .ok (.iload_n 1, 1) := by decide +kernel
theorem d_method_3_74 : decode method_3_code 74 = .ok (.castore, 1) := by decide +kernel
theorem d_method_3_75 : decode method_3_code 75 = .ok (.dup, 1) := by decide +kernel
theorem d_method_3_76 : decode method_3_code 76 = .ok (.iconst 1, 1) := by decide +kernel
theorem d_method_3_77 : decode method_3_code 77 = .ok (.iload_n 2, 1) := by decide +kernel
theorem d_method_3_78 : decode method_3_code 78 = .ok (.castore, 1) := by decide +kernel
theorem d_method_3_79 : decode method_3_code 79 = .ok (.dup, 1) := by decide +kernel
theorem d_method_3_80 : decode method_3_code 80 = .ok (.iconst 2, 1) := by decide +kernel
theorem d_method_3_81 : decode method_3_code 81 = .ok (.iload_n 3, 1) := by decide +kernel
theorem d_method_3_82 : decode method_3_code 82 = .ok (.castore, 1) := by decide +kernel
theorem d_method_3_83 : decode method_3_code 83 = .ok (.invokespecial 9, 3) := by decide +kernel
theorem d_method_3_86 : decode method_3_code 86 = .ok (.areturn, 1) := by decide +kernel
theorem d_method_3_87 : decode method_3_code 87 = .ok (.new 7, 3) := by decide +kernel
theorem d_method_3_90 : decode method_3_code 90 = .ok (.dup, 1) := by decide +kernel
theorem d_method_3_91 : decode method_3_code 91 = .ok (.iconst 4, 1) := by decide +kernel
theorem d_method_3_92 : decode method_3_code 92 = .ok (.newarray .char, 2) := by decide +kernel
theorem d_method_3_94 : decode method_3_code 94 = .ok (.dup, 1) := by decide +kernel
theorem d_method_3_95 : decode method_3_code 95 = .ok (.iconst 0, 1) := by decide +kernel
theorem d_method_3_96 : decode method_3_code 96 = .ok (.iload_n 1, 1) := by decide +kernel
theorem d_method_3_97 : decode method_3_code 97 = .ok (.castore, 1) := by decide +kernel
theorem d_method_3_98 : decode method_3_code 98 = .ok (.dup, 1) := by decide +kernel
theorem d_method_3_99 : decode method_3_code 99 = .ok (.iconst 1, 1) := by decide +kernel
theorem d_method_3_100 : decode method_3_code 100 = .ok (.iload_n 2, 1) := by decide +kernel
theorem d_method_3_101 : decode method_3_code 101 = .ok (.castore, 1) := by decide +kernel
theorem d_method_3_102 : decode method_3_code 102 = .ok (.dup, 1) := by decide +kernel
theorem d_method_3_103 : decode method_3_code 103 = .ok (.iconst 2, 1) := by decide +kernel
theorem d_method_3_104 : decode method_3_code 104 = .ok (.iload_n 3, 1) := by decide +kernel
theorem d_method_3_105 : decode method_3_code 105 = .ok (.castore, 1) := by decide +kernel
theorem d_method_3_106 : decode method_3_code 106 = .ok (.dup, 1) := by decide +kernel
theorem d_method_3_107 : decode method_3_code 107 = .ok (.iconst 3, 1) := by decide +kernel
theorem d_method_3_108 : decode method_3_code 108 = .ok (.iload 4, 2) := by decide +kernel
theorem d_method_3_110 : decode method_3_code 110 = .ok (.castore, 1) := by decide +kernel
theorem d_method_3_111 : decode method_3_code 111 = .ok (.invokespecial 9, 3) := by decide +kernel
theorem d_method_3_114 : decode method_3_code 114 = .ok (.areturn, 1) := by decide +kernel
theorem ef_rmMk (m : MethodId) (x0 : Int32) (x1 : Int32) (x2 : Int32) (x3 : Int32) (x4 : Int32) : entryFrame m #[(.int x0), (.int x1), (.int x2), (.int x3), (.int x4)] 5 = mkF m 0 #[.val (.int x0), .val (.int x1), .val (.int x2), .val (.int x3), .val (.int x4)] [] := by first | (simp [entryFrame, mkF, argsToLocals, Value.category]; done) | rfl
def Q_rmMk (Z : State) (cx : Int32) (cy : Int32) (cz : Int32) (cw : Int32) (cst : Int32) (n : Nat) (h0 : Heap) (n0 : Nat) (v : Option Value) (h : Heap) (L : List Loc) : Prop := ∃ (a : Addr), ∃ (b : Addr), ∃ (kb : ClassId), (v = some (.ref a)) ∧ (Fr n0 L) ∧ (Keep h0 h []) ∧ (Exa Z h a "java/lang/String") ∧ (Fld Z h a "java/lang/String" "value" "[B" (.ref b)) ∧ (Fld Z h a "java/lang/String" "coder" "B" (.int (own_cod (own_mk4 n cx cy cz cw)))) ∧ (Arv Z h b kb .byte (Int32.ofNat (own_enl (own_mk4 n cx cy cz cw))) (own_enc (own_mk4 n cx cy cz cw)) (.int (0 : Int32))) ∧ (h0.size ≤ a)
set_option maxRecDepth 65536 in
set_option maxHeartbeats 40000000 in
theorem rmMk (l : Launch) (Z : State) (a0 : Array Value) (hw : ∀ d ∈ tables_1, d.before a0 Z = true) (ws : List Jvm.Cond) (cx : Int32) (cy : Int32) (cz : Int32) (cw : Int32) (cst : Int32) (n : Nat) (h0 : Heap) (n0 : Nat) (Z0 : n0 ≤ h0.size) (I1 : Sta Z Z.heap "java/lang/String" "COMPACT_STRINGS" "Z" (.int cst)) (I2 : Sta Z Z.heap "java/lang/StringUTF16" "$assertionsDisabled" "Z" (.int (1 : Int32))) (I3 : Sta Z Z.heap "java/lang/StringUTF16" "HI_BYTE_SHIFT" "I" (.int (0 : Int32))) (I4 : Sta Z Z.heap "java/lang/StringUTF16" "LO_BYTE_SHIFT" "I" (.int (8 : Int32))) (OX : Old Z n0 h0) (hcst : ¬ (cst = (0 : Int32))) (hlen : n = 0 ∨ n = 1 ∨ n = 2 ∨ n = 3 ∨ n = 4) (r0a : ¬ (cx < (0 : Int32))) (r0b : ¬ ((65535 : Int32) < cx)) (r1a : ¬ (cy < (0 : Int32))) (r1b : ¬ ((65535 : Int32) < cy)) (r2a : ¬ (cz < (0 : Int32))) (r2b : ¬ ((65535 : Int32) < cz)) (r3a : ¬ (cw < (0 : Int32))) (r3b : ¬ ((65535 : Int32) < cw)) :
    MetFree l (⟨"com/example/zastupnik/zastupnik/protocol/AsciiDigitsOnlyPinLaw", "make", "(ICCCC)Ljava/lang/String;"⟩ : MethodName) (head1 (Jvm.Cond.code (⟨"com/example/zastupnik/zastupnik/protocol/AsciiDigitsOnlyPinLaw", "make", "(ICCCC)Ljava/lang/String;"⟩ : MethodName) method_3_code 5 (some (.object "java/lang/String")) :: ws) ({ frames := 6, cells := 6, slots := 20, locals := 88 } : Room)) (fun ar_ U => ar_ = #[(.int (Int32.ofNat n)), (.int cx), (.int cy), (.int cz), (.int cw)] ∧ Z.Warmed39 U.vm ∧ U.heap = h0 ∧ CHv Z ELs U.vm h0) (fun _ _ _ _ _ => True) (fun _ U o U' => ∃ v L, o = .returned v ∧ Q_rmMk Z cx cy cz cw cst n h0 n0 v U'.heap L ∧ CHr Z ELs U.vm U.heap U'.vm U'.heap ∧ ReturnedEndW U o U' L ({ frames := 6, cells := 6, slots := 20, locals := 88 } : Room).cells ({ frames := 6, cells := 6, slots := 20, locals := 88 } : Room).slots) := by
  refine MetFree.of_bodySF (plainFor_of_name pn_com_example_zastupnik_zastupnik_protocol_AsciiDigitsOnlyPinLaw) hisR ?_
  intro p e s m args below meth c s₁ Bd hml0 hP hK
  obtain ⟨rfl, hZ, hh, hCH⟩ := hP
  have hx := Bd.exec
  have hby := Bd.bytes
  have hml : c.maxLocals = 5 := hml0
  have hown : s.vm.findClass "com/example/zastupnik/zastupnik/protocol/AsciiDigitsOnlyPinLaw" = some m.cls := findClass_of_methodNamed Bd.named
  have hnm := (name_of_methodNamed Bd.named Bd.method).1
  have X0 : Stand p l e ({ frames := 6, cells := 6, slots := 20, locals := 88 } : Room) (s.setVm s.vm) m #[(.int (Int32.ofNat n)), (.int cx), (.int cy), (.int cz), (.int cw)] below meth c s₁ [] 0 0 := Stand.of_body Bd
  have e0 : s₁.heap = h0 := by rw [← hh, Bd.state]; rfl
  have N0 := Fr.nil n0
  have pre0 : ∀ t_, Steps p.tables e below (s₁.setTop (mkF m 0 #[.val (.int (Int32.ofNat n)), .val (.int cx), .val (.int cy), .val (.int cz), .val (.int cw)] [])) t_ → Steps p.tables e below (s₁.setTop (entryFrame m #[(.int (Int32.ofNat n)), (.int cx), (.int cy), (.int cz), (.int cw)] 5)) t_ := fun t_ k_ => castTop (ef_rmMk m (Int32.ofNat n) cx cy cz cw) k_
  have hEL : EW Z a0 ELs := own_EW hw
  have wS : ∀ a ∈ Bundle.stringAtoms, a.before a0 Z = true := own_wS hw
  have hS : s.Since s.vm s.heap.size := (State.WarmedH.refl s).since _
  have hk : s.heap.size ≤ h0.size := by rw [hh]; exact Nat.le_refl _
  have CR : CHr Z ELs s.vm h0 s.vm h0 := CHr.refl hCH
  obtain rfl | rfl | rfl | rfl | rfl := hlen
  · have hcase := trivial
    obtain ⟨T1, h1, X1, e1, E1, A1, D1, -, st1⟩ := newO X0 hx hZ hown (hw _ (List.mem_of_getElem? (i := 5) rfl)) (hw _ (List.mem_of_getElem? (i := 6) rfl)) (hw _ (List.mem_of_getElem? (i := 7) rfl)) e0 (g := (mkF m 4 #[.val (.int (0 : Int32)), .val (.int cx), .val (.int cy), .val (.int cz), .val (.int cw)] [])) rfl (Jvm.hb hby d_method_3_4) (by decide) (by decide)
    obtain ⟨b1, g1⟩ : ∃ z, z = h0.size := ⟨_, rfl⟩
    rw [← g1] at A1 D1 st1
    have z2 : h0.size ≤ h1.size := E1.1
    have Sf3 : Safe Z ELs s.vm h1 b1 := Safe.ext E1 CR.1 (Safe.new (by omega))
    have Cp2 : CHr Z ELs s.vm h0 s.vm h1 := CHr.ext E1 CR.1
    have hk := Nat.le_trans hk z2
    have CR := CR.trans Cp2
    have l1 : b1 < h1.size := A1.lt
    have F4 : Fld Z h1 b1 "java/lang/String" "value" "[B" .null := D1 (Or.inr (hw _ (List.mem_of_getElem? (i := 21) rfl))) (ty := (.array .byte)) (by decide)
    have F5 : Fld Z h1 b1 "java/lang/String" "coder" "B" (.int (0 : Int32)) := D1 (Or.inr (hw _ (List.mem_of_getElem? (i := 22) rfl))) (ty := .byte) (by decide)
    obtain ⟨T6, h6, k6, X6, e6, E6, A6, st6⟩ := newP X1 hx hZ (hw _ (List.mem_of_getElem? (i := 8) rfl)) e1 (g := (mkF m 9 #[.val (.int (0 : Int32)), .val (.int cx), .val (.int cy), .val (.int cz), .val (.int cw)] [(.int (0 : Int32)), (.ref b1), (.ref b1)])) rfl (Jvm.hb hby d_method_3_9) rfl (by decide) (cap := 0) (by decide) (by decide) (by decide) (by decide)
    obtain ⟨b6, g6⟩ : ∃ z, z = h1.size := ⟨_, rfl⟩
    rw [← g6] at A6 st6
    have z7 : h1.size ≤ h6.size := E6.1
    have Cp7 : CHr Z ELs s.vm h1 s.vm h6 := CHr.ext E6 CR.1
    have hk := Nat.le_trans hk z7
    have CR := CR.trans Cp7
    have l6 : b6 < h6.size := A6.lt
    have V6 : Arv Z h6 b6 k6 .char (0 : Int32) [] (.int (0 : Int32)) := (Arv.new A6 (by decide)).pad (pad_rep [] (.int (0 : Int32)) 0)
    have O8 : Old Z n0 h6 := ((OX.ext E1).ext E6)
    have f9 : Exa Z h6 b1 "java/lang/String" := (A1.ext E6)
    have f10 : Fld Z h6 b1 "java/lang/String" "value" "[B" .null := (F4.ext E6)
    have f11 : Fld Z h6 b1 "java/lang/String" "coder" "B" (.int (0 : Int32)) := (F5.ext E6)
    have Zc12 : n0 ≤ h6.size := by omega
    have s14 : ∀ t_, Steps p.tables e below (T6.setTop (mkF m 11 #[.val (.int (0 : Int32)), .val (.int cx), .val (.int cy), .val (.int cz), .val (.int cw)] [(.ref b6), (.ref b1), (.ref b1)])) t_ → Steps p.tables e below (s₁.setTop (entryFrame m #[(.int (0 : Int32)), (.int cx), (.int cy), (.int cz), (.int cw)] 5)) t_ := fun t_ k_ => pre0 t_ (by
      show Steps p.tables e below (s₁.setTop (mkF m 0 #[.val (.int (0 : Int32)), .val (.int cx), .val (.int cy), .val (.int cz), .val (.int cw)] [])) t_
      refine XS.iloadN X0.here hx rfl (Jvm.hb hby d_method_3_0) rfl ?_
      show Steps p.tables e below (s₁.setTop (mkF m 1 #[.val (.int (0 : Int32)), .val (.int cx), .val (.int cy), .val (.int cz), .val (.int cw)] [(.int (0 : Int32))])) _
      refine XS.ifNo X0.here hx rfl (Jvm.hb hby d_method_3_1) rfl ((if0 _ _).trans (teq (rfl : (0 : Int32) = (0 : Int32))).2) ?_
      show Steps p.tables e below (s₁.setTop (mkF m 4 #[.val (.int (0 : Int32)), .val (.int cx), .val (.int cy), .val (.int cz), .val (.int cw)] [])) _
      refine st1 _ ?_
      show Steps p.tables e below (T1.setTop (mkF m 7 #[.val (.int (0 : Int32)), .val (.int cx), .val (.int cy), .val (.int cz), .val (.int cw)] [(.ref b1)])) _
      refine XS.dup X1.here hx rfl (Jvm.hb hby d_method_3_7) rfl rfl ?_
      show Steps p.tables e below (T1.setTop (mkF m 8 #[.val (.int (0 : Int32)), .val (.int cx), .val (.int cy), .val (.int cz), .val (.int cw)] [(.ref b1), (.ref b1)])) _
      refine XS.iconst X1.here hx rfl (Jvm.hb hby d_method_3_8) ?_
      show Steps p.tables e below (T1.setTop (mkF m 9 #[.val (.int (0 : Int32)), .val (.int cx), .val (.int cy), .val (.int cz), .val (.int cw)] [(.int (0 : Int32)), (.ref b1), (.ref b1)])) _
      refine st6 _ ?_
      show Steps p.tables e below (T6.setTop (mkF m 11 #[.val (.int (0 : Int32)), .val (.int cx), .val (.int cy), .val (.int cz), .val (.int cw)] [(.ref b6), (.ref b1), (.ref b1)])) _
      show Steps p.tables e below (T6.setTop (mkF m 11 #[.val (.int (0 : Int32)), .val (.int cx), .val (.int cy), .val (.int cz), .val (.int cw)] [(.ref b6), (.ref b1), (.ref b1)])) t_
      exact k_)
    obtain ⟨_, _, ⟨T13, L13, k13, n13⟩, -, Xr13, hSr13, hg13, ⟨Lc13, hQ13, l13, y13, z13, Cp13⟩, st13⟩ := X6.specialBackS hx (y := (⟨"java/lang/String", "<init>", "([C)V"⟩ : MethodName)) rfl hown (mvT hZ (hw _ (List.mem_of_getElem? (i := 9) rfl))) (mvT hZ (hw _ (List.mem_of_getElem? (i := 10) rfl))) (mvT hZ (hw _ (List.mem_of_getElem? (i := 11) rfl))) (by decide) (backOfSH (s := s) (vm0 := s.vm) (W := 1) (rmIni1 l Z a0 hw [] b1 b6 cst ([] : List Int32) k6 0 h6 n0 Zc12 I1 I2 I3 I4 O8 (hcst : ¬ (cst = (0 : Int32))) f9 f10 f11 V6 rfl (by first | assumption | rfl | decide | omega : 0 ≤ 4) own_chs0 (by first | assumption | rfl | decide | omega : n0 ≤ b1) (by first | assumption | rfl | decide | omega : @Ne Nat b1 b6)) hZ (hw _ (List.mem_of_getElem? (i := 11) rfl)) (hw _ (List.mem_of_getElem? (i := 7) rfl)) (by decide) (by decide) hEL CR.1) (g := (mkF m 11 #[.val (.int (0 : Int32)), .val (.int cx), .val (.int cy), .val (.int cz), .val (.int cw)] [(.ref b6), (.ref b1), (.ref b1)])) rfl (by rw [hml]; rfl) (Steps.refl _) (a := b1) (argsL := [(.ref b6)]) (rest := [(.ref b1)]) (lenOf pd___C_V rfl) rfl (by show 2 * 0 + _ ≤ _; exact Nat.le_of_eq rfl) (Jvm.hb hby d_method_3_11) (fun _ _ => ⟨rfl, e6, (by decide : 2 + 4 ≤ _), (by decide : 4 + 12 ≤ _)⟩)
    dsimp only [Pt.U, Pt.locs, Pt.cells, Pt.slots] at Xr13 hSr13 hg13 l13 y13 z13 st13 hQ13 Cp13
    subst l13 y13 z13
    obtain ⟨X13, hS, hZ, hown⟩ := rebS (own := "com/example/zastupnik/zastupnik/protocol/AsciiDigitsOnlyPinLaw") hS (by first | exact Nat.le_refl _ | (rw [e6]; exact hk)) Xr13 hSr13 hg13 hZ hown
    obtain ⟨b_13, kb_13, rfl, N13q, K13, Fq13_0, Fq13_1, Fq13_2, Fq13_3⟩ := hQ13
    have N13 := Fr.app N0 N13q
    obtain ⟨h13, e13⟩ : ∃ z, T13.heap = z := ⟨_, rfl⟩
    rw [e13] at K13 Fq13_0 Fq13_1 Fq13_2 Fq13_3 Cp13
    have hk : T13.heap.size ≤ h13.size := Nat.le_of_eq (congrArg Array.size e13)
    have z15 : h6.size ≤ h13.size := K13.1
    have CR := CR.trans Cp13
    have lt13_0 : @LT.lt Nat _ b1 h13.size := Fq13_0.lt
    have lt13_3 : @LT.lt Nat _ b_13 h13.size := Fq13_3.lt
    have s16 : ∀ t_, Steps p.tables e below (T13.setTop (mkF m 14 #[.val (.int (0 : Int32)), .val (.int cx), .val (.int cy), .val (.int cz), .val (.int cw)] [(.ref b1)])) t_ → Steps p.tables e below (s₁.setTop (entryFrame m #[(.int (0 : Int32)), (.int cx), (.int cy), (.int cz), (.int cw)] 5)) t_ := fun t_ k_ => s14 t_ (by
      show Steps p.tables e below (T6.setTop (mkF m 11 #[.val (.int (0 : Int32)), .val (.int cx), .val (.int cy), .val (.int cz), .val (.int cw)] [(.ref b6), (.ref b1), (.ref b1)])) t_
      refine st13.trans ?_
      show Steps p.tables e below (T13.setTop (mkF m 14 #[.val (.int (0 : Int32)), .val (.int cx), .val (.int cy), .val (.int cz), .val (.int cw)] [(.ref b1)])) _
      show Steps p.tables e below (T13.setTop (mkF m 14 #[.val (.int (0 : Int32)), .val (.int cx), .val (.int cy), .val (.int cz), .val (.int cw)] [(.ref b1)])) t_
      exact k_)
    obtain ⟨fs, hr, hrun, hended, hREW⟩ := X13.leaveW hS (by first | exact Nat.le_refl _ | (rw [e13]; exact hk)) (v := some (.ref b1)) (fun h => by rw [Bd.returns] at h; cases h)
    refine ⟨_, _, s16 _ ?_, hrun, hended, _, _, rfl, ?_, (by show CHr Z ELs s.vm s.heap T13.vm T13.heap; rw [hh, e13]; exact CR.trans (CHv.at X13 hZ hEL CR.1)), hREW.1, hREW.2.1, hREW.2.2.1, hREW.2.2.2.mono (by decide) (by decide)⟩
    · show Steps p.tables e below (T13.setTop (mkF m 14 #[.val (.int (0 : Int32)), .val (.int cx), .val (.int cy), .val (.int cz), .val (.int cw)] [(.ref b1)])) _
      jvm_step X13.here [X13.here.top, hx, (Jvm.hb hby d_method_3_14), X13.method', Bd.returns, Value.isRef, FieldType.isReference]
      first | (intro acts; rw [hr _ acts rfl rfl rfl]) | rw [hr _ _ rfl rfl rfl]
      exact Steps.refl _
    · show Q_rmMk Z _ _ _ _ _ _ h0 n0 _ T13.heap _
      rw [e13]
      exact ⟨b1, b_13, kb_13, rfl, N13, ((((Keep.refl h0 []).ext E1).ext E6).trans K13 (allS (Or.inr (show h0.size ≤ b1 by omega)) all0)), Fq13_0, Fq13_1, Fq13_2, Fq13_3, by omega⟩
  · have hcase := trivial
    obtain ⟨T17, h17, X17, e17, E17, A17, D17, -, st17⟩ := newO X0 hx hZ hown (hw _ (List.mem_of_getElem? (i := 5) rfl)) (hw _ (List.mem_of_getElem? (i := 6) rfl)) (hw _ (List.mem_of_getElem? (i := 7) rfl)) e0 (g := (mkF m 20 #[.val (.int (1 : Int32)), .val (.int cx), .val (.int cy), .val (.int cz), .val (.int cw)] [])) rfl (Jvm.hb hby d_method_3_20) (by decide) (by decide)
    obtain ⟨b17, g17⟩ : ∃ z, z = h0.size := ⟨_, rfl⟩
    rw [← g17] at A17 D17 st17
    have z18 : h0.size ≤ h17.size := E17.1
    have Sf19 : Safe Z ELs s.vm h17 b17 := Safe.ext E17 CR.1 (Safe.new (by omega))
    have Cp18 : CHr Z ELs s.vm h0 s.vm h17 := CHr.ext E17 CR.1
    have hk := Nat.le_trans hk z18
    have CR := CR.trans Cp18
    have l17 : b17 < h17.size := A17.lt
    have F20 : Fld Z h17 b17 "java/lang/String" "value" "[B" .null := D17 (Or.inr (hw _ (List.mem_of_getElem? (i := 21) rfl))) (ty := (.array .byte)) (by decide)
    have F21 : Fld Z h17 b17 "java/lang/String" "coder" "B" (.int (0 : Int32)) := D17 (Or.inr (hw _ (List.mem_of_getElem? (i := 22) rfl))) (ty := .byte) (by decide)
    obtain ⟨T22, h22, k22, X22, e22, E22, A22, st22⟩ := newP X17 hx hZ (hw _ (List.mem_of_getElem? (i := 8) rfl)) e17 (g := (mkF m 25 #[.val (.int (1 : Int32)), .val (.int cx), .val (.int cy), .val (.int cz), .val (.int cw)] [(.int (1 : Int32)), (.ref b17), (.ref b17)])) rfl (Jvm.hb hby d_method_3_25) rfl (by decide) (cap := 1) (by decide) (by decide) (by decide) (by decide)
    obtain ⟨b22, g22⟩ : ∃ z, z = h17.size := ⟨_, rfl⟩
    rw [← g22] at A22 st22
    have z23 : h17.size ≤ h22.size := E22.1
    have Cp23 : CHr Z ELs s.vm h17 s.vm h22 := CHr.ext E22 CR.1
    have hk := Nat.le_trans hk z23
    have CR := CR.trans Cp23
    have l22 : b22 < h22.size := A22.lt
    have V22 : Arv Z h22 b22 k22 .char (1 : Int32) [(.int (0 : Int32))] (.int (0 : Int32)) := (Arv.new A22 (by decide)).pad (pad_rep [] (.int (0 : Int32)) 1)
    obtain ⟨cl24, Ar24, q24, S24, M24, H24, G24⟩ := id V22
    have hin24 : ¬ ((0 : Int32) < 0 ∨ cl24.slots.size ≤ ((0 : Int32)).toNatClampNeg) := inb_of S24 ⟨by decide, by decide⟩
    obtain ⟨T25, h25, X25, e25, W25, st25⟩ := stC X22 hx hZ e22 Ar24 (j := (0 : Int32)) hin24 (g := (mkF m 30 #[.val (.int (1 : Int32)), .val (.int cx), .val (.int cy), .val (.int cz), .val (.int cw)] [(.int cx), (.int (0 : Int32)), (.ref b22), (.ref b22), (.ref b17), (.ref b17)])) rfl rfl (Jvm.hb hby d_method_3_30)
    have z26 : h22.size ≤ h25.size := Nat.le_of_eq W25.size.symm
    have Cp26 : CHr Z ELs s.vm h22 s.vm h25 := CHr.wr W25 (Safe.arv hZ.alike V22 (by decide)) CR.1
    have hk := Nat.le_trans hk z26
    have CR := CR.trans Cp26
    have V25 : Arv Z h25 b22 k22 .char (1 : Int32) [(.int cx)] (.int (0 : Int32)) := by have q : Arv Z h25 b22 k22 .char (1 : Int32) [(.int (nar .char cx))] (.int (0 : Int32)) := Arv.set Ar24 q24 S24 M24 H24 G24 (fits_nar_char _) W25 0 rfl (Nat.le_of_ble_eq_true rfl); rw [show nar .char cx = cx from own_narc r0a r0b] at q; exact q
    have N25 := Fr.snoc X25 N0 (show n0 ≤ b22 by omega)
    have O27 : Old Z n0 h25 := (((OX.ext E17).ext E22).wr W25 (show n0 ≤ b22 by omega))
    have f28 : Exa Z h25 b17 "java/lang/String" := ((A17.ext E22).wr W25)
    have f29 : Fld Z h25 b17 "java/lang/String" "value" "[B" .null := ((F20.ext E22).other W25 (Or.inl (show @Ne Nat b17 b22 by omega)))
    have f30 : Fld Z h25 b17 "java/lang/String" "coder" "B" (.int (0 : Int32)) := ((F21.ext E22).other W25 (Or.inl (show @Ne Nat b17 b22 by omega)))
    have Zc31 : n0 ≤ h25.size := by omega
    have s33 : ∀ t_, Steps p.tables e below (T25.setTop (mkF m 31 #[.val (.int (1 : Int32)), .val (.int cx), .val (.int cy), .val (.int cz), .val (.int cw)] [(.ref b22), (.ref b17), (.ref b17)])) t_ → Steps p.tables e below (s₁.setTop (entryFrame m #[(.int (1 : Int32)), (.int cx), (.int cy), (.int cz), (.int cw)] 5)) t_ := fun t_ k_ => pre0 t_ (by
      show Steps p.tables e below (s₁.setTop (mkF m 0 #[.val (.int (1 : Int32)), .val (.int cx), .val (.int cy), .val (.int cz), .val (.int cw)] [])) t_
      refine XS.iloadN X0.here hx rfl (Jvm.hb hby d_method_3_0) rfl ?_
      show Steps p.tables e below (s₁.setTop (mkF m 1 #[.val (.int (1 : Int32)), .val (.int cx), .val (.int cy), .val (.int cz), .val (.int cw)] [(.int (1 : Int32))])) _
      refine XS.ifYes X0.here hx rfl (pc0 := 1) (pc' := 15) rfl (Jvm.hb hby d_method_3_1) rfl ((if0 _ _).trans (feq (by decide : ¬ ((1 : Int32) = (0 : Int32)))).2) (by decide) (by decide) ?_
      show Steps p.tables e below (s₁.setTop (mkF m 15 #[.val (.int (1 : Int32)), .val (.int cx), .val (.int cy), .val (.int cz), .val (.int cw)] [])) _
      refine XS.iloadN X0.here hx rfl (Jvm.hb hby d_method_3_15) rfl ?_
      show Steps p.tables e below (s₁.setTop (mkF m 16 #[.val (.int (1 : Int32)), .val (.int cx), .val (.int cy), .val (.int cz), .val (.int cw)] [(.int (1 : Int32))])) _
      refine XS.iconst X0.here hx rfl (Jvm.hb hby d_method_3_16) ?_
      show Steps p.tables e below (s₁.setTop (mkF m 17 #[.val (.int (1 : Int32)), .val (.int cx), .val (.int cy), .val (.int cz), .val (.int cw)] [(.int (1 : Int32)), (.int (1 : Int32))])) _
      refine XS.icmpNo X0.here hx rfl (Jvm.hb hby d_method_3_17) rfl (teq (rfl : (1 : Int32) = (1 : Int32))).2 ?_
      show Steps p.tables e below (s₁.setTop (mkF m 20 #[.val (.int (1 : Int32)), .val (.int cx), .val (.int cy), .val (.int cz), .val (.int cw)] [])) _
      refine st17 _ ?_
      show Steps p.tables e below (T17.setTop (mkF m 23 #[.val (.int (1 : Int32)), .val (.int cx), .val (.int cy), .val (.int cz), .val (.int cw)] [(.ref b17)])) _
      refine XS.dup X17.here hx rfl (Jvm.hb hby d_method_3_23) rfl rfl ?_
      show Steps p.tables e below (T17.setTop (mkF m 24 #[.val (.int (1 : Int32)), .val (.int cx), .val (.int cy), .val (.int cz), .val (.int cw)] [(.ref b17), (.ref b17)])) _
      refine XS.iconst X17.here hx rfl (Jvm.hb hby d_method_3_24) ?_
      show Steps p.tables e below (T17.setTop (mkF m 25 #[.val (.int (1 : Int32)), .val (.int cx), .val (.int cy), .val (.int cz), .val (.int cw)] [(.int (1 : Int32)), (.ref b17), (.ref b17)])) _
      refine st22 _ ?_
      show Steps p.tables e below (T22.setTop (mkF m 27 #[.val (.int (1 : Int32)), .val (.int cx), .val (.int cy), .val (.int cz), .val (.int cw)] [(.ref b22), (.ref b17), (.ref b17)])) _
      refine XS.dup X22.here hx rfl (Jvm.hb hby d_method_3_27) rfl rfl ?_
      show Steps p.tables e below (T22.setTop (mkF m 28 #[.val (.int (1 : Int32)), .val (.int cx), .val (.int cy), .val (.int cz), .val (.int cw)] [(.ref b22), (.ref b22), (.ref b17), (.ref b17)])) _
      refine XS.iconst X22.here hx rfl (Jvm.hb hby d_method_3_28) ?_
      show Steps p.tables e below (T22.setTop (mkF m 29 #[.val (.int (1 : Int32)), .val (.int cx), .val (.int cy), .val (.int cz), .val (.int cw)] [(.int (0 : Int32)), (.ref b22), (.ref b22), (.ref b17), (.ref b17)])) _
      refine XS.iloadN X22.here hx rfl (Jvm.hb hby d_method_3_29) rfl ?_
      show Steps p.tables e below (T22.setTop (mkF m 30 #[.val (.int (1 : Int32)), .val (.int cx), .val (.int cy), .val (.int cz), .val (.int cw)] [(.int cx), (.int (0 : Int32)), (.ref b22), (.ref b22), (.ref b17), (.ref b17)])) _
      refine st25 _ ?_
      show Steps p.tables e below (T25.setTop (mkF m 31 #[.val (.int (1 : Int32)), .val (.int cx), .val (.int cy), .val (.int cz), .val (.int cw)] [(.ref b22), (.ref b17), (.ref b17)])) _
      show Steps p.tables e below (T25.setTop (mkF m 31 #[.val (.int (1 : Int32)), .val (.int cx), .val (.int cy), .val (.int cz), .val (.int cw)] [(.ref b22), (.ref b17), (.ref b17)])) t_
      exact k_)
    obtain ⟨_, _, ⟨T32, L32, k32, n32⟩, -, Xr32, hSr32, hg32, ⟨Lc32, hQ32, l32, y32, z32, Cp32⟩, st32⟩ := X25.specialBackS hx (y := (⟨"java/lang/String", "<init>", "([C)V"⟩ : MethodName)) rfl hown (mvT hZ (hw _ (List.mem_of_getElem? (i := 9) rfl))) (mvT hZ (hw _ (List.mem_of_getElem? (i := 10) rfl))) (mvT hZ (hw _ (List.mem_of_getElem? (i := 11) rfl))) (by decide) (backOfSH (s := s) (vm0 := s.vm) (W := 1) (rmIni1 l Z a0 hw [] b17 b22 cst [cx] k22 1 h25 n0 Zc31 I1 I2 I3 I4 O27 (hcst : ¬ (cst = (0 : Int32))) f28 f29 f30 V25 rfl (by first | assumption | rfl | decide | omega : 1 ≤ 4) (own_chsS ⟨r0a, r0b⟩ own_chs0) (by first | assumption | rfl | decide | omega : n0 ≤ b17) (by first | assumption | rfl | decide | omega : @Ne Nat b17 b22)) hZ (hw _ (List.mem_of_getElem? (i := 11) rfl)) (hw _ (List.mem_of_getElem? (i := 7) rfl)) (by decide) (by decide) hEL CR.1) (g := (mkF m 31 #[.val (.int (1 : Int32)), .val (.int cx), .val (.int cy), .val (.int cz), .val (.int cw)] [(.ref b22), (.ref b17), (.ref b17)])) rfl (by rw [hml]; rfl) (Steps.refl _) (a := b17) (argsL := [(.ref b22)]) (rest := [(.ref b17)]) (lenOf pd___C_V rfl) rfl (by show 2 * 0 + _ ≤ _; exact Nat.le_of_eq rfl) (Jvm.hb hby d_method_3_31) (fun _ _ => ⟨rfl, e25, (by decide : 2 + 4 ≤ _), (by decide : 5 + 12 ≤ _)⟩)
    dsimp only [Pt.U, Pt.locs, Pt.cells, Pt.slots] at Xr32 hSr32 hg32 l32 y32 z32 st32 hQ32 Cp32
    subst l32 y32 z32
    obtain ⟨X32, hS, hZ, hown⟩ := rebS (own := "com/example/zastupnik/zastupnik/protocol/AsciiDigitsOnlyPinLaw") hS (by first | exact Nat.le_refl _ | (rw [e25]; exact hk)) Xr32 hSr32 hg32 hZ hown
    obtain ⟨b_32, kb_32, rfl, N32q, K32, Fq32_0, Fq32_1, Fq32_2, Fq32_3⟩ := hQ32
    have N32 := Fr.app N25 N32q
    obtain ⟨h32, e32⟩ : ∃ z, T32.heap = z := ⟨_, rfl⟩
    rw [e32] at K32 Fq32_0 Fq32_1 Fq32_2 Fq32_3 Cp32
    have hk : T32.heap.size ≤ h32.size := Nat.le_of_eq (congrArg Array.size e32)
    have z34 : h25.size ≤ h32.size := K32.1
    have CR := CR.trans Cp32
    have lt32_0 : @LT.lt Nat _ b17 h32.size := Fq32_0.lt
    have lt32_3 : @LT.lt Nat _ b_32 h32.size := Fq32_3.lt
    have s35 : ∀ t_, Steps p.tables e below (T32.setTop (mkF m 34 #[.val (.int (1 : Int32)), .val (.int cx), .val (.int cy), .val (.int cz), .val (.int cw)] [(.ref b17)])) t_ → Steps p.tables e below (s₁.setTop (entryFrame m #[(.int (1 : Int32)), (.int cx), (.int cy), (.int cz), (.int cw)] 5)) t_ := fun t_ k_ => s33 t_ (by
      show Steps p.tables e below (T25.setTop (mkF m 31 #[.val (.int (1 : Int32)), .val (.int cx), .val (.int cy), .val (.int cz), .val (.int cw)] [(.ref b22), (.ref b17), (.ref b17)])) t_
      refine st32.trans ?_
      show Steps p.tables e below (T32.setTop (mkF m 34 #[.val (.int (1 : Int32)), .val (.int cx), .val (.int cy), .val (.int cz), .val (.int cw)] [(.ref b17)])) _
      show Steps p.tables e below (T32.setTop (mkF m 34 #[.val (.int (1 : Int32)), .val (.int cx), .val (.int cy), .val (.int cz), .val (.int cw)] [(.ref b17)])) t_
      exact k_)
    obtain ⟨fs, hr, hrun, hended, hREW⟩ := X32.leaveW hS (by first | exact Nat.le_refl _ | (rw [e32]; exact hk)) (v := some (.ref b17)) (fun h => by rw [Bd.returns] at h; cases h)
    refine ⟨_, _, s35 _ ?_, hrun, hended, _, _, rfl, ?_, (by show CHr Z ELs s.vm s.heap T32.vm T32.heap; rw [hh, e32]; exact CR.trans (CHv.at X32 hZ hEL CR.1)), hREW.1, hREW.2.1, hREW.2.2.1, hREW.2.2.2.mono (by decide) (by decide)⟩
    · show Steps p.tables e below (T32.setTop (mkF m 34 #[.val (.int (1 : Int32)), .val (.int cx), .val (.int cy), .val (.int cz), .val (.int cw)] [(.ref b17)])) _
      jvm_step X32.here [X32.here.top, hx, (Jvm.hb hby d_method_3_34), X32.method', Bd.returns, Value.isRef, FieldType.isReference]
      first | (intro acts; rw [hr _ acts rfl rfl rfl]) | rw [hr _ _ rfl rfl rfl]
      exact Steps.refl _
    · show Q_rmMk Z _ _ _ _ _ _ h0 n0 _ T32.heap _
      rw [e32]
      exact ⟨b17, b_32, kb_32, rfl, N32, (((((Keep.refl h0 []).ext E17).ext E22).wr W25 (Or.inr (show h0.size ≤ b22 by omega))).trans K32 (allS (Or.inr (show h0.size ≤ b17 by omega)) all0)), Fq32_0, Fq32_1, Fq32_2, Fq32_3, by omega⟩
  · have hcase := trivial
    obtain ⟨T36, h36, X36, e36, E36, A36, D36, -, st36⟩ := newO X0 hx hZ hown (hw _ (List.mem_of_getElem? (i := 5) rfl)) (hw _ (List.mem_of_getElem? (i := 6) rfl)) (hw _ (List.mem_of_getElem? (i := 7) rfl)) e0 (g := (mkF m 40 #[.val (.int (2 : Int32)), .val (.int cx), .val (.int cy), .val (.int cz), .val (.int cw)] [])) rfl (Jvm.hb hby d_method_3_40) (by decide) (by decide)
    obtain ⟨b36, g36⟩ : ∃ z, z = h0.size := ⟨_, rfl⟩
    rw [← g36] at A36 D36 st36
    have z37 : h0.size ≤ h36.size := E36.1
    have Sf38 : Safe Z ELs s.vm h36 b36 := Safe.ext E36 CR.1 (Safe.new (by omega))
    have Cp37 : CHr Z ELs s.vm h0 s.vm h36 := CHr.ext E36 CR.1
    have hk := Nat.le_trans hk z37
    have CR := CR.trans Cp37
    have l36 : b36 < h36.size := A36.lt
    have F39 : Fld Z h36 b36 "java/lang/String" "value" "[B" .null := D36 (Or.inr (hw _ (List.mem_of_getElem? (i := 21) rfl))) (ty := (.array .byte)) (by decide)
    have F40 : Fld Z h36 b36 "java/lang/String" "coder" "B" (.int (0 : Int32)) := D36 (Or.inr (hw _ (List.mem_of_getElem? (i := 22) rfl))) (ty := .byte) (by decide)
    obtain ⟨T41, h41, k41, X41, e41, E41, A41, st41⟩ := newP X36 hx hZ (hw _ (List.mem_of_getElem? (i := 8) rfl)) e36 (g := (mkF m 45 #[.val (.int (2 : Int32)), .val (.int cx), .val (.int cy), .val (.int cz), .val (.int cw)] [(.int (2 : Int32)), (.ref b36), (.ref b36)])) rfl (Jvm.hb hby d_method_3_45) rfl (by decide) (cap := 2) (by decide) (by decide) (by decide) (by decide)
    obtain ⟨b41, g41⟩ : ∃ z, z = h36.size := ⟨_, rfl⟩
    rw [← g41] at A41 st41
    have z42 : h36.size ≤ h41.size := E41.1
    have Cp42 : CHr Z ELs s.vm h36 s.vm h41 := CHr.ext E41 CR.1
    have hk := Nat.le_trans hk z42
    have CR := CR.trans Cp42
    have l41 : b41 < h41.size := A41.lt
    have V41 : Arv Z h41 b41 k41 .char (2 : Int32) [(.int (0 : Int32)), (.int (0 : Int32))] (.int (0 : Int32)) := (Arv.new A41 (by decide)).pad (pad_rep [] (.int (0 : Int32)) 2)
    obtain ⟨cl43, Ar43, q43, S43, M43, H43, G43⟩ := id V41
    have hin43 : ¬ ((0 : Int32) < 0 ∨ cl43.slots.size ≤ ((0 : Int32)).toNatClampNeg) := inb_of S43 ⟨by decide, by decide⟩
    obtain ⟨T44, h44, X44, e44, W44, st44⟩ := stC X41 hx hZ e41 Ar43 (j := (0 : Int32)) hin43 (g := (mkF m 50 #[.val (.int (2 : Int32)), .val (.int cx), .val (.int cy), .val (.int cz), .val (.int cw)] [(.int cx), (.int (0 : Int32)), (.ref b41), (.ref b41), (.ref b36), (.ref b36)])) rfl rfl (Jvm.hb hby d_method_3_50)
    have z45 : h41.size ≤ h44.size := Nat.le_of_eq W44.size.symm
    have Cp45 : CHr Z ELs s.vm h41 s.vm h44 := CHr.wr W44 (Safe.arv hZ.alike V41 (by decide)) CR.1
    have hk := Nat.le_trans hk z45
    have CR := CR.trans Cp45
    have V44 : Arv Z h44 b41 k41 .char (2 : Int32) [(.int cx), (.int (0 : Int32))] (.int (0 : Int32)) := by have q : Arv Z h44 b41 k41 .char (2 : Int32) [(.int (nar .char cx)), (.int (0 : Int32))] (.int (0 : Int32)) := Arv.set Ar43 q43 S43 M43 H43 G43 (fits_nar_char _) W44 0 rfl (Nat.le_of_ble_eq_true rfl); rw [show nar .char cx = cx from own_narc r0a r0b] at q; exact q
    have N44 := Fr.snoc X44 N0 (show n0 ≤ b41 by omega)
    obtain ⟨cl46, Ar46, q46, S46, M46, H46, G46⟩ := id V44
    have hin46 : ¬ ((1 : Int32) < 0 ∨ cl46.slots.size ≤ ((1 : Int32)).toNatClampNeg) := inb_of S46 ⟨by decide, by decide⟩
    obtain ⟨T47, h47, X47, e47, W47, st47⟩ := stC X44 hx hZ e44 Ar46 (j := (1 : Int32)) hin46 (g := (mkF m 54 #[.val (.int (2 : Int32)), .val (.int cx), .val (.int cy), .val (.int cz), .val (.int cw)] [(.int cy), (.int (1 : Int32)), (.ref b41), (.ref b41), (.ref b36), (.ref b36)])) rfl rfl (Jvm.hb hby d_method_3_54)
    have z48 : h44.size ≤ h47.size := Nat.le_of_eq W47.size.symm
    have Cp48 : CHr Z ELs s.vm h44 s.vm h47 := CHr.wr W47 (Safe.arv hZ.alike V44 (by decide)) CR.1
    have hk := Nat.le_trans hk z48
    have CR := CR.trans Cp48
    have V47 : Arv Z h47 b41 k41 .char (2 : Int32) [(.int cx), (.int cy)] (.int (0 : Int32)) := by have q : Arv Z h47 b41 k41 .char (2 : Int32) [(.int cx), (.int (nar .char cy))] (.int (0 : Int32)) := Arv.set Ar46 q46 S46 M46 H46 G46 (fits_nar_char _) W47 1 rfl (Nat.le_of_ble_eq_true rfl); rw [show nar .char cy = cy from own_narc r1a r1b] at q; exact q
    have N47 := Fr.snoc X47 N44 (show n0 ≤ b41 by omega)
    have O49 : Old Z n0 h47 := ((((OX.ext E36).ext E41).wr W44 (show n0 ≤ b41 by omega)).wr W47 (show n0 ≤ b41 by omega))
    have f50 : Exa Z h47 b36 "java/lang/String" := (((A36.ext E41).wr W44).wr W47)
    have f51 : Fld Z h47 b36 "java/lang/String" "value" "[B" .null := (((F39.ext E41).other W44 (Or.inl (show @Ne Nat b36 b41 by omega))).other W47 (Or.inl (show @Ne Nat b36 b41 by omega)))
    have f52 : Fld Z h47 b36 "java/lang/String" "coder" "B" (.int (0 : Int32)) := (((F40.ext E41).other W44 (Or.inl (show @Ne Nat b36 b41 by omega))).other W47 (Or.inl (show @Ne Nat b36 b41 by omega)))
    have Zc53 : n0 ≤ h47.size := by omega
    have s55 : ∀ t_, Steps p.tables e below (T47.setTop (mkF m 55 #[.val (.int (2 : Int32)), .val (.int cx), .val (.int cy), .val (.int cz), .val (.int cw)] [(.ref b41), (.ref b36), (.ref b36)])) t_ → Steps p.tables e below (s₁.setTop (entryFrame m #[(.int (2 : Int32)), (.int cx), (.int cy), (.int cz), (.int cw)] 5)) t_ := fun t_ k_ => pre0 t_ (by
      show Steps p.tables e below (s₁.setTop (mkF m 0 #[.val (.int (2 : Int32)), .val (.int cx), .val (.int cy), .val (.int cz), .val (.int cw)] [])) t_
      refine XS.iloadN X0.here hx rfl (Jvm.hb hby d_method_3_0) rfl ?_
      show Steps p.tables e below (s₁.setTop (mkF m 1 #[.val (.int (2 : Int32)), .val (.int cx), .val (.int cy), .val (.int cz), .val (.int cw)] [(.int (2 : Int32))])) _
      refine XS.ifYes X0.here hx rfl (pc0 := 1) (pc' := 15) rfl (Jvm.hb hby d_method_3_1) rfl ((if0 _ _).trans (feq (by decide : ¬ ((2 : Int32) = (0 : Int32)))).2) (by decide) (by decide) ?_
      show Steps p.tables e below (s₁.setTop (mkF m 15 #[.val (.int (2 : Int32)), .val (.int cx), .val (.int cy), .val (.int cz), .val (.int cw)] [])) _
      refine XS.iloadN X0.here hx rfl (Jvm.hb hby d_method_3_15) rfl ?_
      show Steps p.tables e below (s₁.setTop (mkF m 16 #[.val (.int (2 : Int32)), .val (.int cx), .val (.int cy), .val (.int cz), .val (.int cw)] [(.int (2 : Int32))])) _
      refine XS.iconst X0.here hx rfl (Jvm.hb hby d_method_3_16) ?_
      show Steps p.tables e below (s₁.setTop (mkF m 17 #[.val (.int (2 : Int32)), .val (.int cx), .val (.int cy), .val (.int cz), .val (.int cw)] [(.int (1 : Int32)), (.int (2 : Int32))])) _
      refine XS.icmpYes X0.here hx rfl (pc0 := 17) (pc' := 35) rfl (Jvm.hb hby d_method_3_17) rfl (feq (by decide : ¬ ((2 : Int32) = (1 : Int32)))).2 (by decide) (by decide) ?_
      show Steps p.tables e below (s₁.setTop (mkF m 35 #[.val (.int (2 : Int32)), .val (.int cx), .val (.int cy), .val (.int cz), .val (.int cw)] [])) _
      refine XS.iloadN X0.here hx rfl (Jvm.hb hby d_method_3_35) rfl ?_
      show Steps p.tables e below (s₁.setTop (mkF m 36 #[.val (.int (2 : Int32)), .val (.int cx), .val (.int cy), .val (.int cz), .val (.int cw)] [(.int (2 : Int32))])) _
      refine XS.iconst X0.here hx rfl (Jvm.hb hby d_method_3_36) ?_
      show Steps p.tables e below (s₁.setTop (mkF m 37 #[.val (.int (2 : Int32)), .val (.int cx), .val (.int cy), .val (.int cz), .val (.int cw)] [(.int (2 : Int32)), (.int (2 : Int32))])) _
      refine XS.icmpNo X0.here hx rfl (Jvm.hb hby d_method_3_37) rfl (teq (rfl : (2 : Int32) = (2 : Int32))).2 ?_
      show Steps p.tables e below (s₁.setTop (mkF m 40 #[.val (.int (2 : Int32)), .val (.int cx), .val (.int cy), .val (.int cz), .val (.int cw)] [])) _
      refine st36 _ ?_
      show Steps p.tables e below (T36.setTop (mkF m 43 #[.val (.int (2 : Int32)), .val (.int cx), .val (.int cy), .val (.int cz), .val (.int cw)] [(.ref b36)])) _
      refine XS.dup X36.here hx rfl (Jvm.hb hby d_method_3_43) rfl rfl ?_
      show Steps p.tables e below (T36.setTop (mkF m 44 #[.val (.int (2 : Int32)), .val (.int cx), .val (.int cy), .val (.int cz), .val (.int cw)] [(.ref b36), (.ref b36)])) _
      refine XS.iconst X36.here hx rfl (Jvm.hb hby d_method_3_44) ?_
      show Steps p.tables e below (T36.setTop (mkF m 45 #[.val (.int (2 : Int32)), .val (.int cx), .val (.int cy), .val (.int cz), .val (.int cw)] [(.int (2 : Int32)), (.ref b36), (.ref b36)])) _
      refine st41 _ ?_
      show Steps p.tables e below (T41.setTop (mkF m 47 #[.val (.int (2 : Int32)), .val (.int cx), .val (.int cy), .val (.int cz), .val (.int cw)] [(.ref b41), (.ref b36), (.ref b36)])) _
      refine XS.dup X41.here hx rfl (Jvm.hb hby d_method_3_47) rfl rfl ?_
      show Steps p.tables e below (T41.setTop (mkF m 48 #[.val (.int (2 : Int32)), .val (.int cx), .val (.int cy), .val (.int cz), .val (.int cw)] [(.ref b41), (.ref b41), (.ref b36), (.ref b36)])) _
      refine XS.iconst X41.here hx rfl (Jvm.hb hby d_method_3_48) ?_
      show Steps p.tables e below (T41.setTop (mkF m 49 #[.val (.int (2 : Int32)), .val (.int cx), .val (.int cy), .val (.int cz), .val (.int cw)] [(.int (0 : Int32)), (.ref b41), (.ref b41), (.ref b36), (.ref b36)])) _
      refine XS.iloadN X41.here hx rfl (Jvm.hb hby d_method_3_49) rfl ?_
      show Steps p.tables e below (T41.setTop (mkF m 50 #[.val (.int (2 : Int32)), .val (.int cx), .val (.int cy), .val (.int cz), .val (.int cw)] [(.int cx), (.int (0 : Int32)), (.ref b41), (.ref b41), (.ref b36), (.ref b36)])) _
      refine st44 _ ?_
      show Steps p.tables e below (T44.setTop (mkF m 51 #[.val (.int (2 : Int32)), .val (.int cx), .val (.int cy), .val (.int cz), .val (.int cw)] [(.ref b41), (.ref b36), (.ref b36)])) _
      refine XS.dup X44.here hx rfl (Jvm.hb hby d_method_3_51) rfl rfl ?_
      show Steps p.tables e below (T44.setTop (mkF m 52 #[.val (.int (2 : Int32)), .val (.int cx), .val (.int cy), .val (.int cz), .val (.int cw)] [(.ref b41), (.ref b41), (.ref b36), (.ref b36)])) _
      refine XS.iconst X44.here hx rfl (Jvm.hb hby d_method_3_52) ?_
      show Steps p.tables e below (T44.setTop (mkF m 53 #[.val (.int (2 : Int32)), .val (.int cx), .val (.int cy), .val (.int cz), .val (.int cw)] [(.int (1 : Int32)), (.ref b41), (.ref b41), (.ref b36), (.ref b36)])) _
      refine XS.iloadN X44.here hx rfl (Jvm.hb hby d_method_3_53) rfl ?_
      show Steps p.tables e below (T44.setTop (mkF m 54 #[.val (.int (2 : Int32)), .val (.int cx), .val (.int cy), .val (.int cz), .val (.int cw)] [(.int cy), (.int (1 : Int32)), (.ref b41), (.ref b41), (.ref b36), (.ref b36)])) _
      refine st47 _ ?_
      show Steps p.tables e below (T47.setTop (mkF m 55 #[.val (.int (2 : Int32)), .val (.int cx), .val (.int cy), .val (.int cz), .val (.int cw)] [(.ref b41), (.ref b36), (.ref b36)])) _
      show Steps p.tables e below (T47.setTop (mkF m 55 #[.val (.int (2 : Int32)), .val (.int cx), .val (.int cy), .val (.int cz), .val (.int cw)] [(.ref b41), (.ref b36), (.ref b36)])) t_
      exact k_)
    obtain ⟨_, _, ⟨T54, L54, k54, n54⟩, -, Xr54, hSr54, hg54, ⟨Lc54, hQ54, l54, y54, z54, Cp54⟩, st54⟩ := X47.specialBackS hx (y := (⟨"java/lang/String", "<init>", "([C)V"⟩ : MethodName)) rfl hown (mvT hZ (hw _ (List.mem_of_getElem? (i := 9) rfl))) (mvT hZ (hw _ (List.mem_of_getElem? (i := 10) rfl))) (mvT hZ (hw _ (List.mem_of_getElem? (i := 11) rfl))) (by decide) (backOfSH (s := s) (vm0 := s.vm) (W := 1) (rmIni1 l Z a0 hw [] b36 b41 cst [cx, cy] k41 2 h47 n0 Zc53 I1 I2 I3 I4 O49 (hcst : ¬ (cst = (0 : Int32))) f50 f51 f52 V47 rfl (by first | assumption | rfl | decide | omega : 2 ≤ 4) (own_chsS ⟨r0a, r0b⟩ (own_chsS ⟨r1a, r1b⟩ own_chs0)) (by first | assumption | rfl | decide | omega : n0 ≤ b36) (by first | assumption | rfl | decide | omega : @Ne Nat b36 b41)) hZ (hw _ (List.mem_of_getElem? (i := 11) rfl)) (hw _ (List.mem_of_getElem? (i := 7) rfl)) (by decide) (by decide) hEL CR.1) (g := (mkF m 55 #[.val (.int (2 : Int32)), .val (.int cx), .val (.int cy), .val (.int cz), .val (.int cw)] [(.ref b41), (.ref b36), (.ref b36)])) rfl (by rw [hml]; rfl) (Steps.refl _) (a := b36) (argsL := [(.ref b41)]) (rest := [(.ref b36)]) (lenOf pd___C_V rfl) rfl (by show 2 * 0 + _ ≤ _; exact Nat.le_of_eq rfl) (Jvm.hb hby d_method_3_55) (fun _ _ => ⟨rfl, e47, (by decide : 2 + 4 ≤ _), (by decide : 6 + 12 ≤ _)⟩)
    dsimp only [Pt.U, Pt.locs, Pt.cells, Pt.slots] at Xr54 hSr54 hg54 l54 y54 z54 st54 hQ54 Cp54
    subst l54 y54 z54
    obtain ⟨X54, hS, hZ, hown⟩ := rebS (own := "com/example/zastupnik/zastupnik/protocol/AsciiDigitsOnlyPinLaw") hS (by first | exact Nat.le_refl _ | (rw [e47]; exact hk)) Xr54 hSr54 hg54 hZ hown
    obtain ⟨b_54, kb_54, rfl, N54q, K54, Fq54_0, Fq54_1, Fq54_2, Fq54_3⟩ := hQ54
    have N54 := Fr.app N47 N54q
    obtain ⟨h54, e54⟩ : ∃ z, T54.heap = z := ⟨_, rfl⟩
    rw [e54] at K54 Fq54_0 Fq54_1 Fq54_2 Fq54_3 Cp54
    have hk : T54.heap.size ≤ h54.size := Nat.le_of_eq (congrArg Array.size e54)
    have z56 : h47.size ≤ h54.size := K54.1
    have CR := CR.trans Cp54
    have lt54_0 : @LT.lt Nat _ b36 h54.size := Fq54_0.lt
    have lt54_3 : @LT.lt Nat _ b_54 h54.size := Fq54_3.lt
    have s57 : ∀ t_, Steps p.tables e below (T54.setTop (mkF m 58 #[.val (.int (2 : Int32)), .val (.int cx), .val (.int cy), .val (.int cz), .val (.int cw)] [(.ref b36)])) t_ → Steps p.tables e below (s₁.setTop (entryFrame m #[(.int (2 : Int32)), (.int cx), (.int cy), (.int cz), (.int cw)] 5)) t_ := fun t_ k_ => s55 t_ (by
      show Steps p.tables e below (T47.setTop (mkF m 55 #[.val (.int (2 : Int32)), .val (.int cx), .val (.int cy), .val (.int cz), .val (.int cw)] [(.ref b41), (.ref b36), (.ref b36)])) t_
      refine st54.trans ?_
      show Steps p.tables e below (T54.setTop (mkF m 58 #[.val (.int (2 : Int32)), .val (.int cx), .val (.int cy), .val (.int cz), .val (.int cw)] [(.ref b36)])) _
      show Steps p.tables e below (T54.setTop (mkF m 58 #[.val (.int (2 : Int32)), .val (.int cx), .val (.int cy), .val (.int cz), .val (.int cw)] [(.ref b36)])) t_
      exact k_)
    obtain ⟨fs, hr, hrun, hended, hREW⟩ := X54.leaveW hS (by first | exact Nat.le_refl _ | (rw [e54]; exact hk)) (v := some (.ref b36)) (fun h => by rw [Bd.returns] at h; cases h)
    refine ⟨_, _, s57 _ ?_, hrun, hended, _, _, rfl, ?_, (by show CHr Z ELs s.vm s.heap T54.vm T54.heap; rw [hh, e54]; exact CR.trans (CHv.at X54 hZ hEL CR.1)), hREW.1, hREW.2.1, hREW.2.2.1, hREW.2.2.2.mono (by decide) (by decide)⟩
    · show Steps p.tables e below (T54.setTop (mkF m 58 #[.val (.int (2 : Int32)), .val (.int cx), .val (.int cy), .val (.int cz), .val (.int cw)] [(.ref b36)])) _
      jvm_step X54.here [X54.here.top, hx, (Jvm.hb hby d_method_3_58), X54.method', Bd.returns, Value.isRef, FieldType.isReference]
      first | (intro acts; rw [hr _ acts rfl rfl rfl]) | rw [hr _ _ rfl rfl rfl]
      exact Steps.refl _
    · show Q_rmMk Z _ _ _ _ _ _ h0 n0 _ T54.heap _
      rw [e54]
      exact ⟨b36, b_54, kb_54, rfl, N54, ((((((Keep.refl h0 []).ext E36).ext E41).wr W44 (Or.inr (show h0.size ≤ b41 by omega))).wr W47 (Or.inr (show h0.size ≤ b41 by omega))).trans K54 (allS (Or.inr (show h0.size ≤ b36 by omega)) all0)), Fq54_0, Fq54_1, Fq54_2, Fq54_3, by omega⟩
  · have hcase := trivial
    obtain ⟨T58, h58, X58, e58, E58, A58, D58, -, st58⟩ := newO X0 hx hZ hown (hw _ (List.mem_of_getElem? (i := 5) rfl)) (hw _ (List.mem_of_getElem? (i := 6) rfl)) (hw _ (List.mem_of_getElem? (i := 7) rfl)) e0 (g := (mkF m 64 #[.val (.int (3 : Int32)), .val (.int cx), .val (.int cy), .val (.int cz), .val (.int cw)] [])) rfl (Jvm.hb hby d_method_3_64) (by decide) (by decide)
    obtain ⟨b58, g58⟩ : ∃ z, z = h0.size := ⟨_, rfl⟩
    rw [← g58] at A58 D58 st58
    have z59 : h0.size ≤ h58.size := E58.1
    have Sf60 : Safe Z ELs s.vm h58 b58 := Safe.ext E58 CR.1 (Safe.new (by omega))
    have Cp59 : CHr Z ELs s.vm h0 s.vm h58 := CHr.ext E58 CR.1
    have hk := Nat.le_trans hk z59
    have CR := CR.trans Cp59
    have l58 : b58 < h58.size := A58.lt
    have F61 : Fld Z h58 b58 "java/lang/String" "value" "[B" .null := D58 (Or.inr (hw _ (List.mem_of_getElem? (i := 21) rfl))) (ty := (.array .byte)) (by decide)
    have F62 : Fld Z h58 b58 "java/lang/String" "coder" "B" (.int (0 : Int32)) := D58 (Or.inr (hw _ (List.mem_of_getElem? (i := 22) rfl))) (ty := .byte) (by decide)
    obtain ⟨T63, h63, k63, X63, e63, E63, A63, st63⟩ := newP X58 hx hZ (hw _ (List.mem_of_getElem? (i := 8) rfl)) e58 (g := (mkF m 69 #[.val (.int (3 : Int32)), .val (.int cx), .val (.int cy), .val (.int cz), .val (.int cw)] [(.int (3 : Int32)), (.ref b58), (.ref b58)])) rfl (Jvm.hb hby d_method_3_69) rfl (by decide) (cap := 3) (by decide) (by decide) (by decide) (by decide)
    obtain ⟨b63, g63⟩ : ∃ z, z = h58.size := ⟨_, rfl⟩
    rw [← g63] at A63 st63
    have z64 : h58.size ≤ h63.size := E63.1
    have Cp64 : CHr Z ELs s.vm h58 s.vm h63 := CHr.ext E63 CR.1
    have hk := Nat.le_trans hk z64
    have CR := CR.trans Cp64
    have l63 : b63 < h63.size := A63.lt
    have V63 : Arv Z h63 b63 k63 .char (3 : Int32) [(.int (0 : Int32)), (.int (0 : Int32)), (.int (0 : Int32))] (.int (0 : Int32)) := (Arv.new A63 (by decide)).pad (pad_rep [] (.int (0 : Int32)) 3)
    obtain ⟨cl65, Ar65, q65, S65, M65, H65, G65⟩ := id V63
    have hin65 : ¬ ((0 : Int32) < 0 ∨ cl65.slots.size ≤ ((0 : Int32)).toNatClampNeg) := inb_of S65 ⟨by decide, by decide⟩
    obtain ⟨T66, h66, X66, e66, W66, st66⟩ := stC X63 hx hZ e63 Ar65 (j := (0 : Int32)) hin65 (g := (mkF m 74 #[.val (.int (3 : Int32)), .val (.int cx), .val (.int cy), .val (.int cz), .val (.int cw)] [(.int cx), (.int (0 : Int32)), (.ref b63), (.ref b63), (.ref b58), (.ref b58)])) rfl rfl (Jvm.hb hby d_method_3_74)
    have z67 : h63.size ≤ h66.size := Nat.le_of_eq W66.size.symm
    have Cp67 : CHr Z ELs s.vm h63 s.vm h66 := CHr.wr W66 (Safe.arv hZ.alike V63 (by decide)) CR.1
    have hk := Nat.le_trans hk z67
    have CR := CR.trans Cp67
    have V66 : Arv Z h66 b63 k63 .char (3 : Int32) [(.int cx), (.int (0 : Int32)), (.int (0 : Int32))] (.int (0 : Int32)) := by have q : Arv Z h66 b63 k63 .char (3 : Int32) [(.int (nar .char cx)), (.int (0 : Int32)), (.int (0 : Int32))] (.int (0 : Int32)) := Arv.set Ar65 q65 S65 M65 H65 G65 (fits_nar_char _) W66 0 rfl (Nat.le_of_ble_eq_true rfl); rw [show nar .char cx = cx from own_narc r0a r0b] at q; exact q
    have N66 := Fr.snoc X66 N0 (show n0 ≤ b63 by omega)
    obtain ⟨cl68, Ar68, q68, S68, M68, H68, G68⟩ := id V66
    have hin68 : ¬ ((1 : Int32) < 0 ∨ cl68.slots.size ≤ ((1 : Int32)).toNatClampNeg) := inb_of S68 ⟨by decide, by decide⟩
    obtain ⟨T69, h69, X69, e69, W69, st69⟩ := stC X66 hx hZ e66 Ar68 (j := (1 : Int32)) hin68 (g := (mkF m 78 #[.val (.int (3 : Int32)), .val (.int cx), .val (.int cy), .val (.int cz), .val (.int cw)] [(.int cy), (.int (1 : Int32)), (.ref b63), (.ref b63), (.ref b58), (.ref b58)])) rfl rfl (Jvm.hb hby d_method_3_78)
    have z70 : h66.size ≤ h69.size := Nat.le_of_eq W69.size.symm
    have Cp70 : CHr Z ELs s.vm h66 s.vm h69 := CHr.wr W69 (Safe.arv hZ.alike V66 (by decide)) CR.1
    have hk := Nat.le_trans hk z70
    have CR := CR.trans Cp70
    have V69 : Arv Z h69 b63 k63 .char (3 : Int32) [(.int cx), (.int cy), (.int (0 : Int32))] (.int (0 : Int32)) := by have q : Arv Z h69 b63 k63 .char (3 : Int32) [(.int cx), (.int (nar .char cy)), (.int (0 : Int32))] (.int (0 : Int32)) := Arv.set Ar68 q68 S68 M68 H68 G68 (fits_nar_char _) W69 1 rfl (Nat.le_of_ble_eq_true rfl); rw [show nar .char cy = cy from own_narc r1a r1b] at q; exact q
    have N69 := Fr.snoc X69 N66 (show n0 ≤ b63 by omega)
    obtain ⟨cl71, Ar71, q71, S71, M71, H71, G71⟩ := id V69
    have hin71 : ¬ ((2 : Int32) < 0 ∨ cl71.slots.size ≤ ((2 : Int32)).toNatClampNeg) := inb_of S71 ⟨by decide, by decide⟩
    obtain ⟨T72, h72, X72, e72, W72, st72⟩ := stC X69 hx hZ e69 Ar71 (j := (2 : Int32)) hin71 (g := (mkF m 82 #[.val (.int (3 : Int32)), .val (.int cx), .val (.int cy), .val (.int cz), .val (.int cw)] [(.int cz), (.int (2 : Int32)), (.ref b63), (.ref b63), (.ref b58), (.ref b58)])) rfl rfl (Jvm.hb hby d_method_3_82)
    have z73 : h69.size ≤ h72.size := Nat.le_of_eq W72.size.symm
    have Cp73 : CHr Z ELs s.vm h69 s.vm h72 := CHr.wr W72 (Safe.arv hZ.alike V69 (by decide)) CR.1
    have hk := Nat.le_trans hk z73
    have CR := CR.trans Cp73
    have V72 : Arv Z h72 b63 k63 .char (3 : Int32) [(.int cx), (.int cy), (.int cz)] (.int (0 : Int32)) := by have q : Arv Z h72 b63 k63 .char (3 : Int32) [(.int cx), (.int cy), (.int (nar .char cz))] (.int (0 : Int32)) := Arv.set Ar71 q71 S71 M71 H71 G71 (fits_nar_char _) W72 2 rfl (Nat.le_of_ble_eq_true rfl); rw [show nar .char cz = cz from own_narc r2a r2b] at q; exact q
    have N72 := Fr.snoc X72 N69 (show n0 ≤ b63 by omega)
    have O74 : Old Z n0 h72 := (((((OX.ext E58).ext E63).wr W66 (show n0 ≤ b63 by omega)).wr W69 (show n0 ≤ b63 by omega)).wr W72 (show n0 ≤ b63 by omega))
    have f75 : Exa Z h72 b58 "java/lang/String" := ((((A58.ext E63).wr W66).wr W69).wr W72)
    have f76 : Fld Z h72 b58 "java/lang/String" "value" "[B" .null := ((((F61.ext E63).other W66 (Or.inl (show @Ne Nat b58 b63 by omega))).other W69 (Or.inl (show @Ne Nat b58 b63 by omega))).other W72 (Or.inl (show @Ne Nat b58 b63 by omega)))
    have f77 : Fld Z h72 b58 "java/lang/String" "coder" "B" (.int (0 : Int32)) := ((((F62.ext E63).other W66 (Or.inl (show @Ne Nat b58 b63 by omega))).other W69 (Or.inl (show @Ne Nat b58 b63 by omega))).other W72 (Or.inl (show @Ne Nat b58 b63 by omega)))
    have Zc78 : n0 ≤ h72.size := by omega
    have s80 : ∀ t_, Steps p.tables e below (T72.setTop (mkF m 83 #[.val (.int (3 : Int32)), .val (.int cx), .val (.int cy), .val (.int cz), .val (.int cw)] [(.ref b63), (.ref b58), (.ref b58)])) t_ → Steps p.tables e below (s₁.setTop (entryFrame m #[(.int (3 : Int32)), (.int cx), (.int cy), (.int cz), (.int cw)] 5)) t_ := fun t_ k_ => pre0 t_ (by
      show Steps p.tables e below (s₁.setTop (mkF m 0 #[.val (.int (3 : Int32)), .val (.int cx), .val (.int cy), .val (.int cz), .val (.int cw)] [])) t_
      refine XS.iloadN X0.here hx rfl (Jvm.hb hby d_method_3_0) rfl ?_
      show Steps p.tables e below (s₁.setTop (mkF m 1 #[.val (.int (3 : Int32)), .val (.int cx), .val (.int cy), .val (.int cz), .val (.int cw)] [(.int (3 : Int32))])) _
      refine XS.ifYes X0.here hx rfl (pc0 := 1) (pc' := 15) rfl (Jvm.hb hby d_method_3_1) rfl ((if0 _ _).trans (feq (by decide : ¬ ((3 : Int32) = (0 : Int32)))).2) (by decide) (by decide) ?_
      show Steps p.tables e below (s₁.setTop (mkF m 15 #[.val (.int (3 : Int32)), .val (.int cx), .val (.int cy), .val (.int cz), .val (.int cw)] [])) _
      refine XS.iloadN X0.here hx rfl (Jvm.hb hby d_method_3_15) rfl ?_
      show Steps p.tables e below (s₁.setTop (mkF m 16 #[.val (.int (3 : Int32)), .val (.int cx), .val (.int cy), .val (.int cz), .val (.int cw)] [(.int (3 : Int32))])) _
      refine XS.iconst X0.here hx rfl (Jvm.hb hby d_method_3_16) ?_
      show Steps p.tables e below (s₁.setTop (mkF m 17 #[.val (.int (3 : Int32)), .val (.int cx), .val (.int cy), .val (.int cz), .val (.int cw)] [(.int (1 : Int32)), (.int (3 : Int32))])) _
      refine XS.icmpYes X0.here hx rfl (pc0 := 17) (pc' := 35) rfl (Jvm.hb hby d_method_3_17) rfl (feq (by decide : ¬ ((3 : Int32) = (1 : Int32)))).2 (by decide) (by decide) ?_
      show Steps p.tables e below (s₁.setTop (mkF m 35 #[.val (.int (3 : Int32)), .val (.int cx), .val (.int cy), .val (.int cz), .val (.int cw)] [])) _
      refine XS.iloadN X0.here hx rfl (Jvm.hb hby d_method_3_35) rfl ?_
      show Steps p.tables e below (s₁.setTop (mkF m 36 #[.val (.int (3 : Int32)), .val (.int cx), .val (.int cy), .val (.int cz), .val (.int cw)] [(.int (3 : Int32))])) _
      refine XS.iconst X0.here hx rfl (Jvm.hb hby d_method_3_36) ?_
      show Steps p.tables e below (s₁.setTop (mkF m 37 #[.val (.int (3 : Int32)), .val (.int cx), .val (.int cy), .val (.int cz), .val (.int cw)] [(.int (2 : Int32)), (.int (3 : Int32))])) _
      refine XS.icmpYes X0.here hx rfl (pc0 := 37) (pc' := 59) rfl (Jvm.hb hby d_method_3_37) rfl (feq (by decide : ¬ ((3 : Int32) = (2 : Int32)))).2 (by decide) (by decide) ?_
      show Steps p.tables e below (s₁.setTop (mkF m 59 #[.val (.int (3 : Int32)), .val (.int cx), .val (.int cy), .val (.int cz), .val (.int cw)] [])) _
      refine XS.iloadN X0.here hx rfl (Jvm.hb hby d_method_3_59) rfl ?_
      show Steps p.tables e below (s₁.setTop (mkF m 60 #[.val (.int (3 : Int32)), .val (.int cx), .val (.int cy), .val (.int cz), .val (.int cw)] [(.int (3 : Int32))])) _
      refine XS.iconst X0.here hx rfl (Jvm.hb hby d_method_3_60) ?_
      show Steps p.tables e below (s₁.setTop (mkF m 61 #[.val (.int (3 : Int32)), .val (.int cx), .val (.int cy), .val (.int cz), .val (.int cw)] [(.int (3 : Int32)), (.int (3 : Int32))])) _
      refine XS.icmpNo X0.here hx rfl (Jvm.hb hby d_method_3_61) rfl (teq (rfl : (3 : Int32) = (3 : Int32))).2 ?_
      show Steps p.tables e below (s₁.setTop (mkF m 64 #[.val (.int (3 : Int32)), .val (.int cx), .val (.int cy), .val (.int cz), .val (.int cw)] [])) _
      refine st58 _ ?_
      show Steps p.tables e below (T58.setTop (mkF m 67 #[.val (.int (3 : Int32)), .val (.int cx), .val (.int cy), .val (.int cz), .val (.int cw)] [(.ref b58)])) _
      refine XS.dup X58.here hx rfl (Jvm.hb hby d_method_3_67) rfl rfl ?_
      show Steps p.tables e below (T58.setTop (mkF m 68 #[.val (.int (3 : Int32)), .val (.int cx), .val (.int cy), .val (.int cz), .val (.int cw)] [(.ref b58), (.ref b58)])) _
      refine XS.iconst X58.here hx rfl (Jvm.hb hby d_method_3_68) ?_
      show Steps p.tables e below (T58.setTop (mkF m 69 #[.val (.int (3 : Int32)), .val (.int cx), .val (.int cy), .val (.int cz), .val (.int cw)] [(.int (3 : Int32)), (.ref b58), (.ref b58)])) _
      refine st63 _ ?_
      show Steps p.tables e below (T63.setTop (mkF m 71 #[.val (.int (3 : Int32)), .val (.int cx), .val (.int cy), .val (.int cz), .val (.int cw)] [(.ref b63), (.ref b58), (.ref b58)])) _
      refine XS.dup X63.here hx rfl (Jvm.hb hby d_method_3_71) rfl rfl ?_
      show Steps p.tables e below (T63.setTop (mkF m 72 #[.val (.int (3 : Int32)), .val (.int cx), .val (.int cy), .val (.int cz), .val (.int cw)] [(.ref b63), (.ref b63), (.ref b58), (.ref b58)])) _
      refine XS.iconst X63.here hx rfl (Jvm.hb hby d_method_3_72) ?_
      show Steps p.tables e below (T63.setTop (mkF m 73 #[.val (.int (3 : Int32)), .val (.int cx), .val (.int cy), .val (.int cz), .val (.int cw)] [(.int (0 : Int32)), (.ref b63), (.ref b63), (.ref b58), (.ref b58)])) _
      refine XS.iloadN X63.here hx rfl (Jvm.hb hby d_method_3_73) rfl ?_
      show Steps p.tables e below (T63.setTop (mkF m 74 #[.val (.int (3 : Int32)), .val (.int cx), .val (.int cy), .val (.int cz), .val (.int cw)] [(.int cx), (.int (0 : Int32)), (.ref b63), (.ref b63), (.ref b58), (.ref b58)])) _
      refine st66 _ ?_
      show Steps p.tables e below (T66.setTop (mkF m 75 #[.val (.int (3 : Int32)), .val (.int cx), .val (.int cy), .val (.int cz), .val (.int cw)] [(.ref b63), (.ref b58), (.ref b58)])) _
      refine XS.dup X66.here hx rfl (Jvm.hb hby d_method_3_75) rfl rfl ?_
      show Steps p.tables e below (T66.setTop (mkF m 76 #[.val (.int (3 : Int32)), .val (.int cx), .val (.int cy), .val (.int cz), .val (.int cw)] [(.ref b63), (.ref b63), (.ref b58), (.ref b58)])) _
      refine XS.iconst X66.here hx rfl (Jvm.hb hby d_method_3_76) ?_
      show Steps p.tables e below (T66.setTop (mkF m 77 #[.val (.int (3 : Int32)), .val (.int cx), .val (.int cy), .val (.int cz), .val (.int cw)] [(.int (1 : Int32)), (.ref b63), (.ref b63), (.ref b58), (.ref b58)])) _
      refine XS.iloadN X66.here hx rfl (Jvm.hb hby d_method_3_77) rfl ?_
      show Steps p.tables e below (T66.setTop (mkF m 78 #[.val (.int (3 : Int32)), .val (.int cx), .val (.int cy), .val (.int cz), .val (.int cw)] [(.int cy), (.int (1 : Int32)), (.ref b63), (.ref b63), (.ref b58), (.ref b58)])) _
      refine st69 _ ?_
      show Steps p.tables e below (T69.setTop (mkF m 79 #[.val (.int (3 : Int32)), .val (.int cx), .val (.int cy), .val (.int cz), .val (.int cw)] [(.ref b63), (.ref b58), (.ref b58)])) _
      refine XS.dup X69.here hx rfl (Jvm.hb hby d_method_3_79) rfl rfl ?_
      show Steps p.tables e below (T69.setTop (mkF m 80 #[.val (.int (3 : Int32)), .val (.int cx), .val (.int cy), .val (.int cz), .val (.int cw)] [(.ref b63), (.ref b63), (.ref b58), (.ref b58)])) _
      refine XS.iconst X69.here hx rfl (Jvm.hb hby d_method_3_80) ?_
      show Steps p.tables e below (T69.setTop (mkF m 81 #[.val (.int (3 : Int32)), .val (.int cx), .val (.int cy), .val (.int cz), .val (.int cw)] [(.int (2 : Int32)), (.ref b63), (.ref b63), (.ref b58), (.ref b58)])) _
      refine XS.iloadN X69.here hx rfl (Jvm.hb hby d_method_3_81) rfl ?_
      show Steps p.tables e below (T69.setTop (mkF m 82 #[.val (.int (3 : Int32)), .val (.int cx), .val (.int cy), .val (.int cz), .val (.int cw)] [(.int cz), (.int (2 : Int32)), (.ref b63), (.ref b63), (.ref b58), (.ref b58)])) _
      refine st72 _ ?_
      show Steps p.tables e below (T72.setTop (mkF m 83 #[.val (.int (3 : Int32)), .val (.int cx), .val (.int cy), .val (.int cz), .val (.int cw)] [(.ref b63), (.ref b58), (.ref b58)])) _
      show Steps p.tables e below (T72.setTop (mkF m 83 #[.val (.int (3 : Int32)), .val (.int cx), .val (.int cy), .val (.int cz), .val (.int cw)] [(.ref b63), (.ref b58), (.ref b58)])) t_
      exact k_)
    obtain ⟨_, _, ⟨T79, L79, k79, n79⟩, -, Xr79, hSr79, hg79, ⟨Lc79, hQ79, l79, y79, z79, Cp79⟩, st79⟩ := X72.specialBackS hx (y := (⟨"java/lang/String", "<init>", "([C)V"⟩ : MethodName)) rfl hown (mvT hZ (hw _ (List.mem_of_getElem? (i := 9) rfl))) (mvT hZ (hw _ (List.mem_of_getElem? (i := 10) rfl))) (mvT hZ (hw _ (List.mem_of_getElem? (i := 11) rfl))) (by decide) (backOfSH (s := s) (vm0 := s.vm) (W := 1) (rmIni1 l Z a0 hw [] b58 b63 cst [cx, cy, cz] k63 3 h72 n0 Zc78 I1 I2 I3 I4 O74 (hcst : ¬ (cst = (0 : Int32))) f75 f76 f77 V72 rfl (by first | assumption | rfl | decide | omega : 3 ≤ 4) (own_chsS ⟨r0a, r0b⟩ (own_chsS ⟨r1a, r1b⟩ (own_chsS ⟨r2a, r2b⟩ own_chs0))) (by first | assumption | rfl | decide | omega : n0 ≤ b58) (by first | assumption | rfl | decide | omega : @Ne Nat b58 b63)) hZ (hw _ (List.mem_of_getElem? (i := 11) rfl)) (hw _ (List.mem_of_getElem? (i := 7) rfl)) (by decide) (by decide) hEL CR.1) (g := (mkF m 83 #[.val (.int (3 : Int32)), .val (.int cx), .val (.int cy), .val (.int cz), .val (.int cw)] [(.ref b63), (.ref b58), (.ref b58)])) rfl (by rw [hml]; rfl) (Steps.refl _) (a := b58) (argsL := [(.ref b63)]) (rest := [(.ref b58)]) (lenOf pd___C_V rfl) rfl (by show 2 * 0 + _ ≤ _; exact Nat.le_of_eq rfl) (Jvm.hb hby d_method_3_83) (fun _ _ => ⟨rfl, e72, (by decide : 2 + 4 ≤ _), (by decide : 7 + 12 ≤ _)⟩)
    dsimp only [Pt.U, Pt.locs, Pt.cells, Pt.slots] at Xr79 hSr79 hg79 l79 y79 z79 st79 hQ79 Cp79
    subst l79 y79 z79
    obtain ⟨X79, hS, hZ, hown⟩ := rebS (own := "com/example/zastupnik/zastupnik/protocol/AsciiDigitsOnlyPinLaw") hS (by first | exact Nat.le_refl _ | (rw [e72]; exact hk)) Xr79 hSr79 hg79 hZ hown
    obtain ⟨b_79, kb_79, rfl, N79q, K79, Fq79_0, Fq79_1, Fq79_2, Fq79_3⟩ := hQ79
    have N79 := Fr.app N72 N79q
    obtain ⟨h79, e79⟩ : ∃ z, T79.heap = z := ⟨_, rfl⟩
    rw [e79] at K79 Fq79_0 Fq79_1 Fq79_2 Fq79_3 Cp79
    have hk : T79.heap.size ≤ h79.size := Nat.le_of_eq (congrArg Array.size e79)
    have z81 : h72.size ≤ h79.size := K79.1
    have CR := CR.trans Cp79
    have lt79_0 : @LT.lt Nat _ b58 h79.size := Fq79_0.lt
    have lt79_3 : @LT.lt Nat _ b_79 h79.size := Fq79_3.lt
    have s82 : ∀ t_, Steps p.tables e below (T79.setTop (mkF m 86 #[.val (.int (3 : Int32)), .val (.int cx), .val (.int cy), .val (.int cz), .val (.int cw)] [(.ref b58)])) t_ → Steps p.tables e below (s₁.setTop (entryFrame m #[(.int (3 : Int32)), (.int cx), (.int cy), (.int cz), (.int cw)] 5)) t_ := fun t_ k_ => s80 t_ (by
      show Steps p.tables e below (T72.setTop (mkF m 83 #[.val (.int (3 : Int32)), .val (.int cx), .val (.int cy), .val (.int cz), .val (.int cw)] [(.ref b63), (.ref b58), (.ref b58)])) t_
      refine st79.trans ?_
      show Steps p.tables e below (T79.setTop (mkF m 86 #[.val (.int (3 : Int32)), .val (.int cx), .val (.int cy), .val (.int cz), .val (.int cw)] [(.ref b58)])) _
      show Steps p.tables e below (T79.setTop (mkF m 86 #[.val (.int (3 : Int32)), .val (.int cx), .val (.int cy), .val (.int cz), .val (.int cw)] [(.ref b58)])) t_
      exact k_)
    obtain ⟨fs, hr, hrun, hended, hREW⟩ := X79.leaveW hS (by first | exact Nat.le_refl _ | (rw [e79]; exact hk)) (v := some (.ref b58)) (fun h => by rw [Bd.returns] at h; cases h)
    refine ⟨_, _, s82 _ ?_, hrun, hended, _, _, rfl, ?_, (by show CHr Z ELs s.vm s.heap T79.vm T79.heap; rw [hh, e79]; exact CR.trans (CHv.at X79 hZ hEL CR.1)), hREW.1, hREW.2.1, hREW.2.2.1, hREW.2.2.2.mono (by decide) (by decide)⟩
    · show Steps p.tables e below (T79.setTop (mkF m 86 #[.val (.int (3 : Int32)), .val (.int cx), .val (.int cy), .val (.int cz), .val (.int cw)] [(.ref b58)])) _
      jvm_step X79.here [X79.here.top, hx, (Jvm.hb hby d_method_3_86), X79.method', Bd.returns, Value.isRef, FieldType.isReference]
      first | (intro acts; rw [hr _ acts rfl rfl rfl]) | rw [hr _ _ rfl rfl rfl]
      exact Steps.refl _
    · show Q_rmMk Z _ _ _ _ _ _ h0 n0 _ T79.heap _
      rw [e79]
      exact ⟨b58, b_79, kb_79, rfl, N79, (((((((Keep.refl h0 []).ext E58).ext E63).wr W66 (Or.inr (show h0.size ≤ b63 by omega))).wr W69 (Or.inr (show h0.size ≤ b63 by omega))).wr W72 (Or.inr (show h0.size ≤ b63 by omega))).trans K79 (allS (Or.inr (show h0.size ≤ b58 by omega)) all0)), Fq79_0, Fq79_1, Fq79_2, Fq79_3, by omega⟩
  · have hcase := trivial
    obtain ⟨T83, h83, X83, e83, E83, A83, D83, -, st83⟩ := newO X0 hx hZ hown (hw _ (List.mem_of_getElem? (i := 5) rfl)) (hw _ (List.mem_of_getElem? (i := 6) rfl)) (hw _ (List.mem_of_getElem? (i := 7) rfl)) e0 (g := (mkF m 87 #[.val (.int (4 : Int32)), .val (.int cx), .val (.int cy), .val (.int cz), .val (.int cw)] [])) rfl (Jvm.hb hby d_method_3_87) (by decide) (by decide)
    obtain ⟨b83, g83⟩ : ∃ z, z = h0.size := ⟨_, rfl⟩
    rw [← g83] at A83 D83 st83
    have z84 : h0.size ≤ h83.size := E83.1
    have Sf85 : Safe Z ELs s.vm h83 b83 := Safe.ext E83 CR.1 (Safe.new (by omega))
    have Cp84 : CHr Z ELs s.vm h0 s.vm h83 := CHr.ext E83 CR.1
    have hk := Nat.le_trans hk z84
    have CR := CR.trans Cp84
    have l83 : b83 < h83.size := A83.lt
    have F86 : Fld Z h83 b83 "java/lang/String" "value" "[B" .null := D83 (Or.inr (hw _ (List.mem_of_getElem? (i := 21) rfl))) (ty := (.array .byte)) (by decide)
    have F87 : Fld Z h83 b83 "java/lang/String" "coder" "B" (.int (0 : Int32)) := D83 (Or.inr (hw _ (List.mem_of_getElem? (i := 22) rfl))) (ty := .byte) (by decide)
    obtain ⟨T88, h88, k88, X88, e88, E88, A88, st88⟩ := newP X83 hx hZ (hw _ (List.mem_of_getElem? (i := 8) rfl)) e83 (g := (mkF m 92 #[.val (.int (4 : Int32)), .val (.int cx), .val (.int cy), .val (.int cz), .val (.int cw)] [(.int (4 : Int32)), (.ref b83), (.ref b83)])) rfl (Jvm.hb hby d_method_3_92) rfl (by decide) (cap := 4) (by decide) (by decide) (by decide) (by decide)
    obtain ⟨b88, g88⟩ : ∃ z, z = h83.size := ⟨_, rfl⟩
    rw [← g88] at A88 st88
    have z89 : h83.size ≤ h88.size := E88.1
    have Cp89 : CHr Z ELs s.vm h83 s.vm h88 := CHr.ext E88 CR.1
    have hk := Nat.le_trans hk z89
    have CR := CR.trans Cp89
    have l88 : b88 < h88.size := A88.lt
    have V88 : Arv Z h88 b88 k88 .char (4 : Int32) [(.int (0 : Int32)), (.int (0 : Int32)), (.int (0 : Int32)), (.int (0 : Int32))] (.int (0 : Int32)) := (Arv.new A88 (by decide)).pad (pad_rep [] (.int (0 : Int32)) 4)
    obtain ⟨cl90, Ar90, q90, S90, M90, H90, G90⟩ := id V88
    have hin90 : ¬ ((0 : Int32) < 0 ∨ cl90.slots.size ≤ ((0 : Int32)).toNatClampNeg) := inb_of S90 ⟨by decide, by decide⟩
    obtain ⟨T91, h91, X91, e91, W91, st91⟩ := stC X88 hx hZ e88 Ar90 (j := (0 : Int32)) hin90 (g := (mkF m 97 #[.val (.int (4 : Int32)), .val (.int cx), .val (.int cy), .val (.int cz), .val (.int cw)] [(.int cx), (.int (0 : Int32)), (.ref b88), (.ref b88), (.ref b83), (.ref b83)])) rfl rfl (Jvm.hb hby d_method_3_97)
    have z92 : h88.size ≤ h91.size := Nat.le_of_eq W91.size.symm
    have Cp92 : CHr Z ELs s.vm h88 s.vm h91 := CHr.wr W91 (Safe.arv hZ.alike V88 (by decide)) CR.1
    have hk := Nat.le_trans hk z92
    have CR := CR.trans Cp92
    have V91 : Arv Z h91 b88 k88 .char (4 : Int32) [(.int cx), (.int (0 : Int32)), (.int (0 : Int32)), (.int (0 : Int32))] (.int (0 : Int32)) := by have q : Arv Z h91 b88 k88 .char (4 : Int32) [(.int (nar .char cx)), (.int (0 : Int32)), (.int (0 : Int32)), (.int (0 : Int32))] (.int (0 : Int32)) := Arv.set Ar90 q90 S90 M90 H90 G90 (fits_nar_char _) W91 0 rfl (Nat.le_of_ble_eq_true rfl); rw [show nar .char cx = cx from own_narc r0a r0b] at q; exact q
    have N91 := Fr.snoc X91 N0 (show n0 ≤ b88 by omega)
    obtain ⟨cl93, Ar93, q93, S93, M93, H93, G93⟩ := id V91
    have hin93 : ¬ ((1 : Int32) < 0 ∨ cl93.slots.size ≤ ((1 : Int32)).toNatClampNeg) := inb_of S93 ⟨by decide, by decide⟩
    obtain ⟨T94, h94, X94, e94, W94, st94⟩ := stC X91 hx hZ e91 Ar93 (j := (1 : Int32)) hin93 (g := (mkF m 101 #[.val (.int (4 : Int32)), .val (.int cx), .val (.int cy), .val (.int cz), .val (.int cw)] [(.int cy), (.int (1 : Int32)), (.ref b88), (.ref b88), (.ref b83), (.ref b83)])) rfl rfl (Jvm.hb hby d_method_3_101)
    have z95 : h91.size ≤ h94.size := Nat.le_of_eq W94.size.symm
    have Cp95 : CHr Z ELs s.vm h91 s.vm h94 := CHr.wr W94 (Safe.arv hZ.alike V91 (by decide)) CR.1
    have hk := Nat.le_trans hk z95
    have CR := CR.trans Cp95
    have V94 : Arv Z h94 b88 k88 .char (4 : Int32) [(.int cx), (.int cy), (.int (0 : Int32)), (.int (0 : Int32))] (.int (0 : Int32)) := by have q : Arv Z h94 b88 k88 .char (4 : Int32) [(.int cx), (.int (nar .char cy)), (.int (0 : Int32)), (.int (0 : Int32))] (.int (0 : Int32)) := Arv.set Ar93 q93 S93 M93 H93 G93 (fits_nar_char _) W94 1 rfl (Nat.le_of_ble_eq_true rfl); rw [show nar .char cy = cy from own_narc r1a r1b] at q; exact q
    have N94 := Fr.snoc X94 N91 (show n0 ≤ b88 by omega)
    obtain ⟨cl96, Ar96, q96, S96, M96, H96, G96⟩ := id V94
    have hin96 : ¬ ((2 : Int32) < 0 ∨ cl96.slots.size ≤ ((2 : Int32)).toNatClampNeg) := inb_of S96 ⟨by decide, by decide⟩
    obtain ⟨T97, h97, X97, e97, W97, st97⟩ := stC X94 hx hZ e94 Ar96 (j := (2 : Int32)) hin96 (g := (mkF m 105 #[.val (.int (4 : Int32)), .val (.int cx), .val (.int cy), .val (.int cz), .val (.int cw)] [(.int cz), (.int (2 : Int32)), (.ref b88), (.ref b88), (.ref b83), (.ref b83)])) rfl rfl (Jvm.hb hby d_method_3_105)
    have z98 : h94.size ≤ h97.size := Nat.le_of_eq W97.size.symm
    have Cp98 : CHr Z ELs s.vm h94 s.vm h97 := CHr.wr W97 (Safe.arv hZ.alike V94 (by decide)) CR.1
    have hk := Nat.le_trans hk z98
    have CR := CR.trans Cp98
    have V97 : Arv Z h97 b88 k88 .char (4 : Int32) [(.int cx), (.int cy), (.int cz), (.int (0 : Int32))] (.int (0 : Int32)) := by have q : Arv Z h97 b88 k88 .char (4 : Int32) [(.int cx), (.int cy), (.int (nar .char cz)), (.int (0 : Int32))] (.int (0 : Int32)) := Arv.set Ar96 q96 S96 M96 H96 G96 (fits_nar_char _) W97 2 rfl (Nat.le_of_ble_eq_true rfl); rw [show nar .char cz = cz from own_narc r2a r2b] at q; exact q
    have N97 := Fr.snoc X97 N94 (show n0 ≤ b88 by omega)
    obtain ⟨cl99, Ar99, q99, S99, M99, H99, G99⟩ := id V97
    have hin99 : ¬ ((3 : Int32) < 0 ∨ cl99.slots.size ≤ ((3 : Int32)).toNatClampNeg) := inb_of S99 ⟨by decide, by decide⟩
    obtain ⟨T100, h100, X100, e100, W100, st100⟩ := stC X97 hx hZ e97 Ar99 (j := (3 : Int32)) hin99 (g := (mkF m 110 #[.val (.int (4 : Int32)), .val (.int cx), .val (.int cy), .val (.int cz), .val (.int cw)] [(.int cw), (.int (3 : Int32)), (.ref b88), (.ref b88), (.ref b83), (.ref b83)])) rfl rfl (Jvm.hb hby d_method_3_110)
    have z101 : h97.size ≤ h100.size := Nat.le_of_eq W100.size.symm
    have Cp101 : CHr Z ELs s.vm h97 s.vm h100 := CHr.wr W100 (Safe.arv hZ.alike V97 (by decide)) CR.1
    have hk := Nat.le_trans hk z101
    have CR := CR.trans Cp101
    have V100 : Arv Z h100 b88 k88 .char (4 : Int32) [(.int cx), (.int cy), (.int cz), (.int cw)] (.int (0 : Int32)) := by have q : Arv Z h100 b88 k88 .char (4 : Int32) [(.int cx), (.int cy), (.int cz), (.int (nar .char cw))] (.int (0 : Int32)) := Arv.set Ar99 q99 S99 M99 H99 G99 (fits_nar_char _) W100 3 rfl (Nat.le_of_ble_eq_true rfl); rw [show nar .char cw = cw from own_narc r3a r3b] at q; exact q
    have N100 := Fr.snoc X100 N97 (show n0 ≤ b88 by omega)
    have O102 : Old Z n0 h100 := ((((((OX.ext E83).ext E88).wr W91 (show n0 ≤ b88 by omega)).wr W94 (show n0 ≤ b88 by omega)).wr W97 (show n0 ≤ b88 by omega)).wr W100 (show n0 ≤ b88 by omega))
    have f103 : Exa Z h100 b83 "java/lang/String" := (((((A83.ext E88).wr W91).wr W94).wr W97).wr W100)
    have f104 : Fld Z h100 b83 "java/lang/String" "value" "[B" .null := (((((F86.ext E88).other W91 (Or.inl (show @Ne Nat b83 b88 by omega))).other W94 (Or.inl (show @Ne Nat b83 b88 by omega))).other W97 (Or.inl (show @Ne Nat b83 b88 by omega))).other W100 (Or.inl (show @Ne Nat b83 b88 by omega)))
    have f105 : Fld Z h100 b83 "java/lang/String" "coder" "B" (.int (0 : Int32)) := (((((F87.ext E88).other W91 (Or.inl (show @Ne Nat b83 b88 by omega))).other W94 (Or.inl (show @Ne Nat b83 b88 by omega))).other W97 (Or.inl (show @Ne Nat b83 b88 by omega))).other W100 (Or.inl (show @Ne Nat b83 b88 by omega)))
    have Zc106 : n0 ≤ h100.size := by omega
    have s108 : ∀ t_, Steps p.tables e below (T100.setTop (mkF m 111 #[.val (.int (4 : Int32)), .val (.int cx), .val (.int cy), .val (.int cz), .val (.int cw)] [(.ref b88), (.ref b83), (.ref b83)])) t_ → Steps p.tables e below (s₁.setTop (entryFrame m #[(.int (4 : Int32)), (.int cx), (.int cy), (.int cz), (.int cw)] 5)) t_ := fun t_ k_ => pre0 t_ (by
      show Steps p.tables e below (s₁.setTop (mkF m 0 #[.val (.int (4 : Int32)), .val (.int cx), .val (.int cy), .val (.int cz), .val (.int cw)] [])) t_
      refine XS.iloadN X0.here hx rfl (Jvm.hb hby d_method_3_0) rfl ?_
      show Steps p.tables e below (s₁.setTop (mkF m 1 #[.val (.int (4 : Int32)), .val (.int cx), .val (.int cy), .val (.int cz), .val (.int cw)] [(.int (4 : Int32))])) _
      refine XS.ifYes X0.here hx rfl (pc0 := 1) (pc' := 15) rfl (Jvm.hb hby d_method_3_1) rfl ((if0 _ _).trans (feq (by decide : ¬ ((4 : Int32) = (0 : Int32)))).2) (by decide) (by decide) ?_
      show Steps p.tables e below (s₁.setTop (mkF m 15 #[.val (.int (4 : Int32)), .val (.int cx), .val (.int cy), .val (.int cz), .val (.int cw)] [])) _
      refine XS.iloadN X0.here hx rfl (Jvm.hb hby d_method_3_15) rfl ?_
      show Steps p.tables e below (s₁.setTop (mkF m 16 #[.val (.int (4 : Int32)), .val (.int cx), .val (.int cy), .val (.int cz), .val (.int cw)] [(.int (4 : Int32))])) _
      refine XS.iconst X0.here hx rfl (Jvm.hb hby d_method_3_16) ?_
      show Steps p.tables e below (s₁.setTop (mkF m 17 #[.val (.int (4 : Int32)), .val (.int cx), .val (.int cy), .val (.int cz), .val (.int cw)] [(.int (1 : Int32)), (.int (4 : Int32))])) _
      refine XS.icmpYes X0.here hx rfl (pc0 := 17) (pc' := 35) rfl (Jvm.hb hby d_method_3_17) rfl (feq (by decide : ¬ ((4 : Int32) = (1 : Int32)))).2 (by decide) (by decide) ?_
      show Steps p.tables e below (s₁.setTop (mkF m 35 #[.val (.int (4 : Int32)), .val (.int cx), .val (.int cy), .val (.int cz), .val (.int cw)] [])) _
      refine XS.iloadN X0.here hx rfl (Jvm.hb hby d_method_3_35) rfl ?_
      show Steps p.tables e below (s₁.setTop (mkF m 36 #[.val (.int (4 : Int32)), .val (.int cx), .val (.int cy), .val (.int cz), .val (.int cw)] [(.int (4 : Int32))])) _
      refine XS.iconst X0.here hx rfl (Jvm.hb hby d_method_3_36) ?_
      show Steps p.tables e below (s₁.setTop (mkF m 37 #[.val (.int (4 : Int32)), .val (.int cx), .val (.int cy), .val (.int cz), .val (.int cw)] [(.int (2 : Int32)), (.int (4 : Int32))])) _
      refine XS.icmpYes X0.here hx rfl (pc0 := 37) (pc' := 59) rfl (Jvm.hb hby d_method_3_37) rfl (feq (by decide : ¬ ((4 : Int32) = (2 : Int32)))).2 (by decide) (by decide) ?_
      show Steps p.tables e below (s₁.setTop (mkF m 59 #[.val (.int (4 : Int32)), .val (.int cx), .val (.int cy), .val (.int cz), .val (.int cw)] [])) _
      refine XS.iloadN X0.here hx rfl (Jvm.hb hby d_method_3_59) rfl ?_
      show Steps p.tables e below (s₁.setTop (mkF m 60 #[.val (.int (4 : Int32)), .val (.int cx), .val (.int cy), .val (.int cz), .val (.int cw)] [(.int (4 : Int32))])) _
      refine XS.iconst X0.here hx rfl (Jvm.hb hby d_method_3_60) ?_
      show Steps p.tables e below (s₁.setTop (mkF m 61 #[.val (.int (4 : Int32)), .val (.int cx), .val (.int cy), .val (.int cz), .val (.int cw)] [(.int (3 : Int32)), (.int (4 : Int32))])) _
      refine XS.icmpYes X0.here hx rfl (pc0 := 61) (pc' := 87) rfl (Jvm.hb hby d_method_3_61) rfl (feq (by decide : ¬ ((4 : Int32) = (3 : Int32)))).2 (by decide) (by decide) ?_
      show Steps p.tables e below (s₁.setTop (mkF m 87 #[.val (.int (4 : Int32)), .val (.int cx), .val (.int cy), .val (.int cz), .val (.int cw)] [])) _
      refine st83 _ ?_
      show Steps p.tables e below (T83.setTop (mkF m 90 #[.val (.int (4 : Int32)), .val (.int cx), .val (.int cy), .val (.int cz), .val (.int cw)] [(.ref b83)])) _
      refine XS.dup X83.here hx rfl (Jvm.hb hby d_method_3_90) rfl rfl ?_
      show Steps p.tables e below (T83.setTop (mkF m 91 #[.val (.int (4 : Int32)), .val (.int cx), .val (.int cy), .val (.int cz), .val (.int cw)] [(.ref b83), (.ref b83)])) _
      refine XS.iconst X83.here hx rfl (Jvm.hb hby d_method_3_91) ?_
      show Steps p.tables e below (T83.setTop (mkF m 92 #[.val (.int (4 : Int32)), .val (.int cx), .val (.int cy), .val (.int cz), .val (.int cw)] [(.int (4 : Int32)), (.ref b83), (.ref b83)])) _
      refine st88 _ ?_
      show Steps p.tables e below (T88.setTop (mkF m 94 #[.val (.int (4 : Int32)), .val (.int cx), .val (.int cy), .val (.int cz), .val (.int cw)] [(.ref b88), (.ref b83), (.ref b83)])) _
      refine XS.dup X88.here hx rfl (Jvm.hb hby d_method_3_94) rfl rfl ?_
      show Steps p.tables e below (T88.setTop (mkF m 95 #[.val (.int (4 : Int32)), .val (.int cx), .val (.int cy), .val (.int cz), .val (.int cw)] [(.ref b88), (.ref b88), (.ref b83), (.ref b83)])) _
      refine XS.iconst X88.here hx rfl (Jvm.hb hby d_method_3_95) ?_
      show Steps p.tables e below (T88.setTop (mkF m 96 #[.val (.int (4 : Int32)), .val (.int cx), .val (.int cy), .val (.int cz), .val (.int cw)] [(.int (0 : Int32)), (.ref b88), (.ref b88), (.ref b83), (.ref b83)])) _
      refine XS.iloadN X88.here hx rfl (Jvm.hb hby d_method_3_96) rfl ?_
      show Steps p.tables e below (T88.setTop (mkF m 97 #[.val (.int (4 : Int32)), .val (.int cx), .val (.int cy), .val (.int cz), .val (.int cw)] [(.int cx), (.int (0 : Int32)), (.ref b88), (.ref b88), (.ref b83), (.ref b83)])) _
      refine st91 _ ?_
      show Steps p.tables e below (T91.setTop (mkF m 98 #[.val (.int (4 : Int32)), .val (.int cx), .val (.int cy), .val (.int cz), .val (.int cw)] [(.ref b88), (.ref b83), (.ref b83)])) _
      refine XS.dup X91.here hx rfl (Jvm.hb hby d_method_3_98) rfl rfl ?_
      show Steps p.tables e below (T91.setTop (mkF m 99 #[.val (.int (4 : Int32)), .val (.int cx), .val (.int cy), .val (.int cz), .val (.int cw)] [(.ref b88), (.ref b88), (.ref b83), (.ref b83)])) _
      refine XS.iconst X91.here hx rfl (Jvm.hb hby d_method_3_99) ?_
      show Steps p.tables e below (T91.setTop (mkF m 100 #[.val (.int (4 : Int32)), .val (.int cx), .val (.int cy), .val (.int cz), .val (.int cw)] [(.int (1 : Int32)), (.ref b88), (.ref b88), (.ref b83), (.ref b83)])) _
      refine XS.iloadN X91.here hx rfl (Jvm.hb hby d_method_3_100) rfl ?_
      show Steps p.tables e below (T91.setTop (mkF m 101 #[.val (.int (4 : Int32)), .val (.int cx), .val (.int cy), .val (.int cz), .val (.int cw)] [(.int cy), (.int (1 : Int32)), (.ref b88), (.ref b88), (.ref b83), (.ref b83)])) _
      refine st94 _ ?_
      show Steps p.tables e below (T94.setTop (mkF m 102 #[.val (.int (4 : Int32)), .val (.int cx), .val (.int cy), .val (.int cz), .val (.int cw)] [(.ref b88), (.ref b83), (.ref b83)])) _
      refine XS.dup X94.here hx rfl (Jvm.hb hby d_method_3_102) rfl rfl ?_
      show Steps p.tables e below (T94.setTop (mkF m 103 #[.val (.int (4 : Int32)), .val (.int cx), .val (.int cy), .val (.int cz), .val (.int cw)] [(.ref b88), (.ref b88), (.ref b83), (.ref b83)])) _
      refine XS.iconst X94.here hx rfl (Jvm.hb hby d_method_3_103) ?_
      show Steps p.tables e below (T94.setTop (mkF m 104 #[.val (.int (4 : Int32)), .val (.int cx), .val (.int cy), .val (.int cz), .val (.int cw)] [(.int (2 : Int32)), (.ref b88), (.ref b88), (.ref b83), (.ref b83)])) _
      refine XS.iloadN X94.here hx rfl (Jvm.hb hby d_method_3_104) rfl ?_
      show Steps p.tables e below (T94.setTop (mkF m 105 #[.val (.int (4 : Int32)), .val (.int cx), .val (.int cy), .val (.int cz), .val (.int cw)] [(.int cz), (.int (2 : Int32)), (.ref b88), (.ref b88), (.ref b83), (.ref b83)])) _
      refine st97 _ ?_
      show Steps p.tables e below (T97.setTop (mkF m 106 #[.val (.int (4 : Int32)), .val (.int cx), .val (.int cy), .val (.int cz), .val (.int cw)] [(.ref b88), (.ref b83), (.ref b83)])) _
      refine XS.dup X97.here hx rfl (Jvm.hb hby d_method_3_106) rfl rfl ?_
      show Steps p.tables e below (T97.setTop (mkF m 107 #[.val (.int (4 : Int32)), .val (.int cx), .val (.int cy), .val (.int cz), .val (.int cw)] [(.ref b88), (.ref b88), (.ref b83), (.ref b83)])) _
      refine XS.iconst X97.here hx rfl (Jvm.hb hby d_method_3_107) ?_
      show Steps p.tables e below (T97.setTop (mkF m 108 #[.val (.int (4 : Int32)), .val (.int cx), .val (.int cy), .val (.int cz), .val (.int cw)] [(.int (3 : Int32)), (.ref b88), (.ref b88), (.ref b83), (.ref b83)])) _
      refine XS.iload X97.here hx rfl (Jvm.hb hby d_method_3_108) rfl ?_
      show Steps p.tables e below (T97.setTop (mkF m 110 #[.val (.int (4 : Int32)), .val (.int cx), .val (.int cy), .val (.int cz), .val (.int cw)] [(.int cw), (.int (3 : Int32)), (.ref b88), (.ref b88), (.ref b83), (.ref b83)])) _
      refine st100 _ ?_
      show Steps p.tables e below (T100.setTop (mkF m 111 #[.val (.int (4 : Int32)), .val (.int cx), .val (.int cy), .val (.int cz), .val (.int cw)] [(.ref b88), (.ref b83), (.ref b83)])) _
      show Steps p.tables e below (T100.setTop (mkF m 111 #[.val (.int (4 : Int32)), .val (.int cx), .val (.int cy), .val (.int cz), .val (.int cw)] [(.ref b88), (.ref b83), (.ref b83)])) t_
      exact k_)
    obtain ⟨_, _, ⟨T107, L107, k107, n107⟩, -, Xr107, hSr107, hg107, ⟨Lc107, hQ107, l107, y107, z107, Cp107⟩, st107⟩ := X100.specialBackS hx (y := (⟨"java/lang/String", "<init>", "([C)V"⟩ : MethodName)) rfl hown (mvT hZ (hw _ (List.mem_of_getElem? (i := 9) rfl))) (mvT hZ (hw _ (List.mem_of_getElem? (i := 10) rfl))) (mvT hZ (hw _ (List.mem_of_getElem? (i := 11) rfl))) (by decide) (backOfSH (s := s) (vm0 := s.vm) (W := 1) (rmIni1 l Z a0 hw [] b83 b88 cst [cx, cy, cz, cw] k88 4 h100 n0 Zc106 I1 I2 I3 I4 O102 (hcst : ¬ (cst = (0 : Int32))) f103 f104 f105 V100 rfl (by first | assumption | rfl | decide | omega : 4 ≤ 4) (own_chsS ⟨r0a, r0b⟩ (own_chsS ⟨r1a, r1b⟩ (own_chsS ⟨r2a, r2b⟩ (own_chsS ⟨r3a, r3b⟩ own_chs0)))) (by first | assumption | rfl | decide | omega : n0 ≤ b83) (by first | assumption | rfl | decide | omega : @Ne Nat b83 b88)) hZ (hw _ (List.mem_of_getElem? (i := 11) rfl)) (hw _ (List.mem_of_getElem? (i := 7) rfl)) (by decide) (by decide) hEL CR.1) (g := (mkF m 111 #[.val (.int (4 : Int32)), .val (.int cx), .val (.int cy), .val (.int cz), .val (.int cw)] [(.ref b88), (.ref b83), (.ref b83)])) rfl (by rw [hml]; rfl) (Steps.refl _) (a := b83) (argsL := [(.ref b88)]) (rest := [(.ref b83)]) (lenOf pd___C_V rfl) rfl (by show 2 * 0 + _ ≤ _; exact Nat.le_of_eq rfl) (Jvm.hb hby d_method_3_111) (fun _ _ => ⟨rfl, e100, (by decide : 2 + 4 ≤ _), (by decide : 8 + 12 ≤ _)⟩)
    dsimp only [Pt.U, Pt.locs, Pt.cells, Pt.slots] at Xr107 hSr107 hg107 l107 y107 z107 st107 hQ107 Cp107
    subst l107 y107 z107
    obtain ⟨X107, hS, hZ, hown⟩ := rebS (own := "com/example/zastupnik/zastupnik/protocol/AsciiDigitsOnlyPinLaw") hS (by first | exact Nat.le_refl _ | (rw [e100]; exact hk)) Xr107 hSr107 hg107 hZ hown
    obtain ⟨b_107, kb_107, rfl, N107q, K107, Fq107_0, Fq107_1, Fq107_2, Fq107_3⟩ := hQ107
    have N107 := Fr.app N100 N107q
    obtain ⟨h107, e107⟩ : ∃ z, T107.heap = z := ⟨_, rfl⟩
    rw [e107] at K107 Fq107_0 Fq107_1 Fq107_2 Fq107_3 Cp107
    have hk : T107.heap.size ≤ h107.size := Nat.le_of_eq (congrArg Array.size e107)
    have z109 : h100.size ≤ h107.size := K107.1
    have CR := CR.trans Cp107
    have lt107_0 : @LT.lt Nat _ b83 h107.size := Fq107_0.lt
    have lt107_3 : @LT.lt Nat _ b_107 h107.size := Fq107_3.lt
    have s110 : ∀ t_, Steps p.tables e below (T107.setTop (mkF m 114 #[.val (.int (4 : Int32)), .val (.int cx), .val (.int cy), .val (.int cz), .val (.int cw)] [(.ref b83)])) t_ → Steps p.tables e below (s₁.setTop (entryFrame m #[(.int (4 : Int32)), (.int cx), (.int cy), (.int cz), (.int cw)] 5)) t_ := fun t_ k_ => s108 t_ (by
      show Steps p.tables e below (T100.setTop (mkF m 111 #[.val (.int (4 : Int32)), .val (.int cx), .val (.int cy), .val (.int cz), .val (.int cw)] [(.ref b88), (.ref b83), (.ref b83)])) t_
      refine st107.trans ?_
      show Steps p.tables e below (T107.setTop (mkF m 114 #[.val (.int (4 : Int32)), .val (.int cx), .val (.int cy), .val (.int cz), .val (.int cw)] [(.ref b83)])) _
      show Steps p.tables e below (T107.setTop (mkF m 114 #[.val (.int (4 : Int32)), .val (.int cx), .val (.int cy), .val (.int cz), .val (.int cw)] [(.ref b83)])) t_
      exact k_)
    obtain ⟨fs, hr, hrun, hended, hREW⟩ := X107.leaveW hS (by first | exact Nat.le_refl _ | (rw [e107]; exact hk)) (v := some (.ref b83)) (fun h => by rw [Bd.returns] at h; cases h)
    refine ⟨_, _, s110 _ ?_, hrun, hended, _, _, rfl, ?_, (by show CHr Z ELs s.vm s.heap T107.vm T107.heap; rw [hh, e107]; exact CR.trans (CHv.at X107 hZ hEL CR.1)), hREW.1, hREW.2.1, hREW.2.2.1, hREW.2.2.2.mono (by decide) (by decide)⟩
    · show Steps p.tables e below (T107.setTop (mkF m 114 #[.val (.int (4 : Int32)), .val (.int cx), .val (.int cy), .val (.int cz), .val (.int cw)] [(.ref b83)])) _
      jvm_step X107.here [X107.here.top, hx, (Jvm.hb hby d_method_3_114), X107.method', Bd.returns, Value.isRef, FieldType.isReference]
      first | (intro acts; rw [hr _ acts rfl rfl rfl]) | rw [hr _ _ rfl rfl rfl]
      exact Steps.refl _
    · show Q_rmMk Z _ _ _ _ _ _ h0 n0 _ T107.heap _
      rw [e107]
      exact ⟨b83, b_107, kb_107, rfl, N107, ((((((((Keep.refl h0 []).ext E83).ext E88).wr W91 (Or.inr (show h0.size ≤ b88 by omega))).wr W94 (Or.inr (show h0.size ≤ b88 by omega))).wr W97 (Or.inr (show h0.size ≤ b88 by omega))).wr W100 (Or.inr (show h0.size ≤ b88 by omega))).trans K107 (allS (Or.inr (show h0.size ≤ b83 by omega)) all0)), Fq107_0, Fq107_1, Fq107_2, Fq107_3, by omega⟩
theorem pn_com_example_zastupnik_zastupnik_protocol_AsciiDigits : plainName "com/example/zastupnik/zastupnik/protocol/AsciiDigits" = true := by first | (simp [plainName, overriddenIn]; done) | decide +kernel
theorem d_prog_32_method_2_0 : decode prog_32_method_2_code 0 = .ok (.aload_n 0, 1) := by decide +kernel
theorem d_prog_32_method_2_1 : decode prog_32_method_2_code 1 = .ok (.invokevirtual 7, 3) := by decide +kernel
theorem d_prog_32_method_2_4 : decode prog_32_method_2_code 4 = .ok (.ifCond .eq 5, 3) := by decide +kernel
theorem d_prog_32_method_2_7 : decode prog_32_method_2_code 7 = .ok (.iconst 0, 1) := by decide +kernel
theorem d_prog_32_method_2_8 : decode prog_32_method_2_code 8 = .ok (.ireturn, 1) := by decide +kernel
theorem d_prog_32_method_2_9 : decode prog_32_method_2_code 9 = .ok (.iconst 0, 1) := by decide +kernel
theorem d_prog_32_method_2_10 : decode prog_32_method_2_code 10 = .ok (.istore_n 1, 1) := by decide +kernel
theorem d_prog_32_method_2_11 : decode prog_32_method_2_code 11 = .ok (.iload_n 1, 1) := by decide +kernel
theorem d_prog_32_method_2_12 : decode prog_32_method_2_code 12 = .ok (.aload_n 0, 1) := by decide +kernel
theorem pd___I : parseMethodDescriptor "()I" = some ⟨[], some .int⟩ := by decide +kernel
theorem d_prog_32_method_2_13 : decode prog_32_method_2_code 13 = .ok (.invokevirtual 13, 3) := by decide +kernel
theorem d_prog_32_method_2_16 : decode prog_32_method_2_code 16 = .ok (.if_icmp .ge 29, 3) := by decide +kernel
theorem d_prog_32_method_2_19 : decode prog_32_method_2_code 19 = .ok (.aload_n 0, 1) := by decide +kernel
theorem d_prog_32_method_2_20 : decode prog_32_method_2_code 20 = .ok (.iload_n 1, 1) := by decide +kernel
theorem pd__I_C : parseMethodDescriptor "(I)C" = some ⟨[.int], some .char⟩ := by decide +kernel
theorem d_prog_32_method_2_21 : decode prog_32_method_2_code 21 = .ok (.invokevirtual 17, 3) := by decide +kernel
theorem os_rmOnly_24 {z0 : Value} {z1 : Value} {s2 : Slot} {v : Int32} (h : One s2) : storeLocals #[.val z0, .val z1, s2] 2 (.int v) = some #[.val z0, .val z1, .val (.int v)] := by
  rcases h with rfl | ⟨w, rfl, hw⟩
  · rfl
  · cases w <;> first | rfl | (simp [Value.category] at hw)
theorem d_prog_32_method_2_24 : decode prog_32_method_2_code 24 = .ok (.istore_n 2, 1) := by decide +kernel
theorem d_prog_32_method_2_25 : decode prog_32_method_2_code 25 = .ok (.iload_n 2, 1) := by decide +kernel
theorem d_prog_32_method_2_26 : decode prog_32_method_2_code 26 = .ok (.bipush 48, 2) := by decide +kernel
theorem d_prog_32_method_2_28 : decode prog_32_method_2_code 28 = .ok (.if_icmp .lt 9, 3) := by decide +kernel
theorem d_prog_32_method_2_31 : decode prog_32_method_2_code 31 = .ok (.iload_n 2, 1) := by decide +kernel
theorem d_prog_32_method_2_32 : decode prog_32_method_2_code 32 = .ok (.bipush 57, 2) := by decide +kernel
theorem d_prog_32_method_2_34 : decode prog_32_method_2_code 34 = .ok (.if_icmp .le 5, 3) := by decide +kernel
theorem d_prog_32_method_2_39 : decode prog_32_method_2_code 39 = .ok (.iinc 1 1, 3) := by decide +kernel
theorem d_prog_32_method_2_42 : decode prog_32_method_2_code 42 = .ok (.goto (-31), 3) := by decide +kernel
theorem d_prog_32_method_2_45 : decode prog_32_method_2_code 45 = .ok (.iconst 1, 1) := by decide +kernel
theorem d_prog_32_method_2_46 : decode prog_32_method_2_code 46 = .ok (.ireturn, 1) := by decide +kernel
theorem d_prog_32_method_2_37 : decode prog_32_method_2_code 37 = .ok (.iconst 0, 1) := by decide +kernel
theorem d_prog_32_method_2_38 : decode prog_32_method_2_code 38 = .ok (.ireturn, 1) := by decide +kernel
theorem ef_rmOnly (m : MethodId) (x0 : Addr) : entryFrame m #[(.ref x0)] 3 = mkF m 0 #[.val (.ref x0), .unset, .unset] [] := by first | (simp [entryFrame, mkF, argsToLocals, Value.category]; done) | rfl
def Q_rmOnly (Z : State) (a : Addr) (cst : Int32) (b : Addr) (kb : ClassId) (cs : List Int32) (fmt : Value) (h0 : Heap) (n0 : Nat) (v : Option Value) (h : Heap) (L : List Loc) : Prop := (v = some (.int (own_only cs))) ∧ (Fr n0 L) ∧ (h = h0)
set_option maxRecDepth 65536 in
set_option maxHeartbeats 40000000 in
theorem rmOnly (l : Launch) (Z : State) (a0 : Array Value) (hw : ∀ d ∈ tables_1, d.before a0 Z = true) (ws : List Jvm.Cond) (a : Addr) (cst : Int32) (b : Addr) (kb : ClassId) (cs : List Int32) (fmt : Value) (h0 : Heap) (n0 : Nat) (Z0 : n0 ≤ h0.size) (I1 : Sta Z Z.heap "java/lang/String" "COMPACT_STRINGS" "Z" (.int cst)) (I2 : Sta Z Z.heap "java/lang/StringUTF16" "$assertionsDisabled" "Z" (.int (1 : Int32))) (I3 : Sta Z Z.heap "java/lang/StringUTF16" "HI_BYTE_SHIFT" "I" (.int (0 : Int32))) (I4 : Sta Z Z.heap "java/lang/StringUTF16" "LO_BYTE_SHIFT" "I" (.int (8 : Int32))) (hfmt : fmt.isRef = true) (I5 : Sta Z Z.heap "jdk/internal/util/Preconditions" "SIOOBE_FORMATTER" "Ljava/util/function/BiFunction;" fmt) (OX : Old Z n0 h0) (hcst : ¬ (cst = (0 : Int32))) (I6 : Exa Z h0 a "java/lang/String") (I7 : Fld Z h0 a "java/lang/String" "value" "[B" (.ref b)) (I8 : Fld Z h0 a "java/lang/String" "coder" "B" (.int (own_cod cs))) (I9 : Arv Z h0 b kb .byte (Int32.ofNat (own_enl cs)) (own_enc cs) (.int (0 : Int32))) (hb : cs.length ≤ 4) (hchs : own_chs cs) :
    MetFree l (⟨"com/example/zastupnik/zastupnik/protocol/AsciiDigits", "only", "(Ljava/lang/String;)Z"⟩ : MethodName) (head1 (Jvm.Cond.code (⟨"com/example/zastupnik/zastupnik/protocol/AsciiDigits", "only", "(Ljava/lang/String;)Z"⟩ : MethodName) prog_32_method_2_code 3 (some .boolean) :: ws) ({ frames := 5, cells := 0, slots := 0, locals := 66 } : Room)) (fun ar_ U => ar_ = #[(.ref a)] ∧ Z.Warmed39 U.vm ∧ U.heap = h0) (fun _ _ _ _ _ => True) (fun _ U o U' => ∃ v L, o = .returned v ∧ Q_rmOnly Z a cst b kb cs fmt h0 n0 v U'.heap L ∧ FrameEnd U o U' L ({ frames := 5, cells := 0, slots := 0, locals := 66 } : Room).cells ({ frames := 5, cells := 0, slots := 0, locals := 66 } : Room).slots) := by
  refine MetFree.of_bodySF (plainFor_of_name pn_com_example_zastupnik_zastupnik_protocol_AsciiDigits) hisR ?_
  intro p e s m args below meth c s₁ Bd hml0 hP hK
  obtain ⟨rfl, hZ, hh⟩ := hP
  have hx := Bd.exec
  have hby := Bd.bytes
  have hml : c.maxLocals = 3 := hml0
  have hown : s.vm.findClass "com/example/zastupnik/zastupnik/protocol/AsciiDigits" = some m.cls := findClass_of_methodNamed Bd.named
  have hnm := (name_of_methodNamed Bd.named Bd.method).1
  have X0 : Stand p l e ({ frames := 5, cells := 0, slots := 0, locals := 66 } : Room) s m #[(.ref a)] below meth c s₁ [] 0 0 := Stand.of_body Bd
  have e0 : s₁.heap = h0 := by rw [← hh, Bd.state]; rfl
  have N0 := Fr.nil n0
  have pre0 : ∀ t_, Steps p.tables e below (s₁.setTop (mkF m 0 #[.val (.ref a), .unset, .unset] [])) t_ → Steps p.tables e below (s₁.setTop (entryFrame m #[(.ref a)] 3)) t_ := fun t_ k_ => castTop (ef_rmOnly m a) k_
  have lt_I6 : @LT.lt Nat _ a h0.size := I6.lt
  have lt_I7 : @LT.lt Nat _ a h0.size := I7.lt
  have lt_I8 : @LT.lt Nat _ a h0.size := I8.lt
  have lt_I9 : @LT.lt Nat _ b h0.size := I9.lt
  have Zc1 : n0 ≤ h0.size := by omega
  obtain ⟨cq2, kq2, q2a, q2b, q2c⟩ := isOf hZ e0 I6
  obtain ⟨_, _, ⟨T2, L2, k2, n2⟩, -, X2, ⟨Lc2, hQ2, l2, y2, z2⟩, st2⟩ := X0.virtualBack hx (y := (⟨"java/lang/String", "isEmpty", "()Z"⟩ : MethodName)) (z := (⟨"java/lang/String", "isEmpty", "()Z"⟩ : MethodName)) hown (mvT hZ (hw _ (List.mem_of_getElem? (i := 31) rfl))) (mvT hZ (hw _ (List.mem_of_getElem? (i := 32) rfl))) (notFace_of_selects (args := #[]) (mvT hZ (hw _ (List.mem_of_getElem? (i := 34) rfl)))) (mvT hZ (hw _ (List.mem_of_getElem? (i := 34) rfl))) (mvT hZ (hw _ (List.mem_of_getElem? (i := 33) rfl))) (by decide) (backOf (W := 0) (rmEmp l Z a0 hw [] a b kb cs h0 n0 Zc1 I6 I7 I9 (hb : cs.length ≤ 4)) hZ (hw _ (List.mem_of_getElem? (i := 35) rfl)) (hw _ (List.mem_of_getElem? (i := 7) rfl)) (by decide) (by decide)) q2a q2c (g := (mkF m 1 #[.val (.ref a), .unset, .unset] [(.ref a)])) rfl (by rw [hml]; rfl) (Steps.refl _) (argsL := []) (rest := []) (lenOf pd___Z rfl) rfl (by show 2 * 0 + _ ≤ _; exact Nat.le_of_eq rfl) (Jvm.hb hby d_prog_32_method_2_1) (fun _ _ => ⟨rfl, e0, (by decide : 0 + 0 ≤ _), (by decide : 0 + 0 ≤ _)⟩)
  dsimp only [Pt.U, Pt.locs, Pt.cells, Pt.slots] at X2 l2 y2 z2 st2 hQ2
  subst l2 y2 z2
  obtain ⟨rfl, N2q, e2⟩ := hQ2
  have N2 := Fr.app N0 N2q
  have s3 : ∀ t_, Steps p.tables e below (T2.setTop (mkF m 4 #[.val (.ref a), .unset, .unset] [(.int (if cs = [] then (1 : Int32) else (0 : Int32)))])) t_ → Steps p.tables e below (s₁.setTop (entryFrame m #[(.ref a)] 3)) t_ := fun t_ k_ => pre0 t_ (by
    show Steps p.tables e below (s₁.setTop (mkF m 0 #[.val (.ref a), .unset, .unset] [])) t_
    refine XS.aloadN X0.here hx rfl (Jvm.hb hby d_prog_32_method_2_0) rfl rfl ?_
    show Steps p.tables e below (s₁.setTop (mkF m 1 #[.val (.ref a), .unset, .unset] [(.ref a)])) _
    refine st2.trans ?_
    show Steps p.tables e below (T2.setTop (mkF m 4 #[.val (.ref a), .unset, .unset] [(.int (if cs = [] then (1 : Int32) else (0 : Int32)))])) _
    show Steps p.tables e below (T2.setTop (mkF m 4 #[.val (.ref a), .unset, .unset] [(.int (if cs = [] then (1 : Int32) else (0 : Int32)))])) t_
    exact k_)
  by_cases h4 : cs = []
  · have s5 : ∀ t_, Steps p.tables e below (T2.setTop (mkF m 4 #[.val (.ref a), .unset, .unset] [(.int (1 : Int32))])) t_ → Steps p.tables e below (s₁.setTop (entryFrame m #[(.ref a)] 3)) t_ := fun t_ k_ => s3 t_ (castTop (by simp only [if_pos h4]) k_)
    have s6 : ∀ t_, Steps p.tables e below (T2.setTop (mkF m 8 #[.val (.ref a), .unset, .unset] [(.int (0 : Int32))])) t_ → Steps p.tables e below (s₁.setTop (entryFrame m #[(.ref a)] 3)) t_ := fun t_ k_ => s5 t_ (by
      show Steps p.tables e below (T2.setTop (mkF m 4 #[.val (.ref a), .unset, .unset] [(.int (1 : Int32))])) t_
      refine XS.ifNo X2.here hx rfl (Jvm.hb hby d_prog_32_method_2_4) rfl ((if0 _ _).trans (feq (by decide : ¬ ((1 : Int32) = (0 : Int32)))).1) ?_
      show Steps p.tables e below (T2.setTop (mkF m 7 #[.val (.ref a), .unset, .unset] [])) _
      refine XS.iconst X2.here hx rfl (Jvm.hb hby d_prog_32_method_2_7) ?_
      show Steps p.tables e below (T2.setTop (mkF m 8 #[.val (.ref a), .unset, .unset] [(.int (0 : Int32))])) _
      show Steps p.tables e below (T2.setTop (mkF m 8 #[.val (.ref a), .unset, .unset] [(.int (0 : Int32))])) t_
      exact k_)
    obtain ⟨fs, hr, hrun, hended, hW, hsame⟩ := X2.leave (v := some (.int (0 : Int32))) (fun h => by rw [Bd.returns] at h; cases h)
    refine ⟨_, _, s6 _ ?_, hrun, hended, _, _, rfl, ?_, ⟨_, rfl⟩, hW, hsame.mono (by decide) (by decide)⟩
    · show Steps p.tables e below (T2.setTop (mkF m 8 #[.val (.ref a), .unset, .unset] [(.int (0 : Int32))])) _
      exact retN X2 hx (t := .boolean) Bd.returns (by simp) (Jvm.hb hby d_prog_32_method_2_8) hr
    · show Q_rmOnly Z _ _ _ _ _ _ h0 n0 _ T2.heap _
      rw [e2]
      exact ⟨(by rw [h4]; rfl), N2, rfl⟩
  · have s7 : ∀ t_, Steps p.tables e below (T2.setTop (mkF m 4 #[.val (.ref a), .unset, .unset] [(.int (0 : Int32))])) t_ → Steps p.tables e below (s₁.setTop (entryFrame m #[(.ref a)] 3)) t_ := fun t_ k_ => s3 t_ (castTop (by simp only [if_neg h4]) k_)
    have s8 : ∀ t_, Steps p.tables e below (T2.setTop (mkF m 11 #[.val (.ref a), .val (.int (0 : Int32)), .unset] [])) t_ → Steps p.tables e below (s₁.setTop (entryFrame m #[(.ref a)] 3)) t_ := fun t_ k_ => s7 t_ (by
      show Steps p.tables e below (T2.setTop (mkF m 4 #[.val (.ref a), .unset, .unset] [(.int (0 : Int32))])) t_
      refine XS.ifYes X2.here hx rfl (pc0 := 4) (pc' := 9) rfl (Jvm.hb hby d_prog_32_method_2_4) rfl ((if0 _ _).trans (teq (rfl : (0 : Int32) = (0 : Int32))).1) (by decide) (by decide) ?_
      show Steps p.tables e below (T2.setTop (mkF m 9 #[.val (.ref a), .unset, .unset] [])) _
      refine XS.iconst X2.here hx rfl (Jvm.hb hby d_prog_32_method_2_9) ?_
      show Steps p.tables e below (T2.setTop (mkF m 10 #[.val (.ref a), .unset, .unset] [(.int (0 : Int32))])) _
      refine XS.istoreN X2.here hx rfl (Jvm.hb hby d_prog_32_method_2_10) rfl (l' := #[.val (.ref a), .val (.int (0 : Int32)), .unset]) rfl ?_
      show Steps p.tables e below (T2.setTop (mkF m 11 #[.val (.ref a), .val (.int (0 : Int32)), .unset] [])) _
      show Steps p.tables e below (T2.setTop (mkF m 11 #[.val (.ref a), .val (.int (0 : Int32)), .unset] [])) t_
      exact k_)
    have lp9 : ∀ (k_ : Nat) (j : Nat) (s2 : Slot) (T_ : State) (lo_ : List Loc), j + k_ = cs.length → Stand p l e ({ frames := 5, cells := 0, slots := 0, locals := 66 } : Room) s m #[(.ref a)] below meth c T_ lo_ 0 0 → T_.heap = h0 → Fr n0 lo_ → (One s2) → (∀ i, i < j → own_dig (cs.getD i 0)) → ∃ (T' : State) (lo' : List Loc) (fe_ : JFrame), Stand p l e ({ frames := 5, cells := 0, slots := 0, locals := 66 } : Room) s m #[(.ref a)] below meth c T' lo' 0 0 ∧ T'.heap = h0 ∧ Fr n0 lo' ∧ ((∃ (s2 : Slot), fe_ = (mkF m 45 #[.val (.ref a), .val (.int (Int32.ofNat cs.length)), s2] []) ∧ (∀ c ∈ cs, own_dig c)) ∨ (∃ (jj : Nat), fe_ = (mkF m 37 #[.val (.ref a), .val (.int (Int32.ofNat jj)), .val (.int (cs.getD jj 0))] []) ∧ (jj < cs.length) ∧ (¬ own_dig (cs.getD jj 0)))) ∧ ∀ t_, Steps p.tables e below (T'.setTop fe_) t_ → Steps p.tables e below (T_.setTop (mkF m 11 #[.val (.ref a), .val (.int (Int32.ofNat j)), s2] [])) t_ := by
      intro k_
      induction k_ with
      | zero => 
        intro j s2 T_ lo_ hm_ X_ e_ N_ hs2 hp
        have Zc10 : n0 ≤ h0.size := by omega
        obtain ⟨cq11, kq11, q11a, q11b, q11c⟩ := isOf hZ e_ I6
        obtain ⟨_, _, ⟨T11, L11, k11, n11⟩, -, X11, ⟨Lc11, hQ11, l11, y11, z11⟩, st11⟩ := X_.virtualBack hx (y := (⟨"java/lang/String", "length", "()I"⟩ : MethodName)) (z := (⟨"java/lang/String", "length", "()I"⟩ : MethodName)) hown (mvT hZ (hw _ (List.mem_of_getElem? (i := 50) rfl))) (mvT hZ (hw _ (List.mem_of_getElem? (i := 51) rfl))) (notFace_of_selects (args := #[]) (mvT hZ (hw _ (List.mem_of_getElem? (i := 53) rfl)))) (mvT hZ (hw _ (List.mem_of_getElem? (i := 53) rfl))) (mvT hZ (hw _ (List.mem_of_getElem? (i := 52) rfl))) (by decide) (backOf (W := 1) (rmLen l Z a0 hw [] a cst b kb cs h0 n0 Zc10 I1 OX (hcst : ¬ (cst = (0 : Int32))) I6 I7 I8 I9 (hb : cs.length ≤ 4)) hZ (hw _ (List.mem_of_getElem? (i := 54) rfl)) (hw _ (List.mem_of_getElem? (i := 7) rfl)) (by decide) (by decide)) q11a q11c (g := (mkF m 13 #[.val (.ref a), .val (.int (Int32.ofNat j)), s2] [(.ref a), (.int (Int32.ofNat j))])) rfl (by rw [hml]; rfl) (Steps.refl _) (argsL := []) (rest := [(.int (Int32.ofNat j))]) (lenOf pd___I rfl) rfl (by show 2 * 0 + _ ≤ _; exact Nat.le_of_eq rfl) (Jvm.hb hby d_prog_32_method_2_13) (fun _ _ => ⟨rfl, e_, (by decide : 0 + 0 ≤ _), (by decide : 0 + 0 ≤ _)⟩)
        dsimp only [Pt.U, Pt.locs, Pt.cells, Pt.slots] at X11 l11 y11 z11 st11 hQ11
        subst l11 y11 z11
        obtain ⟨rfl, N11q, e11⟩ := hQ11
        have N11 := Fr.app N_ N11q
        have s12 : ∀ t_, Steps p.tables e below (T11.setTop (mkF m 45 #[.val (.ref a), .val (.int (Int32.ofNat j)), s2] [])) t_ → Steps p.tables e below (T_.setTop (mkF m 11 #[.val (.ref a), .val (.int (Int32.ofNat j)), s2] [])) t_ := fun t_ k_ => (fun _ k_ => k_) t_ (by
          show Steps p.tables e below (T_.setTop (mkF m 11 #[.val (.ref a), .val (.int (Int32.ofNat j)), s2] [])) t_
          refine XS.iloadN X_.here hx rfl (Jvm.hb hby d_prog_32_method_2_11) rfl ?_
          show Steps p.tables e below (T_.setTop (mkF m 12 #[.val (.ref a), .val (.int (Int32.ofNat j)), s2] [(.int (Int32.ofNat j))])) _
          refine XS.aloadN X_.here hx rfl (Jvm.hb hby d_prog_32_method_2_12) rfl rfl ?_
          show Steps p.tables e below (T_.setTop (mkF m 13 #[.val (.ref a), .val (.int (Int32.ofNat j)), s2] [(.ref a), (.int (Int32.ofNat j))])) _
          refine st11.trans ?_
          show Steps p.tables e below (T11.setTop (mkF m 16 #[.val (.ref a), .val (.int (Int32.ofNat j)), s2] [(.int (Int32.ofNat cs.length)), (.int (Int32.ofNat j))])) _
          refine XS.icmpYes X11.here hx rfl (pc0 := 16) (pc' := 45) rfl (Jvm.hb hby d_prog_32_method_2_16) rfl (flt (own_nlt (by omega) (by omega))).2.1 (by decide) (by decide) ?_
          show Steps p.tables e below (T11.setTop (mkF m 45 #[.val (.ref a), .val (.int (Int32.ofNat j)), s2] [])) _
          show Steps p.tables e below (T11.setTop (mkF m 45 #[.val (.ref a), .val (.int (Int32.ofNat j)), s2] [])) t_
          exact k_)
        exact ⟨T11, _, _, X11, e11, N11, (Or.inl ⟨s2, (by rw [show j = cs.length by omega]), (own_allx fun i hi => hp i (by omega))⟩), s12⟩
      | succ k_ ih => 
        intro j s2 T_ lo_ hm_ X_ e_ N_ hs2 hp
        have Zc13 : n0 ≤ h0.size := by omega
        obtain ⟨cq14, kq14, q14a, q14b, q14c⟩ := isOf hZ e_ I6
        obtain ⟨_, _, ⟨T14, L14, k14, n14⟩, -, X14, ⟨Lc14, hQ14, l14, y14, z14⟩, st14⟩ := X_.virtualBack hx (y := (⟨"java/lang/String", "length", "()I"⟩ : MethodName)) (z := (⟨"java/lang/String", "length", "()I"⟩ : MethodName)) hown (mvT hZ (hw _ (List.mem_of_getElem? (i := 50) rfl))) (mvT hZ (hw _ (List.mem_of_getElem? (i := 51) rfl))) (notFace_of_selects (args := #[]) (mvT hZ (hw _ (List.mem_of_getElem? (i := 53) rfl)))) (mvT hZ (hw _ (List.mem_of_getElem? (i := 53) rfl))) (mvT hZ (hw _ (List.mem_of_getElem? (i := 52) rfl))) (by decide) (backOf (W := 1) (rmLen l Z a0 hw [] a cst b kb cs h0 n0 Zc13 I1 OX (hcst : ¬ (cst = (0 : Int32))) I6 I7 I8 I9 (hb : cs.length ≤ 4)) hZ (hw _ (List.mem_of_getElem? (i := 54) rfl)) (hw _ (List.mem_of_getElem? (i := 7) rfl)) (by decide) (by decide)) q14a q14c (g := (mkF m 13 #[.val (.ref a), .val (.int (Int32.ofNat j)), s2] [(.ref a), (.int (Int32.ofNat j))])) rfl (by rw [hml]; rfl) (Steps.refl _) (argsL := []) (rest := [(.int (Int32.ofNat j))]) (lenOf pd___I rfl) rfl (by show 2 * 0 + _ ≤ _; exact Nat.le_of_eq rfl) (Jvm.hb hby d_prog_32_method_2_13) (fun _ _ => ⟨rfl, e_, (by decide : 0 + 0 ≤ _), (by decide : 0 + 0 ≤ _)⟩)
        dsimp only [Pt.U, Pt.locs, Pt.cells, Pt.slots] at X14 l14 y14 z14 st14 hQ14
        subst l14 y14 z14
        obtain ⟨rfl, N14q, e14⟩ := hQ14
        have N14 := Fr.app N_ N14q
        have Zc15 : n0 ≤ h0.size := by omega
        obtain ⟨cq16, kq16, q16a, q16b, q16c⟩ := isOf hZ e14 I6
        obtain ⟨_, _, ⟨T16, L16, k16, n16⟩, -, X16, ⟨Lc16, hQ16, l16, y16, z16⟩, st16⟩ := X14.virtualBack hx (y := (⟨"java/lang/String", "charAt", "(I)C"⟩ : MethodName)) (z := (⟨"java/lang/String", "charAt", "(I)C"⟩ : MethodName)) hown (mvT hZ (hw _ (List.mem_of_getElem? (i := 60) rfl))) (mvT hZ (hw _ (List.mem_of_getElem? (i := 61) rfl))) (notFace_of_selects (args := #[]) (mvT hZ (hw _ (List.mem_of_getElem? (i := 63) rfl)))) (mvT hZ (hw _ (List.mem_of_getElem? (i := 63) rfl))) (mvT hZ (hw _ (List.mem_of_getElem? (i := 62) rfl))) (by decide) (backOf (W := 0) (rmChA l Z a0 hw [] a cst b kb cs j fmt h0 n0 Zc15 I1 I2 I3 I4 (hfmt : fmt.isRef = true) I5 OX (hcst : ¬ (cst = (0 : Int32))) I6 I7 I8 I9 (hb : cs.length ≤ 4) (by omega) (hchs : own_chs cs)) hZ (hw _ (List.mem_of_getElem? (i := 64) rfl)) (hw _ (List.mem_of_getElem? (i := 7) rfl)) (by decide) (by decide)) q16a q16c (g := (mkF m 21 #[.val (.ref a), .val (.int (Int32.ofNat j)), s2] [(.int (Int32.ofNat j)), (.ref a)])) rfl (by rw [hml]; rfl) (Steps.refl _) (argsL := [(.int (Int32.ofNat j))]) (rest := []) (lenOf pd__I_C rfl) rfl (by show 2 * 0 + _ ≤ _; exact Nat.le_of_eq rfl) (Jvm.hb hby d_prog_32_method_2_21) (fun _ _ => ⟨rfl, e14, (by decide : 0 + 0 ≤ _), (by decide : 0 + 0 ≤ _)⟩)
        dsimp only [Pt.U, Pt.locs, Pt.cells, Pt.slots] at X16 l16 y16 z16 st16 hQ16
        subst l16 y16 z16
        obtain ⟨rfl, N16q, e16⟩ := hQ16
        have N16 := Fr.app N14 N16q
        have s17 : ∀ t_, Steps p.tables e below (T16.setTop (mkF m 28 #[.val (.ref a), .val (.int (Int32.ofNat j)), .val (.int (cs.getD j 0))] [(.int (48 : Int32)), (.int (cs.getD j 0))])) t_ → Steps p.tables e below (T_.setTop (mkF m 11 #[.val (.ref a), .val (.int (Int32.ofNat j)), s2] [])) t_ := fun t_ k_ => (fun _ k_ => k_) t_ (by
          show Steps p.tables e below (T_.setTop (mkF m 11 #[.val (.ref a), .val (.int (Int32.ofNat j)), s2] [])) t_
          refine XS.iloadN X_.here hx rfl (Jvm.hb hby d_prog_32_method_2_11) rfl ?_
          show Steps p.tables e below (T_.setTop (mkF m 12 #[.val (.ref a), .val (.int (Int32.ofNat j)), s2] [(.int (Int32.ofNat j))])) _
          refine XS.aloadN X_.here hx rfl (Jvm.hb hby d_prog_32_method_2_12) rfl rfl ?_
          show Steps p.tables e below (T_.setTop (mkF m 13 #[.val (.ref a), .val (.int (Int32.ofNat j)), s2] [(.ref a), (.int (Int32.ofNat j))])) _
          refine st14.trans ?_
          show Steps p.tables e below (T14.setTop (mkF m 16 #[.val (.ref a), .val (.int (Int32.ofNat j)), s2] [(.int (Int32.ofNat cs.length)), (.int (Int32.ofNat j))])) _
          refine XS.icmpNo X14.here hx rfl (Jvm.hb hby d_prog_32_method_2_16) rfl (tlt (own_lt (by omega) (by omega))).2.1 ?_
          show Steps p.tables e below (T14.setTop (mkF m 19 #[.val (.ref a), .val (.int (Int32.ofNat j)), s2] [])) _
          refine XS.aloadN X14.here hx rfl (Jvm.hb hby d_prog_32_method_2_19) rfl rfl ?_
          show Steps p.tables e below (T14.setTop (mkF m 20 #[.val (.ref a), .val (.int (Int32.ofNat j)), s2] [(.ref a)])) _
          refine XS.iloadN X14.here hx rfl (Jvm.hb hby d_prog_32_method_2_20) rfl ?_
          show Steps p.tables e below (T14.setTop (mkF m 21 #[.val (.ref a), .val (.int (Int32.ofNat j)), s2] [(.int (Int32.ofNat j)), (.ref a)])) _
          refine st16.trans ?_
          show Steps p.tables e below (T16.setTop (mkF m 24 #[.val (.ref a), .val (.int (Int32.ofNat j)), s2] [(.int (cs.getD j 0))])) _
          refine XS.istoreN X16.here hx rfl (Jvm.hb hby d_prog_32_method_2_24) rfl (l' := #[.val (.ref a), .val (.int (Int32.ofNat j)), .val (.int (cs.getD j 0))]) (os_rmOnly_24 hs2) ?_
          show Steps p.tables e below (T16.setTop (mkF m 25 #[.val (.ref a), .val (.int (Int32.ofNat j)), .val (.int (cs.getD j 0))] [])) _
          refine XS.iloadN X16.here hx rfl (Jvm.hb hby d_prog_32_method_2_25) rfl ?_
          show Steps p.tables e below (T16.setTop (mkF m 26 #[.val (.ref a), .val (.int (Int32.ofNat j)), .val (.int (cs.getD j 0))] [(.int (cs.getD j 0))])) _
          refine XS.bipush X16.here hx rfl (Jvm.hb hby d_prog_32_method_2_26) ?_
          show Steps p.tables e below (T16.setTop (mkF m 28 #[.val (.ref a), .val (.int (Int32.ofNat j)), .val (.int (cs.getD j 0))] [(.int (48 : Int32)), (.int (cs.getD j 0))])) _
          show Steps p.tables e below (T16.setTop (mkF m 28 #[.val (.ref a), .val (.int (Int32.ofNat j)), .val (.int (cs.getD j 0))] [(.int (48 : Int32)), (.int (cs.getD j 0))])) t_
          exact k_)
        by_cases h18 : (cs.getD j 0) < (48 : Int32)
        · have s19 : ∀ t_, Steps p.tables e below (T16.setTop (mkF m 37 #[.val (.ref a), .val (.int (Int32.ofNat j)), .val (.int (cs.getD j 0))] [])) t_ → Steps p.tables e below (T_.setTop (mkF m 11 #[.val (.ref a), .val (.int (Int32.ofNat j)), s2] [])) t_ := fun t_ k_ => s17 t_ (by
            show Steps p.tables e below (T16.setTop (mkF m 28 #[.val (.ref a), .val (.int (Int32.ofNat j)), .val (.int (cs.getD j 0))] [(.int (48 : Int32)), (.int (cs.getD j 0))])) t_
            refine XS.icmpYes X16.here hx rfl (pc0 := 28) (pc' := 37) rfl (Jvm.hb hby d_prog_32_method_2_28) rfl (tlt h18).1 (by decide) (by decide) ?_
            show Steps p.tables e below (T16.setTop (mkF m 37 #[.val (.ref a), .val (.int (Int32.ofNat j)), .val (.int (cs.getD j 0))] [])) _
            show Steps p.tables e below (T16.setTop (mkF m 37 #[.val (.ref a), .val (.int (Int32.ofNat j)), .val (.int (cs.getD j 0))] [])) t_
            exact k_)
          exact ⟨T16, _, _, X16, e16, N16, (Or.inr ⟨j, rfl, (by omega), (fun q => q.1 h18)⟩), s19⟩
        · have s20 : ∀ t_, Steps p.tables e below (T16.setTop (mkF m 34 #[.val (.ref a), .val (.int (Int32.ofNat j)), .val (.int (cs.getD j 0))] [(.int (57 : Int32)), (.int (cs.getD j 0))])) t_ → Steps p.tables e below (T_.setTop (mkF m 11 #[.val (.ref a), .val (.int (Int32.ofNat j)), s2] [])) t_ := fun t_ k_ => s17 t_ (by
            show Steps p.tables e below (T16.setTop (mkF m 28 #[.val (.ref a), .val (.int (Int32.ofNat j)), .val (.int (cs.getD j 0))] [(.int (48 : Int32)), (.int (cs.getD j 0))])) t_
            refine XS.icmpNo X16.here hx rfl (Jvm.hb hby d_prog_32_method_2_28) rfl (flt h18).1 ?_
            show Steps p.tables e below (T16.setTop (mkF m 31 #[.val (.ref a), .val (.int (Int32.ofNat j)), .val (.int (cs.getD j 0))] [])) _
            refine XS.iloadN X16.here hx rfl (Jvm.hb hby d_prog_32_method_2_31) rfl ?_
            show Steps p.tables e below (T16.setTop (mkF m 32 #[.val (.ref a), .val (.int (Int32.ofNat j)), .val (.int (cs.getD j 0))] [(.int (cs.getD j 0))])) _
            refine XS.bipush X16.here hx rfl (Jvm.hb hby d_prog_32_method_2_32) ?_
            show Steps p.tables e below (T16.setTop (mkF m 34 #[.val (.ref a), .val (.int (Int32.ofNat j)), .val (.int (cs.getD j 0))] [(.int (57 : Int32)), (.int (cs.getD j 0))])) _
            show Steps p.tables e below (T16.setTop (mkF m 34 #[.val (.ref a), .val (.int (Int32.ofNat j)), .val (.int (cs.getD j 0))] [(.int (57 : Int32)), (.int (cs.getD j 0))])) t_
            exact k_)
          by_cases h21 : (57 : Int32) < (cs.getD j 0)
          · have s22 : ∀ t_, Steps p.tables e below (T16.setTop (mkF m 37 #[.val (.ref a), .val (.int (Int32.ofNat j)), .val (.int (cs.getD j 0))] [])) t_ → Steps p.tables e below (T_.setTop (mkF m 11 #[.val (.ref a), .val (.int (Int32.ofNat j)), s2] [])) t_ := fun t_ k_ => s20 t_ (by
              show Steps p.tables e below (T16.setTop (mkF m 34 #[.val (.ref a), .val (.int (Int32.ofNat j)), .val (.int (cs.getD j 0))] [(.int (57 : Int32)), (.int (cs.getD j 0))])) t_
              refine XS.icmpNo X16.here hx rfl (Jvm.hb hby d_prog_32_method_2_34) rfl (tlt h21).2.2.2 ?_
              show Steps p.tables e below (T16.setTop (mkF m 37 #[.val (.ref a), .val (.int (Int32.ofNat j)), .val (.int (cs.getD j 0))] [])) _
              show Steps p.tables e below (T16.setTop (mkF m 37 #[.val (.ref a), .val (.int (Int32.ofNat j)), .val (.int (cs.getD j 0))] [])) t_
              exact k_)
            exact ⟨T16, _, _, X16, e16, N16, (Or.inr ⟨j, rfl, (by omega), (fun q => q.2 h21)⟩), s22⟩
          · have s23 : ∀ t_, Steps p.tables e below (T16.setTop (mkF m 11 #[.val (.ref a), .val (.int ((Int32.ofNat j) + (1 : Int32))), .val (.int (cs.getD j 0))] [])) t_ → Steps p.tables e below (T_.setTop (mkF m 11 #[.val (.ref a), .val (.int (Int32.ofNat j)), s2] [])) t_ := fun t_ k_ => s20 t_ (by
              show Steps p.tables e below (T16.setTop (mkF m 34 #[.val (.ref a), .val (.int (Int32.ofNat j)), .val (.int (cs.getD j 0))] [(.int (57 : Int32)), (.int (cs.getD j 0))])) t_
              refine XS.icmpYes X16.here hx rfl (pc0 := 34) (pc' := 39) rfl (Jvm.hb hby d_prog_32_method_2_34) rfl (flt h21).2.2.2 (by decide) (by decide) ?_
              show Steps p.tables e below (T16.setTop (mkF m 39 #[.val (.ref a), .val (.int (Int32.ofNat j)), .val (.int (cs.getD j 0))] [])) _
              refine XS.iinc X16.here hx rfl (Jvm.hb hby d_prog_32_method_2_39) rfl (l' := #[.val (.ref a), .val (.int ((Int32.ofNat j) + (1 : Int32))), .val (.int (cs.getD j 0))]) rfl ?_
              show Steps p.tables e below (T16.setTop (mkF m 42 #[.val (.ref a), .val (.int ((Int32.ofNat j) + (1 : Int32))), .val (.int (cs.getD j 0))] [])) _
              refine XS.goto X16.here hx rfl (pc0 := 42) (pc' := 11) rfl (Jvm.hb hby d_prog_32_method_2_42) (by decide) (by decide) ?_
              show Steps p.tables e below (T16.setTop (mkF m 11 #[.val (.ref a), .val (.int ((Int32.ofNat j) + (1 : Int32))), .val (.int (cs.getD j 0))] [])) _
              show Steps p.tables e below (T16.setTop (mkF m 11 #[.val (.ref a), .val (.int ((Int32.ofNat j) + (1 : Int32))), .val (.int (cs.getD j 0))] [])) t_
              exact k_)
            obtain ⟨T24, lo24, fe24, X24, e24, N24, A24, st24⟩ := ih (j + 1) (.val (.int (cs.getD j 0))) T16 _  (by omega) X16 e16 N16   (One.val rfl) (fun i hi => by rcases Nat.lt_succ_iff_lt_or_eq.mp hi with q | q; exact hp i q; rw [q]; exact ⟨h18, h21⟩)
            exact ⟨T24, lo24, fe24, X24, e24, N24, A24, fun t_ k_ => s23 t_ (castTop (by rw [own_up]) (st24 t_ k_))⟩
    obtain ⟨T25, lo25, fe25, X25, e25, N25, A25, st25⟩ := lp9 cs.length 0 .unset T2 _  (by omega) X2 e2 N2   One.u (fun i hi => absurd hi (Nat.not_lt_zero i))
    rcases A25 with ⟨s2_25, rfl, J25_0⟩ | ⟨jj_25, rfl, J25_0, J25_1⟩
    · have s26 : ∀ t_, Steps p.tables e below (T25.setTop (mkF m 45 #[.val (.ref a), .val (.int (Int32.ofNat cs.length)), s2_25] [])) t_ → Steps p.tables e below (s₁.setTop (entryFrame m #[(.ref a)] 3)) t_ := fun t_ k_ => s8 t_ (st25 t_ k_)
      have s27 : ∀ t_, Steps p.tables e below (T25.setTop (mkF m 46 #[.val (.ref a), .val (.int (Int32.ofNat cs.length)), s2_25] [(.int (1 : Int32))])) t_ → Steps p.tables e below (s₁.setTop (entryFrame m #[(.ref a)] 3)) t_ := fun t_ k_ => s26 t_ (by
        show Steps p.tables e below (T25.setTop (mkF m 45 #[.val (.ref a), .val (.int (Int32.ofNat cs.length)), s2_25] [])) t_
        refine XS.iconst X25.here hx rfl (Jvm.hb hby d_prog_32_method_2_45) ?_
        show Steps p.tables e below (T25.setTop (mkF m 46 #[.val (.ref a), .val (.int (Int32.ofNat cs.length)), s2_25] [(.int (1 : Int32))])) _
        show Steps p.tables e below (T25.setTop (mkF m 46 #[.val (.ref a), .val (.int (Int32.ofNat cs.length)), s2_25] [(.int (1 : Int32))])) t_
        exact k_)
      obtain ⟨fs, hr, hrun, hended, hW, hsame⟩ := X25.leave (v := some (.int (1 : Int32))) (fun h => by rw [Bd.returns] at h; cases h)
      refine ⟨_, _, s27 _ ?_, hrun, hended, _, _, rfl, ?_, ⟨_, rfl⟩, hW, hsame.mono (by decide) (by decide)⟩
      · show Steps p.tables e below (T25.setTop (mkF m 46 #[.val (.ref a), .val (.int (Int32.ofNat cs.length)), s2_25] [(.int (1 : Int32))])) _
        exact retN X25 hx (t := .boolean) Bd.returns (by simp) (Jvm.hb hby d_prog_32_method_2_46) hr
      · show Q_rmOnly Z _ _ _ _ _ _ h0 n0 _ T25.heap _
        rw [e25]
        exact ⟨(by rw [own_onlyT h4 J25_0]), N25, rfl⟩
    · have s28 : ∀ t_, Steps p.tables e below (T25.setTop (mkF m 37 #[.val (.ref a), .val (.int (Int32.ofNat jj_25)), .val (.int (cs.getD jj_25 0))] [])) t_ → Steps p.tables e below (s₁.setTop (entryFrame m #[(.ref a)] 3)) t_ := fun t_ k_ => s8 t_ (st25 t_ k_)
      have s29 : ∀ t_, Steps p.tables e below (T25.setTop (mkF m 38 #[.val (.ref a), .val (.int (Int32.ofNat jj_25)), .val (.int (cs.getD jj_25 0))] [(.int (0 : Int32))])) t_ → Steps p.tables e below (s₁.setTop (entryFrame m #[(.ref a)] 3)) t_ := fun t_ k_ => s28 t_ (by
        show Steps p.tables e below (T25.setTop (mkF m 37 #[.val (.ref a), .val (.int (Int32.ofNat jj_25)), .val (.int (cs.getD jj_25 0))] [])) t_
        refine XS.iconst X25.here hx rfl (Jvm.hb hby d_prog_32_method_2_37) ?_
        show Steps p.tables e below (T25.setTop (mkF m 38 #[.val (.ref a), .val (.int (Int32.ofNat jj_25)), .val (.int (cs.getD jj_25 0))] [(.int (0 : Int32))])) _
        show Steps p.tables e below (T25.setTop (mkF m 38 #[.val (.ref a), .val (.int (Int32.ofNat jj_25)), .val (.int (cs.getD jj_25 0))] [(.int (0 : Int32))])) t_
        exact k_)
      obtain ⟨fs, hr, hrun, hended, hW, hsame⟩ := X25.leave (v := some (.int (0 : Int32))) (fun h => by rw [Bd.returns] at h; cases h)
      refine ⟨_, _, s29 _ ?_, hrun, hended, _, _, rfl, ?_, ⟨_, rfl⟩, hW, hsame.mono (by decide) (by decide)⟩
      · show Steps p.tables e below (T25.setTop (mkF m 38 #[.val (.ref a), .val (.int (Int32.ofNat jj_25)), .val (.int (cs.getD jj_25 0))] [(.int (0 : Int32))])) _
        exact retN X25 hx (t := .boolean) Bd.returns (by simp) (Jvm.hb hby d_prog_32_method_2_38) hr
      · show Q_rmOnly Z _ _ _ _ _ _ h0 n0 _ T25.heap _
        rw [e25]
        exact ⟨(by rw [own_onlyF (own_mem cs _ J25_0) J25_1]), N25, rfl⟩
theorem d_method_2_0 : decode method_2_code 0 = .ok (.iload_n 0, 1) := by decide +kernel
theorem d_method_2_1 : decode method_2_code 1 = .ok (.bipush 48, 2) := by decide +kernel
theorem d_method_2_3 : decode method_2_code 3 = .ok (.if_icmp .lt 13, 3) := by decide +kernel
theorem d_method_2_16 : decode method_2_code 16 = .ok (.iconst 0, 1) := by decide +kernel
theorem d_method_2_6 : decode method_2_code 6 = .ok (.iload_n 0, 1) := by decide +kernel
theorem d_method_2_7 : decode method_2_code 7 = .ok (.bipush 57, 2) := by decide +kernel
theorem d_method_2_9 : decode method_2_code 9 = .ok (.if_icmp .gt 7, 3) := by decide +kernel
theorem d_method_2_12 : decode method_2_code 12 = .ok (.iconst 1, 1) := by decide +kernel
theorem d_method_2_13 : decode method_2_code 13 = .ok (.goto 4, 3) := by decide +kernel
theorem d_method_2_17 : decode method_2_code 17 = .ok (.ireturn, 1) := by decide +kernel
theorem ef_rmDig (m : MethodId) (x0 : Int32) : entryFrame m #[(.int x0)] 1 = mkF m 0 #[.val (.int x0)] [] := by first | (simp [entryFrame, mkF, argsToLocals, Value.category]; done) | rfl
def Q_rmDig (Z : State) (ch : Int32) (h0 : Heap) (n0 : Nat) (v : Option Value) (h : Heap) (L : List Loc) : Prop := (v = some (.int (if own_dig ch then (1 : Int32) else (0 : Int32)))) ∧ (Fr n0 L) ∧ (h = h0)
set_option maxRecDepth 65536 in
set_option maxHeartbeats 40000000 in
theorem rmDig (l : Launch) (Z : State) (a0 : Array Value) (hw : ∀ d ∈ tables_1, d.before a0 Z = true) (ws : List Jvm.Cond) (ch : Int32) (h0 : Heap) (n0 : Nat) (Z0 : n0 ≤ h0.size)  :
    MetFree l (⟨"com/example/zastupnik/zastupnik/protocol/AsciiDigitsOnlyPinLaw", "digit", "(C)Z"⟩ : MethodName) (head1 (Jvm.Cond.code (⟨"com/example/zastupnik/zastupnik/protocol/AsciiDigitsOnlyPinLaw", "digit", "(C)Z"⟩ : MethodName) method_2_code 1 (some .boolean) :: ws) ({ frames := 0, cells := 0, slots := 0, locals := 0 } : Room)) (fun ar_ U => ar_ = #[(.int ch)] ∧ Z.Warmed39 U.vm ∧ U.heap = h0) (fun _ _ _ _ _ => True) (fun _ U o U' => ∃ v L, o = .returned v ∧ Q_rmDig Z ch h0 n0 v U'.heap L ∧ FrameEnd U o U' L ({ frames := 0, cells := 0, slots := 0, locals := 0 } : Room).cells ({ frames := 0, cells := 0, slots := 0, locals := 0 } : Room).slots) := by
  refine MetFree.of_bodySF (plainFor_of_name pn_com_example_zastupnik_zastupnik_protocol_AsciiDigitsOnlyPinLaw) hisR ?_
  intro p e s m args below meth c s₁ Bd hml0 hP hK
  obtain ⟨rfl, hZ, hh⟩ := hP
  have hx := Bd.exec
  have hby := Bd.bytes
  have hml : c.maxLocals = 1 := hml0
  have hown : s.vm.findClass "com/example/zastupnik/zastupnik/protocol/AsciiDigitsOnlyPinLaw" = some m.cls := findClass_of_methodNamed Bd.named
  have hnm := (name_of_methodNamed Bd.named Bd.method).1
  have X0 : Stand p l e ({ frames := 0, cells := 0, slots := 0, locals := 0 } : Room) s m #[(.int ch)] below meth c s₁ [] 0 0 := Stand.of_body Bd
  have e0 : s₁.heap = h0 := by rw [← hh, Bd.state]; rfl
  have N0 := Fr.nil n0
  have pre0 : ∀ t_, Steps p.tables e below (s₁.setTop (mkF m 0 #[.val (.int ch)] [])) t_ → Steps p.tables e below (s₁.setTop (entryFrame m #[(.int ch)] 1)) t_ := fun t_ k_ => castTop (ef_rmDig m ch) k_
  have s1 : ∀ t_, Steps p.tables e below (s₁.setTop (mkF m 3 #[.val (.int ch)] [(.int (48 : Int32)), (.int ch)])) t_ → Steps p.tables e below (s₁.setTop (entryFrame m #[(.int ch)] 1)) t_ := fun t_ k_ => pre0 t_ (by
    show Steps p.tables e below (s₁.setTop (mkF m 0 #[.val (.int ch)] [])) t_
    refine XS.iloadN X0.here hx rfl (Jvm.hb hby d_method_2_0) rfl ?_
    show Steps p.tables e below (s₁.setTop (mkF m 1 #[.val (.int ch)] [(.int ch)])) _
    refine XS.bipush X0.here hx rfl (Jvm.hb hby d_method_2_1) ?_
    show Steps p.tables e below (s₁.setTop (mkF m 3 #[.val (.int ch)] [(.int (48 : Int32)), (.int ch)])) _
    show Steps p.tables e below (s₁.setTop (mkF m 3 #[.val (.int ch)] [(.int (48 : Int32)), (.int ch)])) t_
    exact k_)
  obtain ⟨T2, X2, e2, s2⟩ := seg X0 (fun T' => T'.heap = h0 ∧ ∀ t_, Steps p.tables e below (T'.setTop (mkF m 17 #[.val (.int ch)] [(.int (if ch < (48 : Int32) then (0 : Int32) else (if (57 : Int32) < ch then (0 : Int32) else (1 : Int32))))])) t_ → Steps p.tables e below (s₁.setTop (entryFrame m #[(.int ch)] 1)) t_) (by
    by_cases h3 : ch < (48 : Int32)
    · have s4 : ∀ t_, Steps p.tables e below (s₁.setTop (mkF m 17 #[.val (.int ch)] [(.int (0 : Int32))])) t_ → Steps p.tables e below (s₁.setTop (entryFrame m #[(.int ch)] 1)) t_ := fun t_ k_ => s1 t_ (by
        show Steps p.tables e below (s₁.setTop (mkF m 3 #[.val (.int ch)] [(.int (48 : Int32)), (.int ch)])) t_
        refine XS.icmpYes X0.here hx rfl (pc0 := 3) (pc' := 16) rfl (Jvm.hb hby d_method_2_3) rfl (tlt h3).1 (by decide) (by decide) ?_
        show Steps p.tables e below (s₁.setTop (mkF m 16 #[.val (.int ch)] [])) _
        refine XS.iconst X0.here hx rfl (Jvm.hb hby d_method_2_16) ?_
        show Steps p.tables e below (s₁.setTop (mkF m 17 #[.val (.int ch)] [(.int (0 : Int32))])) _
        show Steps p.tables e below (s₁.setTop (mkF m 17 #[.val (.int ch)] [(.int (0 : Int32))])) t_
        exact k_)
      exact ⟨s₁, X0, e0, fun t_ k_ => s4 t_ (castTop (by simp only [if_pos h3]) k_)⟩
    · have s5 : ∀ t_, Steps p.tables e below (s₁.setTop (mkF m 9 #[.val (.int ch)] [(.int (57 : Int32)), (.int ch)])) t_ → Steps p.tables e below (s₁.setTop (entryFrame m #[(.int ch)] 1)) t_ := fun t_ k_ => s1 t_ (by
        show Steps p.tables e below (s₁.setTop (mkF m 3 #[.val (.int ch)] [(.int (48 : Int32)), (.int ch)])) t_
        refine XS.icmpNo X0.here hx rfl (Jvm.hb hby d_method_2_3) rfl (flt h3).1 ?_
        show Steps p.tables e below (s₁.setTop (mkF m 6 #[.val (.int ch)] [])) _
        refine XS.iloadN X0.here hx rfl (Jvm.hb hby d_method_2_6) rfl ?_
        show Steps p.tables e below (s₁.setTop (mkF m 7 #[.val (.int ch)] [(.int ch)])) _
        refine XS.bipush X0.here hx rfl (Jvm.hb hby d_method_2_7) ?_
        show Steps p.tables e below (s₁.setTop (mkF m 9 #[.val (.int ch)] [(.int (57 : Int32)), (.int ch)])) _
        show Steps p.tables e below (s₁.setTop (mkF m 9 #[.val (.int ch)] [(.int (57 : Int32)), (.int ch)])) t_
        exact k_)
      by_cases h6 : (57 : Int32) < ch
      · have s7 : ∀ t_, Steps p.tables e below (s₁.setTop (mkF m 17 #[.val (.int ch)] [(.int (0 : Int32))])) t_ → Steps p.tables e below (s₁.setTop (entryFrame m #[(.int ch)] 1)) t_ := fun t_ k_ => s5 t_ (by
          show Steps p.tables e below (s₁.setTop (mkF m 9 #[.val (.int ch)] [(.int (57 : Int32)), (.int ch)])) t_
          refine XS.icmpYes X0.here hx rfl (pc0 := 9) (pc' := 16) rfl (Jvm.hb hby d_method_2_9) rfl (tlt h6).2.2.1 (by decide) (by decide) ?_
          show Steps p.tables e below (s₁.setTop (mkF m 16 #[.val (.int ch)] [])) _
          refine XS.iconst X0.here hx rfl (Jvm.hb hby d_method_2_16) ?_
          show Steps p.tables e below (s₁.setTop (mkF m 17 #[.val (.int ch)] [(.int (0 : Int32))])) _
          show Steps p.tables e below (s₁.setTop (mkF m 17 #[.val (.int ch)] [(.int (0 : Int32))])) t_
          exact k_)
        exact ⟨s₁, X0, e0, fun t_ k_ => s7 t_ (castTop (by simp only [if_neg h3, if_pos h6]) k_)⟩
      · have s8 : ∀ t_, Steps p.tables e below (s₁.setTop (mkF m 17 #[.val (.int ch)] [(.int (1 : Int32))])) t_ → Steps p.tables e below (s₁.setTop (entryFrame m #[(.int ch)] 1)) t_ := fun t_ k_ => s5 t_ (by
          show Steps p.tables e below (s₁.setTop (mkF m 9 #[.val (.int ch)] [(.int (57 : Int32)), (.int ch)])) t_
          refine XS.icmpNo X0.here hx rfl (Jvm.hb hby d_method_2_9) rfl (flt h6).2.2.1 ?_
          show Steps p.tables e below (s₁.setTop (mkF m 12 #[.val (.int ch)] [])) _
          refine XS.iconst X0.here hx rfl (Jvm.hb hby d_method_2_12) ?_
          show Steps p.tables e below (s₁.setTop (mkF m 13 #[.val (.int ch)] [(.int (1 : Int32))])) _
          refine XS.goto X0.here hx rfl (pc0 := 13) (pc' := 17) rfl (Jvm.hb hby d_method_2_13) (by decide) (by decide) ?_
          show Steps p.tables e below (s₁.setTop (mkF m 17 #[.val (.int ch)] [(.int (1 : Int32))])) _
          show Steps p.tables e below (s₁.setTop (mkF m 17 #[.val (.int ch)] [(.int (1 : Int32))])) t_
          exact k_)
        exact ⟨s₁, X0, e0, fun t_ k_ => s8 t_ (castTop (by simp only [if_neg h3, if_neg h6]) k_)⟩)
  obtain ⟨fs, hr, hrun, hended, hW, hsame⟩ := X2.leave (v := some (.int (nar .boolean (if ch < (48 : Int32) then (0 : Int32) else (if (57 : Int32) < ch then (0 : Int32) else (1 : Int32)))))) (fun h => by rw [Bd.returns] at h; cases h)
  refine ⟨_, _, s2 _ ?_, hrun, hended, _, _, rfl, ?_, ⟨_, rfl⟩, hW, hsame.mono (by decide) (by decide)⟩
  · show Steps p.tables e below (T2.setTop (mkF m 17 #[.val (.int ch)] [(.int (if ch < (48 : Int32) then (0 : Int32) else (if (57 : Int32) < ch then (0 : Int32) else (1 : Int32))))])) _
    exact retN X2 hx (t := .boolean) Bd.returns (by simp) (Jvm.hb hby d_method_2_17) hr
  · show Q_rmDig Z _ h0 n0 _ T2.heap _
    rw [e2]
    exact ⟨(own_digr ch), N0, rfl⟩
theorem pd__ICCCC_Ljava_lang_String_ : parseMethodDescriptor "(ICCCC)Ljava/lang/String;" = some ⟨[.int, .char, .char, .char, .char], some (.object "java/lang/String")⟩ := by decide +kernel
theorem pd__Ljava_lang_String__Z : parseMethodDescriptor "(Ljava/lang/String;)Z" = some ⟨[(.object "java/lang/String")], some .boolean⟩ := by decide +kernel
theorem pd__C_Z : parseMethodDescriptor "(C)Z" = some ⟨[.char], some .boolean⟩ := by decide +kernel
theorem ef_rmLaw (m : MethodId) (x0 : Int32) (x1 : Int32) (x2 : Int32) (x3 : Int32) (x4 : Int32) : entryFrame m #[(.int x0), (.int x1), (.int x2), (.int x3), (.int x4)] maxLocals = mkF m 0 #[.val (.int x0), .val (.int x1), .val (.int x2), .val (.int x3), .val (.int x4), .unset, .unset, .unset, .unset, .unset, .unset, .unset] [] := by first | (simp [entryFrame, mkF, argsToLocals, Value.category, maxLocals]; done) | rfl
def Q_rmLaw (Z : State) (len : Int32) (xa : Int32) (xb : Int32) (xc : Int32) (xd : Int32) (cst : Int32) (fmt : Value) (h0 : Heap) (n0 : Nat) (v : Option Value) (h : Heap) (L : List Loc) : Prop := v = some (.int 1) ∧ Fr n0 L
set_option maxRecDepth 65536 in
set_option maxHeartbeats 40000000 in
theorem rmLaw (l : Launch) (Z : State) (a0 : Array Value) (hw : ∀ d ∈ tables_1, d.before a0 Z = true) (ws : List Jvm.Cond) (len : Int32) (xa : Int32) (xb : Int32) (xc : Int32) (xd : Int32) (cst : Int32) (fmt : Value) (h0 : Heap) (n0 : Nat) (Z0 : n0 ≤ h0.size) (I1 : Sta Z Z.heap "java/lang/String" "COMPACT_STRINGS" "Z" (.int cst)) (I2 : Sta Z Z.heap "java/lang/StringUTF16" "$assertionsDisabled" "Z" (.int (1 : Int32))) (I3 : Sta Z Z.heap "java/lang/StringUTF16" "HI_BYTE_SHIFT" "I" (.int (0 : Int32))) (I4 : Sta Z Z.heap "java/lang/StringUTF16" "LO_BYTE_SHIFT" "I" (.int (8 : Int32))) (hfmt : fmt.isRef = true) (I5 : Sta Z Z.heap "jdk/internal/util/Preconditions" "SIOOBE_FORMATTER" "Ljava/util/function/BiFunction;" fmt) (OX : Old Z n0 h0) (hcst : ¬ (cst = (0 : Int32))) :
    MetFree l x (head1 (Jvm.Cond.code x code maxLocals ret :: ws) room_1) (fun ar_ U => ar_ = #[(.int len), (.int xa), (.int xb), (.int xc), (.int xd)] ∧ Z.Warmed39 U.vm ∧ U.heap = h0 ∧ CHv Z ELs U.vm h0) (fun _ _ _ _ _ => True) (fun _ U o U' => ∃ v L, o = .returned v ∧ Q_rmLaw Z len xa xb xc xd cst fmt h0 n0 v U'.heap L ∧ CHr Z ELs U.vm U.heap U'.vm U'.heap ∧ ReturnedEndW U o U' L room_1.cells room_1.slots) := by
  refine MetFree.of_bodySF (plainFor_of_name pn_com_example_zastupnik_zastupnik_protocol_AsciiDigitsOnlyPinLaw) hisR ?_
  intro p e s m args below meth c s₁ Bd hml0 hP hK
  obtain ⟨rfl, hZ, hh, hCH⟩ := hP
  have hx := Bd.exec
  have hby := Bd.bytes
  have hml : c.maxLocals = 12 := hml0
  have hown : s.vm.findClass "com/example/zastupnik/zastupnik/protocol/AsciiDigitsOnlyPinLaw" = some m.cls := findClass_of_methodNamed Bd.named
  have hnm := (name_of_methodNamed Bd.named Bd.method).1
  have X0 : Stand p l e room_1 (s.setVm s.vm) m #[(.int len), (.int xa), (.int xb), (.int xc), (.int xd)] below meth c s₁ [] 0 0 := Stand.of_body Bd
  have e0 : s₁.heap = h0 := by rw [← hh, Bd.state]; rfl
  have N0 := Fr.nil n0
  have pre0 : ∀ t_, Steps p.tables e below (s₁.setTop (mkF m 0 #[.val (.int len), .val (.int xa), .val (.int xb), .val (.int xc), .val (.int xd), .unset, .unset, .unset, .unset, .unset, .unset, .unset] [])) t_ → Steps p.tables e below (s₁.setTop (entryFrame m #[(.int len), (.int xa), (.int xb), (.int xc), (.int xd)] maxLocals)) t_ := fun t_ k_ => castTop (ef_rmLaw m len xa xb xc xd) k_
  have hEL : EW Z a0 ELs := own_EW hw
  have wS : ∀ a ∈ Bundle.stringAtoms, a.before a0 Z = true := own_wS hw
  have hS : s.Since s.vm s.heap.size := (State.WarmedH.refl s).since _
  have hk : s.heap.size ≤ h0.size := by rw [hh]; exact Nat.le_refl _
  have CR : CHr Z ELs s.vm h0 s.vm h0 := CHr.refl hCH
  obtain ⟨nn, hnn, hnl⟩ := own_75 len
  obtain ⟨q1, hq1⟩ : ∃ z : Int32, z = (i2c (xa &&& (65535 : Int32))) := ⟨_, rfl⟩
  obtain ⟨q2, hq2⟩ : ∃ z : Int32, z = (i2c (xb &&& (65535 : Int32))) := ⟨_, rfl⟩
  obtain ⟨q3, hq3⟩ : ∃ z : Int32, z = (i2c (xc &&& (65535 : Int32))) := ⟨_, rfl⟩
  obtain ⟨q4, hq4⟩ : ∃ z : Int32, z = (i2c (xd &&& (65535 : Int32))) := ⟨_, rfl⟩
  have s5 : ∀ t_, Steps p.tables e below (s₁.setTop (mkF m 47 #[.val (.int len), .val (.int xa), .val (.int xb), .val (.int xc), .val (.int xd), .val (.int (Int32.ofNat nn)), .val (.int q1), .val (.int q2), .val (.int q3), .val (.int q4), .unset, .unset] [(.int q4), (.int q3), (.int q2), (.int q1), (.int (Int32.ofNat nn))])) t_ → Steps p.tables e below (s₁.setTop (entryFrame m #[(.int len), (.int xa), (.int xb), (.int xc), (.int xd)] maxLocals)) t_ := fun t_ k_ => pre0 t_ (by
    show Steps p.tables e below (s₁.setTop (mkF m 0 #[.val (.int len), .val (.int xa), .val (.int xb), .val (.int xc), .val (.int xd), .unset, .unset, .unset, .unset, .unset, .unset, .unset] [])) t_
    refine XS.iloadN X0.here hx rfl (Jvm.hb hby at_0) rfl ?_
    show Steps p.tables e below (s₁.setTop (mkF m 1 #[.val (.int len), .val (.int xa), .val (.int xb), .val (.int xc), .val (.int xd), .unset, .unset, .unset, .unset, .unset, .unset, .unset] [(.int len)])) _
    refine XS.bipush X0.here hx rfl (Jvm.hb hby at_1) ?_
    show Steps p.tables e below (s₁.setTop (mkF m 3 #[.val (.int len), .val (.int xa), .val (.int xb), .val (.int xc), .val (.int xd), .unset, .unset, .unset, .unset, .unset, .unset, .unset] [(.int (7 : Int32)), (.int len)])) _
    refine XS.iand X0.here hx rfl (Jvm.hb hby at_3) rfl ?_
    show Steps p.tables e below (s₁.setTop (mkF m 4 #[.val (.int len), .val (.int xa), .val (.int xb), .val (.int xc), .val (.int xd), .unset, .unset, .unset, .unset, .unset, .unset, .unset] [(.int (len &&& (7 : Int32)))])) _
    refine XS.iconst X0.here hx rfl (Jvm.hb hby at_4) ?_
    show Steps p.tables e below (s₁.setTop (mkF m 5 #[.val (.int len), .val (.int xa), .val (.int xb), .val (.int xc), .val (.int xd), .unset, .unset, .unset, .unset, .unset, .unset, .unset] [(.int (5 : Int32)), (.int (len &&& (7 : Int32)))])) _
    refine iremM (g := (mkF m 5 #[.val (.int len), .val (.int xa), .val (.int xb), .val (.int xc), .val (.int xd), .unset, .unset, .unset, .unset, .unset, .unset, .unset] [(.int (5 : Int32)), (.int (len &&& (7 : Int32)))])) X0 hx rfl (Jvm.hb hby at_5) rfl (by decide) ?_
    show Steps p.tables e below (s₁.setTop (mkF m 6 #[.val (.int len), .val (.int xa), .val (.int xb), .val (.int xc), .val (.int xd), .unset, .unset, .unset, .unset, .unset, .unset, .unset] [(.int ((len &&& (7 : Int32)) % (5 : Int32)))])) _
    refine XS.istore X0.here hx rfl (Jvm.hb hby at_6) rfl (l' := #[.val (.int len), .val (.int xa), .val (.int xb), .val (.int xc), .val (.int xd), .val (.int ((len &&& (7 : Int32)) % (5 : Int32))), .unset, .unset, .unset, .unset, .unset, .unset]) rfl ?_
    show Steps p.tables e below (s₁.setTop (mkF m 8 #[.val (.int len), .val (.int xa), .val (.int xb), .val (.int xc), .val (.int xd), .val (.int ((len &&& (7 : Int32)) % (5 : Int32))), .unset, .unset, .unset, .unset, .unset, .unset] [])) _
    refine XS.iloadN X0.here hx rfl (Jvm.hb hby at_8) rfl ?_
    show Steps p.tables e below (s₁.setTop (mkF m 9 #[.val (.int len), .val (.int xa), .val (.int xb), .val (.int xc), .val (.int xd), .val (.int ((len &&& (7 : Int32)) % (5 : Int32))), .unset, .unset, .unset, .unset, .unset, .unset] [(.int xa)])) _
    refine X0.ldcInt hx hown (mvT hZ (hw _ (List.mem_of_getElem? (i := 0) rfl))) (g := (mkF m 9 #[.val (.int len), .val (.int xa), .val (.int xb), .val (.int xc), .val (.int xd), .val (.int ((len &&& (7 : Int32)) % (5 : Int32))), .unset, .unset, .unset, .unset, .unset, .unset] [(.int xa)])) rfl (Jvm.hb hby at_9) _ ?_
    show Steps p.tables e below (s₁.setTop (mkF m 11 #[.val (.int len), .val (.int xa), .val (.int xb), .val (.int xc), .val (.int xd), .val (.int ((len &&& (7 : Int32)) % (5 : Int32))), .unset, .unset, .unset, .unset, .unset, .unset] [(.int (65535 : Int32)), (.int xa)])) _
    refine XS.iand X0.here hx rfl (Jvm.hb hby at_11) rfl ?_
    show Steps p.tables e below (s₁.setTop (mkF m 12 #[.val (.int len), .val (.int xa), .val (.int xb), .val (.int xc), .val (.int xd), .val (.int ((len &&& (7 : Int32)) % (5 : Int32))), .unset, .unset, .unset, .unset, .unset, .unset] [(.int (xa &&& (65535 : Int32)))])) _
    refine XS.i2c X0.here hx rfl (Jvm.hb hby at_12) rfl ?_
    show Steps p.tables e below (s₁.setTop (mkF m 13 #[.val (.int len), .val (.int xa), .val (.int xb), .val (.int xc), .val (.int xd), .val (.int ((len &&& (7 : Int32)) % (5 : Int32))), .unset, .unset, .unset, .unset, .unset, .unset] [(.int (i2c (xa &&& (65535 : Int32))))])) _
    refine XS.istore X0.here hx rfl (Jvm.hb hby at_13) rfl (l' := #[.val (.int len), .val (.int xa), .val (.int xb), .val (.int xc), .val (.int xd), .val (.int ((len &&& (7 : Int32)) % (5 : Int32))), .val (.int (i2c (xa &&& (65535 : Int32)))), .unset, .unset, .unset, .unset, .unset]) rfl ?_
    show Steps p.tables e below (s₁.setTop (mkF m 15 #[.val (.int len), .val (.int xa), .val (.int xb), .val (.int xc), .val (.int xd), .val (.int ((len &&& (7 : Int32)) % (5 : Int32))), .val (.int (i2c (xa &&& (65535 : Int32)))), .unset, .unset, .unset, .unset, .unset] [])) _
    refine XS.iloadN X0.here hx rfl (Jvm.hb hby at_15) rfl ?_
    show Steps p.tables e below (s₁.setTop (mkF m 16 #[.val (.int len), .val (.int xa), .val (.int xb), .val (.int xc), .val (.int xd), .val (.int ((len &&& (7 : Int32)) % (5 : Int32))), .val (.int (i2c (xa &&& (65535 : Int32)))), .unset, .unset, .unset, .unset, .unset] [(.int xb)])) _
    refine X0.ldcInt hx hown (mvT hZ (hw _ (List.mem_of_getElem? (i := 0) rfl))) (g := (mkF m 16 #[.val (.int len), .val (.int xa), .val (.int xb), .val (.int xc), .val (.int xd), .val (.int ((len &&& (7 : Int32)) % (5 : Int32))), .val (.int (i2c (xa &&& (65535 : Int32)))), .unset, .unset, .unset, .unset, .unset] [(.int xb)])) rfl (Jvm.hb hby at_16) _ ?_
    show Steps p.tables e below (s₁.setTop (mkF m 18 #[.val (.int len), .val (.int xa), .val (.int xb), .val (.int xc), .val (.int xd), .val (.int ((len &&& (7 : Int32)) % (5 : Int32))), .val (.int (i2c (xa &&& (65535 : Int32)))), .unset, .unset, .unset, .unset, .unset] [(.int (65535 : Int32)), (.int xb)])) _
    refine XS.iand X0.here hx rfl (Jvm.hb hby at_18) rfl ?_
    show Steps p.tables e below (s₁.setTop (mkF m 19 #[.val (.int len), .val (.int xa), .val (.int xb), .val (.int xc), .val (.int xd), .val (.int ((len &&& (7 : Int32)) % (5 : Int32))), .val (.int (i2c (xa &&& (65535 : Int32)))), .unset, .unset, .unset, .unset, .unset] [(.int (xb &&& (65535 : Int32)))])) _
    refine XS.i2c X0.here hx rfl (Jvm.hb hby at_19) rfl ?_
    show Steps p.tables e below (s₁.setTop (mkF m 20 #[.val (.int len), .val (.int xa), .val (.int xb), .val (.int xc), .val (.int xd), .val (.int ((len &&& (7 : Int32)) % (5 : Int32))), .val (.int (i2c (xa &&& (65535 : Int32)))), .unset, .unset, .unset, .unset, .unset] [(.int (i2c (xb &&& (65535 : Int32))))])) _
    refine XS.istore X0.here hx rfl (Jvm.hb hby at_20) rfl (l' := #[.val (.int len), .val (.int xa), .val (.int xb), .val (.int xc), .val (.int xd), .val (.int ((len &&& (7 : Int32)) % (5 : Int32))), .val (.int (i2c (xa &&& (65535 : Int32)))), .val (.int (i2c (xb &&& (65535 : Int32)))), .unset, .unset, .unset, .unset]) rfl ?_
    show Steps p.tables e below (s₁.setTop (mkF m 22 #[.val (.int len), .val (.int xa), .val (.int xb), .val (.int xc), .val (.int xd), .val (.int ((len &&& (7 : Int32)) % (5 : Int32))), .val (.int (i2c (xa &&& (65535 : Int32)))), .val (.int (i2c (xb &&& (65535 : Int32)))), .unset, .unset, .unset, .unset] [])) _
    refine XS.iloadN X0.here hx rfl (Jvm.hb hby at_22) rfl ?_
    show Steps p.tables e below (s₁.setTop (mkF m 23 #[.val (.int len), .val (.int xa), .val (.int xb), .val (.int xc), .val (.int xd), .val (.int ((len &&& (7 : Int32)) % (5 : Int32))), .val (.int (i2c (xa &&& (65535 : Int32)))), .val (.int (i2c (xb &&& (65535 : Int32)))), .unset, .unset, .unset, .unset] [(.int xc)])) _
    refine X0.ldcInt hx hown (mvT hZ (hw _ (List.mem_of_getElem? (i := 0) rfl))) (g := (mkF m 23 #[.val (.int len), .val (.int xa), .val (.int xb), .val (.int xc), .val (.int xd), .val (.int ((len &&& (7 : Int32)) % (5 : Int32))), .val (.int (i2c (xa &&& (65535 : Int32)))), .val (.int (i2c (xb &&& (65535 : Int32)))), .unset, .unset, .unset, .unset] [(.int xc)])) rfl (Jvm.hb hby at_23) _ ?_
    show Steps p.tables e below (s₁.setTop (mkF m 25 #[.val (.int len), .val (.int xa), .val (.int xb), .val (.int xc), .val (.int xd), .val (.int ((len &&& (7 : Int32)) % (5 : Int32))), .val (.int (i2c (xa &&& (65535 : Int32)))), .val (.int (i2c (xb &&& (65535 : Int32)))), .unset, .unset, .unset, .unset] [(.int (65535 : Int32)), (.int xc)])) _
    refine XS.iand X0.here hx rfl (Jvm.hb hby at_25) rfl ?_
    show Steps p.tables e below (s₁.setTop (mkF m 26 #[.val (.int len), .val (.int xa), .val (.int xb), .val (.int xc), .val (.int xd), .val (.int ((len &&& (7 : Int32)) % (5 : Int32))), .val (.int (i2c (xa &&& (65535 : Int32)))), .val (.int (i2c (xb &&& (65535 : Int32)))), .unset, .unset, .unset, .unset] [(.int (xc &&& (65535 : Int32)))])) _
    refine XS.i2c X0.here hx rfl (Jvm.hb hby at_26) rfl ?_
    show Steps p.tables e below (s₁.setTop (mkF m 27 #[.val (.int len), .val (.int xa), .val (.int xb), .val (.int xc), .val (.int xd), .val (.int ((len &&& (7 : Int32)) % (5 : Int32))), .val (.int (i2c (xa &&& (65535 : Int32)))), .val (.int (i2c (xb &&& (65535 : Int32)))), .unset, .unset, .unset, .unset] [(.int (i2c (xc &&& (65535 : Int32))))])) _
    refine XS.istore X0.here hx rfl (Jvm.hb hby at_27) rfl (l' := #[.val (.int len), .val (.int xa), .val (.int xb), .val (.int xc), .val (.int xd), .val (.int ((len &&& (7 : Int32)) % (5 : Int32))), .val (.int (i2c (xa &&& (65535 : Int32)))), .val (.int (i2c (xb &&& (65535 : Int32)))), .val (.int (i2c (xc &&& (65535 : Int32)))), .unset, .unset, .unset]) rfl ?_
    show Steps p.tables e below (s₁.setTop (mkF m 29 #[.val (.int len), .val (.int xa), .val (.int xb), .val (.int xc), .val (.int xd), .val (.int ((len &&& (7 : Int32)) % (5 : Int32))), .val (.int (i2c (xa &&& (65535 : Int32)))), .val (.int (i2c (xb &&& (65535 : Int32)))), .val (.int (i2c (xc &&& (65535 : Int32)))), .unset, .unset, .unset] [])) _
    refine XS.iload X0.here hx rfl (Jvm.hb hby at_29) rfl ?_
    show Steps p.tables e below (s₁.setTop (mkF m 31 #[.val (.int len), .val (.int xa), .val (.int xb), .val (.int xc), .val (.int xd), .val (.int ((len &&& (7 : Int32)) % (5 : Int32))), .val (.int (i2c (xa &&& (65535 : Int32)))), .val (.int (i2c (xb &&& (65535 : Int32)))), .val (.int (i2c (xc &&& (65535 : Int32)))), .unset, .unset, .unset] [(.int xd)])) _
    refine X0.ldcInt hx hown (mvT hZ (hw _ (List.mem_of_getElem? (i := 0) rfl))) (g := (mkF m 31 #[.val (.int len), .val (.int xa), .val (.int xb), .val (.int xc), .val (.int xd), .val (.int ((len &&& (7 : Int32)) % (5 : Int32))), .val (.int (i2c (xa &&& (65535 : Int32)))), .val (.int (i2c (xb &&& (65535 : Int32)))), .val (.int (i2c (xc &&& (65535 : Int32)))), .unset, .unset, .unset] [(.int xd)])) rfl (Jvm.hb hby at_31) _ ?_
    show Steps p.tables e below (s₁.setTop (mkF m 33 #[.val (.int len), .val (.int xa), .val (.int xb), .val (.int xc), .val (.int xd), .val (.int ((len &&& (7 : Int32)) % (5 : Int32))), .val (.int (i2c (xa &&& (65535 : Int32)))), .val (.int (i2c (xb &&& (65535 : Int32)))), .val (.int (i2c (xc &&& (65535 : Int32)))), .unset, .unset, .unset] [(.int (65535 : Int32)), (.int xd)])) _
    refine XS.iand X0.here hx rfl (Jvm.hb hby at_33) rfl ?_
    show Steps p.tables e below (s₁.setTop (mkF m 34 #[.val (.int len), .val (.int xa), .val (.int xb), .val (.int xc), .val (.int xd), .val (.int ((len &&& (7 : Int32)) % (5 : Int32))), .val (.int (i2c (xa &&& (65535 : Int32)))), .val (.int (i2c (xb &&& (65535 : Int32)))), .val (.int (i2c (xc &&& (65535 : Int32)))), .unset, .unset, .unset] [(.int (xd &&& (65535 : Int32)))])) _
    refine XS.i2c X0.here hx rfl (Jvm.hb hby at_34) rfl ?_
    show Steps p.tables e below (s₁.setTop (mkF m 35 #[.val (.int len), .val (.int xa), .val (.int xb), .val (.int xc), .val (.int xd), .val (.int ((len &&& (7 : Int32)) % (5 : Int32))), .val (.int (i2c (xa &&& (65535 : Int32)))), .val (.int (i2c (xb &&& (65535 : Int32)))), .val (.int (i2c (xc &&& (65535 : Int32)))), .unset, .unset, .unset] [(.int (i2c (xd &&& (65535 : Int32))))])) _
    refine XS.istore X0.here hx rfl (Jvm.hb hby at_35) rfl (l' := #[.val (.int len), .val (.int xa), .val (.int xb), .val (.int xc), .val (.int xd), .val (.int ((len &&& (7 : Int32)) % (5 : Int32))), .val (.int (i2c (xa &&& (65535 : Int32)))), .val (.int (i2c (xb &&& (65535 : Int32)))), .val (.int (i2c (xc &&& (65535 : Int32)))), .val (.int (i2c (xd &&& (65535 : Int32)))), .unset, .unset]) rfl ?_
    show Steps p.tables e below (s₁.setTop (mkF m 37 #[.val (.int len), .val (.int xa), .val (.int xb), .val (.int xc), .val (.int xd), .val (.int ((len &&& (7 : Int32)) % (5 : Int32))), .val (.int (i2c (xa &&& (65535 : Int32)))), .val (.int (i2c (xb &&& (65535 : Int32)))), .val (.int (i2c (xc &&& (65535 : Int32)))), .val (.int (i2c (xd &&& (65535 : Int32)))), .unset, .unset] [])) _
    refine XS.iload X0.here hx rfl (Jvm.hb hby at_37) rfl ?_
    show Steps p.tables e below (s₁.setTop (mkF m 39 #[.val (.int len), .val (.int xa), .val (.int xb), .val (.int xc), .val (.int xd), .val (.int ((len &&& (7 : Int32)) % (5 : Int32))), .val (.int (i2c (xa &&& (65535 : Int32)))), .val (.int (i2c (xb &&& (65535 : Int32)))), .val (.int (i2c (xc &&& (65535 : Int32)))), .val (.int (i2c (xd &&& (65535 : Int32)))), .unset, .unset] [(.int ((len &&& (7 : Int32)) % (5 : Int32)))])) _
    refine XS.iload X0.here hx rfl (Jvm.hb hby at_39) rfl ?_
    show Steps p.tables e below (s₁.setTop (mkF m 41 #[.val (.int len), .val (.int xa), .val (.int xb), .val (.int xc), .val (.int xd), .val (.int ((len &&& (7 : Int32)) % (5 : Int32))), .val (.int (i2c (xa &&& (65535 : Int32)))), .val (.int (i2c (xb &&& (65535 : Int32)))), .val (.int (i2c (xc &&& (65535 : Int32)))), .val (.int (i2c (xd &&& (65535 : Int32)))), .unset, .unset] [(.int (i2c (xa &&& (65535 : Int32)))), (.int ((len &&& (7 : Int32)) % (5 : Int32)))])) _
    refine XS.iload X0.here hx rfl (Jvm.hb hby at_41) rfl ?_
    show Steps p.tables e below (s₁.setTop (mkF m 43 #[.val (.int len), .val (.int xa), .val (.int xb), .val (.int xc), .val (.int xd), .val (.int ((len &&& (7 : Int32)) % (5 : Int32))), .val (.int (i2c (xa &&& (65535 : Int32)))), .val (.int (i2c (xb &&& (65535 : Int32)))), .val (.int (i2c (xc &&& (65535 : Int32)))), .val (.int (i2c (xd &&& (65535 : Int32)))), .unset, .unset] [(.int (i2c (xb &&& (65535 : Int32)))), (.int (i2c (xa &&& (65535 : Int32)))), (.int ((len &&& (7 : Int32)) % (5 : Int32)))])) _
    refine XS.iload X0.here hx rfl (Jvm.hb hby at_43) rfl ?_
    show Steps p.tables e below (s₁.setTop (mkF m 45 #[.val (.int len), .val (.int xa), .val (.int xb), .val (.int xc), .val (.int xd), .val (.int ((len &&& (7 : Int32)) % (5 : Int32))), .val (.int (i2c (xa &&& (65535 : Int32)))), .val (.int (i2c (xb &&& (65535 : Int32)))), .val (.int (i2c (xc &&& (65535 : Int32)))), .val (.int (i2c (xd &&& (65535 : Int32)))), .unset, .unset] [(.int (i2c (xc &&& (65535 : Int32)))), (.int (i2c (xb &&& (65535 : Int32)))), (.int (i2c (xa &&& (65535 : Int32)))), (.int ((len &&& (7 : Int32)) % (5 : Int32)))])) _
    refine XS.iload X0.here hx rfl (Jvm.hb hby at_45) rfl ?_
    show Steps p.tables e below (s₁.setTop (mkF m 47 #[.val (.int len), .val (.int xa), .val (.int xb), .val (.int xc), .val (.int xd), .val (.int ((len &&& (7 : Int32)) % (5 : Int32))), .val (.int (i2c (xa &&& (65535 : Int32)))), .val (.int (i2c (xb &&& (65535 : Int32)))), .val (.int (i2c (xc &&& (65535 : Int32)))), .val (.int (i2c (xd &&& (65535 : Int32)))), .unset, .unset] [(.int (i2c (xd &&& (65535 : Int32)))), (.int (i2c (xc &&& (65535 : Int32)))), (.int (i2c (xb &&& (65535 : Int32)))), (.int (i2c (xa &&& (65535 : Int32)))), (.int ((len &&& (7 : Int32)) % (5 : Int32)))])) _
    exact castTop (by simp only [hnn, hq1, hq2, hq3, hq4]) k_)
  have rg6 := own_rng hq1
  have rg7 := own_rng hq2
  have rg8 := own_rng hq3
  have rg9 := own_rng hq4
  have hnn5 : nn = 0 ∨ nn = 1 ∨ nn = 2 ∨ nn = 3 ∨ nn = 4 := by omega
  have Zc10 : n0 ≤ h0.size := by omega
  obtain ⟨_, _, ⟨T11, L11, k11, n11⟩, -, Xr11, hSr11, hg11, ⟨Lc11, hQ11, l11, y11, z11, Cp11⟩, st11⟩ := callSS X0 hx (y := (⟨"com/example/zastupnik/zastupnik/protocol/AsciiDigitsOnlyPinLaw", "make", "(ICCCC)Ljava/lang/String;"⟩ : MethodName)) hown (mvT hZ (hw _ (List.mem_of_getElem? (i := 1) rfl))) (mvT hZ (hw _ (List.mem_of_getElem? (i := 2) rfl))) (mvT hZ (hw _ (List.mem_of_getElem? (i := 3) rfl))) (mvT hZ (hw _ (List.mem_of_getElem? (i := 4) rfl))) (by decide) (backOfSH (s := s) (vm0 := s.vm) (W := 0) (rmMk l Z a0 hw [] q1 q2 q3 q4 cst nn h0 n0 Zc10 I1 I2 I3 I4 OX (hcst : ¬ (cst = (0 : Int32))) (hnn5 : nn = 0 ∨ nn = 1 ∨ nn = 2 ∨ nn = 3 ∨ nn = 4) (rg6.1 : ¬ (q1 < (0 : Int32))) (rg6.2 : ¬ ((65535 : Int32) < q1)) (rg7.1 : ¬ (q2 < (0 : Int32))) (rg7.2 : ¬ ((65535 : Int32) < q2)) (rg8.1 : ¬ (q3 < (0 : Int32))) (rg8.2 : ¬ ((65535 : Int32) < q3)) (rg9.1 : ¬ (q4 < (0 : Int32))) (rg9.2 : ¬ ((65535 : Int32) < q4))) hZ (hw _ (List.mem_of_getElem? (i := 4) rfl)) (hw _ (List.mem_of_getElem? (i := 3) rfl)) (by decide) (by decide) hEL CR.1) (g := (mkF m 47 #[.val (.int len), .val (.int xa), .val (.int xb), .val (.int xc), .val (.int xd), .val (.int (Int32.ofNat nn)), .val (.int q1), .val (.int q2), .val (.int q3), .val (.int q4), .unset, .unset] [(.int q4), (.int q3), (.int q2), (.int q1), (.int (Int32.ofNat nn))])) rfl (by rw [hml]; rfl) (argsL := [(.int (Int32.ofNat nn)), (.int q1), (.int q2), (.int q3), (.int q4)]) (rest := []) (lenOf pd__ICCCC_Ljava_lang_String_ rfl) rfl (by show 2 * 0 + _ ≤ _; exact Nat.le_of_eq rfl) (Jvm.hb hby at_47) (fun _ _ => ⟨rfl, e0, (by decide : 0 + 6 ≤ _), (by decide : 0 + 20 ≤ _)⟩)
  dsimp only [Pt.U, Pt.locs, Pt.cells, Pt.slots] at Xr11 hSr11 hg11 l11 y11 z11 st11 hQ11 Cp11
  subst l11 y11 z11
  obtain ⟨X11, hS, hZ, hown⟩ := rebS (own := "com/example/zastupnik/zastupnik/protocol/AsciiDigitsOnlyPinLaw") hS (by first | exact Nat.le_refl _ | (rw [e0]; exact hk)) Xr11 hSr11 hg11 hZ hown
  obtain ⟨a_11, b_11, kb_11, rfl, N11q, K11, Fq11_0, Fq11_1, Fq11_2, Fq11_3, P11_0⟩ := hQ11
  have N11 := Fr.app N0 N11q
  obtain ⟨h11, e11⟩ : ∃ z, T11.heap = z := ⟨_, rfl⟩
  rw [e11] at K11 Fq11_0 Fq11_1 Fq11_2 Fq11_3 Cp11
  have hk : T11.heap.size ≤ h11.size := Nat.le_of_eq (congrArg Array.size e11)
  have z12 : h0.size ≤ h11.size := K11.1
  have CR := CR.trans Cp11
  have lt11_0 : @LT.lt Nat _ a_11 h11.size := Fq11_0.lt
  have lt11_3 : @LT.lt Nat _ b_11 h11.size := Fq11_3.lt
  have s13 : ∀ t_, Steps p.tables e below (T11.setTop (mkF m 52 #[.val (.int len), .val (.int xa), .val (.int xb), .val (.int xc), .val (.int xd), .val (.int (Int32.ofNat nn)), .val (.int q1), .val (.int q2), .val (.int q3), .val (.int q4), .val (.ref a_11), .unset] [])) t_ → Steps p.tables e below (s₁.setTop (entryFrame m #[(.int len), (.int xa), (.int xb), (.int xc), (.int xd)] maxLocals)) t_ := fun t_ k_ => s5 t_ (by
    show Steps p.tables e below (s₁.setTop (mkF m 47 #[.val (.int len), .val (.int xa), .val (.int xb), .val (.int xc), .val (.int xd), .val (.int (Int32.ofNat nn)), .val (.int q1), .val (.int q2), .val (.int q3), .val (.int q4), .unset, .unset] [(.int q4), (.int q3), (.int q2), (.int q1), (.int (Int32.ofNat nn))])) t_
    refine st11.trans ?_
    show Steps p.tables e below (T11.setTop (mkF m 50 #[.val (.int len), .val (.int xa), .val (.int xb), .val (.int xc), .val (.int xd), .val (.int (Int32.ofNat nn)), .val (.int q1), .val (.int q2), .val (.int q3), .val (.int q4), .unset, .unset] [(.ref a_11)])) _
    refine XS.astore X11.here hx rfl (Jvm.hb hby at_50) rfl rfl (l' := #[.val (.int len), .val (.int xa), .val (.int xb), .val (.int xc), .val (.int xd), .val (.int (Int32.ofNat nn)), .val (.int q1), .val (.int q2), .val (.int q3), .val (.int q4), .val (.ref a_11), .unset]) rfl ?_
    show Steps p.tables e below (T11.setTop (mkF m 52 #[.val (.int len), .val (.int xa), .val (.int xb), .val (.int xc), .val (.int xd), .val (.int (Int32.ofNat nn)), .val (.int q1), .val (.int q2), .val (.int q3), .val (.int q4), .val (.ref a_11), .unset] [])) _
    show Steps p.tables e below (T11.setTop (mkF m 52 #[.val (.int len), .val (.int xa), .val (.int xb), .val (.int xc), .val (.int xd), .val (.int (Int32.ofNat nn)), .val (.int q1), .val (.int q2), .val (.int q3), .val (.int q4), .val (.ref a_11), .unset] [])) t_
    exact k_)
  by_cases h14 : nn = 0
  · have s15 : ∀ t_, Steps p.tables e below (T11.setTop (mkF m 52 #[.val (.int len), .val (.int xa), .val (.int xb), .val (.int xc), .val (.int xd), .val (.int (0 : Int32)), .val (.int q1), .val (.int q2), .val (.int q3), .val (.int q4), .val (.ref a_11), .unset] [])) t_ → Steps p.tables e below (s₁.setTop (entryFrame m #[(.int len), (.int xa), (.int xb), (.int xc), (.int xd)] maxLocals)) t_ := fun t_ k_ => s13 t_ (castTop (by subst h14; rfl) k_)
    have s16 : ∀ t_, Steps p.tables e below (T11.setTop (mkF m 122 #[.val (.int len), .val (.int xa), .val (.int xb), .val (.int xc), .val (.int xd), .val (.int (0 : Int32)), .val (.int q1), .val (.int q2), .val (.int q3), .val (.int q4), .val (.ref a_11), .val (.int (0 : Int32))] [(.ref a_11)])) t_ → Steps p.tables e below (s₁.setTop (entryFrame m #[(.int len), (.int xa), (.int xb), (.int xc), (.int xd)] maxLocals)) t_ := fun t_ k_ => s15 t_ (by
      show Steps p.tables e below (T11.setTop (mkF m 52 #[.val (.int len), .val (.int xa), .val (.int xb), .val (.int xc), .val (.int xd), .val (.int (0 : Int32)), .val (.int q1), .val (.int q2), .val (.int q3), .val (.int q4), .val (.ref a_11), .unset] [])) t_
      refine XS.iload X11.here hx rfl (Jvm.hb hby at_52) rfl ?_
      show Steps p.tables e below (T11.setTop (mkF m 54 #[.val (.int len), .val (.int xa), .val (.int xb), .val (.int xc), .val (.int xd), .val (.int (0 : Int32)), .val (.int q1), .val (.int q2), .val (.int q3), .val (.int q4), .val (.ref a_11), .unset] [(.int (0 : Int32))])) _
      refine XS.ifYes X11.here hx rfl (pc0 := 54) (pc' := 117) rfl (Jvm.hb hby at_54) rfl ((if0 _ _).trans (flt (by decide : ¬ ((0 : Int32) < (0 : Int32)))).2.2.2) (by decide) (by decide) ?_
      show Steps p.tables e below (T11.setTop (mkF m 117 #[.val (.int len), .val (.int xa), .val (.int xb), .val (.int xc), .val (.int xd), .val (.int (0 : Int32)), .val (.int q1), .val (.int q2), .val (.int q3), .val (.int q4), .val (.ref a_11), .unset] [])) _
      refine XS.iconst X11.here hx rfl (Jvm.hb hby at_117) ?_
      show Steps p.tables e below (T11.setTop (mkF m 118 #[.val (.int len), .val (.int xa), .val (.int xb), .val (.int xc), .val (.int xd), .val (.int (0 : Int32)), .val (.int q1), .val (.int q2), .val (.int q3), .val (.int q4), .val (.ref a_11), .unset] [(.int (0 : Int32))])) _
      refine XS.istore X11.here hx rfl (Jvm.hb hby at_118) rfl (l' := #[.val (.int len), .val (.int xa), .val (.int xb), .val (.int xc), .val (.int xd), .val (.int (0 : Int32)), .val (.int q1), .val (.int q2), .val (.int q3), .val (.int q4), .val (.ref a_11), .val (.int (0 : Int32))]) rfl ?_
      show Steps p.tables e below (T11.setTop (mkF m 120 #[.val (.int len), .val (.int xa), .val (.int xb), .val (.int xc), .val (.int xd), .val (.int (0 : Int32)), .val (.int q1), .val (.int q2), .val (.int q3), .val (.int q4), .val (.ref a_11), .val (.int (0 : Int32))] [])) _
      refine XS.aload X11.here hx rfl (Jvm.hb hby at_120) rfl rfl ?_
      show Steps p.tables e below (T11.setTop (mkF m 122 #[.val (.int len), .val (.int xa), .val (.int xb), .val (.int xc), .val (.int xd), .val (.int (0 : Int32)), .val (.int q1), .val (.int q2), .val (.int q3), .val (.int q4), .val (.ref a_11), .val (.int (0 : Int32))] [(.ref a_11)])) _
      show Steps p.tables e below (T11.setTop (mkF m 122 #[.val (.int len), .val (.int xa), .val (.int xb), .val (.int xc), .val (.int xd), .val (.int (0 : Int32)), .val (.int q1), .val (.int q2), .val (.int q3), .val (.int q4), .val (.ref a_11), .val (.int (0 : Int32))] [(.ref a_11)])) t_
      exact k_)
    have O17 : Old Z n0 h11 := (OX.keep K11 all0)
    have Zc18 : n0 ≤ h11.size := by omega
    obtain ⟨_, _, ⟨T19, L19, k19, n19⟩, -, X19, ⟨Lc19, hQ19, l19, y19, z19⟩, st19⟩ := Jvm.LawKit.callS X11 hx (y := (⟨"com/example/zastupnik/zastupnik/protocol/AsciiDigits", "only", "(Ljava/lang/String;)Z"⟩ : MethodName)) hown (mvT hZ (hw _ (List.mem_of_getElem? (i := 27) rfl))) (mvT hZ (hw _ (List.mem_of_getElem? (i := 28) rfl))) (mvT hZ (hw _ (List.mem_of_getElem? (i := 29) rfl))) (mvT hZ (hw _ (List.mem_of_getElem? (i := 30) rfl))) (by decide) (backOf (W := 0) (rmOnly l Z a0 hw [] a_11 cst b_11 kb_11 (own_mk4 nn q1 q2 q3 q4) fmt h11 n0 Zc18 I1 I2 I3 I4 (hfmt : fmt.isRef = true) I5 O17 (hcst : ¬ (cst = (0 : Int32))) Fq11_0 Fq11_1 Fq11_2 Fq11_3 (own_mkl4 _ _ _ _ _) (own_mkchs4 rg6 rg7 rg8 rg9)) hZ (hw _ (List.mem_of_getElem? (i := 30) rfl)) (hw _ (List.mem_of_getElem? (i := 29) rfl)) (by decide) (by decide)) (g := (mkF m 122 #[.val (.int len), .val (.int xa), .val (.int xb), .val (.int xc), .val (.int xd), .val (.int (0 : Int32)), .val (.int q1), .val (.int q2), .val (.int q3), .val (.int q4), .val (.ref a_11), .val (.int (0 : Int32))] [(.ref a_11)])) rfl (by rw [hml]; rfl) (argsL := [(.ref a_11)]) (rest := []) (lenOf pd__Ljava_lang_String__Z rfl) rfl (by show 2 * 0 + _ ≤ _; exact Nat.le_of_eq rfl) (Jvm.hb hby at_122) (fun _ _ => ⟨rfl, e11, (by decide : 6 + 0 ≤ _), (by decide : 20 + 0 ≤ _)⟩)
    dsimp only [Pt.U, Pt.locs, Pt.cells, Pt.slots] at X19 l19 y19 z19 st19 hQ19
    subst l19 y19 z19
    obtain ⟨rfl, N19q, e19⟩ := hQ19
    have N19 := Fr.app N11 N19q
    obtain ⟨q20, hq20⟩ : ∃ z : Int32, z = (own_only (own_mk4 nn q1 q2 q3 q4)) := ⟨_, rfl⟩
    rw [← hq20] at st19
    have hon : q20 = (0 : Int32) := by rw [hq20, h14]; exact (show own_only [] = (0 : Int32) from own_only0)
    have s21 : ∀ t_, Steps p.tables e below (T19.setTop (mkF m 135 #[.val (.int len), .val (.int xa), .val (.int xb), .val (.int xc), .val (.int xd), .val (.int (0 : Int32)), .val (.int q1), .val (.int q2), .val (.int q3), .val (.int q4), .val (.ref a_11), .val (.int (0 : Int32))] [(.int (1 : Int32))])) t_ → Steps p.tables e below (s₁.setTop (entryFrame m #[(.int len), (.int xa), (.int xb), (.int xc), (.int xd)] maxLocals)) t_ := fun t_ k_ => s16 t_ (by
      show Steps p.tables e below (T11.setTop (mkF m 122 #[.val (.int len), .val (.int xa), .val (.int xb), .val (.int xc), .val (.int xd), .val (.int (0 : Int32)), .val (.int q1), .val (.int q2), .val (.int q3), .val (.int q4), .val (.ref a_11), .val (.int (0 : Int32))] [(.ref a_11)])) t_
      refine st19 _ ?_
      show Steps p.tables e below (T19.setTop (mkF m 125 #[.val (.int len), .val (.int xa), .val (.int xb), .val (.int xc), .val (.int xd), .val (.int (0 : Int32)), .val (.int q1), .val (.int q2), .val (.int q3), .val (.int q4), .val (.ref a_11), .val (.int (0 : Int32))] [(.int q20)])) _
      refine XS.iload X19.here hx rfl (Jvm.hb hby at_125) rfl ?_
      show Steps p.tables e below (T19.setTop (mkF m 127 #[.val (.int len), .val (.int xa), .val (.int xb), .val (.int xc), .val (.int xd), .val (.int (0 : Int32)), .val (.int q1), .val (.int q2), .val (.int q3), .val (.int q4), .val (.ref a_11), .val (.int (0 : Int32))] [(.int (0 : Int32)), (.int q20)])) _
      refine XS.icmpNo X19.here hx rfl (Jvm.hb hby at_127) rfl (teq hon).2 ?_
      show Steps p.tables e below (T19.setTop (mkF m 130 #[.val (.int len), .val (.int xa), .val (.int xb), .val (.int xc), .val (.int xd), .val (.int (0 : Int32)), .val (.int q1), .val (.int q2), .val (.int q3), .val (.int q4), .val (.ref a_11), .val (.int (0 : Int32))] [])) _
      refine XS.iconst X19.here hx rfl (Jvm.hb hby at_130) ?_
      show Steps p.tables e below (T19.setTop (mkF m 131 #[.val (.int len), .val (.int xa), .val (.int xb), .val (.int xc), .val (.int xd), .val (.int (0 : Int32)), .val (.int q1), .val (.int q2), .val (.int q3), .val (.int q4), .val (.ref a_11), .val (.int (0 : Int32))] [(.int (1 : Int32))])) _
      refine XS.goto X19.here hx rfl (pc0 := 131) (pc' := 135) rfl (Jvm.hb hby at_131) (by decide) (by decide) ?_
      show Steps p.tables e below (T19.setTop (mkF m 135 #[.val (.int len), .val (.int xa), .val (.int xb), .val (.int xc), .val (.int xd), .val (.int (0 : Int32)), .val (.int q1), .val (.int q2), .val (.int q3), .val (.int q4), .val (.ref a_11), .val (.int (0 : Int32))] [(.int (1 : Int32))])) _
      show Steps p.tables e below (T19.setTop (mkF m 135 #[.val (.int len), .val (.int xa), .val (.int xb), .val (.int xc), .val (.int xd), .val (.int (0 : Int32)), .val (.int q1), .val (.int q2), .val (.int q3), .val (.int q4), .val (.ref a_11), .val (.int (0 : Int32))] [(.int (1 : Int32))])) t_
      exact k_)
    obtain ⟨fs, hr, hrun, hended, hREW⟩ := X19.leaveW hS (by first | exact Nat.le_refl _ | (rw [e19]; exact hk)) (v := some (.int (1 : Int32))) (fun h => by rw [Bd.returns] at h; cases h)
    refine ⟨_, _, s21 _ ?_, hrun, hended, _, _, rfl, ?_, (by show CHr Z ELs s.vm s.heap T19.vm T19.heap; rw [hh, e19]; exact CR.trans (CHv.at X19 hZ hEL CR.1)), hREW.1, hREW.2.1, hREW.2.2.1, hREW.2.2.2.mono (by decide) (by decide)⟩
    · show Steps p.tables e below (T19.setTop (mkF m 135 #[.val (.int len), .val (.int xa), .val (.int xb), .val (.int xc), .val (.int xd), .val (.int (0 : Int32)), .val (.int q1), .val (.int q2), .val (.int q3), .val (.int q4), .val (.ref a_11), .val (.int (0 : Int32))] [(.int (1 : Int32))])) _
      exact retN X19 hx (t := .boolean) Bd.returns (by simp) (Jvm.hb hby at_135) hr
    · show Q_rmLaw Z _ _ _ _ _ _ _ h0 n0 _ T19.heap _
      rw [e19]
      exact ⟨rfl, N19⟩
  · have s22 : ∀ t_, Steps p.tables e below (T11.setTop (mkF m 52 #[.val (.int len), .val (.int xa), .val (.int xb), .val (.int xc), .val (.int xd), .val (.int (Int32.ofNat nn)), .val (.int q1), .val (.int q2), .val (.int q3), .val (.int q4), .val (.ref a_11), .unset] [])) t_ → Steps p.tables e below (s₁.setTop (entryFrame m #[(.int len), (.int xa), (.int xb), (.int xc), (.int xd)] maxLocals)) t_ := fun t_ k_ => s13 t_ (castTop (by rfl) k_)
    by_cases h23 : nn = 1
    · have s24 : ∀ t_, Steps p.tables e below (T11.setTop (mkF m 52 #[.val (.int len), .val (.int xa), .val (.int xb), .val (.int xc), .val (.int xd), .val (.int (1 : Int32)), .val (.int q1), .val (.int q2), .val (.int q3), .val (.int q4), .val (.ref a_11), .unset] [])) t_ → Steps p.tables e below (s₁.setTop (entryFrame m #[(.int len), (.int xa), (.int xb), (.int xc), (.int xd)] maxLocals)) t_ := fun t_ k_ => s22 t_ (castTop (by subst h23; rfl) k_)
      have s25 : ∀ t_, Steps p.tables e below (T11.setTop (mkF m 65 #[.val (.int len), .val (.int xa), .val (.int xb), .val (.int xc), .val (.int xd), .val (.int (1 : Int32)), .val (.int q1), .val (.int q2), .val (.int q3), .val (.int q4), .val (.ref a_11), .unset] [(.int q1)])) t_ → Steps p.tables e below (s₁.setTop (entryFrame m #[(.int len), (.int xa), (.int xb), (.int xc), (.int xd)] maxLocals)) t_ := fun t_ k_ => s24 t_ (by
        show Steps p.tables e below (T11.setTop (mkF m 52 #[.val (.int len), .val (.int xa), .val (.int xb), .val (.int xc), .val (.int xd), .val (.int (1 : Int32)), .val (.int q1), .val (.int q2), .val (.int q3), .val (.int q4), .val (.ref a_11), .unset] [])) t_
        refine XS.iload X11.here hx rfl (Jvm.hb hby at_52) rfl ?_
        show Steps p.tables e below (T11.setTop (mkF m 54 #[.val (.int len), .val (.int xa), .val (.int xb), .val (.int xc), .val (.int xd), .val (.int (1 : Int32)), .val (.int q1), .val (.int q2), .val (.int q3), .val (.int q4), .val (.ref a_11), .unset] [(.int (1 : Int32))])) _
        refine XS.ifNo X11.here hx rfl (Jvm.hb hby at_54) rfl ((if0 _ _).trans (tlt (by decide : ((0 : Int32) < (1 : Int32)))).2.2.2) ?_
        show Steps p.tables e below (T11.setTop (mkF m 57 #[.val (.int len), .val (.int xa), .val (.int xb), .val (.int xc), .val (.int xd), .val (.int (1 : Int32)), .val (.int q1), .val (.int q2), .val (.int q3), .val (.int q4), .val (.ref a_11), .unset] [])) _
        refine XS.iload X11.here hx rfl (Jvm.hb hby at_57) rfl ?_
        show Steps p.tables e below (T11.setTop (mkF m 59 #[.val (.int len), .val (.int xa), .val (.int xb), .val (.int xc), .val (.int xd), .val (.int (1 : Int32)), .val (.int q1), .val (.int q2), .val (.int q3), .val (.int q4), .val (.ref a_11), .unset] [(.int (1 : Int32))])) _
        refine XS.iconst X11.here hx rfl (Jvm.hb hby at_59) ?_
        show Steps p.tables e below (T11.setTop (mkF m 60 #[.val (.int len), .val (.int xa), .val (.int xb), .val (.int xc), .val (.int xd), .val (.int (1 : Int32)), .val (.int q1), .val (.int q2), .val (.int q3), .val (.int q4), .val (.ref a_11), .unset] [(.int (1 : Int32)), (.int (1 : Int32))])) _
        refine XS.icmpNo X11.here hx rfl (Jvm.hb hby at_60) rfl (flt (by decide : ¬ ((1 : Int32) < (1 : Int32)))).1 ?_
        show Steps p.tables e below (T11.setTop (mkF m 63 #[.val (.int len), .val (.int xa), .val (.int xb), .val (.int xc), .val (.int xd), .val (.int (1 : Int32)), .val (.int q1), .val (.int q2), .val (.int q3), .val (.int q4), .val (.ref a_11), .unset] [])) _
        refine XS.iload X11.here hx rfl (Jvm.hb hby at_63) rfl ?_
        show Steps p.tables e below (T11.setTop (mkF m 65 #[.val (.int len), .val (.int xa), .val (.int xb), .val (.int xc), .val (.int xd), .val (.int (1 : Int32)), .val (.int q1), .val (.int q2), .val (.int q3), .val (.int q4), .val (.ref a_11), .unset] [(.int q1)])) _
        show Steps p.tables e below (T11.setTop (mkF m 65 #[.val (.int len), .val (.int xa), .val (.int xb), .val (.int xc), .val (.int xd), .val (.int (1 : Int32)), .val (.int q1), .val (.int q2), .val (.int q3), .val (.int q4), .val (.ref a_11), .unset] [(.int q1)])) t_
        exact k_)
      have Zc26 : n0 ≤ h11.size := by omega
      obtain ⟨_, _, ⟨T27, L27, k27, n27⟩, -, X27, ⟨Lc27, hQ27, l27, y27, z27⟩, st27⟩ := Jvm.LawKit.callS X11 hx (y := (⟨"com/example/zastupnik/zastupnik/protocol/AsciiDigitsOnlyPinLaw", "digit", "(C)Z"⟩ : MethodName)) hown (mvT hZ (hw _ (List.mem_of_getElem? (i := 47) rfl))) (mvT hZ (hw _ (List.mem_of_getElem? (i := 48) rfl))) (mvT hZ (hw _ (List.mem_of_getElem? (i := 3) rfl))) (mvT hZ (hw _ (List.mem_of_getElem? (i := 49) rfl))) (by decide) (backOf (W := 0) (rmDig l Z a0 hw [] q1 h11 n0 Zc26) hZ (hw _ (List.mem_of_getElem? (i := 49) rfl)) (hw _ (List.mem_of_getElem? (i := 3) rfl)) (by decide) (by decide)) (g := (mkF m 65 #[.val (.int len), .val (.int xa), .val (.int xb), .val (.int xc), .val (.int xd), .val (.int (1 : Int32)), .val (.int q1), .val (.int q2), .val (.int q3), .val (.int q4), .val (.ref a_11), .unset] [(.int q1)])) rfl (by rw [hml]; rfl) (argsL := [(.int q1)]) (rest := []) (lenOf pd__C_Z rfl) rfl (by show 2 * 0 + _ ≤ _; exact Nat.le_of_eq rfl) (Jvm.hb hby at_65) (fun _ _ => ⟨rfl, e11, (by decide : 6 + 0 ≤ _), (by decide : 20 + 0 ≤ _)⟩)
      dsimp only [Pt.U, Pt.locs, Pt.cells, Pt.slots] at X27 l27 y27 z27 st27 hQ27
      subst l27 y27 z27
      obtain ⟨rfl, N27q, e27⟩ := hQ27
      have N27 := Fr.app N11 N27q
      obtain ⟨q28, hq28⟩ : ∃ z : Int32, z = (if own_dig q1 then (1 : Int32) else (0 : Int32)) := ⟨_, rfl⟩
      rw [← hq28] at st27
      have s29 : ∀ t_, Steps p.tables e below (T27.setTop (mkF m 68 #[.val (.int len), .val (.int xa), .val (.int xb), .val (.int xc), .val (.int xd), .val (.int (1 : Int32)), .val (.int q1), .val (.int q2), .val (.int q3), .val (.int q4), .val (.ref a_11), .unset] [(.int q28)])) t_ → Steps p.tables e below (s₁.setTop (entryFrame m #[(.int len), (.int xa), (.int xb), (.int xc), (.int xd)] maxLocals)) t_ := fun t_ k_ => s25 t_ (by
        show Steps p.tables e below (T11.setTop (mkF m 65 #[.val (.int len), .val (.int xa), .val (.int xb), .val (.int xc), .val (.int xd), .val (.int (1 : Int32)), .val (.int q1), .val (.int q2), .val (.int q3), .val (.int q4), .val (.ref a_11), .unset] [(.int q1)])) t_
        refine st27 _ ?_
        show Steps p.tables e below (T27.setTop (mkF m 68 #[.val (.int len), .val (.int xa), .val (.int xb), .val (.int xc), .val (.int xd), .val (.int (1 : Int32)), .val (.int q1), .val (.int q2), .val (.int q3), .val (.int q4), .val (.ref a_11), .unset] [(.int q28)])) _
        show Steps p.tables e below (T27.setTop (mkF m 68 #[.val (.int len), .val (.int xa), .val (.int xb), .val (.int xc), .val (.int xd), .val (.int (1 : Int32)), .val (.int q1), .val (.int q2), .val (.int q3), .val (.int q4), .val (.ref a_11), .unset] [(.int q28)])) t_
        exact k_)
      by_cases h30 : own_dig q1
      · have s31 : ∀ t_, Steps p.tables e below (T27.setTop (mkF m 68 #[.val (.int len), .val (.int xa), .val (.int xb), .val (.int xc), .val (.int xd), .val (.int (1 : Int32)), .val (.int q1), .val (.int q2), .val (.int q3), .val (.int q4), .val (.ref a_11), .unset] [(.int (1 : Int32))])) t_ → Steps p.tables e below (s₁.setTop (entryFrame m #[(.int len), (.int xa), (.int xb), (.int xc), (.int xd)] maxLocals)) t_ := fun t_ k_ => s29 t_ (castTop (by rw [hq28, if_pos h30]) k_)
        have s32 : ∀ t_, Steps p.tables e below (T27.setTop (mkF m 122 #[.val (.int len), .val (.int xa), .val (.int xb), .val (.int xc), .val (.int xd), .val (.int (1 : Int32)), .val (.int q1), .val (.int q2), .val (.int q3), .val (.int q4), .val (.ref a_11), .val (.int (1 : Int32))] [(.ref a_11)])) t_ → Steps p.tables e below (s₁.setTop (entryFrame m #[(.int len), (.int xa), (.int xb), (.int xc), (.int xd)] maxLocals)) t_ := fun t_ k_ => s31 t_ (by
          show Steps p.tables e below (T27.setTop (mkF m 68 #[.val (.int len), .val (.int xa), .val (.int xb), .val (.int xc), .val (.int xd), .val (.int (1 : Int32)), .val (.int q1), .val (.int q2), .val (.int q3), .val (.int q4), .val (.ref a_11), .unset] [(.int (1 : Int32))])) t_
          refine XS.ifNo X27.here hx rfl (Jvm.hb hby at_68) rfl ((if0 _ _).trans (feq (by decide : ¬ ((1 : Int32) = (0 : Int32)))).1) ?_
          show Steps p.tables e below (T27.setTop (mkF m 71 #[.val (.int len), .val (.int xa), .val (.int xb), .val (.int xc), .val (.int xd), .val (.int (1 : Int32)), .val (.int q1), .val (.int q2), .val (.int q3), .val (.int q4), .val (.ref a_11), .unset] [])) _
          refine XS.iload X27.here hx rfl (Jvm.hb hby at_71) rfl ?_
          show Steps p.tables e below (T27.setTop (mkF m 73 #[.val (.int len), .val (.int xa), .val (.int xb), .val (.int xc), .val (.int xd), .val (.int (1 : Int32)), .val (.int q1), .val (.int q2), .val (.int q3), .val (.int q4), .val (.ref a_11), .unset] [(.int (1 : Int32))])) _
          refine XS.iconst X27.here hx rfl (Jvm.hb hby at_73) ?_
          show Steps p.tables e below (T27.setTop (mkF m 74 #[.val (.int len), .val (.int xa), .val (.int xb), .val (.int xc), .val (.int xd), .val (.int (1 : Int32)), .val (.int q1), .val (.int q2), .val (.int q3), .val (.int q4), .val (.ref a_11), .unset] [(.int (2 : Int32)), (.int (1 : Int32))])) _
          refine XS.icmpYes X27.here hx rfl (pc0 := 74) (pc' := 85) rfl (Jvm.hb hby at_74) rfl (tlt (by decide : ((1 : Int32) < (2 : Int32)))).1 (by decide) (by decide) ?_
          show Steps p.tables e below (T27.setTop (mkF m 85 #[.val (.int len), .val (.int xa), .val (.int xb), .val (.int xc), .val (.int xd), .val (.int (1 : Int32)), .val (.int q1), .val (.int q2), .val (.int q3), .val (.int q4), .val (.ref a_11), .unset] [])) _
          refine XS.iload X27.here hx rfl (Jvm.hb hby at_85) rfl ?_
          show Steps p.tables e below (T27.setTop (mkF m 87 #[.val (.int len), .val (.int xa), .val (.int xb), .val (.int xc), .val (.int xd), .val (.int (1 : Int32)), .val (.int q1), .val (.int q2), .val (.int q3), .val (.int q4), .val (.ref a_11), .unset] [(.int (1 : Int32))])) _
          refine XS.iconst X27.here hx rfl (Jvm.hb hby at_87) ?_
          show Steps p.tables e below (T27.setTop (mkF m 88 #[.val (.int len), .val (.int xa), .val (.int xb), .val (.int xc), .val (.int xd), .val (.int (1 : Int32)), .val (.int q1), .val (.int q2), .val (.int q3), .val (.int q4), .val (.ref a_11), .unset] [(.int (3 : Int32)), (.int (1 : Int32))])) _
          refine XS.icmpYes X27.here hx rfl (pc0 := 88) (pc' := 99) rfl (Jvm.hb hby at_88) rfl (tlt (by decide : ((1 : Int32) < (3 : Int32)))).1 (by decide) (by decide) ?_
          show Steps p.tables e below (T27.setTop (mkF m 99 #[.val (.int len), .val (.int xa), .val (.int xb), .val (.int xc), .val (.int xd), .val (.int (1 : Int32)), .val (.int q1), .val (.int q2), .val (.int q3), .val (.int q4), .val (.ref a_11), .unset] [])) _
          refine XS.iload X27.here hx rfl (Jvm.hb hby at_99) rfl ?_
          show Steps p.tables e below (T27.setTop (mkF m 101 #[.val (.int len), .val (.int xa), .val (.int xb), .val (.int xc), .val (.int xd), .val (.int (1 : Int32)), .val (.int q1), .val (.int q2), .val (.int q3), .val (.int q4), .val (.ref a_11), .unset] [(.int (1 : Int32))])) _
          refine XS.iconst X27.here hx rfl (Jvm.hb hby at_101) ?_
          show Steps p.tables e below (T27.setTop (mkF m 102 #[.val (.int len), .val (.int xa), .val (.int xb), .val (.int xc), .val (.int xd), .val (.int (1 : Int32)), .val (.int q1), .val (.int q2), .val (.int q3), .val (.int q4), .val (.ref a_11), .unset] [(.int (4 : Int32)), (.int (1 : Int32))])) _
          refine XS.icmpYes X27.here hx rfl (pc0 := 102) (pc' := 113) rfl (Jvm.hb hby at_102) rfl (tlt (by decide : ((1 : Int32) < (4 : Int32)))).1 (by decide) (by decide) ?_
          show Steps p.tables e below (T27.setTop (mkF m 113 #[.val (.int len), .val (.int xa), .val (.int xb), .val (.int xc), .val (.int xd), .val (.int (1 : Int32)), .val (.int q1), .val (.int q2), .val (.int q3), .val (.int q4), .val (.ref a_11), .unset] [])) _
          refine XS.iconst X27.here hx rfl (Jvm.hb hby at_113) ?_
          show Steps p.tables e below (T27.setTop (mkF m 114 #[.val (.int len), .val (.int xa), .val (.int xb), .val (.int xc), .val (.int xd), .val (.int (1 : Int32)), .val (.int q1), .val (.int q2), .val (.int q3), .val (.int q4), .val (.ref a_11), .unset] [(.int (1 : Int32))])) _
          refine XS.goto X27.here hx rfl (pc0 := 114) (pc' := 118) rfl (Jvm.hb hby at_114) (by decide) (by decide) ?_
          show Steps p.tables e below (T27.setTop (mkF m 118 #[.val (.int len), .val (.int xa), .val (.int xb), .val (.int xc), .val (.int xd), .val (.int (1 : Int32)), .val (.int q1), .val (.int q2), .val (.int q3), .val (.int q4), .val (.ref a_11), .unset] [(.int (1 : Int32))])) _
          refine XS.istore X27.here hx rfl (Jvm.hb hby at_118) rfl (l' := #[.val (.int len), .val (.int xa), .val (.int xb), .val (.int xc), .val (.int xd), .val (.int (1 : Int32)), .val (.int q1), .val (.int q2), .val (.int q3), .val (.int q4), .val (.ref a_11), .val (.int (1 : Int32))]) rfl ?_
          show Steps p.tables e below (T27.setTop (mkF m 120 #[.val (.int len), .val (.int xa), .val (.int xb), .val (.int xc), .val (.int xd), .val (.int (1 : Int32)), .val (.int q1), .val (.int q2), .val (.int q3), .val (.int q4), .val (.ref a_11), .val (.int (1 : Int32))] [])) _
          refine XS.aload X27.here hx rfl (Jvm.hb hby at_120) rfl rfl ?_
          show Steps p.tables e below (T27.setTop (mkF m 122 #[.val (.int len), .val (.int xa), .val (.int xb), .val (.int xc), .val (.int xd), .val (.int (1 : Int32)), .val (.int q1), .val (.int q2), .val (.int q3), .val (.int q4), .val (.ref a_11), .val (.int (1 : Int32))] [(.ref a_11)])) _
          show Steps p.tables e below (T27.setTop (mkF m 122 #[.val (.int len), .val (.int xa), .val (.int xb), .val (.int xc), .val (.int xd), .val (.int (1 : Int32)), .val (.int q1), .val (.int q2), .val (.int q3), .val (.int q4), .val (.ref a_11), .val (.int (1 : Int32))] [(.ref a_11)])) t_
          exact k_)
        have O33 : Old Z n0 h11 := (OX.keep K11 all0)
        have Zc34 : n0 ≤ h11.size := by omega
        obtain ⟨_, _, ⟨T35, L35, k35, n35⟩, -, X35, ⟨Lc35, hQ35, l35, y35, z35⟩, st35⟩ := Jvm.LawKit.callS X27 hx (y := (⟨"com/example/zastupnik/zastupnik/protocol/AsciiDigits", "only", "(Ljava/lang/String;)Z"⟩ : MethodName)) hown (mvT hZ (hw _ (List.mem_of_getElem? (i := 27) rfl))) (mvT hZ (hw _ (List.mem_of_getElem? (i := 28) rfl))) (mvT hZ (hw _ (List.mem_of_getElem? (i := 29) rfl))) (mvT hZ (hw _ (List.mem_of_getElem? (i := 30) rfl))) (by decide) (backOf (W := 0) (rmOnly l Z a0 hw [] a_11 cst b_11 kb_11 (own_mk4 nn q1 q2 q3 q4) fmt h11 n0 Zc34 I1 I2 I3 I4 (hfmt : fmt.isRef = true) I5 O33 (hcst : ¬ (cst = (0 : Int32))) Fq11_0 Fq11_1 Fq11_2 Fq11_3 (own_mkl4 _ _ _ _ _) (own_mkchs4 rg6 rg7 rg8 rg9)) hZ (hw _ (List.mem_of_getElem? (i := 30) rfl)) (hw _ (List.mem_of_getElem? (i := 29) rfl)) (by decide) (by decide)) (g := (mkF m 122 #[.val (.int len), .val (.int xa), .val (.int xb), .val (.int xc), .val (.int xd), .val (.int (1 : Int32)), .val (.int q1), .val (.int q2), .val (.int q3), .val (.int q4), .val (.ref a_11), .val (.int (1 : Int32))] [(.ref a_11)])) rfl (by rw [hml]; rfl) (argsL := [(.ref a_11)]) (rest := []) (lenOf pd__Ljava_lang_String__Z rfl) rfl (by show 2 * 0 + _ ≤ _; exact Nat.le_of_eq rfl) (Jvm.hb hby at_122) (fun _ _ => ⟨rfl, e27, (by decide : 6 + 0 ≤ _), (by decide : 20 + 0 ≤ _)⟩)
        dsimp only [Pt.U, Pt.locs, Pt.cells, Pt.slots] at X35 l35 y35 z35 st35 hQ35
        subst l35 y35 z35
        obtain ⟨rfl, N35q, e35⟩ := hQ35
        have N35 := Fr.app N27 N35q
        obtain ⟨q36, hq36⟩ : ∃ z : Int32, z = (own_only (own_mk4 nn q1 q2 q3 q4)) := ⟨_, rfl⟩
        rw [← hq36] at st35
        have hon : q36 = (1 : Int32) := by rw [hq36, h23]; exact (show own_only [q1] = (1 : Int32) from own_onlyT (by simp) (own_allS h30 own_all0))
        have s37 : ∀ t_, Steps p.tables e below (T35.setTop (mkF m 135 #[.val (.int len), .val (.int xa), .val (.int xb), .val (.int xc), .val (.int xd), .val (.int (1 : Int32)), .val (.int q1), .val (.int q2), .val (.int q3), .val (.int q4), .val (.ref a_11), .val (.int (1 : Int32))] [(.int (1 : Int32))])) t_ → Steps p.tables e below (s₁.setTop (entryFrame m #[(.int len), (.int xa), (.int xb), (.int xc), (.int xd)] maxLocals)) t_ := fun t_ k_ => s32 t_ (by
          show Steps p.tables e below (T27.setTop (mkF m 122 #[.val (.int len), .val (.int xa), .val (.int xb), .val (.int xc), .val (.int xd), .val (.int (1 : Int32)), .val (.int q1), .val (.int q2), .val (.int q3), .val (.int q4), .val (.ref a_11), .val (.int (1 : Int32))] [(.ref a_11)])) t_
          refine st35 _ ?_
          show Steps p.tables e below (T35.setTop (mkF m 125 #[.val (.int len), .val (.int xa), .val (.int xb), .val (.int xc), .val (.int xd), .val (.int (1 : Int32)), .val (.int q1), .val (.int q2), .val (.int q3), .val (.int q4), .val (.ref a_11), .val (.int (1 : Int32))] [(.int q36)])) _
          refine XS.iload X35.here hx rfl (Jvm.hb hby at_125) rfl ?_
          show Steps p.tables e below (T35.setTop (mkF m 127 #[.val (.int len), .val (.int xa), .val (.int xb), .val (.int xc), .val (.int xd), .val (.int (1 : Int32)), .val (.int q1), .val (.int q2), .val (.int q3), .val (.int q4), .val (.ref a_11), .val (.int (1 : Int32))] [(.int (1 : Int32)), (.int q36)])) _
          refine XS.icmpNo X35.here hx rfl (Jvm.hb hby at_127) rfl (teq hon).2 ?_
          show Steps p.tables e below (T35.setTop (mkF m 130 #[.val (.int len), .val (.int xa), .val (.int xb), .val (.int xc), .val (.int xd), .val (.int (1 : Int32)), .val (.int q1), .val (.int q2), .val (.int q3), .val (.int q4), .val (.ref a_11), .val (.int (1 : Int32))] [])) _
          refine XS.iconst X35.here hx rfl (Jvm.hb hby at_130) ?_
          show Steps p.tables e below (T35.setTop (mkF m 131 #[.val (.int len), .val (.int xa), .val (.int xb), .val (.int xc), .val (.int xd), .val (.int (1 : Int32)), .val (.int q1), .val (.int q2), .val (.int q3), .val (.int q4), .val (.ref a_11), .val (.int (1 : Int32))] [(.int (1 : Int32))])) _
          refine XS.goto X35.here hx rfl (pc0 := 131) (pc' := 135) rfl (Jvm.hb hby at_131) (by decide) (by decide) ?_
          show Steps p.tables e below (T35.setTop (mkF m 135 #[.val (.int len), .val (.int xa), .val (.int xb), .val (.int xc), .val (.int xd), .val (.int (1 : Int32)), .val (.int q1), .val (.int q2), .val (.int q3), .val (.int q4), .val (.ref a_11), .val (.int (1 : Int32))] [(.int (1 : Int32))])) _
          show Steps p.tables e below (T35.setTop (mkF m 135 #[.val (.int len), .val (.int xa), .val (.int xb), .val (.int xc), .val (.int xd), .val (.int (1 : Int32)), .val (.int q1), .val (.int q2), .val (.int q3), .val (.int q4), .val (.ref a_11), .val (.int (1 : Int32))] [(.int (1 : Int32))])) t_
          exact k_)
        obtain ⟨fs, hr, hrun, hended, hREW⟩ := X35.leaveW hS (by first | exact Nat.le_refl _ | (rw [e35]; exact hk)) (v := some (.int (1 : Int32))) (fun h => by rw [Bd.returns] at h; cases h)
        refine ⟨_, _, s37 _ ?_, hrun, hended, _, _, rfl, ?_, (by show CHr Z ELs s.vm s.heap T35.vm T35.heap; rw [hh, e35]; exact CR.trans (CHv.at X35 hZ hEL CR.1)), hREW.1, hREW.2.1, hREW.2.2.1, hREW.2.2.2.mono (by decide) (by decide)⟩
        · show Steps p.tables e below (T35.setTop (mkF m 135 #[.val (.int len), .val (.int xa), .val (.int xb), .val (.int xc), .val (.int xd), .val (.int (1 : Int32)), .val (.int q1), .val (.int q2), .val (.int q3), .val (.int q4), .val (.ref a_11), .val (.int (1 : Int32))] [(.int (1 : Int32))])) _
          exact retN X35 hx (t := .boolean) Bd.returns (by simp) (Jvm.hb hby at_135) hr
        · show Q_rmLaw Z _ _ _ _ _ _ _ h0 n0 _ T35.heap _
          rw [e35]
          exact ⟨rfl, N35⟩
      · have s38 : ∀ t_, Steps p.tables e below (T27.setTop (mkF m 68 #[.val (.int len), .val (.int xa), .val (.int xb), .val (.int xc), .val (.int xd), .val (.int (1 : Int32)), .val (.int q1), .val (.int q2), .val (.int q3), .val (.int q4), .val (.ref a_11), .unset] [(.int (0 : Int32))])) t_ → Steps p.tables e below (s₁.setTop (entryFrame m #[(.int len), (.int xa), (.int xb), (.int xc), (.int xd)] maxLocals)) t_ := fun t_ k_ => s29 t_ (castTop (by rw [hq28, if_neg h30]) k_)
        have s39 : ∀ t_, Steps p.tables e below (T27.setTop (mkF m 122 #[.val (.int len), .val (.int xa), .val (.int xb), .val (.int xc), .val (.int xd), .val (.int (1 : Int32)), .val (.int q1), .val (.int q2), .val (.int q3), .val (.int q4), .val (.ref a_11), .val (.int (0 : Int32))] [(.ref a_11)])) t_ → Steps p.tables e below (s₁.setTop (entryFrame m #[(.int len), (.int xa), (.int xb), (.int xc), (.int xd)] maxLocals)) t_ := fun t_ k_ => s38 t_ (by
          show Steps p.tables e below (T27.setTop (mkF m 68 #[.val (.int len), .val (.int xa), .val (.int xb), .val (.int xc), .val (.int xd), .val (.int (1 : Int32)), .val (.int q1), .val (.int q2), .val (.int q3), .val (.int q4), .val (.ref a_11), .unset] [(.int (0 : Int32))])) t_
          refine XS.ifYes X27.here hx rfl (pc0 := 68) (pc' := 117) rfl (Jvm.hb hby at_68) rfl ((if0 _ _).trans (teq (rfl : (0 : Int32) = (0 : Int32))).1) (by decide) (by decide) ?_
          show Steps p.tables e below (T27.setTop (mkF m 117 #[.val (.int len), .val (.int xa), .val (.int xb), .val (.int xc), .val (.int xd), .val (.int (1 : Int32)), .val (.int q1), .val (.int q2), .val (.int q3), .val (.int q4), .val (.ref a_11), .unset] [])) _
          refine XS.iconst X27.here hx rfl (Jvm.hb hby at_117) ?_
          show Steps p.tables e below (T27.setTop (mkF m 118 #[.val (.int len), .val (.int xa), .val (.int xb), .val (.int xc), .val (.int xd), .val (.int (1 : Int32)), .val (.int q1), .val (.int q2), .val (.int q3), .val (.int q4), .val (.ref a_11), .unset] [(.int (0 : Int32))])) _
          refine XS.istore X27.here hx rfl (Jvm.hb hby at_118) rfl (l' := #[.val (.int len), .val (.int xa), .val (.int xb), .val (.int xc), .val (.int xd), .val (.int (1 : Int32)), .val (.int q1), .val (.int q2), .val (.int q3), .val (.int q4), .val (.ref a_11), .val (.int (0 : Int32))]) rfl ?_
          show Steps p.tables e below (T27.setTop (mkF m 120 #[.val (.int len), .val (.int xa), .val (.int xb), .val (.int xc), .val (.int xd), .val (.int (1 : Int32)), .val (.int q1), .val (.int q2), .val (.int q3), .val (.int q4), .val (.ref a_11), .val (.int (0 : Int32))] [])) _
          refine XS.aload X27.here hx rfl (Jvm.hb hby at_120) rfl rfl ?_
          show Steps p.tables e below (T27.setTop (mkF m 122 #[.val (.int len), .val (.int xa), .val (.int xb), .val (.int xc), .val (.int xd), .val (.int (1 : Int32)), .val (.int q1), .val (.int q2), .val (.int q3), .val (.int q4), .val (.ref a_11), .val (.int (0 : Int32))] [(.ref a_11)])) _
          show Steps p.tables e below (T27.setTop (mkF m 122 #[.val (.int len), .val (.int xa), .val (.int xb), .val (.int xc), .val (.int xd), .val (.int (1 : Int32)), .val (.int q1), .val (.int q2), .val (.int q3), .val (.int q4), .val (.ref a_11), .val (.int (0 : Int32))] [(.ref a_11)])) t_
          exact k_)
        have O40 : Old Z n0 h11 := (OX.keep K11 all0)
        have Zc41 : n0 ≤ h11.size := by omega
        obtain ⟨_, _, ⟨T42, L42, k42, n42⟩, -, X42, ⟨Lc42, hQ42, l42, y42, z42⟩, st42⟩ := Jvm.LawKit.callS X27 hx (y := (⟨"com/example/zastupnik/zastupnik/protocol/AsciiDigits", "only", "(Ljava/lang/String;)Z"⟩ : MethodName)) hown (mvT hZ (hw _ (List.mem_of_getElem? (i := 27) rfl))) (mvT hZ (hw _ (List.mem_of_getElem? (i := 28) rfl))) (mvT hZ (hw _ (List.mem_of_getElem? (i := 29) rfl))) (mvT hZ (hw _ (List.mem_of_getElem? (i := 30) rfl))) (by decide) (backOf (W := 0) (rmOnly l Z a0 hw [] a_11 cst b_11 kb_11 (own_mk4 nn q1 q2 q3 q4) fmt h11 n0 Zc41 I1 I2 I3 I4 (hfmt : fmt.isRef = true) I5 O40 (hcst : ¬ (cst = (0 : Int32))) Fq11_0 Fq11_1 Fq11_2 Fq11_3 (own_mkl4 _ _ _ _ _) (own_mkchs4 rg6 rg7 rg8 rg9)) hZ (hw _ (List.mem_of_getElem? (i := 30) rfl)) (hw _ (List.mem_of_getElem? (i := 29) rfl)) (by decide) (by decide)) (g := (mkF m 122 #[.val (.int len), .val (.int xa), .val (.int xb), .val (.int xc), .val (.int xd), .val (.int (1 : Int32)), .val (.int q1), .val (.int q2), .val (.int q3), .val (.int q4), .val (.ref a_11), .val (.int (0 : Int32))] [(.ref a_11)])) rfl (by rw [hml]; rfl) (argsL := [(.ref a_11)]) (rest := []) (lenOf pd__Ljava_lang_String__Z rfl) rfl (by show 2 * 0 + _ ≤ _; exact Nat.le_of_eq rfl) (Jvm.hb hby at_122) (fun _ _ => ⟨rfl, e27, (by decide : 6 + 0 ≤ _), (by decide : 20 + 0 ≤ _)⟩)
        dsimp only [Pt.U, Pt.locs, Pt.cells, Pt.slots] at X42 l42 y42 z42 st42 hQ42
        subst l42 y42 z42
        obtain ⟨rfl, N42q, e42⟩ := hQ42
        have N42 := Fr.app N27 N42q
        obtain ⟨q43, hq43⟩ : ∃ z : Int32, z = (own_only (own_mk4 nn q1 q2 q3 q4)) := ⟨_, rfl⟩
        rw [← hq43] at st42
        have hon : q43 = (0 : Int32) := by rw [hq43, h23]; exact (show own_only [q1] = (0 : Int32) from own_onlyF (c := q1) (by simp) h30)
        have s44 : ∀ t_, Steps p.tables e below (T42.setTop (mkF m 135 #[.val (.int len), .val (.int xa), .val (.int xb), .val (.int xc), .val (.int xd), .val (.int (1 : Int32)), .val (.int q1), .val (.int q2), .val (.int q3), .val (.int q4), .val (.ref a_11), .val (.int (0 : Int32))] [(.int (1 : Int32))])) t_ → Steps p.tables e below (s₁.setTop (entryFrame m #[(.int len), (.int xa), (.int xb), (.int xc), (.int xd)] maxLocals)) t_ := fun t_ k_ => s39 t_ (by
          show Steps p.tables e below (T27.setTop (mkF m 122 #[.val (.int len), .val (.int xa), .val (.int xb), .val (.int xc), .val (.int xd), .val (.int (1 : Int32)), .val (.int q1), .val (.int q2), .val (.int q3), .val (.int q4), .val (.ref a_11), .val (.int (0 : Int32))] [(.ref a_11)])) t_
          refine st42 _ ?_
          show Steps p.tables e below (T42.setTop (mkF m 125 #[.val (.int len), .val (.int xa), .val (.int xb), .val (.int xc), .val (.int xd), .val (.int (1 : Int32)), .val (.int q1), .val (.int q2), .val (.int q3), .val (.int q4), .val (.ref a_11), .val (.int (0 : Int32))] [(.int q43)])) _
          refine XS.iload X42.here hx rfl (Jvm.hb hby at_125) rfl ?_
          show Steps p.tables e below (T42.setTop (mkF m 127 #[.val (.int len), .val (.int xa), .val (.int xb), .val (.int xc), .val (.int xd), .val (.int (1 : Int32)), .val (.int q1), .val (.int q2), .val (.int q3), .val (.int q4), .val (.ref a_11), .val (.int (0 : Int32))] [(.int (0 : Int32)), (.int q43)])) _
          refine XS.icmpNo X42.here hx rfl (Jvm.hb hby at_127) rfl (teq hon).2 ?_
          show Steps p.tables e below (T42.setTop (mkF m 130 #[.val (.int len), .val (.int xa), .val (.int xb), .val (.int xc), .val (.int xd), .val (.int (1 : Int32)), .val (.int q1), .val (.int q2), .val (.int q3), .val (.int q4), .val (.ref a_11), .val (.int (0 : Int32))] [])) _
          refine XS.iconst X42.here hx rfl (Jvm.hb hby at_130) ?_
          show Steps p.tables e below (T42.setTop (mkF m 131 #[.val (.int len), .val (.int xa), .val (.int xb), .val (.int xc), .val (.int xd), .val (.int (1 : Int32)), .val (.int q1), .val (.int q2), .val (.int q3), .val (.int q4), .val (.ref a_11), .val (.int (0 : Int32))] [(.int (1 : Int32))])) _
          refine XS.goto X42.here hx rfl (pc0 := 131) (pc' := 135) rfl (Jvm.hb hby at_131) (by decide) (by decide) ?_
          show Steps p.tables e below (T42.setTop (mkF m 135 #[.val (.int len), .val (.int xa), .val (.int xb), .val (.int xc), .val (.int xd), .val (.int (1 : Int32)), .val (.int q1), .val (.int q2), .val (.int q3), .val (.int q4), .val (.ref a_11), .val (.int (0 : Int32))] [(.int (1 : Int32))])) _
          show Steps p.tables e below (T42.setTop (mkF m 135 #[.val (.int len), .val (.int xa), .val (.int xb), .val (.int xc), .val (.int xd), .val (.int (1 : Int32)), .val (.int q1), .val (.int q2), .val (.int q3), .val (.int q4), .val (.ref a_11), .val (.int (0 : Int32))] [(.int (1 : Int32))])) t_
          exact k_)
        obtain ⟨fs, hr, hrun, hended, hREW⟩ := X42.leaveW hS (by first | exact Nat.le_refl _ | (rw [e42]; exact hk)) (v := some (.int (1 : Int32))) (fun h => by rw [Bd.returns] at h; cases h)
        refine ⟨_, _, s44 _ ?_, hrun, hended, _, _, rfl, ?_, (by show CHr Z ELs s.vm s.heap T42.vm T42.heap; rw [hh, e42]; exact CR.trans (CHv.at X42 hZ hEL CR.1)), hREW.1, hREW.2.1, hREW.2.2.1, hREW.2.2.2.mono (by decide) (by decide)⟩
        · show Steps p.tables e below (T42.setTop (mkF m 135 #[.val (.int len), .val (.int xa), .val (.int xb), .val (.int xc), .val (.int xd), .val (.int (1 : Int32)), .val (.int q1), .val (.int q2), .val (.int q3), .val (.int q4), .val (.ref a_11), .val (.int (0 : Int32))] [(.int (1 : Int32))])) _
          exact retN X42 hx (t := .boolean) Bd.returns (by simp) (Jvm.hb hby at_135) hr
        · show Q_rmLaw Z _ _ _ _ _ _ _ h0 n0 _ T42.heap _
          rw [e42]
          exact ⟨rfl, N42⟩
    · have s45 : ∀ t_, Steps p.tables e below (T11.setTop (mkF m 52 #[.val (.int len), .val (.int xa), .val (.int xb), .val (.int xc), .val (.int xd), .val (.int (Int32.ofNat nn)), .val (.int q1), .val (.int q2), .val (.int q3), .val (.int q4), .val (.ref a_11), .unset] [])) t_ → Steps p.tables e below (s₁.setTop (entryFrame m #[(.int len), (.int xa), (.int xb), (.int xc), (.int xd)] maxLocals)) t_ := fun t_ k_ => s22 t_ (castTop (by rfl) k_)
      by_cases h46 : nn = 2
      · have s47 : ∀ t_, Steps p.tables e below (T11.setTop (mkF m 52 #[.val (.int len), .val (.int xa), .val (.int xb), .val (.int xc), .val (.int xd), .val (.int (2 : Int32)), .val (.int q1), .val (.int q2), .val (.int q3), .val (.int q4), .val (.ref a_11), .unset] [])) t_ → Steps p.tables e below (s₁.setTop (entryFrame m #[(.int len), (.int xa), (.int xb), (.int xc), (.int xd)] maxLocals)) t_ := fun t_ k_ => s45 t_ (castTop (by subst h46; rfl) k_)
        have s48 : ∀ t_, Steps p.tables e below (T11.setTop (mkF m 65 #[.val (.int len), .val (.int xa), .val (.int xb), .val (.int xc), .val (.int xd), .val (.int (2 : Int32)), .val (.int q1), .val (.int q2), .val (.int q3), .val (.int q4), .val (.ref a_11), .unset] [(.int q1)])) t_ → Steps p.tables e below (s₁.setTop (entryFrame m #[(.int len), (.int xa), (.int xb), (.int xc), (.int xd)] maxLocals)) t_ := fun t_ k_ => s47 t_ (by
          show Steps p.tables e below (T11.setTop (mkF m 52 #[.val (.int len), .val (.int xa), .val (.int xb), .val (.int xc), .val (.int xd), .val (.int (2 : Int32)), .val (.int q1), .val (.int q2), .val (.int q3), .val (.int q4), .val (.ref a_11), .unset] [])) t_
          refine XS.iload X11.here hx rfl (Jvm.hb hby at_52) rfl ?_
          show Steps p.tables e below (T11.setTop (mkF m 54 #[.val (.int len), .val (.int xa), .val (.int xb), .val (.int xc), .val (.int xd), .val (.int (2 : Int32)), .val (.int q1), .val (.int q2), .val (.int q3), .val (.int q4), .val (.ref a_11), .unset] [(.int (2 : Int32))])) _
          refine XS.ifNo X11.here hx rfl (Jvm.hb hby at_54) rfl ((if0 _ _).trans (tlt (by decide : ((0 : Int32) < (2 : Int32)))).2.2.2) ?_
          show Steps p.tables e below (T11.setTop (mkF m 57 #[.val (.int len), .val (.int xa), .val (.int xb), .val (.int xc), .val (.int xd), .val (.int (2 : Int32)), .val (.int q1), .val (.int q2), .val (.int q3), .val (.int q4), .val (.ref a_11), .unset] [])) _
          refine XS.iload X11.here hx rfl (Jvm.hb hby at_57) rfl ?_
          show Steps p.tables e below (T11.setTop (mkF m 59 #[.val (.int len), .val (.int xa), .val (.int xb), .val (.int xc), .val (.int xd), .val (.int (2 : Int32)), .val (.int q1), .val (.int q2), .val (.int q3), .val (.int q4), .val (.ref a_11), .unset] [(.int (2 : Int32))])) _
          refine XS.iconst X11.here hx rfl (Jvm.hb hby at_59) ?_
          show Steps p.tables e below (T11.setTop (mkF m 60 #[.val (.int len), .val (.int xa), .val (.int xb), .val (.int xc), .val (.int xd), .val (.int (2 : Int32)), .val (.int q1), .val (.int q2), .val (.int q3), .val (.int q4), .val (.ref a_11), .unset] [(.int (1 : Int32)), (.int (2 : Int32))])) _
          refine XS.icmpNo X11.here hx rfl (Jvm.hb hby at_60) rfl (flt (by decide : ¬ ((2 : Int32) < (1 : Int32)))).1 ?_
          show Steps p.tables e below (T11.setTop (mkF m 63 #[.val (.int len), .val (.int xa), .val (.int xb), .val (.int xc), .val (.int xd), .val (.int (2 : Int32)), .val (.int q1), .val (.int q2), .val (.int q3), .val (.int q4), .val (.ref a_11), .unset] [])) _
          refine XS.iload X11.here hx rfl (Jvm.hb hby at_63) rfl ?_
          show Steps p.tables e below (T11.setTop (mkF m 65 #[.val (.int len), .val (.int xa), .val (.int xb), .val (.int xc), .val (.int xd), .val (.int (2 : Int32)), .val (.int q1), .val (.int q2), .val (.int q3), .val (.int q4), .val (.ref a_11), .unset] [(.int q1)])) _
          show Steps p.tables e below (T11.setTop (mkF m 65 #[.val (.int len), .val (.int xa), .val (.int xb), .val (.int xc), .val (.int xd), .val (.int (2 : Int32)), .val (.int q1), .val (.int q2), .val (.int q3), .val (.int q4), .val (.ref a_11), .unset] [(.int q1)])) t_
          exact k_)
        have Zc49 : n0 ≤ h11.size := by omega
        obtain ⟨_, _, ⟨T50, L50, k50, n50⟩, -, X50, ⟨Lc50, hQ50, l50, y50, z50⟩, st50⟩ := Jvm.LawKit.callS X11 hx (y := (⟨"com/example/zastupnik/zastupnik/protocol/AsciiDigitsOnlyPinLaw", "digit", "(C)Z"⟩ : MethodName)) hown (mvT hZ (hw _ (List.mem_of_getElem? (i := 47) rfl))) (mvT hZ (hw _ (List.mem_of_getElem? (i := 48) rfl))) (mvT hZ (hw _ (List.mem_of_getElem? (i := 3) rfl))) (mvT hZ (hw _ (List.mem_of_getElem? (i := 49) rfl))) (by decide) (backOf (W := 0) (rmDig l Z a0 hw [] q1 h11 n0 Zc49) hZ (hw _ (List.mem_of_getElem? (i := 49) rfl)) (hw _ (List.mem_of_getElem? (i := 3) rfl)) (by decide) (by decide)) (g := (mkF m 65 #[.val (.int len), .val (.int xa), .val (.int xb), .val (.int xc), .val (.int xd), .val (.int (2 : Int32)), .val (.int q1), .val (.int q2), .val (.int q3), .val (.int q4), .val (.ref a_11), .unset] [(.int q1)])) rfl (by rw [hml]; rfl) (argsL := [(.int q1)]) (rest := []) (lenOf pd__C_Z rfl) rfl (by show 2 * 0 + _ ≤ _; exact Nat.le_of_eq rfl) (Jvm.hb hby at_65) (fun _ _ => ⟨rfl, e11, (by decide : 6 + 0 ≤ _), (by decide : 20 + 0 ≤ _)⟩)
        dsimp only [Pt.U, Pt.locs, Pt.cells, Pt.slots] at X50 l50 y50 z50 st50 hQ50
        subst l50 y50 z50
        obtain ⟨rfl, N50q, e50⟩ := hQ50
        have N50 := Fr.app N11 N50q
        obtain ⟨q51, hq51⟩ : ∃ z : Int32, z = (if own_dig q1 then (1 : Int32) else (0 : Int32)) := ⟨_, rfl⟩
        rw [← hq51] at st50
        have s52 : ∀ t_, Steps p.tables e below (T50.setTop (mkF m 68 #[.val (.int len), .val (.int xa), .val (.int xb), .val (.int xc), .val (.int xd), .val (.int (2 : Int32)), .val (.int q1), .val (.int q2), .val (.int q3), .val (.int q4), .val (.ref a_11), .unset] [(.int q51)])) t_ → Steps p.tables e below (s₁.setTop (entryFrame m #[(.int len), (.int xa), (.int xb), (.int xc), (.int xd)] maxLocals)) t_ := fun t_ k_ => s48 t_ (by
          show Steps p.tables e below (T11.setTop (mkF m 65 #[.val (.int len), .val (.int xa), .val (.int xb), .val (.int xc), .val (.int xd), .val (.int (2 : Int32)), .val (.int q1), .val (.int q2), .val (.int q3), .val (.int q4), .val (.ref a_11), .unset] [(.int q1)])) t_
          refine st50 _ ?_
          show Steps p.tables e below (T50.setTop (mkF m 68 #[.val (.int len), .val (.int xa), .val (.int xb), .val (.int xc), .val (.int xd), .val (.int (2 : Int32)), .val (.int q1), .val (.int q2), .val (.int q3), .val (.int q4), .val (.ref a_11), .unset] [(.int q51)])) _
          show Steps p.tables e below (T50.setTop (mkF m 68 #[.val (.int len), .val (.int xa), .val (.int xb), .val (.int xc), .val (.int xd), .val (.int (2 : Int32)), .val (.int q1), .val (.int q2), .val (.int q3), .val (.int q4), .val (.ref a_11), .unset] [(.int q51)])) t_
          exact k_)
        by_cases h53 : own_dig q1
        · have s54 : ∀ t_, Steps p.tables e below (T50.setTop (mkF m 68 #[.val (.int len), .val (.int xa), .val (.int xb), .val (.int xc), .val (.int xd), .val (.int (2 : Int32)), .val (.int q1), .val (.int q2), .val (.int q3), .val (.int q4), .val (.ref a_11), .unset] [(.int (1 : Int32))])) t_ → Steps p.tables e below (s₁.setTop (entryFrame m #[(.int len), (.int xa), (.int xb), (.int xc), (.int xd)] maxLocals)) t_ := fun t_ k_ => s52 t_ (castTop (by rw [hq51, if_pos h53]) k_)
          have s55 : ∀ t_, Steps p.tables e below (T50.setTop (mkF m 79 #[.val (.int len), .val (.int xa), .val (.int xb), .val (.int xc), .val (.int xd), .val (.int (2 : Int32)), .val (.int q1), .val (.int q2), .val (.int q3), .val (.int q4), .val (.ref a_11), .unset] [(.int q2)])) t_ → Steps p.tables e below (s₁.setTop (entryFrame m #[(.int len), (.int xa), (.int xb), (.int xc), (.int xd)] maxLocals)) t_ := fun t_ k_ => s54 t_ (by
            show Steps p.tables e below (T50.setTop (mkF m 68 #[.val (.int len), .val (.int xa), .val (.int xb), .val (.int xc), .val (.int xd), .val (.int (2 : Int32)), .val (.int q1), .val (.int q2), .val (.int q3), .val (.int q4), .val (.ref a_11), .unset] [(.int (1 : Int32))])) t_
            refine XS.ifNo X50.here hx rfl (Jvm.hb hby at_68) rfl ((if0 _ _).trans (feq (by decide : ¬ ((1 : Int32) = (0 : Int32)))).1) ?_
            show Steps p.tables e below (T50.setTop (mkF m 71 #[.val (.int len), .val (.int xa), .val (.int xb), .val (.int xc), .val (.int xd), .val (.int (2 : Int32)), .val (.int q1), .val (.int q2), .val (.int q3), .val (.int q4), .val (.ref a_11), .unset] [])) _
            refine XS.iload X50.here hx rfl (Jvm.hb hby at_71) rfl ?_
            show Steps p.tables e below (T50.setTop (mkF m 73 #[.val (.int len), .val (.int xa), .val (.int xb), .val (.int xc), .val (.int xd), .val (.int (2 : Int32)), .val (.int q1), .val (.int q2), .val (.int q3), .val (.int q4), .val (.ref a_11), .unset] [(.int (2 : Int32))])) _
            refine XS.iconst X50.here hx rfl (Jvm.hb hby at_73) ?_
            show Steps p.tables e below (T50.setTop (mkF m 74 #[.val (.int len), .val (.int xa), .val (.int xb), .val (.int xc), .val (.int xd), .val (.int (2 : Int32)), .val (.int q1), .val (.int q2), .val (.int q3), .val (.int q4), .val (.ref a_11), .unset] [(.int (2 : Int32)), (.int (2 : Int32))])) _
            refine XS.icmpNo X50.here hx rfl (Jvm.hb hby at_74) rfl (flt (by decide : ¬ ((2 : Int32) < (2 : Int32)))).1 ?_
            show Steps p.tables e below (T50.setTop (mkF m 77 #[.val (.int len), .val (.int xa), .val (.int xb), .val (.int xc), .val (.int xd), .val (.int (2 : Int32)), .val (.int q1), .val (.int q2), .val (.int q3), .val (.int q4), .val (.ref a_11), .unset] [])) _
            refine XS.iload X50.here hx rfl (Jvm.hb hby at_77) rfl ?_
            show Steps p.tables e below (T50.setTop (mkF m 79 #[.val (.int len), .val (.int xa), .val (.int xb), .val (.int xc), .val (.int xd), .val (.int (2 : Int32)), .val (.int q1), .val (.int q2), .val (.int q3), .val (.int q4), .val (.ref a_11), .unset] [(.int q2)])) _
            show Steps p.tables e below (T50.setTop (mkF m 79 #[.val (.int len), .val (.int xa), .val (.int xb), .val (.int xc), .val (.int xd), .val (.int (2 : Int32)), .val (.int q1), .val (.int q2), .val (.int q3), .val (.int q4), .val (.ref a_11), .unset] [(.int q2)])) t_
            exact k_)
          have Zc56 : n0 ≤ h11.size := by omega
          obtain ⟨_, _, ⟨T57, L57, k57, n57⟩, -, X57, ⟨Lc57, hQ57, l57, y57, z57⟩, st57⟩ := Jvm.LawKit.callS X50 hx (y := (⟨"com/example/zastupnik/zastupnik/protocol/AsciiDigitsOnlyPinLaw", "digit", "(C)Z"⟩ : MethodName)) hown (mvT hZ (hw _ (List.mem_of_getElem? (i := 47) rfl))) (mvT hZ (hw _ (List.mem_of_getElem? (i := 48) rfl))) (mvT hZ (hw _ (List.mem_of_getElem? (i := 3) rfl))) (mvT hZ (hw _ (List.mem_of_getElem? (i := 49) rfl))) (by decide) (backOf (W := 0) (rmDig l Z a0 hw [] q2 h11 n0 Zc56) hZ (hw _ (List.mem_of_getElem? (i := 49) rfl)) (hw _ (List.mem_of_getElem? (i := 3) rfl)) (by decide) (by decide)) (g := (mkF m 79 #[.val (.int len), .val (.int xa), .val (.int xb), .val (.int xc), .val (.int xd), .val (.int (2 : Int32)), .val (.int q1), .val (.int q2), .val (.int q3), .val (.int q4), .val (.ref a_11), .unset] [(.int q2)])) rfl (by rw [hml]; rfl) (argsL := [(.int q2)]) (rest := []) (lenOf pd__C_Z rfl) rfl (by show 2 * 0 + _ ≤ _; exact Nat.le_of_eq rfl) (Jvm.hb hby at_79) (fun _ _ => ⟨rfl, e50, (by decide : 6 + 0 ≤ _), (by decide : 20 + 0 ≤ _)⟩)
          dsimp only [Pt.U, Pt.locs, Pt.cells, Pt.slots] at X57 l57 y57 z57 st57 hQ57
          subst l57 y57 z57
          obtain ⟨rfl, N57q, e57⟩ := hQ57
          have N57 := Fr.app N50 N57q
          obtain ⟨q58, hq58⟩ : ∃ z : Int32, z = (if own_dig q2 then (1 : Int32) else (0 : Int32)) := ⟨_, rfl⟩
          rw [← hq58] at st57
          have s59 : ∀ t_, Steps p.tables e below (T57.setTop (mkF m 82 #[.val (.int len), .val (.int xa), .val (.int xb), .val (.int xc), .val (.int xd), .val (.int (2 : Int32)), .val (.int q1), .val (.int q2), .val (.int q3), .val (.int q4), .val (.ref a_11), .unset] [(.int q58)])) t_ → Steps p.tables e below (s₁.setTop (entryFrame m #[(.int len), (.int xa), (.int xb), (.int xc), (.int xd)] maxLocals)) t_ := fun t_ k_ => s55 t_ (by
            show Steps p.tables e below (T50.setTop (mkF m 79 #[.val (.int len), .val (.int xa), .val (.int xb), .val (.int xc), .val (.int xd), .val (.int (2 : Int32)), .val (.int q1), .val (.int q2), .val (.int q3), .val (.int q4), .val (.ref a_11), .unset] [(.int q2)])) t_
            refine st57 _ ?_
            show Steps p.tables e below (T57.setTop (mkF m 82 #[.val (.int len), .val (.int xa), .val (.int xb), .val (.int xc), .val (.int xd), .val (.int (2 : Int32)), .val (.int q1), .val (.int q2), .val (.int q3), .val (.int q4), .val (.ref a_11), .unset] [(.int q58)])) _
            show Steps p.tables e below (T57.setTop (mkF m 82 #[.val (.int len), .val (.int xa), .val (.int xb), .val (.int xc), .val (.int xd), .val (.int (2 : Int32)), .val (.int q1), .val (.int q2), .val (.int q3), .val (.int q4), .val (.ref a_11), .unset] [(.int q58)])) t_
            exact k_)
          by_cases h60 : own_dig q2
          · have s61 : ∀ t_, Steps p.tables e below (T57.setTop (mkF m 82 #[.val (.int len), .val (.int xa), .val (.int xb), .val (.int xc), .val (.int xd), .val (.int (2 : Int32)), .val (.int q1), .val (.int q2), .val (.int q3), .val (.int q4), .val (.ref a_11), .unset] [(.int (1 : Int32))])) t_ → Steps p.tables e below (s₁.setTop (entryFrame m #[(.int len), (.int xa), (.int xb), (.int xc), (.int xd)] maxLocals)) t_ := fun t_ k_ => s59 t_ (castTop (by rw [hq58, if_pos h60]) k_)
            have s62 : ∀ t_, Steps p.tables e below (T57.setTop (mkF m 122 #[.val (.int len), .val (.int xa), .val (.int xb), .val (.int xc), .val (.int xd), .val (.int (2 : Int32)), .val (.int q1), .val (.int q2), .val (.int q3), .val (.int q4), .val (.ref a_11), .val (.int (1 : Int32))] [(.ref a_11)])) t_ → Steps p.tables e below (s₁.setTop (entryFrame m #[(.int len), (.int xa), (.int xb), (.int xc), (.int xd)] maxLocals)) t_ := fun t_ k_ => s61 t_ (by
              show Steps p.tables e below (T57.setTop (mkF m 82 #[.val (.int len), .val (.int xa), .val (.int xb), .val (.int xc), .val (.int xd), .val (.int (2 : Int32)), .val (.int q1), .val (.int q2), .val (.int q3), .val (.int q4), .val (.ref a_11), .unset] [(.int (1 : Int32))])) t_
              refine XS.ifNo X57.here hx rfl (Jvm.hb hby at_82) rfl ((if0 _ _).trans (feq (by decide : ¬ ((1 : Int32) = (0 : Int32)))).1) ?_
              show Steps p.tables e below (T57.setTop (mkF m 85 #[.val (.int len), .val (.int xa), .val (.int xb), .val (.int xc), .val (.int xd), .val (.int (2 : Int32)), .val (.int q1), .val (.int q2), .val (.int q3), .val (.int q4), .val (.ref a_11), .unset] [])) _
              refine XS.iload X57.here hx rfl (Jvm.hb hby at_85) rfl ?_
              show Steps p.tables e below (T57.setTop (mkF m 87 #[.val (.int len), .val (.int xa), .val (.int xb), .val (.int xc), .val (.int xd), .val (.int (2 : Int32)), .val (.int q1), .val (.int q2), .val (.int q3), .val (.int q4), .val (.ref a_11), .unset] [(.int (2 : Int32))])) _
              refine XS.iconst X57.here hx rfl (Jvm.hb hby at_87) ?_
              show Steps p.tables e below (T57.setTop (mkF m 88 #[.val (.int len), .val (.int xa), .val (.int xb), .val (.int xc), .val (.int xd), .val (.int (2 : Int32)), .val (.int q1), .val (.int q2), .val (.int q3), .val (.int q4), .val (.ref a_11), .unset] [(.int (3 : Int32)), (.int (2 : Int32))])) _
              refine XS.icmpYes X57.here hx rfl (pc0 := 88) (pc' := 99) rfl (Jvm.hb hby at_88) rfl (tlt (by decide : ((2 : Int32) < (3 : Int32)))).1 (by decide) (by decide) ?_
              show Steps p.tables e below (T57.setTop (mkF m 99 #[.val (.int len), .val (.int xa), .val (.int xb), .val (.int xc), .val (.int xd), .val (.int (2 : Int32)), .val (.int q1), .val (.int q2), .val (.int q3), .val (.int q4), .val (.ref a_11), .unset] [])) _
              refine XS.iload X57.here hx rfl (Jvm.hb hby at_99) rfl ?_
              show Steps p.tables e below (T57.setTop (mkF m 101 #[.val (.int len), .val (.int xa), .val (.int xb), .val (.int xc), .val (.int xd), .val (.int (2 : Int32)), .val (.int q1), .val (.int q2), .val (.int q3), .val (.int q4), .val (.ref a_11), .unset] [(.int (2 : Int32))])) _
              refine XS.iconst X57.here hx rfl (Jvm.hb hby at_101) ?_
              show Steps p.tables e below (T57.setTop (mkF m 102 #[.val (.int len), .val (.int xa), .val (.int xb), .val (.int xc), .val (.int xd), .val (.int (2 : Int32)), .val (.int q1), .val (.int q2), .val (.int q3), .val (.int q4), .val (.ref a_11), .unset] [(.int (4 : Int32)), (.int (2 : Int32))])) _
              refine XS.icmpYes X57.here hx rfl (pc0 := 102) (pc' := 113) rfl (Jvm.hb hby at_102) rfl (tlt (by decide : ((2 : Int32) < (4 : Int32)))).1 (by decide) (by decide) ?_
              show Steps p.tables e below (T57.setTop (mkF m 113 #[.val (.int len), .val (.int xa), .val (.int xb), .val (.int xc), .val (.int xd), .val (.int (2 : Int32)), .val (.int q1), .val (.int q2), .val (.int q3), .val (.int q4), .val (.ref a_11), .unset] [])) _
              refine XS.iconst X57.here hx rfl (Jvm.hb hby at_113) ?_
              show Steps p.tables e below (T57.setTop (mkF m 114 #[.val (.int len), .val (.int xa), .val (.int xb), .val (.int xc), .val (.int xd), .val (.int (2 : Int32)), .val (.int q1), .val (.int q2), .val (.int q3), .val (.int q4), .val (.ref a_11), .unset] [(.int (1 : Int32))])) _
              refine XS.goto X57.here hx rfl (pc0 := 114) (pc' := 118) rfl (Jvm.hb hby at_114) (by decide) (by decide) ?_
              show Steps p.tables e below (T57.setTop (mkF m 118 #[.val (.int len), .val (.int xa), .val (.int xb), .val (.int xc), .val (.int xd), .val (.int (2 : Int32)), .val (.int q1), .val (.int q2), .val (.int q3), .val (.int q4), .val (.ref a_11), .unset] [(.int (1 : Int32))])) _
              refine XS.istore X57.here hx rfl (Jvm.hb hby at_118) rfl (l' := #[.val (.int len), .val (.int xa), .val (.int xb), .val (.int xc), .val (.int xd), .val (.int (2 : Int32)), .val (.int q1), .val (.int q2), .val (.int q3), .val (.int q4), .val (.ref a_11), .val (.int (1 : Int32))]) rfl ?_
              show Steps p.tables e below (T57.setTop (mkF m 120 #[.val (.int len), .val (.int xa), .val (.int xb), .val (.int xc), .val (.int xd), .val (.int (2 : Int32)), .val (.int q1), .val (.int q2), .val (.int q3), .val (.int q4), .val (.ref a_11), .val (.int (1 : Int32))] [])) _
              refine XS.aload X57.here hx rfl (Jvm.hb hby at_120) rfl rfl ?_
              show Steps p.tables e below (T57.setTop (mkF m 122 #[.val (.int len), .val (.int xa), .val (.int xb), .val (.int xc), .val (.int xd), .val (.int (2 : Int32)), .val (.int q1), .val (.int q2), .val (.int q3), .val (.int q4), .val (.ref a_11), .val (.int (1 : Int32))] [(.ref a_11)])) _
              show Steps p.tables e below (T57.setTop (mkF m 122 #[.val (.int len), .val (.int xa), .val (.int xb), .val (.int xc), .val (.int xd), .val (.int (2 : Int32)), .val (.int q1), .val (.int q2), .val (.int q3), .val (.int q4), .val (.ref a_11), .val (.int (1 : Int32))] [(.ref a_11)])) t_
              exact k_)
            have O63 : Old Z n0 h11 := (OX.keep K11 all0)
            have Zc64 : n0 ≤ h11.size := by omega
            obtain ⟨_, _, ⟨T65, L65, k65, n65⟩, -, X65, ⟨Lc65, hQ65, l65, y65, z65⟩, st65⟩ := Jvm.LawKit.callS X57 hx (y := (⟨"com/example/zastupnik/zastupnik/protocol/AsciiDigits", "only", "(Ljava/lang/String;)Z"⟩ : MethodName)) hown (mvT hZ (hw _ (List.mem_of_getElem? (i := 27) rfl))) (mvT hZ (hw _ (List.mem_of_getElem? (i := 28) rfl))) (mvT hZ (hw _ (List.mem_of_getElem? (i := 29) rfl))) (mvT hZ (hw _ (List.mem_of_getElem? (i := 30) rfl))) (by decide) (backOf (W := 0) (rmOnly l Z a0 hw [] a_11 cst b_11 kb_11 (own_mk4 nn q1 q2 q3 q4) fmt h11 n0 Zc64 I1 I2 I3 I4 (hfmt : fmt.isRef = true) I5 O63 (hcst : ¬ (cst = (0 : Int32))) Fq11_0 Fq11_1 Fq11_2 Fq11_3 (own_mkl4 _ _ _ _ _) (own_mkchs4 rg6 rg7 rg8 rg9)) hZ (hw _ (List.mem_of_getElem? (i := 30) rfl)) (hw _ (List.mem_of_getElem? (i := 29) rfl)) (by decide) (by decide)) (g := (mkF m 122 #[.val (.int len), .val (.int xa), .val (.int xb), .val (.int xc), .val (.int xd), .val (.int (2 : Int32)), .val (.int q1), .val (.int q2), .val (.int q3), .val (.int q4), .val (.ref a_11), .val (.int (1 : Int32))] [(.ref a_11)])) rfl (by rw [hml]; rfl) (argsL := [(.ref a_11)]) (rest := []) (lenOf pd__Ljava_lang_String__Z rfl) rfl (by show 2 * 0 + _ ≤ _; exact Nat.le_of_eq rfl) (Jvm.hb hby at_122) (fun _ _ => ⟨rfl, e57, (by decide : 6 + 0 ≤ _), (by decide : 20 + 0 ≤ _)⟩)
            dsimp only [Pt.U, Pt.locs, Pt.cells, Pt.slots] at X65 l65 y65 z65 st65 hQ65
            subst l65 y65 z65
            obtain ⟨rfl, N65q, e65⟩ := hQ65
            have N65 := Fr.app N57 N65q
            obtain ⟨q66, hq66⟩ : ∃ z : Int32, z = (own_only (own_mk4 nn q1 q2 q3 q4)) := ⟨_, rfl⟩
            rw [← hq66] at st65
            have hon : q66 = (1 : Int32) := by rw [hq66, h46]; exact (show own_only [q1, q2] = (1 : Int32) from own_onlyT (by simp) (own_allS h53 (own_allS h60 own_all0)))
            have s67 : ∀ t_, Steps p.tables e below (T65.setTop (mkF m 135 #[.val (.int len), .val (.int xa), .val (.int xb), .val (.int xc), .val (.int xd), .val (.int (2 : Int32)), .val (.int q1), .val (.int q2), .val (.int q3), .val (.int q4), .val (.ref a_11), .val (.int (1 : Int32))] [(.int (1 : Int32))])) t_ → Steps p.tables e below (s₁.setTop (entryFrame m #[(.int len), (.int xa), (.int xb), (.int xc), (.int xd)] maxLocals)) t_ := fun t_ k_ => s62 t_ (by
              show Steps p.tables e below (T57.setTop (mkF m 122 #[.val (.int len), .val (.int xa), .val (.int xb), .val (.int xc), .val (.int xd), .val (.int (2 : Int32)), .val (.int q1), .val (.int q2), .val (.int q3), .val (.int q4), .val (.ref a_11), .val (.int (1 : Int32))] [(.ref a_11)])) t_
              refine st65 _ ?_
              show Steps p.tables e below (T65.setTop (mkF m 125 #[.val (.int len), .val (.int xa), .val (.int xb), .val (.int xc), .val (.int xd), .val (.int (2 : Int32)), .val (.int q1), .val (.int q2), .val (.int q3), .val (.int q4), .val (.ref a_11), .val (.int (1 : Int32))] [(.int q66)])) _
              refine XS.iload X65.here hx rfl (Jvm.hb hby at_125) rfl ?_
              show Steps p.tables e below (T65.setTop (mkF m 127 #[.val (.int len), .val (.int xa), .val (.int xb), .val (.int xc), .val (.int xd), .val (.int (2 : Int32)), .val (.int q1), .val (.int q2), .val (.int q3), .val (.int q4), .val (.ref a_11), .val (.int (1 : Int32))] [(.int (1 : Int32)), (.int q66)])) _
              refine XS.icmpNo X65.here hx rfl (Jvm.hb hby at_127) rfl (teq hon).2 ?_
              show Steps p.tables e below (T65.setTop (mkF m 130 #[.val (.int len), .val (.int xa), .val (.int xb), .val (.int xc), .val (.int xd), .val (.int (2 : Int32)), .val (.int q1), .val (.int q2), .val (.int q3), .val (.int q4), .val (.ref a_11), .val (.int (1 : Int32))] [])) _
              refine XS.iconst X65.here hx rfl (Jvm.hb hby at_130) ?_
              show Steps p.tables e below (T65.setTop (mkF m 131 #[.val (.int len), .val (.int xa), .val (.int xb), .val (.int xc), .val (.int xd), .val (.int (2 : Int32)), .val (.int q1), .val (.int q2), .val (.int q3), .val (.int q4), .val (.ref a_11), .val (.int (1 : Int32))] [(.int (1 : Int32))])) _
              refine XS.goto X65.here hx rfl (pc0 := 131) (pc' := 135) rfl (Jvm.hb hby at_131) (by decide) (by decide) ?_
              show Steps p.tables e below (T65.setTop (mkF m 135 #[.val (.int len), .val (.int xa), .val (.int xb), .val (.int xc), .val (.int xd), .val (.int (2 : Int32)), .val (.int q1), .val (.int q2), .val (.int q3), .val (.int q4), .val (.ref a_11), .val (.int (1 : Int32))] [(.int (1 : Int32))])) _
              show Steps p.tables e below (T65.setTop (mkF m 135 #[.val (.int len), .val (.int xa), .val (.int xb), .val (.int xc), .val (.int xd), .val (.int (2 : Int32)), .val (.int q1), .val (.int q2), .val (.int q3), .val (.int q4), .val (.ref a_11), .val (.int (1 : Int32))] [(.int (1 : Int32))])) t_
              exact k_)
            obtain ⟨fs, hr, hrun, hended, hREW⟩ := X65.leaveW hS (by first | exact Nat.le_refl _ | (rw [e65]; exact hk)) (v := some (.int (1 : Int32))) (fun h => by rw [Bd.returns] at h; cases h)
            refine ⟨_, _, s67 _ ?_, hrun, hended, _, _, rfl, ?_, (by show CHr Z ELs s.vm s.heap T65.vm T65.heap; rw [hh, e65]; exact CR.trans (CHv.at X65 hZ hEL CR.1)), hREW.1, hREW.2.1, hREW.2.2.1, hREW.2.2.2.mono (by decide) (by decide)⟩
            · show Steps p.tables e below (T65.setTop (mkF m 135 #[.val (.int len), .val (.int xa), .val (.int xb), .val (.int xc), .val (.int xd), .val (.int (2 : Int32)), .val (.int q1), .val (.int q2), .val (.int q3), .val (.int q4), .val (.ref a_11), .val (.int (1 : Int32))] [(.int (1 : Int32))])) _
              exact retN X65 hx (t := .boolean) Bd.returns (by simp) (Jvm.hb hby at_135) hr
            · show Q_rmLaw Z _ _ _ _ _ _ _ h0 n0 _ T65.heap _
              rw [e65]
              exact ⟨rfl, N65⟩
          · have s68 : ∀ t_, Steps p.tables e below (T57.setTop (mkF m 82 #[.val (.int len), .val (.int xa), .val (.int xb), .val (.int xc), .val (.int xd), .val (.int (2 : Int32)), .val (.int q1), .val (.int q2), .val (.int q3), .val (.int q4), .val (.ref a_11), .unset] [(.int (0 : Int32))])) t_ → Steps p.tables e below (s₁.setTop (entryFrame m #[(.int len), (.int xa), (.int xb), (.int xc), (.int xd)] maxLocals)) t_ := fun t_ k_ => s59 t_ (castTop (by rw [hq58, if_neg h60]) k_)
            have s69 : ∀ t_, Steps p.tables e below (T57.setTop (mkF m 122 #[.val (.int len), .val (.int xa), .val (.int xb), .val (.int xc), .val (.int xd), .val (.int (2 : Int32)), .val (.int q1), .val (.int q2), .val (.int q3), .val (.int q4), .val (.ref a_11), .val (.int (0 : Int32))] [(.ref a_11)])) t_ → Steps p.tables e below (s₁.setTop (entryFrame m #[(.int len), (.int xa), (.int xb), (.int xc), (.int xd)] maxLocals)) t_ := fun t_ k_ => s68 t_ (by
              show Steps p.tables e below (T57.setTop (mkF m 82 #[.val (.int len), .val (.int xa), .val (.int xb), .val (.int xc), .val (.int xd), .val (.int (2 : Int32)), .val (.int q1), .val (.int q2), .val (.int q3), .val (.int q4), .val (.ref a_11), .unset] [(.int (0 : Int32))])) t_
              refine XS.ifYes X57.here hx rfl (pc0 := 82) (pc' := 117) rfl (Jvm.hb hby at_82) rfl ((if0 _ _).trans (teq (rfl : (0 : Int32) = (0 : Int32))).1) (by decide) (by decide) ?_
              show Steps p.tables e below (T57.setTop (mkF m 117 #[.val (.int len), .val (.int xa), .val (.int xb), .val (.int xc), .val (.int xd), .val (.int (2 : Int32)), .val (.int q1), .val (.int q2), .val (.int q3), .val (.int q4), .val (.ref a_11), .unset] [])) _
              refine XS.iconst X57.here hx rfl (Jvm.hb hby at_117) ?_
              show Steps p.tables e below (T57.setTop (mkF m 118 #[.val (.int len), .val (.int xa), .val (.int xb), .val (.int xc), .val (.int xd), .val (.int (2 : Int32)), .val (.int q1), .val (.int q2), .val (.int q3), .val (.int q4), .val (.ref a_11), .unset] [(.int (0 : Int32))])) _
              refine XS.istore X57.here hx rfl (Jvm.hb hby at_118) rfl (l' := #[.val (.int len), .val (.int xa), .val (.int xb), .val (.int xc), .val (.int xd), .val (.int (2 : Int32)), .val (.int q1), .val (.int q2), .val (.int q3), .val (.int q4), .val (.ref a_11), .val (.int (0 : Int32))]) rfl ?_
              show Steps p.tables e below (T57.setTop (mkF m 120 #[.val (.int len), .val (.int xa), .val (.int xb), .val (.int xc), .val (.int xd), .val (.int (2 : Int32)), .val (.int q1), .val (.int q2), .val (.int q3), .val (.int q4), .val (.ref a_11), .val (.int (0 : Int32))] [])) _
              refine XS.aload X57.here hx rfl (Jvm.hb hby at_120) rfl rfl ?_
              show Steps p.tables e below (T57.setTop (mkF m 122 #[.val (.int len), .val (.int xa), .val (.int xb), .val (.int xc), .val (.int xd), .val (.int (2 : Int32)), .val (.int q1), .val (.int q2), .val (.int q3), .val (.int q4), .val (.ref a_11), .val (.int (0 : Int32))] [(.ref a_11)])) _
              show Steps p.tables e below (T57.setTop (mkF m 122 #[.val (.int len), .val (.int xa), .val (.int xb), .val (.int xc), .val (.int xd), .val (.int (2 : Int32)), .val (.int q1), .val (.int q2), .val (.int q3), .val (.int q4), .val (.ref a_11), .val (.int (0 : Int32))] [(.ref a_11)])) t_
              exact k_)
            have O70 : Old Z n0 h11 := (OX.keep K11 all0)
            have Zc71 : n0 ≤ h11.size := by omega
            obtain ⟨_, _, ⟨T72, L72, k72, n72⟩, -, X72, ⟨Lc72, hQ72, l72, y72, z72⟩, st72⟩ := Jvm.LawKit.callS X57 hx (y := (⟨"com/example/zastupnik/zastupnik/protocol/AsciiDigits", "only", "(Ljava/lang/String;)Z"⟩ : MethodName)) hown (mvT hZ (hw _ (List.mem_of_getElem? (i := 27) rfl))) (mvT hZ (hw _ (List.mem_of_getElem? (i := 28) rfl))) (mvT hZ (hw _ (List.mem_of_getElem? (i := 29) rfl))) (mvT hZ (hw _ (List.mem_of_getElem? (i := 30) rfl))) (by decide) (backOf (W := 0) (rmOnly l Z a0 hw [] a_11 cst b_11 kb_11 (own_mk4 nn q1 q2 q3 q4) fmt h11 n0 Zc71 I1 I2 I3 I4 (hfmt : fmt.isRef = true) I5 O70 (hcst : ¬ (cst = (0 : Int32))) Fq11_0 Fq11_1 Fq11_2 Fq11_3 (own_mkl4 _ _ _ _ _) (own_mkchs4 rg6 rg7 rg8 rg9)) hZ (hw _ (List.mem_of_getElem? (i := 30) rfl)) (hw _ (List.mem_of_getElem? (i := 29) rfl)) (by decide) (by decide)) (g := (mkF m 122 #[.val (.int len), .val (.int xa), .val (.int xb), .val (.int xc), .val (.int xd), .val (.int (2 : Int32)), .val (.int q1), .val (.int q2), .val (.int q3), .val (.int q4), .val (.ref a_11), .val (.int (0 : Int32))] [(.ref a_11)])) rfl (by rw [hml]; rfl) (argsL := [(.ref a_11)]) (rest := []) (lenOf pd__Ljava_lang_String__Z rfl) rfl (by show 2 * 0 + _ ≤ _; exact Nat.le_of_eq rfl) (Jvm.hb hby at_122) (fun _ _ => ⟨rfl, e57, (by decide : 6 + 0 ≤ _), (by decide : 20 + 0 ≤ _)⟩)
            dsimp only [Pt.U, Pt.locs, Pt.cells, Pt.slots] at X72 l72 y72 z72 st72 hQ72
            subst l72 y72 z72
            obtain ⟨rfl, N72q, e72⟩ := hQ72
            have N72 := Fr.app N57 N72q
            obtain ⟨q73, hq73⟩ : ∃ z : Int32, z = (own_only (own_mk4 nn q1 q2 q3 q4)) := ⟨_, rfl⟩
            rw [← hq73] at st72
            have hon : q73 = (0 : Int32) := by rw [hq73, h46]; exact (show own_only [q1, q2] = (0 : Int32) from own_onlyF (c := q2) (by simp) h60)
            have s74 : ∀ t_, Steps p.tables e below (T72.setTop (mkF m 135 #[.val (.int len), .val (.int xa), .val (.int xb), .val (.int xc), .val (.int xd), .val (.int (2 : Int32)), .val (.int q1), .val (.int q2), .val (.int q3), .val (.int q4), .val (.ref a_11), .val (.int (0 : Int32))] [(.int (1 : Int32))])) t_ → Steps p.tables e below (s₁.setTop (entryFrame m #[(.int len), (.int xa), (.int xb), (.int xc), (.int xd)] maxLocals)) t_ := fun t_ k_ => s69 t_ (by
              show Steps p.tables e below (T57.setTop (mkF m 122 #[.val (.int len), .val (.int xa), .val (.int xb), .val (.int xc), .val (.int xd), .val (.int (2 : Int32)), .val (.int q1), .val (.int q2), .val (.int q3), .val (.int q4), .val (.ref a_11), .val (.int (0 : Int32))] [(.ref a_11)])) t_
              refine st72 _ ?_
              show Steps p.tables e below (T72.setTop (mkF m 125 #[.val (.int len), .val (.int xa), .val (.int xb), .val (.int xc), .val (.int xd), .val (.int (2 : Int32)), .val (.int q1), .val (.int q2), .val (.int q3), .val (.int q4), .val (.ref a_11), .val (.int (0 : Int32))] [(.int q73)])) _
              refine XS.iload X72.here hx rfl (Jvm.hb hby at_125) rfl ?_
              show Steps p.tables e below (T72.setTop (mkF m 127 #[.val (.int len), .val (.int xa), .val (.int xb), .val (.int xc), .val (.int xd), .val (.int (2 : Int32)), .val (.int q1), .val (.int q2), .val (.int q3), .val (.int q4), .val (.ref a_11), .val (.int (0 : Int32))] [(.int (0 : Int32)), (.int q73)])) _
              refine XS.icmpNo X72.here hx rfl (Jvm.hb hby at_127) rfl (teq hon).2 ?_
              show Steps p.tables e below (T72.setTop (mkF m 130 #[.val (.int len), .val (.int xa), .val (.int xb), .val (.int xc), .val (.int xd), .val (.int (2 : Int32)), .val (.int q1), .val (.int q2), .val (.int q3), .val (.int q4), .val (.ref a_11), .val (.int (0 : Int32))] [])) _
              refine XS.iconst X72.here hx rfl (Jvm.hb hby at_130) ?_
              show Steps p.tables e below (T72.setTop (mkF m 131 #[.val (.int len), .val (.int xa), .val (.int xb), .val (.int xc), .val (.int xd), .val (.int (2 : Int32)), .val (.int q1), .val (.int q2), .val (.int q3), .val (.int q4), .val (.ref a_11), .val (.int (0 : Int32))] [(.int (1 : Int32))])) _
              refine XS.goto X72.here hx rfl (pc0 := 131) (pc' := 135) rfl (Jvm.hb hby at_131) (by decide) (by decide) ?_
              show Steps p.tables e below (T72.setTop (mkF m 135 #[.val (.int len), .val (.int xa), .val (.int xb), .val (.int xc), .val (.int xd), .val (.int (2 : Int32)), .val (.int q1), .val (.int q2), .val (.int q3), .val (.int q4), .val (.ref a_11), .val (.int (0 : Int32))] [(.int (1 : Int32))])) _
              show Steps p.tables e below (T72.setTop (mkF m 135 #[.val (.int len), .val (.int xa), .val (.int xb), .val (.int xc), .val (.int xd), .val (.int (2 : Int32)), .val (.int q1), .val (.int q2), .val (.int q3), .val (.int q4), .val (.ref a_11), .val (.int (0 : Int32))] [(.int (1 : Int32))])) t_
              exact k_)
            obtain ⟨fs, hr, hrun, hended, hREW⟩ := X72.leaveW hS (by first | exact Nat.le_refl _ | (rw [e72]; exact hk)) (v := some (.int (1 : Int32))) (fun h => by rw [Bd.returns] at h; cases h)
            refine ⟨_, _, s74 _ ?_, hrun, hended, _, _, rfl, ?_, (by show CHr Z ELs s.vm s.heap T72.vm T72.heap; rw [hh, e72]; exact CR.trans (CHv.at X72 hZ hEL CR.1)), hREW.1, hREW.2.1, hREW.2.2.1, hREW.2.2.2.mono (by decide) (by decide)⟩
            · show Steps p.tables e below (T72.setTop (mkF m 135 #[.val (.int len), .val (.int xa), .val (.int xb), .val (.int xc), .val (.int xd), .val (.int (2 : Int32)), .val (.int q1), .val (.int q2), .val (.int q3), .val (.int q4), .val (.ref a_11), .val (.int (0 : Int32))] [(.int (1 : Int32))])) _
              exact retN X72 hx (t := .boolean) Bd.returns (by simp) (Jvm.hb hby at_135) hr
            · show Q_rmLaw Z _ _ _ _ _ _ _ h0 n0 _ T72.heap _
              rw [e72]
              exact ⟨rfl, N72⟩
        · have s75 : ∀ t_, Steps p.tables e below (T50.setTop (mkF m 68 #[.val (.int len), .val (.int xa), .val (.int xb), .val (.int xc), .val (.int xd), .val (.int (2 : Int32)), .val (.int q1), .val (.int q2), .val (.int q3), .val (.int q4), .val (.ref a_11), .unset] [(.int (0 : Int32))])) t_ → Steps p.tables e below (s₁.setTop (entryFrame m #[(.int len), (.int xa), (.int xb), (.int xc), (.int xd)] maxLocals)) t_ := fun t_ k_ => s52 t_ (castTop (by rw [hq51, if_neg h53]) k_)
          have s76 : ∀ t_, Steps p.tables e below (T50.setTop (mkF m 122 #[.val (.int len), .val (.int xa), .val (.int xb), .val (.int xc), .val (.int xd), .val (.int (2 : Int32)), .val (.int q1), .val (.int q2), .val (.int q3), .val (.int q4), .val (.ref a_11), .val (.int (0 : Int32))] [(.ref a_11)])) t_ → Steps p.tables e below (s₁.setTop (entryFrame m #[(.int len), (.int xa), (.int xb), (.int xc), (.int xd)] maxLocals)) t_ := fun t_ k_ => s75 t_ (by
            show Steps p.tables e below (T50.setTop (mkF m 68 #[.val (.int len), .val (.int xa), .val (.int xb), .val (.int xc), .val (.int xd), .val (.int (2 : Int32)), .val (.int q1), .val (.int q2), .val (.int q3), .val (.int q4), .val (.ref a_11), .unset] [(.int (0 : Int32))])) t_
            refine XS.ifYes X50.here hx rfl (pc0 := 68) (pc' := 117) rfl (Jvm.hb hby at_68) rfl ((if0 _ _).trans (teq (rfl : (0 : Int32) = (0 : Int32))).1) (by decide) (by decide) ?_
            show Steps p.tables e below (T50.setTop (mkF m 117 #[.val (.int len), .val (.int xa), .val (.int xb), .val (.int xc), .val (.int xd), .val (.int (2 : Int32)), .val (.int q1), .val (.int q2), .val (.int q3), .val (.int q4), .val (.ref a_11), .unset] [])) _
            refine XS.iconst X50.here hx rfl (Jvm.hb hby at_117) ?_
            show Steps p.tables e below (T50.setTop (mkF m 118 #[.val (.int len), .val (.int xa), .val (.int xb), .val (.int xc), .val (.int xd), .val (.int (2 : Int32)), .val (.int q1), .val (.int q2), .val (.int q3), .val (.int q4), .val (.ref a_11), .unset] [(.int (0 : Int32))])) _
            refine XS.istore X50.here hx rfl (Jvm.hb hby at_118) rfl (l' := #[.val (.int len), .val (.int xa), .val (.int xb), .val (.int xc), .val (.int xd), .val (.int (2 : Int32)), .val (.int q1), .val (.int q2), .val (.int q3), .val (.int q4), .val (.ref a_11), .val (.int (0 : Int32))]) rfl ?_
            show Steps p.tables e below (T50.setTop (mkF m 120 #[.val (.int len), .val (.int xa), .val (.int xb), .val (.int xc), .val (.int xd), .val (.int (2 : Int32)), .val (.int q1), .val (.int q2), .val (.int q3), .val (.int q4), .val (.ref a_11), .val (.int (0 : Int32))] [])) _
            refine XS.aload X50.here hx rfl (Jvm.hb hby at_120) rfl rfl ?_
            show Steps p.tables e below (T50.setTop (mkF m 122 #[.val (.int len), .val (.int xa), .val (.int xb), .val (.int xc), .val (.int xd), .val (.int (2 : Int32)), .val (.int q1), .val (.int q2), .val (.int q3), .val (.int q4), .val (.ref a_11), .val (.int (0 : Int32))] [(.ref a_11)])) _
            show Steps p.tables e below (T50.setTop (mkF m 122 #[.val (.int len), .val (.int xa), .val (.int xb), .val (.int xc), .val (.int xd), .val (.int (2 : Int32)), .val (.int q1), .val (.int q2), .val (.int q3), .val (.int q4), .val (.ref a_11), .val (.int (0 : Int32))] [(.ref a_11)])) t_
            exact k_)
          have O77 : Old Z n0 h11 := (OX.keep K11 all0)
          have Zc78 : n0 ≤ h11.size := by omega
          obtain ⟨_, _, ⟨T79, L79, k79, n79⟩, -, X79, ⟨Lc79, hQ79, l79, y79, z79⟩, st79⟩ := Jvm.LawKit.callS X50 hx (y := (⟨"com/example/zastupnik/zastupnik/protocol/AsciiDigits", "only", "(Ljava/lang/String;)Z"⟩ : MethodName)) hown (mvT hZ (hw _ (List.mem_of_getElem? (i := 27) rfl))) (mvT hZ (hw _ (List.mem_of_getElem? (i := 28) rfl))) (mvT hZ (hw _ (List.mem_of_getElem? (i := 29) rfl))) (mvT hZ (hw _ (List.mem_of_getElem? (i := 30) rfl))) (by decide) (backOf (W := 0) (rmOnly l Z a0 hw [] a_11 cst b_11 kb_11 (own_mk4 nn q1 q2 q3 q4) fmt h11 n0 Zc78 I1 I2 I3 I4 (hfmt : fmt.isRef = true) I5 O77 (hcst : ¬ (cst = (0 : Int32))) Fq11_0 Fq11_1 Fq11_2 Fq11_3 (own_mkl4 _ _ _ _ _) (own_mkchs4 rg6 rg7 rg8 rg9)) hZ (hw _ (List.mem_of_getElem? (i := 30) rfl)) (hw _ (List.mem_of_getElem? (i := 29) rfl)) (by decide) (by decide)) (g := (mkF m 122 #[.val (.int len), .val (.int xa), .val (.int xb), .val (.int xc), .val (.int xd), .val (.int (2 : Int32)), .val (.int q1), .val (.int q2), .val (.int q3), .val (.int q4), .val (.ref a_11), .val (.int (0 : Int32))] [(.ref a_11)])) rfl (by rw [hml]; rfl) (argsL := [(.ref a_11)]) (rest := []) (lenOf pd__Ljava_lang_String__Z rfl) rfl (by show 2 * 0 + _ ≤ _; exact Nat.le_of_eq rfl) (Jvm.hb hby at_122) (fun _ _ => ⟨rfl, e50, (by decide : 6 + 0 ≤ _), (by decide : 20 + 0 ≤ _)⟩)
          dsimp only [Pt.U, Pt.locs, Pt.cells, Pt.slots] at X79 l79 y79 z79 st79 hQ79
          subst l79 y79 z79
          obtain ⟨rfl, N79q, e79⟩ := hQ79
          have N79 := Fr.app N50 N79q
          obtain ⟨q80, hq80⟩ : ∃ z : Int32, z = (own_only (own_mk4 nn q1 q2 q3 q4)) := ⟨_, rfl⟩
          rw [← hq80] at st79
          have hon : q80 = (0 : Int32) := by rw [hq80, h46]; exact (show own_only [q1, q2] = (0 : Int32) from own_onlyF (c := q1) (by simp) h53)
          have s81 : ∀ t_, Steps p.tables e below (T79.setTop (mkF m 135 #[.val (.int len), .val (.int xa), .val (.int xb), .val (.int xc), .val (.int xd), .val (.int (2 : Int32)), .val (.int q1), .val (.int q2), .val (.int q3), .val (.int q4), .val (.ref a_11), .val (.int (0 : Int32))] [(.int (1 : Int32))])) t_ → Steps p.tables e below (s₁.setTop (entryFrame m #[(.int len), (.int xa), (.int xb), (.int xc), (.int xd)] maxLocals)) t_ := fun t_ k_ => s76 t_ (by
            show Steps p.tables e below (T50.setTop (mkF m 122 #[.val (.int len), .val (.int xa), .val (.int xb), .val (.int xc), .val (.int xd), .val (.int (2 : Int32)), .val (.int q1), .val (.int q2), .val (.int q3), .val (.int q4), .val (.ref a_11), .val (.int (0 : Int32))] [(.ref a_11)])) t_
            refine st79 _ ?_
            show Steps p.tables e below (T79.setTop (mkF m 125 #[.val (.int len), .val (.int xa), .val (.int xb), .val (.int xc), .val (.int xd), .val (.int (2 : Int32)), .val (.int q1), .val (.int q2), .val (.int q3), .val (.int q4), .val (.ref a_11), .val (.int (0 : Int32))] [(.int q80)])) _
            refine XS.iload X79.here hx rfl (Jvm.hb hby at_125) rfl ?_
            show Steps p.tables e below (T79.setTop (mkF m 127 #[.val (.int len), .val (.int xa), .val (.int xb), .val (.int xc), .val (.int xd), .val (.int (2 : Int32)), .val (.int q1), .val (.int q2), .val (.int q3), .val (.int q4), .val (.ref a_11), .val (.int (0 : Int32))] [(.int (0 : Int32)), (.int q80)])) _
            refine XS.icmpNo X79.here hx rfl (Jvm.hb hby at_127) rfl (teq hon).2 ?_
            show Steps p.tables e below (T79.setTop (mkF m 130 #[.val (.int len), .val (.int xa), .val (.int xb), .val (.int xc), .val (.int xd), .val (.int (2 : Int32)), .val (.int q1), .val (.int q2), .val (.int q3), .val (.int q4), .val (.ref a_11), .val (.int (0 : Int32))] [])) _
            refine XS.iconst X79.here hx rfl (Jvm.hb hby at_130) ?_
            show Steps p.tables e below (T79.setTop (mkF m 131 #[.val (.int len), .val (.int xa), .val (.int xb), .val (.int xc), .val (.int xd), .val (.int (2 : Int32)), .val (.int q1), .val (.int q2), .val (.int q3), .val (.int q4), .val (.ref a_11), .val (.int (0 : Int32))] [(.int (1 : Int32))])) _
            refine XS.goto X79.here hx rfl (pc0 := 131) (pc' := 135) rfl (Jvm.hb hby at_131) (by decide) (by decide) ?_
            show Steps p.tables e below (T79.setTop (mkF m 135 #[.val (.int len), .val (.int xa), .val (.int xb), .val (.int xc), .val (.int xd), .val (.int (2 : Int32)), .val (.int q1), .val (.int q2), .val (.int q3), .val (.int q4), .val (.ref a_11), .val (.int (0 : Int32))] [(.int (1 : Int32))])) _
            show Steps p.tables e below (T79.setTop (mkF m 135 #[.val (.int len), .val (.int xa), .val (.int xb), .val (.int xc), .val (.int xd), .val (.int (2 : Int32)), .val (.int q1), .val (.int q2), .val (.int q3), .val (.int q4), .val (.ref a_11), .val (.int (0 : Int32))] [(.int (1 : Int32))])) t_
            exact k_)
          obtain ⟨fs, hr, hrun, hended, hREW⟩ := X79.leaveW hS (by first | exact Nat.le_refl _ | (rw [e79]; exact hk)) (v := some (.int (1 : Int32))) (fun h => by rw [Bd.returns] at h; cases h)
          refine ⟨_, _, s81 _ ?_, hrun, hended, _, _, rfl, ?_, (by show CHr Z ELs s.vm s.heap T79.vm T79.heap; rw [hh, e79]; exact CR.trans (CHv.at X79 hZ hEL CR.1)), hREW.1, hREW.2.1, hREW.2.2.1, hREW.2.2.2.mono (by decide) (by decide)⟩
          · show Steps p.tables e below (T79.setTop (mkF m 135 #[.val (.int len), .val (.int xa), .val (.int xb), .val (.int xc), .val (.int xd), .val (.int (2 : Int32)), .val (.int q1), .val (.int q2), .val (.int q3), .val (.int q4), .val (.ref a_11), .val (.int (0 : Int32))] [(.int (1 : Int32))])) _
            exact retN X79 hx (t := .boolean) Bd.returns (by simp) (Jvm.hb hby at_135) hr
          · show Q_rmLaw Z _ _ _ _ _ _ _ h0 n0 _ T79.heap _
            rw [e79]
            exact ⟨rfl, N79⟩
      · have s82 : ∀ t_, Steps p.tables e below (T11.setTop (mkF m 52 #[.val (.int len), .val (.int xa), .val (.int xb), .val (.int xc), .val (.int xd), .val (.int (Int32.ofNat nn)), .val (.int q1), .val (.int q2), .val (.int q3), .val (.int q4), .val (.ref a_11), .unset] [])) t_ → Steps p.tables e below (s₁.setTop (entryFrame m #[(.int len), (.int xa), (.int xb), (.int xc), (.int xd)] maxLocals)) t_ := fun t_ k_ => s45 t_ (castTop (by rfl) k_)
        by_cases h83 : nn = 3
        · have s84 : ∀ t_, Steps p.tables e below (T11.setTop (mkF m 52 #[.val (.int len), .val (.int xa), .val (.int xb), .val (.int xc), .val (.int xd), .val (.int (3 : Int32)), .val (.int q1), .val (.int q2), .val (.int q3), .val (.int q4), .val (.ref a_11), .unset] [])) t_ → Steps p.tables e below (s₁.setTop (entryFrame m #[(.int len), (.int xa), (.int xb), (.int xc), (.int xd)] maxLocals)) t_ := fun t_ k_ => s82 t_ (castTop (by subst h83; rfl) k_)
          have s85 : ∀ t_, Steps p.tables e below (T11.setTop (mkF m 65 #[.val (.int len), .val (.int xa), .val (.int xb), .val (.int xc), .val (.int xd), .val (.int (3 : Int32)), .val (.int q1), .val (.int q2), .val (.int q3), .val (.int q4), .val (.ref a_11), .unset] [(.int q1)])) t_ → Steps p.tables e below (s₁.setTop (entryFrame m #[(.int len), (.int xa), (.int xb), (.int xc), (.int xd)] maxLocals)) t_ := fun t_ k_ => s84 t_ (by
            show Steps p.tables e below (T11.setTop (mkF m 52 #[.val (.int len), .val (.int xa), .val (.int xb), .val (.int xc), .val (.int xd), .val (.int (3 : Int32)), .val (.int q1), .val (.int q2), .val (.int q3), .val (.int q4), .val (.ref a_11), .unset] [])) t_
            refine XS.iload X11.here hx rfl (Jvm.hb hby at_52) rfl ?_
            show Steps p.tables e below (T11.setTop (mkF m 54 #[.val (.int len), .val (.int xa), .val (.int xb), .val (.int xc), .val (.int xd), .val (.int (3 : Int32)), .val (.int q1), .val (.int q2), .val (.int q3), .val (.int q4), .val (.ref a_11), .unset] [(.int (3 : Int32))])) _
            refine XS.ifNo X11.here hx rfl (Jvm.hb hby at_54) rfl ((if0 _ _).trans (tlt (by decide : ((0 : Int32) < (3 : Int32)))).2.2.2) ?_
            show Steps p.tables e below (T11.setTop (mkF m 57 #[.val (.int len), .val (.int xa), .val (.int xb), .val (.int xc), .val (.int xd), .val (.int (3 : Int32)), .val (.int q1), .val (.int q2), .val (.int q3), .val (.int q4), .val (.ref a_11), .unset] [])) _
            refine XS.iload X11.here hx rfl (Jvm.hb hby at_57) rfl ?_
            show Steps p.tables e below (T11.setTop (mkF m 59 #[.val (.int len), .val (.int xa), .val (.int xb), .val (.int xc), .val (.int xd), .val (.int (3 : Int32)), .val (.int q1), .val (.int q2), .val (.int q3), .val (.int q4), .val (.ref a_11), .unset] [(.int (3 : Int32))])) _
            refine XS.iconst X11.here hx rfl (Jvm.hb hby at_59) ?_
            show Steps p.tables e below (T11.setTop (mkF m 60 #[.val (.int len), .val (.int xa), .val (.int xb), .val (.int xc), .val (.int xd), .val (.int (3 : Int32)), .val (.int q1), .val (.int q2), .val (.int q3), .val (.int q4), .val (.ref a_11), .unset] [(.int (1 : Int32)), (.int (3 : Int32))])) _
            refine XS.icmpNo X11.here hx rfl (Jvm.hb hby at_60) rfl (flt (by decide : ¬ ((3 : Int32) < (1 : Int32)))).1 ?_
            show Steps p.tables e below (T11.setTop (mkF m 63 #[.val (.int len), .val (.int xa), .val (.int xb), .val (.int xc), .val (.int xd), .val (.int (3 : Int32)), .val (.int q1), .val (.int q2), .val (.int q3), .val (.int q4), .val (.ref a_11), .unset] [])) _
            refine XS.iload X11.here hx rfl (Jvm.hb hby at_63) rfl ?_
            show Steps p.tables e below (T11.setTop (mkF m 65 #[.val (.int len), .val (.int xa), .val (.int xb), .val (.int xc), .val (.int xd), .val (.int (3 : Int32)), .val (.int q1), .val (.int q2), .val (.int q3), .val (.int q4), .val (.ref a_11), .unset] [(.int q1)])) _
            show Steps p.tables e below (T11.setTop (mkF m 65 #[.val (.int len), .val (.int xa), .val (.int xb), .val (.int xc), .val (.int xd), .val (.int (3 : Int32)), .val (.int q1), .val (.int q2), .val (.int q3), .val (.int q4), .val (.ref a_11), .unset] [(.int q1)])) t_
            exact k_)
          have Zc86 : n0 ≤ h11.size := by omega
          obtain ⟨_, _, ⟨T87, L87, k87, n87⟩, -, X87, ⟨Lc87, hQ87, l87, y87, z87⟩, st87⟩ := Jvm.LawKit.callS X11 hx (y := (⟨"com/example/zastupnik/zastupnik/protocol/AsciiDigitsOnlyPinLaw", "digit", "(C)Z"⟩ : MethodName)) hown (mvT hZ (hw _ (List.mem_of_getElem? (i := 47) rfl))) (mvT hZ (hw _ (List.mem_of_getElem? (i := 48) rfl))) (mvT hZ (hw _ (List.mem_of_getElem? (i := 3) rfl))) (mvT hZ (hw _ (List.mem_of_getElem? (i := 49) rfl))) (by decide) (backOf (W := 0) (rmDig l Z a0 hw [] q1 h11 n0 Zc86) hZ (hw _ (List.mem_of_getElem? (i := 49) rfl)) (hw _ (List.mem_of_getElem? (i := 3) rfl)) (by decide) (by decide)) (g := (mkF m 65 #[.val (.int len), .val (.int xa), .val (.int xb), .val (.int xc), .val (.int xd), .val (.int (3 : Int32)), .val (.int q1), .val (.int q2), .val (.int q3), .val (.int q4), .val (.ref a_11), .unset] [(.int q1)])) rfl (by rw [hml]; rfl) (argsL := [(.int q1)]) (rest := []) (lenOf pd__C_Z rfl) rfl (by show 2 * 0 + _ ≤ _; exact Nat.le_of_eq rfl) (Jvm.hb hby at_65) (fun _ _ => ⟨rfl, e11, (by decide : 6 + 0 ≤ _), (by decide : 20 + 0 ≤ _)⟩)
          dsimp only [Pt.U, Pt.locs, Pt.cells, Pt.slots] at X87 l87 y87 z87 st87 hQ87
          subst l87 y87 z87
          obtain ⟨rfl, N87q, e87⟩ := hQ87
          have N87 := Fr.app N11 N87q
          obtain ⟨q88, hq88⟩ : ∃ z : Int32, z = (if own_dig q1 then (1 : Int32) else (0 : Int32)) := ⟨_, rfl⟩
          rw [← hq88] at st87
          have s89 : ∀ t_, Steps p.tables e below (T87.setTop (mkF m 68 #[.val (.int len), .val (.int xa), .val (.int xb), .val (.int xc), .val (.int xd), .val (.int (3 : Int32)), .val (.int q1), .val (.int q2), .val (.int q3), .val (.int q4), .val (.ref a_11), .unset] [(.int q88)])) t_ → Steps p.tables e below (s₁.setTop (entryFrame m #[(.int len), (.int xa), (.int xb), (.int xc), (.int xd)] maxLocals)) t_ := fun t_ k_ => s85 t_ (by
            show Steps p.tables e below (T11.setTop (mkF m 65 #[.val (.int len), .val (.int xa), .val (.int xb), .val (.int xc), .val (.int xd), .val (.int (3 : Int32)), .val (.int q1), .val (.int q2), .val (.int q3), .val (.int q4), .val (.ref a_11), .unset] [(.int q1)])) t_
            refine st87 _ ?_
            show Steps p.tables e below (T87.setTop (mkF m 68 #[.val (.int len), .val (.int xa), .val (.int xb), .val (.int xc), .val (.int xd), .val (.int (3 : Int32)), .val (.int q1), .val (.int q2), .val (.int q3), .val (.int q4), .val (.ref a_11), .unset] [(.int q88)])) _
            show Steps p.tables e below (T87.setTop (mkF m 68 #[.val (.int len), .val (.int xa), .val (.int xb), .val (.int xc), .val (.int xd), .val (.int (3 : Int32)), .val (.int q1), .val (.int q2), .val (.int q3), .val (.int q4), .val (.ref a_11), .unset] [(.int q88)])) t_
            exact k_)
          by_cases h90 : own_dig q1
          · have s91 : ∀ t_, Steps p.tables e below (T87.setTop (mkF m 68 #[.val (.int len), .val (.int xa), .val (.int xb), .val (.int xc), .val (.int xd), .val (.int (3 : Int32)), .val (.int q1), .val (.int q2), .val (.int q3), .val (.int q4), .val (.ref a_11), .unset] [(.int (1 : Int32))])) t_ → Steps p.tables e below (s₁.setTop (entryFrame m #[(.int len), (.int xa), (.int xb), (.int xc), (.int xd)] maxLocals)) t_ := fun t_ k_ => s89 t_ (castTop (by rw [hq88, if_pos h90]) k_)
            have s92 : ∀ t_, Steps p.tables e below (T87.setTop (mkF m 79 #[.val (.int len), .val (.int xa), .val (.int xb), .val (.int xc), .val (.int xd), .val (.int (3 : Int32)), .val (.int q1), .val (.int q2), .val (.int q3), .val (.int q4), .val (.ref a_11), .unset] [(.int q2)])) t_ → Steps p.tables e below (s₁.setTop (entryFrame m #[(.int len), (.int xa), (.int xb), (.int xc), (.int xd)] maxLocals)) t_ := fun t_ k_ => s91 t_ (by
              show Steps p.tables e below (T87.setTop (mkF m 68 #[.val (.int len), .val (.int xa), .val (.int xb), .val (.int xc), .val (.int xd), .val (.int (3 : Int32)), .val (.int q1), .val (.int q2), .val (.int q3), .val (.int q4), .val (.ref a_11), .unset] [(.int (1 : Int32))])) t_
              refine XS.ifNo X87.here hx rfl (Jvm.hb hby at_68) rfl ((if0 _ _).trans (feq (by decide : ¬ ((1 : Int32) = (0 : Int32)))).1) ?_
              show Steps p.tables e below (T87.setTop (mkF m 71 #[.val (.int len), .val (.int xa), .val (.int xb), .val (.int xc), .val (.int xd), .val (.int (3 : Int32)), .val (.int q1), .val (.int q2), .val (.int q3), .val (.int q4), .val (.ref a_11), .unset] [])) _
              refine XS.iload X87.here hx rfl (Jvm.hb hby at_71) rfl ?_
              show Steps p.tables e below (T87.setTop (mkF m 73 #[.val (.int len), .val (.int xa), .val (.int xb), .val (.int xc), .val (.int xd), .val (.int (3 : Int32)), .val (.int q1), .val (.int q2), .val (.int q3), .val (.int q4), .val (.ref a_11), .unset] [(.int (3 : Int32))])) _
              refine XS.iconst X87.here hx rfl (Jvm.hb hby at_73) ?_
              show Steps p.tables e below (T87.setTop (mkF m 74 #[.val (.int len), .val (.int xa), .val (.int xb), .val (.int xc), .val (.int xd), .val (.int (3 : Int32)), .val (.int q1), .val (.int q2), .val (.int q3), .val (.int q4), .val (.ref a_11), .unset] [(.int (2 : Int32)), (.int (3 : Int32))])) _
              refine XS.icmpNo X87.here hx rfl (Jvm.hb hby at_74) rfl (flt (by decide : ¬ ((3 : Int32) < (2 : Int32)))).1 ?_
              show Steps p.tables e below (T87.setTop (mkF m 77 #[.val (.int len), .val (.int xa), .val (.int xb), .val (.int xc), .val (.int xd), .val (.int (3 : Int32)), .val (.int q1), .val (.int q2), .val (.int q3), .val (.int q4), .val (.ref a_11), .unset] [])) _
              refine XS.iload X87.here hx rfl (Jvm.hb hby at_77) rfl ?_
              show Steps p.tables e below (T87.setTop (mkF m 79 #[.val (.int len), .val (.int xa), .val (.int xb), .val (.int xc), .val (.int xd), .val (.int (3 : Int32)), .val (.int q1), .val (.int q2), .val (.int q3), .val (.int q4), .val (.ref a_11), .unset] [(.int q2)])) _
              show Steps p.tables e below (T87.setTop (mkF m 79 #[.val (.int len), .val (.int xa), .val (.int xb), .val (.int xc), .val (.int xd), .val (.int (3 : Int32)), .val (.int q1), .val (.int q2), .val (.int q3), .val (.int q4), .val (.ref a_11), .unset] [(.int q2)])) t_
              exact k_)
            have Zc93 : n0 ≤ h11.size := by omega
            obtain ⟨_, _, ⟨T94, L94, k94, n94⟩, -, X94, ⟨Lc94, hQ94, l94, y94, z94⟩, st94⟩ := Jvm.LawKit.callS X87 hx (y := (⟨"com/example/zastupnik/zastupnik/protocol/AsciiDigitsOnlyPinLaw", "digit", "(C)Z"⟩ : MethodName)) hown (mvT hZ (hw _ (List.mem_of_getElem? (i := 47) rfl))) (mvT hZ (hw _ (List.mem_of_getElem? (i := 48) rfl))) (mvT hZ (hw _ (List.mem_of_getElem? (i := 3) rfl))) (mvT hZ (hw _ (List.mem_of_getElem? (i := 49) rfl))) (by decide) (backOf (W := 0) (rmDig l Z a0 hw [] q2 h11 n0 Zc93) hZ (hw _ (List.mem_of_getElem? (i := 49) rfl)) (hw _ (List.mem_of_getElem? (i := 3) rfl)) (by decide) (by decide)) (g := (mkF m 79 #[.val (.int len), .val (.int xa), .val (.int xb), .val (.int xc), .val (.int xd), .val (.int (3 : Int32)), .val (.int q1), .val (.int q2), .val (.int q3), .val (.int q4), .val (.ref a_11), .unset] [(.int q2)])) rfl (by rw [hml]; rfl) (argsL := [(.int q2)]) (rest := []) (lenOf pd__C_Z rfl) rfl (by show 2 * 0 + _ ≤ _; exact Nat.le_of_eq rfl) (Jvm.hb hby at_79) (fun _ _ => ⟨rfl, e87, (by decide : 6 + 0 ≤ _), (by decide : 20 + 0 ≤ _)⟩)
            dsimp only [Pt.U, Pt.locs, Pt.cells, Pt.slots] at X94 l94 y94 z94 st94 hQ94
            subst l94 y94 z94
            obtain ⟨rfl, N94q, e94⟩ := hQ94
            have N94 := Fr.app N87 N94q
            obtain ⟨q95, hq95⟩ : ∃ z : Int32, z = (if own_dig q2 then (1 : Int32) else (0 : Int32)) := ⟨_, rfl⟩
            rw [← hq95] at st94
            have s96 : ∀ t_, Steps p.tables e below (T94.setTop (mkF m 82 #[.val (.int len), .val (.int xa), .val (.int xb), .val (.int xc), .val (.int xd), .val (.int (3 : Int32)), .val (.int q1), .val (.int q2), .val (.int q3), .val (.int q4), .val (.ref a_11), .unset] [(.int q95)])) t_ → Steps p.tables e below (s₁.setTop (entryFrame m #[(.int len), (.int xa), (.int xb), (.int xc), (.int xd)] maxLocals)) t_ := fun t_ k_ => s92 t_ (by
              show Steps p.tables e below (T87.setTop (mkF m 79 #[.val (.int len), .val (.int xa), .val (.int xb), .val (.int xc), .val (.int xd), .val (.int (3 : Int32)), .val (.int q1), .val (.int q2), .val (.int q3), .val (.int q4), .val (.ref a_11), .unset] [(.int q2)])) t_
              refine st94 _ ?_
              show Steps p.tables e below (T94.setTop (mkF m 82 #[.val (.int len), .val (.int xa), .val (.int xb), .val (.int xc), .val (.int xd), .val (.int (3 : Int32)), .val (.int q1), .val (.int q2), .val (.int q3), .val (.int q4), .val (.ref a_11), .unset] [(.int q95)])) _
              show Steps p.tables e below (T94.setTop (mkF m 82 #[.val (.int len), .val (.int xa), .val (.int xb), .val (.int xc), .val (.int xd), .val (.int (3 : Int32)), .val (.int q1), .val (.int q2), .val (.int q3), .val (.int q4), .val (.ref a_11), .unset] [(.int q95)])) t_
              exact k_)
            by_cases h97 : own_dig q2
            · have s98 : ∀ t_, Steps p.tables e below (T94.setTop (mkF m 82 #[.val (.int len), .val (.int xa), .val (.int xb), .val (.int xc), .val (.int xd), .val (.int (3 : Int32)), .val (.int q1), .val (.int q2), .val (.int q3), .val (.int q4), .val (.ref a_11), .unset] [(.int (1 : Int32))])) t_ → Steps p.tables e below (s₁.setTop (entryFrame m #[(.int len), (.int xa), (.int xb), (.int xc), (.int xd)] maxLocals)) t_ := fun t_ k_ => s96 t_ (castTop (by rw [hq95, if_pos h97]) k_)
              have s99 : ∀ t_, Steps p.tables e below (T94.setTop (mkF m 93 #[.val (.int len), .val (.int xa), .val (.int xb), .val (.int xc), .val (.int xd), .val (.int (3 : Int32)), .val (.int q1), .val (.int q2), .val (.int q3), .val (.int q4), .val (.ref a_11), .unset] [(.int q3)])) t_ → Steps p.tables e below (s₁.setTop (entryFrame m #[(.int len), (.int xa), (.int xb), (.int xc), (.int xd)] maxLocals)) t_ := fun t_ k_ => s98 t_ (by
                show Steps p.tables e below (T94.setTop (mkF m 82 #[.val (.int len), .val (.int xa), .val (.int xb), .val (.int xc), .val (.int xd), .val (.int (3 : Int32)), .val (.int q1), .val (.int q2), .val (.int q3), .val (.int q4), .val (.ref a_11), .unset] [(.int (1 : Int32))])) t_
                refine XS.ifNo X94.here hx rfl (Jvm.hb hby at_82) rfl ((if0 _ _).trans (feq (by decide : ¬ ((1 : Int32) = (0 : Int32)))).1) ?_
                show Steps p.tables e below (T94.setTop (mkF m 85 #[.val (.int len), .val (.int xa), .val (.int xb), .val (.int xc), .val (.int xd), .val (.int (3 : Int32)), .val (.int q1), .val (.int q2), .val (.int q3), .val (.int q4), .val (.ref a_11), .unset] [])) _
                refine XS.iload X94.here hx rfl (Jvm.hb hby at_85) rfl ?_
                show Steps p.tables e below (T94.setTop (mkF m 87 #[.val (.int len), .val (.int xa), .val (.int xb), .val (.int xc), .val (.int xd), .val (.int (3 : Int32)), .val (.int q1), .val (.int q2), .val (.int q3), .val (.int q4), .val (.ref a_11), .unset] [(.int (3 : Int32))])) _
                refine XS.iconst X94.here hx rfl (Jvm.hb hby at_87) ?_
                show Steps p.tables e below (T94.setTop (mkF m 88 #[.val (.int len), .val (.int xa), .val (.int xb), .val (.int xc), .val (.int xd), .val (.int (3 : Int32)), .val (.int q1), .val (.int q2), .val (.int q3), .val (.int q4), .val (.ref a_11), .unset] [(.int (3 : Int32)), (.int (3 : Int32))])) _
                refine XS.icmpNo X94.here hx rfl (Jvm.hb hby at_88) rfl (flt (by decide : ¬ ((3 : Int32) < (3 : Int32)))).1 ?_
                show Steps p.tables e below (T94.setTop (mkF m 91 #[.val (.int len), .val (.int xa), .val (.int xb), .val (.int xc), .val (.int xd), .val (.int (3 : Int32)), .val (.int q1), .val (.int q2), .val (.int q3), .val (.int q4), .val (.ref a_11), .unset] [])) _
                refine XS.iload X94.here hx rfl (Jvm.hb hby at_91) rfl ?_
                show Steps p.tables e below (T94.setTop (mkF m 93 #[.val (.int len), .val (.int xa), .val (.int xb), .val (.int xc), .val (.int xd), .val (.int (3 : Int32)), .val (.int q1), .val (.int q2), .val (.int q3), .val (.int q4), .val (.ref a_11), .unset] [(.int q3)])) _
                show Steps p.tables e below (T94.setTop (mkF m 93 #[.val (.int len), .val (.int xa), .val (.int xb), .val (.int xc), .val (.int xd), .val (.int (3 : Int32)), .val (.int q1), .val (.int q2), .val (.int q3), .val (.int q4), .val (.ref a_11), .unset] [(.int q3)])) t_
                exact k_)
              have Zc100 : n0 ≤ h11.size := by omega
              obtain ⟨_, _, ⟨T101, L101, k101, n101⟩, -, X101, ⟨Lc101, hQ101, l101, y101, z101⟩, st101⟩ := Jvm.LawKit.callS X94 hx (y := (⟨"com/example/zastupnik/zastupnik/protocol/AsciiDigitsOnlyPinLaw", "digit", "(C)Z"⟩ : MethodName)) hown (mvT hZ (hw _ (List.mem_of_getElem? (i := 47) rfl))) (mvT hZ (hw _ (List.mem_of_getElem? (i := 48) rfl))) (mvT hZ (hw _ (List.mem_of_getElem? (i := 3) rfl))) (mvT hZ (hw _ (List.mem_of_getElem? (i := 49) rfl))) (by decide) (backOf (W := 0) (rmDig l Z a0 hw [] q3 h11 n0 Zc100) hZ (hw _ (List.mem_of_getElem? (i := 49) rfl)) (hw _ (List.mem_of_getElem? (i := 3) rfl)) (by decide) (by decide)) (g := (mkF m 93 #[.val (.int len), .val (.int xa), .val (.int xb), .val (.int xc), .val (.int xd), .val (.int (3 : Int32)), .val (.int q1), .val (.int q2), .val (.int q3), .val (.int q4), .val (.ref a_11), .unset] [(.int q3)])) rfl (by rw [hml]; rfl) (argsL := [(.int q3)]) (rest := []) (lenOf pd__C_Z rfl) rfl (by show 2 * 0 + _ ≤ _; exact Nat.le_of_eq rfl) (Jvm.hb hby at_93) (fun _ _ => ⟨rfl, e94, (by decide : 6 + 0 ≤ _), (by decide : 20 + 0 ≤ _)⟩)
              dsimp only [Pt.U, Pt.locs, Pt.cells, Pt.slots] at X101 l101 y101 z101 st101 hQ101
              subst l101 y101 z101
              obtain ⟨rfl, N101q, e101⟩ := hQ101
              have N101 := Fr.app N94 N101q
              obtain ⟨q102, hq102⟩ : ∃ z : Int32, z = (if own_dig q3 then (1 : Int32) else (0 : Int32)) := ⟨_, rfl⟩
              rw [← hq102] at st101
              have s103 : ∀ t_, Steps p.tables e below (T101.setTop (mkF m 96 #[.val (.int len), .val (.int xa), .val (.int xb), .val (.int xc), .val (.int xd), .val (.int (3 : Int32)), .val (.int q1), .val (.int q2), .val (.int q3), .val (.int q4), .val (.ref a_11), .unset] [(.int q102)])) t_ → Steps p.tables e below (s₁.setTop (entryFrame m #[(.int len), (.int xa), (.int xb), (.int xc), (.int xd)] maxLocals)) t_ := fun t_ k_ => s99 t_ (by
                show Steps p.tables e below (T94.setTop (mkF m 93 #[.val (.int len), .val (.int xa), .val (.int xb), .val (.int xc), .val (.int xd), .val (.int (3 : Int32)), .val (.int q1), .val (.int q2), .val (.int q3), .val (.int q4), .val (.ref a_11), .unset] [(.int q3)])) t_
                refine st101 _ ?_
                show Steps p.tables e below (T101.setTop (mkF m 96 #[.val (.int len), .val (.int xa), .val (.int xb), .val (.int xc), .val (.int xd), .val (.int (3 : Int32)), .val (.int q1), .val (.int q2), .val (.int q3), .val (.int q4), .val (.ref a_11), .unset] [(.int q102)])) _
                show Steps p.tables e below (T101.setTop (mkF m 96 #[.val (.int len), .val (.int xa), .val (.int xb), .val (.int xc), .val (.int xd), .val (.int (3 : Int32)), .val (.int q1), .val (.int q2), .val (.int q3), .val (.int q4), .val (.ref a_11), .unset] [(.int q102)])) t_
                exact k_)
              by_cases h104 : own_dig q3
              · have s105 : ∀ t_, Steps p.tables e below (T101.setTop (mkF m 96 #[.val (.int len), .val (.int xa), .val (.int xb), .val (.int xc), .val (.int xd), .val (.int (3 : Int32)), .val (.int q1), .val (.int q2), .val (.int q3), .val (.int q4), .val (.ref a_11), .unset] [(.int (1 : Int32))])) t_ → Steps p.tables e below (s₁.setTop (entryFrame m #[(.int len), (.int xa), (.int xb), (.int xc), (.int xd)] maxLocals)) t_ := fun t_ k_ => s103 t_ (castTop (by rw [hq102, if_pos h104]) k_)
                have s106 : ∀ t_, Steps p.tables e below (T101.setTop (mkF m 122 #[.val (.int len), .val (.int xa), .val (.int xb), .val (.int xc), .val (.int xd), .val (.int (3 : Int32)), .val (.int q1), .val (.int q2), .val (.int q3), .val (.int q4), .val (.ref a_11), .val (.int (1 : Int32))] [(.ref a_11)])) t_ → Steps p.tables e below (s₁.setTop (entryFrame m #[(.int len), (.int xa), (.int xb), (.int xc), (.int xd)] maxLocals)) t_ := fun t_ k_ => s105 t_ (by
                  show Steps p.tables e below (T101.setTop (mkF m 96 #[.val (.int len), .val (.int xa), .val (.int xb), .val (.int xc), .val (.int xd), .val (.int (3 : Int32)), .val (.int q1), .val (.int q2), .val (.int q3), .val (.int q4), .val (.ref a_11), .unset] [(.int (1 : Int32))])) t_
                  refine XS.ifNo X101.here hx rfl (Jvm.hb hby at_96) rfl ((if0 _ _).trans (feq (by decide : ¬ ((1 : Int32) = (0 : Int32)))).1) ?_
                  show Steps p.tables e below (T101.setTop (mkF m 99 #[.val (.int len), .val (.int xa), .val (.int xb), .val (.int xc), .val (.int xd), .val (.int (3 : Int32)), .val (.int q1), .val (.int q2), .val (.int q3), .val (.int q4), .val (.ref a_11), .unset] [])) _
                  refine XS.iload X101.here hx rfl (Jvm.hb hby at_99) rfl ?_
                  show Steps p.tables e below (T101.setTop (mkF m 101 #[.val (.int len), .val (.int xa), .val (.int xb), .val (.int xc), .val (.int xd), .val (.int (3 : Int32)), .val (.int q1), .val (.int q2), .val (.int q3), .val (.int q4), .val (.ref a_11), .unset] [(.int (3 : Int32))])) _
                  refine XS.iconst X101.here hx rfl (Jvm.hb hby at_101) ?_
                  show Steps p.tables e below (T101.setTop (mkF m 102 #[.val (.int len), .val (.int xa), .val (.int xb), .val (.int xc), .val (.int xd), .val (.int (3 : Int32)), .val (.int q1), .val (.int q2), .val (.int q3), .val (.int q4), .val (.ref a_11), .unset] [(.int (4 : Int32)), (.int (3 : Int32))])) _
                  refine XS.icmpYes X101.here hx rfl (pc0 := 102) (pc' := 113) rfl (Jvm.hb hby at_102) rfl (tlt (by decide : ((3 : Int32) < (4 : Int32)))).1 (by decide) (by decide) ?_
                  show Steps p.tables e below (T101.setTop (mkF m 113 #[.val (.int len), .val (.int xa), .val (.int xb), .val (.int xc), .val (.int xd), .val (.int (3 : Int32)), .val (.int q1), .val (.int q2), .val (.int q3), .val (.int q4), .val (.ref a_11), .unset] [])) _
                  refine XS.iconst X101.here hx rfl (Jvm.hb hby at_113) ?_
                  show Steps p.tables e below (T101.setTop (mkF m 114 #[.val (.int len), .val (.int xa), .val (.int xb), .val (.int xc), .val (.int xd), .val (.int (3 : Int32)), .val (.int q1), .val (.int q2), .val (.int q3), .val (.int q4), .val (.ref a_11), .unset] [(.int (1 : Int32))])) _
                  refine XS.goto X101.here hx rfl (pc0 := 114) (pc' := 118) rfl (Jvm.hb hby at_114) (by decide) (by decide) ?_
                  show Steps p.tables e below (T101.setTop (mkF m 118 #[.val (.int len), .val (.int xa), .val (.int xb), .val (.int xc), .val (.int xd), .val (.int (3 : Int32)), .val (.int q1), .val (.int q2), .val (.int q3), .val (.int q4), .val (.ref a_11), .unset] [(.int (1 : Int32))])) _
                  refine XS.istore X101.here hx rfl (Jvm.hb hby at_118) rfl (l' := #[.val (.int len), .val (.int xa), .val (.int xb), .val (.int xc), .val (.int xd), .val (.int (3 : Int32)), .val (.int q1), .val (.int q2), .val (.int q3), .val (.int q4), .val (.ref a_11), .val (.int (1 : Int32))]) rfl ?_
                  show Steps p.tables e below (T101.setTop (mkF m 120 #[.val (.int len), .val (.int xa), .val (.int xb), .val (.int xc), .val (.int xd), .val (.int (3 : Int32)), .val (.int q1), .val (.int q2), .val (.int q3), .val (.int q4), .val (.ref a_11), .val (.int (1 : Int32))] [])) _
                  refine XS.aload X101.here hx rfl (Jvm.hb hby at_120) rfl rfl ?_
                  show Steps p.tables e below (T101.setTop (mkF m 122 #[.val (.int len), .val (.int xa), .val (.int xb), .val (.int xc), .val (.int xd), .val (.int (3 : Int32)), .val (.int q1), .val (.int q2), .val (.int q3), .val (.int q4), .val (.ref a_11), .val (.int (1 : Int32))] [(.ref a_11)])) _
                  show Steps p.tables e below (T101.setTop (mkF m 122 #[.val (.int len), .val (.int xa), .val (.int xb), .val (.int xc), .val (.int xd), .val (.int (3 : Int32)), .val (.int q1), .val (.int q2), .val (.int q3), .val (.int q4), .val (.ref a_11), .val (.int (1 : Int32))] [(.ref a_11)])) t_
                  exact k_)
                have O107 : Old Z n0 h11 := (OX.keep K11 all0)
                have Zc108 : n0 ≤ h11.size := by omega
                obtain ⟨_, _, ⟨T109, L109, k109, n109⟩, -, X109, ⟨Lc109, hQ109, l109, y109, z109⟩, st109⟩ := Jvm.LawKit.callS X101 hx (y := (⟨"com/example/zastupnik/zastupnik/protocol/AsciiDigits", "only", "(Ljava/lang/String;)Z"⟩ : MethodName)) hown (mvT hZ (hw _ (List.mem_of_getElem? (i := 27) rfl))) (mvT hZ (hw _ (List.mem_of_getElem? (i := 28) rfl))) (mvT hZ (hw _ (List.mem_of_getElem? (i := 29) rfl))) (mvT hZ (hw _ (List.mem_of_getElem? (i := 30) rfl))) (by decide) (backOf (W := 0) (rmOnly l Z a0 hw [] a_11 cst b_11 kb_11 (own_mk4 nn q1 q2 q3 q4) fmt h11 n0 Zc108 I1 I2 I3 I4 (hfmt : fmt.isRef = true) I5 O107 (hcst : ¬ (cst = (0 : Int32))) Fq11_0 Fq11_1 Fq11_2 Fq11_3 (own_mkl4 _ _ _ _ _) (own_mkchs4 rg6 rg7 rg8 rg9)) hZ (hw _ (List.mem_of_getElem? (i := 30) rfl)) (hw _ (List.mem_of_getElem? (i := 29) rfl)) (by decide) (by decide)) (g := (mkF m 122 #[.val (.int len), .val (.int xa), .val (.int xb), .val (.int xc), .val (.int xd), .val (.int (3 : Int32)), .val (.int q1), .val (.int q2), .val (.int q3), .val (.int q4), .val (.ref a_11), .val (.int (1 : Int32))] [(.ref a_11)])) rfl (by rw [hml]; rfl) (argsL := [(.ref a_11)]) (rest := []) (lenOf pd__Ljava_lang_String__Z rfl) rfl (by show 2 * 0 + _ ≤ _; exact Nat.le_of_eq rfl) (Jvm.hb hby at_122) (fun _ _ => ⟨rfl, e101, (by decide : 6 + 0 ≤ _), (by decide : 20 + 0 ≤ _)⟩)
                dsimp only [Pt.U, Pt.locs, Pt.cells, Pt.slots] at X109 l109 y109 z109 st109 hQ109
                subst l109 y109 z109
                obtain ⟨rfl, N109q, e109⟩ := hQ109
                have N109 := Fr.app N101 N109q
                obtain ⟨q110, hq110⟩ : ∃ z : Int32, z = (own_only (own_mk4 nn q1 q2 q3 q4)) := ⟨_, rfl⟩
                rw [← hq110] at st109
                have hon : q110 = (1 : Int32) := by rw [hq110, h83]; exact (show own_only [q1, q2, q3] = (1 : Int32) from own_onlyT (by simp) (own_allS h90 (own_allS h97 (own_allS h104 own_all0))))
                have s111 : ∀ t_, Steps p.tables e below (T109.setTop (mkF m 135 #[.val (.int len), .val (.int xa), .val (.int xb), .val (.int xc), .val (.int xd), .val (.int (3 : Int32)), .val (.int q1), .val (.int q2), .val (.int q3), .val (.int q4), .val (.ref a_11), .val (.int (1 : Int32))] [(.int (1 : Int32))])) t_ → Steps p.tables e below (s₁.setTop (entryFrame m #[(.int len), (.int xa), (.int xb), (.int xc), (.int xd)] maxLocals)) t_ := fun t_ k_ => s106 t_ (by
                  show Steps p.tables e below (T101.setTop (mkF m 122 #[.val (.int len), .val (.int xa), .val (.int xb), .val (.int xc), .val (.int xd), .val (.int (3 : Int32)), .val (.int q1), .val (.int q2), .val (.int q3), .val (.int q4), .val (.ref a_11), .val (.int (1 : Int32))] [(.ref a_11)])) t_
                  refine st109 _ ?_
                  show Steps p.tables e below (T109.setTop (mkF m 125 #[.val (.int len), .val (.int xa), .val (.int xb), .val (.int xc), .val (.int xd), .val (.int (3 : Int32)), .val (.int q1), .val (.int q2), .val (.int q3), .val (.int q4), .val (.ref a_11), .val (.int (1 : Int32))] [(.int q110)])) _
                  refine XS.iload X109.here hx rfl (Jvm.hb hby at_125) rfl ?_
                  show Steps p.tables e below (T109.setTop (mkF m 127 #[.val (.int len), .val (.int xa), .val (.int xb), .val (.int xc), .val (.int xd), .val (.int (3 : Int32)), .val (.int q1), .val (.int q2), .val (.int q3), .val (.int q4), .val (.ref a_11), .val (.int (1 : Int32))] [(.int (1 : Int32)), (.int q110)])) _
                  refine XS.icmpNo X109.here hx rfl (Jvm.hb hby at_127) rfl (teq hon).2 ?_
                  show Steps p.tables e below (T109.setTop (mkF m 130 #[.val (.int len), .val (.int xa), .val (.int xb), .val (.int xc), .val (.int xd), .val (.int (3 : Int32)), .val (.int q1), .val (.int q2), .val (.int q3), .val (.int q4), .val (.ref a_11), .val (.int (1 : Int32))] [])) _
                  refine XS.iconst X109.here hx rfl (Jvm.hb hby at_130) ?_
                  show Steps p.tables e below (T109.setTop (mkF m 131 #[.val (.int len), .val (.int xa), .val (.int xb), .val (.int xc), .val (.int xd), .val (.int (3 : Int32)), .val (.int q1), .val (.int q2), .val (.int q3), .val (.int q4), .val (.ref a_11), .val (.int (1 : Int32))] [(.int (1 : Int32))])) _
                  refine XS.goto X109.here hx rfl (pc0 := 131) (pc' := 135) rfl (Jvm.hb hby at_131) (by decide) (by decide) ?_
                  show Steps p.tables e below (T109.setTop (mkF m 135 #[.val (.int len), .val (.int xa), .val (.int xb), .val (.int xc), .val (.int xd), .val (.int (3 : Int32)), .val (.int q1), .val (.int q2), .val (.int q3), .val (.int q4), .val (.ref a_11), .val (.int (1 : Int32))] [(.int (1 : Int32))])) _
                  show Steps p.tables e below (T109.setTop (mkF m 135 #[.val (.int len), .val (.int xa), .val (.int xb), .val (.int xc), .val (.int xd), .val (.int (3 : Int32)), .val (.int q1), .val (.int q2), .val (.int q3), .val (.int q4), .val (.ref a_11), .val (.int (1 : Int32))] [(.int (1 : Int32))])) t_
                  exact k_)
                obtain ⟨fs, hr, hrun, hended, hREW⟩ := X109.leaveW hS (by first | exact Nat.le_refl _ | (rw [e109]; exact hk)) (v := some (.int (1 : Int32))) (fun h => by rw [Bd.returns] at h; cases h)
                refine ⟨_, _, s111 _ ?_, hrun, hended, _, _, rfl, ?_, (by show CHr Z ELs s.vm s.heap T109.vm T109.heap; rw [hh, e109]; exact CR.trans (CHv.at X109 hZ hEL CR.1)), hREW.1, hREW.2.1, hREW.2.2.1, hREW.2.2.2.mono (by decide) (by decide)⟩
                · show Steps p.tables e below (T109.setTop (mkF m 135 #[.val (.int len), .val (.int xa), .val (.int xb), .val (.int xc), .val (.int xd), .val (.int (3 : Int32)), .val (.int q1), .val (.int q2), .val (.int q3), .val (.int q4), .val (.ref a_11), .val (.int (1 : Int32))] [(.int (1 : Int32))])) _
                  exact retN X109 hx (t := .boolean) Bd.returns (by simp) (Jvm.hb hby at_135) hr
                · show Q_rmLaw Z _ _ _ _ _ _ _ h0 n0 _ T109.heap _
                  rw [e109]
                  exact ⟨rfl, N109⟩
              · have s112 : ∀ t_, Steps p.tables e below (T101.setTop (mkF m 96 #[.val (.int len), .val (.int xa), .val (.int xb), .val (.int xc), .val (.int xd), .val (.int (3 : Int32)), .val (.int q1), .val (.int q2), .val (.int q3), .val (.int q4), .val (.ref a_11), .unset] [(.int (0 : Int32))])) t_ → Steps p.tables e below (s₁.setTop (entryFrame m #[(.int len), (.int xa), (.int xb), (.int xc), (.int xd)] maxLocals)) t_ := fun t_ k_ => s103 t_ (castTop (by rw [hq102, if_neg h104]) k_)
                have s113 : ∀ t_, Steps p.tables e below (T101.setTop (mkF m 122 #[.val (.int len), .val (.int xa), .val (.int xb), .val (.int xc), .val (.int xd), .val (.int (3 : Int32)), .val (.int q1), .val (.int q2), .val (.int q3), .val (.int q4), .val (.ref a_11), .val (.int (0 : Int32))] [(.ref a_11)])) t_ → Steps p.tables e below (s₁.setTop (entryFrame m #[(.int len), (.int xa), (.int xb), (.int xc), (.int xd)] maxLocals)) t_ := fun t_ k_ => s112 t_ (by
                  show Steps p.tables e below (T101.setTop (mkF m 96 #[.val (.int len), .val (.int xa), .val (.int xb), .val (.int xc), .val (.int xd), .val (.int (3 : Int32)), .val (.int q1), .val (.int q2), .val (.int q3), .val (.int q4), .val (.ref a_11), .unset] [(.int (0 : Int32))])) t_
                  refine XS.ifYes X101.here hx rfl (pc0 := 96) (pc' := 117) rfl (Jvm.hb hby at_96) rfl ((if0 _ _).trans (teq (rfl : (0 : Int32) = (0 : Int32))).1) (by decide) (by decide) ?_
                  show Steps p.tables e below (T101.setTop (mkF m 117 #[.val (.int len), .val (.int xa), .val (.int xb), .val (.int xc), .val (.int xd), .val (.int (3 : Int32)), .val (.int q1), .val (.int q2), .val (.int q3), .val (.int q4), .val (.ref a_11), .unset] [])) _
                  refine XS.iconst X101.here hx rfl (Jvm.hb hby at_117) ?_
                  show Steps p.tables e below (T101.setTop (mkF m 118 #[.val (.int len), .val (.int xa), .val (.int xb), .val (.int xc), .val (.int xd), .val (.int (3 : Int32)), .val (.int q1), .val (.int q2), .val (.int q3), .val (.int q4), .val (.ref a_11), .unset] [(.int (0 : Int32))])) _
                  refine XS.istore X101.here hx rfl (Jvm.hb hby at_118) rfl (l' := #[.val (.int len), .val (.int xa), .val (.int xb), .val (.int xc), .val (.int xd), .val (.int (3 : Int32)), .val (.int q1), .val (.int q2), .val (.int q3), .val (.int q4), .val (.ref a_11), .val (.int (0 : Int32))]) rfl ?_
                  show Steps p.tables e below (T101.setTop (mkF m 120 #[.val (.int len), .val (.int xa), .val (.int xb), .val (.int xc), .val (.int xd), .val (.int (3 : Int32)), .val (.int q1), .val (.int q2), .val (.int q3), .val (.int q4), .val (.ref a_11), .val (.int (0 : Int32))] [])) _
                  refine XS.aload X101.here hx rfl (Jvm.hb hby at_120) rfl rfl ?_
                  show Steps p.tables e below (T101.setTop (mkF m 122 #[.val (.int len), .val (.int xa), .val (.int xb), .val (.int xc), .val (.int xd), .val (.int (3 : Int32)), .val (.int q1), .val (.int q2), .val (.int q3), .val (.int q4), .val (.ref a_11), .val (.int (0 : Int32))] [(.ref a_11)])) _
                  show Steps p.tables e below (T101.setTop (mkF m 122 #[.val (.int len), .val (.int xa), .val (.int xb), .val (.int xc), .val (.int xd), .val (.int (3 : Int32)), .val (.int q1), .val (.int q2), .val (.int q3), .val (.int q4), .val (.ref a_11), .val (.int (0 : Int32))] [(.ref a_11)])) t_
                  exact k_)
                have O114 : Old Z n0 h11 := (OX.keep K11 all0)
                have Zc115 : n0 ≤ h11.size := by omega
                obtain ⟨_, _, ⟨T116, L116, k116, n116⟩, -, X116, ⟨Lc116, hQ116, l116, y116, z116⟩, st116⟩ := Jvm.LawKit.callS X101 hx (y := (⟨"com/example/zastupnik/zastupnik/protocol/AsciiDigits", "only", "(Ljava/lang/String;)Z"⟩ : MethodName)) hown (mvT hZ (hw _ (List.mem_of_getElem? (i := 27) rfl))) (mvT hZ (hw _ (List.mem_of_getElem? (i := 28) rfl))) (mvT hZ (hw _ (List.mem_of_getElem? (i := 29) rfl))) (mvT hZ (hw _ (List.mem_of_getElem? (i := 30) rfl))) (by decide) (backOf (W := 0) (rmOnly l Z a0 hw [] a_11 cst b_11 kb_11 (own_mk4 nn q1 q2 q3 q4) fmt h11 n0 Zc115 I1 I2 I3 I4 (hfmt : fmt.isRef = true) I5 O114 (hcst : ¬ (cst = (0 : Int32))) Fq11_0 Fq11_1 Fq11_2 Fq11_3 (own_mkl4 _ _ _ _ _) (own_mkchs4 rg6 rg7 rg8 rg9)) hZ (hw _ (List.mem_of_getElem? (i := 30) rfl)) (hw _ (List.mem_of_getElem? (i := 29) rfl)) (by decide) (by decide)) (g := (mkF m 122 #[.val (.int len), .val (.int xa), .val (.int xb), .val (.int xc), .val (.int xd), .val (.int (3 : Int32)), .val (.int q1), .val (.int q2), .val (.int q3), .val (.int q4), .val (.ref a_11), .val (.int (0 : Int32))] [(.ref a_11)])) rfl (by rw [hml]; rfl) (argsL := [(.ref a_11)]) (rest := []) (lenOf pd__Ljava_lang_String__Z rfl) rfl (by show 2 * 0 + _ ≤ _; exact Nat.le_of_eq rfl) (Jvm.hb hby at_122) (fun _ _ => ⟨rfl, e101, (by decide : 6 + 0 ≤ _), (by decide : 20 + 0 ≤ _)⟩)
                dsimp only [Pt.U, Pt.locs, Pt.cells, Pt.slots] at X116 l116 y116 z116 st116 hQ116
                subst l116 y116 z116
                obtain ⟨rfl, N116q, e116⟩ := hQ116
                have N116 := Fr.app N101 N116q
                obtain ⟨q117, hq117⟩ : ∃ z : Int32, z = (own_only (own_mk4 nn q1 q2 q3 q4)) := ⟨_, rfl⟩
                rw [← hq117] at st116
                have hon : q117 = (0 : Int32) := by rw [hq117, h83]; exact (show own_only [q1, q2, q3] = (0 : Int32) from own_onlyF (c := q3) (by simp) h104)
                have s118 : ∀ t_, Steps p.tables e below (T116.setTop (mkF m 135 #[.val (.int len), .val (.int xa), .val (.int xb), .val (.int xc), .val (.int xd), .val (.int (3 : Int32)), .val (.int q1), .val (.int q2), .val (.int q3), .val (.int q4), .val (.ref a_11), .val (.int (0 : Int32))] [(.int (1 : Int32))])) t_ → Steps p.tables e below (s₁.setTop (entryFrame m #[(.int len), (.int xa), (.int xb), (.int xc), (.int xd)] maxLocals)) t_ := fun t_ k_ => s113 t_ (by
                  show Steps p.tables e below (T101.setTop (mkF m 122 #[.val (.int len), .val (.int xa), .val (.int xb), .val (.int xc), .val (.int xd), .val (.int (3 : Int32)), .val (.int q1), .val (.int q2), .val (.int q3), .val (.int q4), .val (.ref a_11), .val (.int (0 : Int32))] [(.ref a_11)])) t_
                  refine st116 _ ?_
                  show Steps p.tables e below (T116.setTop (mkF m 125 #[.val (.int len), .val (.int xa), .val (.int xb), .val (.int xc), .val (.int xd), .val (.int (3 : Int32)), .val (.int q1), .val (.int q2), .val (.int q3), .val (.int q4), .val (.ref a_11), .val (.int (0 : Int32))] [(.int q117)])) _
                  refine XS.iload X116.here hx rfl (Jvm.hb hby at_125) rfl ?_
                  show Steps p.tables e below (T116.setTop (mkF m 127 #[.val (.int len), .val (.int xa), .val (.int xb), .val (.int xc), .val (.int xd), .val (.int (3 : Int32)), .val (.int q1), .val (.int q2), .val (.int q3), .val (.int q4), .val (.ref a_11), .val (.int (0 : Int32))] [(.int (0 : Int32)), (.int q117)])) _
                  refine XS.icmpNo X116.here hx rfl (Jvm.hb hby at_127) rfl (teq hon).2 ?_
                  show Steps p.tables e below (T116.setTop (mkF m 130 #[.val (.int len), .val (.int xa), .val (.int xb), .val (.int xc), .val (.int xd), .val (.int (3 : Int32)), .val (.int q1), .val (.int q2), .val (.int q3), .val (.int q4), .val (.ref a_11), .val (.int (0 : Int32))] [])) _
                  refine XS.iconst X116.here hx rfl (Jvm.hb hby at_130) ?_
                  show Steps p.tables e below (T116.setTop (mkF m 131 #[.val (.int len), .val (.int xa), .val (.int xb), .val (.int xc), .val (.int xd), .val (.int (3 : Int32)), .val (.int q1), .val (.int q2), .val (.int q3), .val (.int q4), .val (.ref a_11), .val (.int (0 : Int32))] [(.int (1 : Int32))])) _
                  refine XS.goto X116.here hx rfl (pc0 := 131) (pc' := 135) rfl (Jvm.hb hby at_131) (by decide) (by decide) ?_
                  show Steps p.tables e below (T116.setTop (mkF m 135 #[.val (.int len), .val (.int xa), .val (.int xb), .val (.int xc), .val (.int xd), .val (.int (3 : Int32)), .val (.int q1), .val (.int q2), .val (.int q3), .val (.int q4), .val (.ref a_11), .val (.int (0 : Int32))] [(.int (1 : Int32))])) _
                  show Steps p.tables e below (T116.setTop (mkF m 135 #[.val (.int len), .val (.int xa), .val (.int xb), .val (.int xc), .val (.int xd), .val (.int (3 : Int32)), .val (.int q1), .val (.int q2), .val (.int q3), .val (.int q4), .val (.ref a_11), .val (.int (0 : Int32))] [(.int (1 : Int32))])) t_
                  exact k_)
                obtain ⟨fs, hr, hrun, hended, hREW⟩ := X116.leaveW hS (by first | exact Nat.le_refl _ | (rw [e116]; exact hk)) (v := some (.int (1 : Int32))) (fun h => by rw [Bd.returns] at h; cases h)
                refine ⟨_, _, s118 _ ?_, hrun, hended, _, _, rfl, ?_, (by show CHr Z ELs s.vm s.heap T116.vm T116.heap; rw [hh, e116]; exact CR.trans (CHv.at X116 hZ hEL CR.1)), hREW.1, hREW.2.1, hREW.2.2.1, hREW.2.2.2.mono (by decide) (by decide)⟩
                · show Steps p.tables e below (T116.setTop (mkF m 135 #[.val (.int len), .val (.int xa), .val (.int xb), .val (.int xc), .val (.int xd), .val (.int (3 : Int32)), .val (.int q1), .val (.int q2), .val (.int q3), .val (.int q4), .val (.ref a_11), .val (.int (0 : Int32))] [(.int (1 : Int32))])) _
                  exact retN X116 hx (t := .boolean) Bd.returns (by simp) (Jvm.hb hby at_135) hr
                · show Q_rmLaw Z _ _ _ _ _ _ _ h0 n0 _ T116.heap _
                  rw [e116]
                  exact ⟨rfl, N116⟩
            · have s119 : ∀ t_, Steps p.tables e below (T94.setTop (mkF m 82 #[.val (.int len), .val (.int xa), .val (.int xb), .val (.int xc), .val (.int xd), .val (.int (3 : Int32)), .val (.int q1), .val (.int q2), .val (.int q3), .val (.int q4), .val (.ref a_11), .unset] [(.int (0 : Int32))])) t_ → Steps p.tables e below (s₁.setTop (entryFrame m #[(.int len), (.int xa), (.int xb), (.int xc), (.int xd)] maxLocals)) t_ := fun t_ k_ => s96 t_ (castTop (by rw [hq95, if_neg h97]) k_)
              have s120 : ∀ t_, Steps p.tables e below (T94.setTop (mkF m 122 #[.val (.int len), .val (.int xa), .val (.int xb), .val (.int xc), .val (.int xd), .val (.int (3 : Int32)), .val (.int q1), .val (.int q2), .val (.int q3), .val (.int q4), .val (.ref a_11), .val (.int (0 : Int32))] [(.ref a_11)])) t_ → Steps p.tables e below (s₁.setTop (entryFrame m #[(.int len), (.int xa), (.int xb), (.int xc), (.int xd)] maxLocals)) t_ := fun t_ k_ => s119 t_ (by
                show Steps p.tables e below (T94.setTop (mkF m 82 #[.val (.int len), .val (.int xa), .val (.int xb), .val (.int xc), .val (.int xd), .val (.int (3 : Int32)), .val (.int q1), .val (.int q2), .val (.int q3), .val (.int q4), .val (.ref a_11), .unset] [(.int (0 : Int32))])) t_
                refine XS.ifYes X94.here hx rfl (pc0 := 82) (pc' := 117) rfl (Jvm.hb hby at_82) rfl ((if0 _ _).trans (teq (rfl : (0 : Int32) = (0 : Int32))).1) (by decide) (by decide) ?_
                show Steps p.tables e below (T94.setTop (mkF m 117 #[.val (.int len), .val (.int xa), .val (.int xb), .val (.int xc), .val (.int xd), .val (.int (3 : Int32)), .val (.int q1), .val (.int q2), .val (.int q3), .val (.int q4), .val (.ref a_11), .unset] [])) _
                refine XS.iconst X94.here hx rfl (Jvm.hb hby at_117) ?_
                show Steps p.tables e below (T94.setTop (mkF m 118 #[.val (.int len), .val (.int xa), .val (.int xb), .val (.int xc), .val (.int xd), .val (.int (3 : Int32)), .val (.int q1), .val (.int q2), .val (.int q3), .val (.int q4), .val (.ref a_11), .unset] [(.int (0 : Int32))])) _
                refine XS.istore X94.here hx rfl (Jvm.hb hby at_118) rfl (l' := #[.val (.int len), .val (.int xa), .val (.int xb), .val (.int xc), .val (.int xd), .val (.int (3 : Int32)), .val (.int q1), .val (.int q2), .val (.int q3), .val (.int q4), .val (.ref a_11), .val (.int (0 : Int32))]) rfl ?_
                show Steps p.tables e below (T94.setTop (mkF m 120 #[.val (.int len), .val (.int xa), .val (.int xb), .val (.int xc), .val (.int xd), .val (.int (3 : Int32)), .val (.int q1), .val (.int q2), .val (.int q3), .val (.int q4), .val (.ref a_11), .val (.int (0 : Int32))] [])) _
                refine XS.aload X94.here hx rfl (Jvm.hb hby at_120) rfl rfl ?_
                show Steps p.tables e below (T94.setTop (mkF m 122 #[.val (.int len), .val (.int xa), .val (.int xb), .val (.int xc), .val (.int xd), .val (.int (3 : Int32)), .val (.int q1), .val (.int q2), .val (.int q3), .val (.int q4), .val (.ref a_11), .val (.int (0 : Int32))] [(.ref a_11)])) _
                show Steps p.tables e below (T94.setTop (mkF m 122 #[.val (.int len), .val (.int xa), .val (.int xb), .val (.int xc), .val (.int xd), .val (.int (3 : Int32)), .val (.int q1), .val (.int q2), .val (.int q3), .val (.int q4), .val (.ref a_11), .val (.int (0 : Int32))] [(.ref a_11)])) t_
                exact k_)
              have O121 : Old Z n0 h11 := (OX.keep K11 all0)
              have Zc122 : n0 ≤ h11.size := by omega
              obtain ⟨_, _, ⟨T123, L123, k123, n123⟩, -, X123, ⟨Lc123, hQ123, l123, y123, z123⟩, st123⟩ := Jvm.LawKit.callS X94 hx (y := (⟨"com/example/zastupnik/zastupnik/protocol/AsciiDigits", "only", "(Ljava/lang/String;)Z"⟩ : MethodName)) hown (mvT hZ (hw _ (List.mem_of_getElem? (i := 27) rfl))) (mvT hZ (hw _ (List.mem_of_getElem? (i := 28) rfl))) (mvT hZ (hw _ (List.mem_of_getElem? (i := 29) rfl))) (mvT hZ (hw _ (List.mem_of_getElem? (i := 30) rfl))) (by decide) (backOf (W := 0) (rmOnly l Z a0 hw [] a_11 cst b_11 kb_11 (own_mk4 nn q1 q2 q3 q4) fmt h11 n0 Zc122 I1 I2 I3 I4 (hfmt : fmt.isRef = true) I5 O121 (hcst : ¬ (cst = (0 : Int32))) Fq11_0 Fq11_1 Fq11_2 Fq11_3 (own_mkl4 _ _ _ _ _) (own_mkchs4 rg6 rg7 rg8 rg9)) hZ (hw _ (List.mem_of_getElem? (i := 30) rfl)) (hw _ (List.mem_of_getElem? (i := 29) rfl)) (by decide) (by decide)) (g := (mkF m 122 #[.val (.int len), .val (.int xa), .val (.int xb), .val (.int xc), .val (.int xd), .val (.int (3 : Int32)), .val (.int q1), .val (.int q2), .val (.int q3), .val (.int q4), .val (.ref a_11), .val (.int (0 : Int32))] [(.ref a_11)])) rfl (by rw [hml]; rfl) (argsL := [(.ref a_11)]) (rest := []) (lenOf pd__Ljava_lang_String__Z rfl) rfl (by show 2 * 0 + _ ≤ _; exact Nat.le_of_eq rfl) (Jvm.hb hby at_122) (fun _ _ => ⟨rfl, e94, (by decide : 6 + 0 ≤ _), (by decide : 20 + 0 ≤ _)⟩)
              dsimp only [Pt.U, Pt.locs, Pt.cells, Pt.slots] at X123 l123 y123 z123 st123 hQ123
              subst l123 y123 z123
              obtain ⟨rfl, N123q, e123⟩ := hQ123
              have N123 := Fr.app N94 N123q
              obtain ⟨q124, hq124⟩ : ∃ z : Int32, z = (own_only (own_mk4 nn q1 q2 q3 q4)) := ⟨_, rfl⟩
              rw [← hq124] at st123
              have hon : q124 = (0 : Int32) := by rw [hq124, h83]; exact (show own_only [q1, q2, q3] = (0 : Int32) from own_onlyF (c := q2) (by simp) h97)
              have s125 : ∀ t_, Steps p.tables e below (T123.setTop (mkF m 135 #[.val (.int len), .val (.int xa), .val (.int xb), .val (.int xc), .val (.int xd), .val (.int (3 : Int32)), .val (.int q1), .val (.int q2), .val (.int q3), .val (.int q4), .val (.ref a_11), .val (.int (0 : Int32))] [(.int (1 : Int32))])) t_ → Steps p.tables e below (s₁.setTop (entryFrame m #[(.int len), (.int xa), (.int xb), (.int xc), (.int xd)] maxLocals)) t_ := fun t_ k_ => s120 t_ (by
                show Steps p.tables e below (T94.setTop (mkF m 122 #[.val (.int len), .val (.int xa), .val (.int xb), .val (.int xc), .val (.int xd), .val (.int (3 : Int32)), .val (.int q1), .val (.int q2), .val (.int q3), .val (.int q4), .val (.ref a_11), .val (.int (0 : Int32))] [(.ref a_11)])) t_
                refine st123 _ ?_
                show Steps p.tables e below (T123.setTop (mkF m 125 #[.val (.int len), .val (.int xa), .val (.int xb), .val (.int xc), .val (.int xd), .val (.int (3 : Int32)), .val (.int q1), .val (.int q2), .val (.int q3), .val (.int q4), .val (.ref a_11), .val (.int (0 : Int32))] [(.int q124)])) _
                refine XS.iload X123.here hx rfl (Jvm.hb hby at_125) rfl ?_
                show Steps p.tables e below (T123.setTop (mkF m 127 #[.val (.int len), .val (.int xa), .val (.int xb), .val (.int xc), .val (.int xd), .val (.int (3 : Int32)), .val (.int q1), .val (.int q2), .val (.int q3), .val (.int q4), .val (.ref a_11), .val (.int (0 : Int32))] [(.int (0 : Int32)), (.int q124)])) _
                refine XS.icmpNo X123.here hx rfl (Jvm.hb hby at_127) rfl (teq hon).2 ?_
                show Steps p.tables e below (T123.setTop (mkF m 130 #[.val (.int len), .val (.int xa), .val (.int xb), .val (.int xc), .val (.int xd), .val (.int (3 : Int32)), .val (.int q1), .val (.int q2), .val (.int q3), .val (.int q4), .val (.ref a_11), .val (.int (0 : Int32))] [])) _
                refine XS.iconst X123.here hx rfl (Jvm.hb hby at_130) ?_
                show Steps p.tables e below (T123.setTop (mkF m 131 #[.val (.int len), .val (.int xa), .val (.int xb), .val (.int xc), .val (.int xd), .val (.int (3 : Int32)), .val (.int q1), .val (.int q2), .val (.int q3), .val (.int q4), .val (.ref a_11), .val (.int (0 : Int32))] [(.int (1 : Int32))])) _
                refine XS.goto X123.here hx rfl (pc0 := 131) (pc' := 135) rfl (Jvm.hb hby at_131) (by decide) (by decide) ?_
                show Steps p.tables e below (T123.setTop (mkF m 135 #[.val (.int len), .val (.int xa), .val (.int xb), .val (.int xc), .val (.int xd), .val (.int (3 : Int32)), .val (.int q1), .val (.int q2), .val (.int q3), .val (.int q4), .val (.ref a_11), .val (.int (0 : Int32))] [(.int (1 : Int32))])) _
                show Steps p.tables e below (T123.setTop (mkF m 135 #[.val (.int len), .val (.int xa), .val (.int xb), .val (.int xc), .val (.int xd), .val (.int (3 : Int32)), .val (.int q1), .val (.int q2), .val (.int q3), .val (.int q4), .val (.ref a_11), .val (.int (0 : Int32))] [(.int (1 : Int32))])) t_
                exact k_)
              obtain ⟨fs, hr, hrun, hended, hREW⟩ := X123.leaveW hS (by first | exact Nat.le_refl _ | (rw [e123]; exact hk)) (v := some (.int (1 : Int32))) (fun h => by rw [Bd.returns] at h; cases h)
              refine ⟨_, _, s125 _ ?_, hrun, hended, _, _, rfl, ?_, (by show CHr Z ELs s.vm s.heap T123.vm T123.heap; rw [hh, e123]; exact CR.trans (CHv.at X123 hZ hEL CR.1)), hREW.1, hREW.2.1, hREW.2.2.1, hREW.2.2.2.mono (by decide) (by decide)⟩
              · show Steps p.tables e below (T123.setTop (mkF m 135 #[.val (.int len), .val (.int xa), .val (.int xb), .val (.int xc), .val (.int xd), .val (.int (3 : Int32)), .val (.int q1), .val (.int q2), .val (.int q3), .val (.int q4), .val (.ref a_11), .val (.int (0 : Int32))] [(.int (1 : Int32))])) _
                exact retN X123 hx (t := .boolean) Bd.returns (by simp) (Jvm.hb hby at_135) hr
              · show Q_rmLaw Z _ _ _ _ _ _ _ h0 n0 _ T123.heap _
                rw [e123]
                exact ⟨rfl, N123⟩
          · have s126 : ∀ t_, Steps p.tables e below (T87.setTop (mkF m 68 #[.val (.int len), .val (.int xa), .val (.int xb), .val (.int xc), .val (.int xd), .val (.int (3 : Int32)), .val (.int q1), .val (.int q2), .val (.int q3), .val (.int q4), .val (.ref a_11), .unset] [(.int (0 : Int32))])) t_ → Steps p.tables e below (s₁.setTop (entryFrame m #[(.int len), (.int xa), (.int xb), (.int xc), (.int xd)] maxLocals)) t_ := fun t_ k_ => s89 t_ (castTop (by rw [hq88, if_neg h90]) k_)
            have s127 : ∀ t_, Steps p.tables e below (T87.setTop (mkF m 122 #[.val (.int len), .val (.int xa), .val (.int xb), .val (.int xc), .val (.int xd), .val (.int (3 : Int32)), .val (.int q1), .val (.int q2), .val (.int q3), .val (.int q4), .val (.ref a_11), .val (.int (0 : Int32))] [(.ref a_11)])) t_ → Steps p.tables e below (s₁.setTop (entryFrame m #[(.int len), (.int xa), (.int xb), (.int xc), (.int xd)] maxLocals)) t_ := fun t_ k_ => s126 t_ (by
              show Steps p.tables e below (T87.setTop (mkF m 68 #[.val (.int len), .val (.int xa), .val (.int xb), .val (.int xc), .val (.int xd), .val (.int (3 : Int32)), .val (.int q1), .val (.int q2), .val (.int q3), .val (.int q4), .val (.ref a_11), .unset] [(.int (0 : Int32))])) t_
              refine XS.ifYes X87.here hx rfl (pc0 := 68) (pc' := 117) rfl (Jvm.hb hby at_68) rfl ((if0 _ _).trans (teq (rfl : (0 : Int32) = (0 : Int32))).1) (by decide) (by decide) ?_
              show Steps p.tables e below (T87.setTop (mkF m 117 #[.val (.int len), .val (.int xa), .val (.int xb), .val (.int xc), .val (.int xd), .val (.int (3 : Int32)), .val (.int q1), .val (.int q2), .val (.int q3), .val (.int q4), .val (.ref a_11), .unset] [])) _
              refine XS.iconst X87.here hx rfl (Jvm.hb hby at_117) ?_
              show Steps p.tables e below (T87.setTop (mkF m 118 #[.val (.int len), .val (.int xa), .val (.int xb), .val (.int xc), .val (.int xd), .val (.int (3 : Int32)), .val (.int q1), .val (.int q2), .val (.int q3), .val (.int q4), .val (.ref a_11), .unset] [(.int (0 : Int32))])) _
              refine XS.istore X87.here hx rfl (Jvm.hb hby at_118) rfl (l' := #[.val (.int len), .val (.int xa), .val (.int xb), .val (.int xc), .val (.int xd), .val (.int (3 : Int32)), .val (.int q1), .val (.int q2), .val (.int q3), .val (.int q4), .val (.ref a_11), .val (.int (0 : Int32))]) rfl ?_
              show Steps p.tables e below (T87.setTop (mkF m 120 #[.val (.int len), .val (.int xa), .val (.int xb), .val (.int xc), .val (.int xd), .val (.int (3 : Int32)), .val (.int q1), .val (.int q2), .val (.int q3), .val (.int q4), .val (.ref a_11), .val (.int (0 : Int32))] [])) _
              refine XS.aload X87.here hx rfl (Jvm.hb hby at_120) rfl rfl ?_
              show Steps p.tables e below (T87.setTop (mkF m 122 #[.val (.int len), .val (.int xa), .val (.int xb), .val (.int xc), .val (.int xd), .val (.int (3 : Int32)), .val (.int q1), .val (.int q2), .val (.int q3), .val (.int q4), .val (.ref a_11), .val (.int (0 : Int32))] [(.ref a_11)])) _
              show Steps p.tables e below (T87.setTop (mkF m 122 #[.val (.int len), .val (.int xa), .val (.int xb), .val (.int xc), .val (.int xd), .val (.int (3 : Int32)), .val (.int q1), .val (.int q2), .val (.int q3), .val (.int q4), .val (.ref a_11), .val (.int (0 : Int32))] [(.ref a_11)])) t_
              exact k_)
            have O128 : Old Z n0 h11 := (OX.keep K11 all0)
            have Zc129 : n0 ≤ h11.size := by omega
            obtain ⟨_, _, ⟨T130, L130, k130, n130⟩, -, X130, ⟨Lc130, hQ130, l130, y130, z130⟩, st130⟩ := Jvm.LawKit.callS X87 hx (y := (⟨"com/example/zastupnik/zastupnik/protocol/AsciiDigits", "only", "(Ljava/lang/String;)Z"⟩ : MethodName)) hown (mvT hZ (hw _ (List.mem_of_getElem? (i := 27) rfl))) (mvT hZ (hw _ (List.mem_of_getElem? (i := 28) rfl))) (mvT hZ (hw _ (List.mem_of_getElem? (i := 29) rfl))) (mvT hZ (hw _ (List.mem_of_getElem? (i := 30) rfl))) (by decide) (backOf (W := 0) (rmOnly l Z a0 hw [] a_11 cst b_11 kb_11 (own_mk4 nn q1 q2 q3 q4) fmt h11 n0 Zc129 I1 I2 I3 I4 (hfmt : fmt.isRef = true) I5 O128 (hcst : ¬ (cst = (0 : Int32))) Fq11_0 Fq11_1 Fq11_2 Fq11_3 (own_mkl4 _ _ _ _ _) (own_mkchs4 rg6 rg7 rg8 rg9)) hZ (hw _ (List.mem_of_getElem? (i := 30) rfl)) (hw _ (List.mem_of_getElem? (i := 29) rfl)) (by decide) (by decide)) (g := (mkF m 122 #[.val (.int len), .val (.int xa), .val (.int xb), .val (.int xc), .val (.int xd), .val (.int (3 : Int32)), .val (.int q1), .val (.int q2), .val (.int q3), .val (.int q4), .val (.ref a_11), .val (.int (0 : Int32))] [(.ref a_11)])) rfl (by rw [hml]; rfl) (argsL := [(.ref a_11)]) (rest := []) (lenOf pd__Ljava_lang_String__Z rfl) rfl (by show 2 * 0 + _ ≤ _; exact Nat.le_of_eq rfl) (Jvm.hb hby at_122) (fun _ _ => ⟨rfl, e87, (by decide : 6 + 0 ≤ _), (by decide : 20 + 0 ≤ _)⟩)
            dsimp only [Pt.U, Pt.locs, Pt.cells, Pt.slots] at X130 l130 y130 z130 st130 hQ130
            subst l130 y130 z130
            obtain ⟨rfl, N130q, e130⟩ := hQ130
            have N130 := Fr.app N87 N130q
            obtain ⟨q131, hq131⟩ : ∃ z : Int32, z = (own_only (own_mk4 nn q1 q2 q3 q4)) := ⟨_, rfl⟩
            rw [← hq131] at st130
            have hon : q131 = (0 : Int32) := by rw [hq131, h83]; exact (show own_only [q1, q2, q3] = (0 : Int32) from own_onlyF (c := q1) (by simp) h90)
            have s132 : ∀ t_, Steps p.tables e below (T130.setTop (mkF m 135 #[.val (.int len), .val (.int xa), .val (.int xb), .val (.int xc), .val (.int xd), .val (.int (3 : Int32)), .val (.int q1), .val (.int q2), .val (.int q3), .val (.int q4), .val (.ref a_11), .val (.int (0 : Int32))] [(.int (1 : Int32))])) t_ → Steps p.tables e below (s₁.setTop (entryFrame m #[(.int len), (.int xa), (.int xb), (.int xc), (.int xd)] maxLocals)) t_ := fun t_ k_ => s127 t_ (by
              show Steps p.tables e below (T87.setTop (mkF m 122 #[.val (.int len), .val (.int xa), .val (.int xb), .val (.int xc), .val (.int xd), .val (.int (3 : Int32)), .val (.int q1), .val (.int q2), .val (.int q3), .val (.int q4), .val (.ref a_11), .val (.int (0 : Int32))] [(.ref a_11)])) t_
              refine st130 _ ?_
              show Steps p.tables e below (T130.setTop (mkF m 125 #[.val (.int len), .val (.int xa), .val (.int xb), .val (.int xc), .val (.int xd), .val (.int (3 : Int32)), .val (.int q1), .val (.int q2), .val (.int q3), .val (.int q4), .val (.ref a_11), .val (.int (0 : Int32))] [(.int q131)])) _
              refine XS.iload X130.here hx rfl (Jvm.hb hby at_125) rfl ?_
              show Steps p.tables e below (T130.setTop (mkF m 127 #[.val (.int len), .val (.int xa), .val (.int xb), .val (.int xc), .val (.int xd), .val (.int (3 : Int32)), .val (.int q1), .val (.int q2), .val (.int q3), .val (.int q4), .val (.ref a_11), .val (.int (0 : Int32))] [(.int (0 : Int32)), (.int q131)])) _
              refine XS.icmpNo X130.here hx rfl (Jvm.hb hby at_127) rfl (teq hon).2 ?_
              show Steps p.tables e below (T130.setTop (mkF m 130 #[.val (.int len), .val (.int xa), .val (.int xb), .val (.int xc), .val (.int xd), .val (.int (3 : Int32)), .val (.int q1), .val (.int q2), .val (.int q3), .val (.int q4), .val (.ref a_11), .val (.int (0 : Int32))] [])) _
              refine XS.iconst X130.here hx rfl (Jvm.hb hby at_130) ?_
              show Steps p.tables e below (T130.setTop (mkF m 131 #[.val (.int len), .val (.int xa), .val (.int xb), .val (.int xc), .val (.int xd), .val (.int (3 : Int32)), .val (.int q1), .val (.int q2), .val (.int q3), .val (.int q4), .val (.ref a_11), .val (.int (0 : Int32))] [(.int (1 : Int32))])) _
              refine XS.goto X130.here hx rfl (pc0 := 131) (pc' := 135) rfl (Jvm.hb hby at_131) (by decide) (by decide) ?_
              show Steps p.tables e below (T130.setTop (mkF m 135 #[.val (.int len), .val (.int xa), .val (.int xb), .val (.int xc), .val (.int xd), .val (.int (3 : Int32)), .val (.int q1), .val (.int q2), .val (.int q3), .val (.int q4), .val (.ref a_11), .val (.int (0 : Int32))] [(.int (1 : Int32))])) _
              show Steps p.tables e below (T130.setTop (mkF m 135 #[.val (.int len), .val (.int xa), .val (.int xb), .val (.int xc), .val (.int xd), .val (.int (3 : Int32)), .val (.int q1), .val (.int q2), .val (.int q3), .val (.int q4), .val (.ref a_11), .val (.int (0 : Int32))] [(.int (1 : Int32))])) t_
              exact k_)
            obtain ⟨fs, hr, hrun, hended, hREW⟩ := X130.leaveW hS (by first | exact Nat.le_refl _ | (rw [e130]; exact hk)) (v := some (.int (1 : Int32))) (fun h => by rw [Bd.returns] at h; cases h)
            refine ⟨_, _, s132 _ ?_, hrun, hended, _, _, rfl, ?_, (by show CHr Z ELs s.vm s.heap T130.vm T130.heap; rw [hh, e130]; exact CR.trans (CHv.at X130 hZ hEL CR.1)), hREW.1, hREW.2.1, hREW.2.2.1, hREW.2.2.2.mono (by decide) (by decide)⟩
            · show Steps p.tables e below (T130.setTop (mkF m 135 #[.val (.int len), .val (.int xa), .val (.int xb), .val (.int xc), .val (.int xd), .val (.int (3 : Int32)), .val (.int q1), .val (.int q2), .val (.int q3), .val (.int q4), .val (.ref a_11), .val (.int (0 : Int32))] [(.int (1 : Int32))])) _
              exact retN X130 hx (t := .boolean) Bd.returns (by simp) (Jvm.hb hby at_135) hr
            · show Q_rmLaw Z _ _ _ _ _ _ _ h0 n0 _ T130.heap _
              rw [e130]
              exact ⟨rfl, N130⟩
        · have s133 : ∀ t_, Steps p.tables e below (T11.setTop (mkF m 52 #[.val (.int len), .val (.int xa), .val (.int xb), .val (.int xc), .val (.int xd), .val (.int (Int32.ofNat nn)), .val (.int q1), .val (.int q2), .val (.int q3), .val (.int q4), .val (.ref a_11), .unset] [])) t_ → Steps p.tables e below (s₁.setTop (entryFrame m #[(.int len), (.int xa), (.int xb), (.int xc), (.int xd)] maxLocals)) t_ := fun t_ k_ => s82 t_ (castTop (by rfl) k_)
          have hnn4 : nn = 4 := by omega
          have s134 : ∀ t_, Steps p.tables e below (T11.setTop (mkF m 65 #[.val (.int len), .val (.int xa), .val (.int xb), .val (.int xc), .val (.int xd), .val (.int (4 : Int32)), .val (.int q1), .val (.int q2), .val (.int q3), .val (.int q4), .val (.ref a_11), .unset] [(.int q1)])) t_ → Steps p.tables e below (s₁.setTop (entryFrame m #[(.int len), (.int xa), (.int xb), (.int xc), (.int xd)] maxLocals)) t_ := fun t_ k_ => s133 t_ (by
            show Steps p.tables e below (T11.setTop (mkF m 52 #[.val (.int len), .val (.int xa), .val (.int xb), .val (.int xc), .val (.int xd), .val (.int (Int32.ofNat nn)), .val (.int q1), .val (.int q2), .val (.int q3), .val (.int q4), .val (.ref a_11), .unset] [])) t_
            refine castTop (by subst hnn4; rfl) ?_
            show Steps p.tables e below (T11.setTop (mkF m 52 #[.val (.int len), .val (.int xa), .val (.int xb), .val (.int xc), .val (.int xd), .val (.int (4 : Int32)), .val (.int q1), .val (.int q2), .val (.int q3), .val (.int q4), .val (.ref a_11), .unset] [])) _
            refine XS.iload X11.here hx rfl (Jvm.hb hby at_52) rfl ?_
            show Steps p.tables e below (T11.setTop (mkF m 54 #[.val (.int len), .val (.int xa), .val (.int xb), .val (.int xc), .val (.int xd), .val (.int (4 : Int32)), .val (.int q1), .val (.int q2), .val (.int q3), .val (.int q4), .val (.ref a_11), .unset] [(.int (4 : Int32))])) _
            refine XS.ifNo X11.here hx rfl (Jvm.hb hby at_54) rfl ((if0 _ _).trans (tlt (by decide : ((0 : Int32) < (4 : Int32)))).2.2.2) ?_
            show Steps p.tables e below (T11.setTop (mkF m 57 #[.val (.int len), .val (.int xa), .val (.int xb), .val (.int xc), .val (.int xd), .val (.int (4 : Int32)), .val (.int q1), .val (.int q2), .val (.int q3), .val (.int q4), .val (.ref a_11), .unset] [])) _
            refine XS.iload X11.here hx rfl (Jvm.hb hby at_57) rfl ?_
            show Steps p.tables e below (T11.setTop (mkF m 59 #[.val (.int len), .val (.int xa), .val (.int xb), .val (.int xc), .val (.int xd), .val (.int (4 : Int32)), .val (.int q1), .val (.int q2), .val (.int q3), .val (.int q4), .val (.ref a_11), .unset] [(.int (4 : Int32))])) _
            refine XS.iconst X11.here hx rfl (Jvm.hb hby at_59) ?_
            show Steps p.tables e below (T11.setTop (mkF m 60 #[.val (.int len), .val (.int xa), .val (.int xb), .val (.int xc), .val (.int xd), .val (.int (4 : Int32)), .val (.int q1), .val (.int q2), .val (.int q3), .val (.int q4), .val (.ref a_11), .unset] [(.int (1 : Int32)), (.int (4 : Int32))])) _
            refine XS.icmpNo X11.here hx rfl (Jvm.hb hby at_60) rfl (flt (by decide : ¬ ((4 : Int32) < (1 : Int32)))).1 ?_
            show Steps p.tables e below (T11.setTop (mkF m 63 #[.val (.int len), .val (.int xa), .val (.int xb), .val (.int xc), .val (.int xd), .val (.int (4 : Int32)), .val (.int q1), .val (.int q2), .val (.int q3), .val (.int q4), .val (.ref a_11), .unset] [])) _
            refine XS.iload X11.here hx rfl (Jvm.hb hby at_63) rfl ?_
            show Steps p.tables e below (T11.setTop (mkF m 65 #[.val (.int len), .val (.int xa), .val (.int xb), .val (.int xc), .val (.int xd), .val (.int (4 : Int32)), .val (.int q1), .val (.int q2), .val (.int q3), .val (.int q4), .val (.ref a_11), .unset] [(.int q1)])) _
            show Steps p.tables e below (T11.setTop (mkF m 65 #[.val (.int len), .val (.int xa), .val (.int xb), .val (.int xc), .val (.int xd), .val (.int (4 : Int32)), .val (.int q1), .val (.int q2), .val (.int q3), .val (.int q4), .val (.ref a_11), .unset] [(.int q1)])) t_
            exact k_)
          have Zc135 : n0 ≤ h11.size := by omega
          obtain ⟨_, _, ⟨T136, L136, k136, n136⟩, -, X136, ⟨Lc136, hQ136, l136, y136, z136⟩, st136⟩ := Jvm.LawKit.callS X11 hx (y := (⟨"com/example/zastupnik/zastupnik/protocol/AsciiDigitsOnlyPinLaw", "digit", "(C)Z"⟩ : MethodName)) hown (mvT hZ (hw _ (List.mem_of_getElem? (i := 47) rfl))) (mvT hZ (hw _ (List.mem_of_getElem? (i := 48) rfl))) (mvT hZ (hw _ (List.mem_of_getElem? (i := 3) rfl))) (mvT hZ (hw _ (List.mem_of_getElem? (i := 49) rfl))) (by decide) (backOf (W := 0) (rmDig l Z a0 hw [] q1 h11 n0 Zc135) hZ (hw _ (List.mem_of_getElem? (i := 49) rfl)) (hw _ (List.mem_of_getElem? (i := 3) rfl)) (by decide) (by decide)) (g := (mkF m 65 #[.val (.int len), .val (.int xa), .val (.int xb), .val (.int xc), .val (.int xd), .val (.int (4 : Int32)), .val (.int q1), .val (.int q2), .val (.int q3), .val (.int q4), .val (.ref a_11), .unset] [(.int q1)])) rfl (by rw [hml]; rfl) (argsL := [(.int q1)]) (rest := []) (lenOf pd__C_Z rfl) rfl (by show 2 * 0 + _ ≤ _; exact Nat.le_of_eq rfl) (Jvm.hb hby at_65) (fun _ _ => ⟨rfl, e11, (by decide : 6 + 0 ≤ _), (by decide : 20 + 0 ≤ _)⟩)
          dsimp only [Pt.U, Pt.locs, Pt.cells, Pt.slots] at X136 l136 y136 z136 st136 hQ136
          subst l136 y136 z136
          obtain ⟨rfl, N136q, e136⟩ := hQ136
          have N136 := Fr.app N11 N136q
          obtain ⟨q137, hq137⟩ : ∃ z : Int32, z = (if own_dig q1 then (1 : Int32) else (0 : Int32)) := ⟨_, rfl⟩
          rw [← hq137] at st136
          have s138 : ∀ t_, Steps p.tables e below (T136.setTop (mkF m 68 #[.val (.int len), .val (.int xa), .val (.int xb), .val (.int xc), .val (.int xd), .val (.int (4 : Int32)), .val (.int q1), .val (.int q2), .val (.int q3), .val (.int q4), .val (.ref a_11), .unset] [(.int q137)])) t_ → Steps p.tables e below (s₁.setTop (entryFrame m #[(.int len), (.int xa), (.int xb), (.int xc), (.int xd)] maxLocals)) t_ := fun t_ k_ => s134 t_ (by
            show Steps p.tables e below (T11.setTop (mkF m 65 #[.val (.int len), .val (.int xa), .val (.int xb), .val (.int xc), .val (.int xd), .val (.int (4 : Int32)), .val (.int q1), .val (.int q2), .val (.int q3), .val (.int q4), .val (.ref a_11), .unset] [(.int q1)])) t_
            refine st136 _ ?_
            show Steps p.tables e below (T136.setTop (mkF m 68 #[.val (.int len), .val (.int xa), .val (.int xb), .val (.int xc), .val (.int xd), .val (.int (4 : Int32)), .val (.int q1), .val (.int q2), .val (.int q3), .val (.int q4), .val (.ref a_11), .unset] [(.int q137)])) _
            show Steps p.tables e below (T136.setTop (mkF m 68 #[.val (.int len), .val (.int xa), .val (.int xb), .val (.int xc), .val (.int xd), .val (.int (4 : Int32)), .val (.int q1), .val (.int q2), .val (.int q3), .val (.int q4), .val (.ref a_11), .unset] [(.int q137)])) t_
            exact k_)
          by_cases h139 : own_dig q1
          · have s140 : ∀ t_, Steps p.tables e below (T136.setTop (mkF m 68 #[.val (.int len), .val (.int xa), .val (.int xb), .val (.int xc), .val (.int xd), .val (.int (4 : Int32)), .val (.int q1), .val (.int q2), .val (.int q3), .val (.int q4), .val (.ref a_11), .unset] [(.int (1 : Int32))])) t_ → Steps p.tables e below (s₁.setTop (entryFrame m #[(.int len), (.int xa), (.int xb), (.int xc), (.int xd)] maxLocals)) t_ := fun t_ k_ => s138 t_ (castTop (by rw [hq137, if_pos h139]) k_)
            have s141 : ∀ t_, Steps p.tables e below (T136.setTop (mkF m 79 #[.val (.int len), .val (.int xa), .val (.int xb), .val (.int xc), .val (.int xd), .val (.int (4 : Int32)), .val (.int q1), .val (.int q2), .val (.int q3), .val (.int q4), .val (.ref a_11), .unset] [(.int q2)])) t_ → Steps p.tables e below (s₁.setTop (entryFrame m #[(.int len), (.int xa), (.int xb), (.int xc), (.int xd)] maxLocals)) t_ := fun t_ k_ => s140 t_ (by
              show Steps p.tables e below (T136.setTop (mkF m 68 #[.val (.int len), .val (.int xa), .val (.int xb), .val (.int xc), .val (.int xd), .val (.int (4 : Int32)), .val (.int q1), .val (.int q2), .val (.int q3), .val (.int q4), .val (.ref a_11), .unset] [(.int (1 : Int32))])) t_
              refine XS.ifNo X136.here hx rfl (Jvm.hb hby at_68) rfl ((if0 _ _).trans (feq (by decide : ¬ ((1 : Int32) = (0 : Int32)))).1) ?_
              show Steps p.tables e below (T136.setTop (mkF m 71 #[.val (.int len), .val (.int xa), .val (.int xb), .val (.int xc), .val (.int xd), .val (.int (4 : Int32)), .val (.int q1), .val (.int q2), .val (.int q3), .val (.int q4), .val (.ref a_11), .unset] [])) _
              refine XS.iload X136.here hx rfl (Jvm.hb hby at_71) rfl ?_
              show Steps p.tables e below (T136.setTop (mkF m 73 #[.val (.int len), .val (.int xa), .val (.int xb), .val (.int xc), .val (.int xd), .val (.int (4 : Int32)), .val (.int q1), .val (.int q2), .val (.int q3), .val (.int q4), .val (.ref a_11), .unset] [(.int (4 : Int32))])) _
              refine XS.iconst X136.here hx rfl (Jvm.hb hby at_73) ?_
              show Steps p.tables e below (T136.setTop (mkF m 74 #[.val (.int len), .val (.int xa), .val (.int xb), .val (.int xc), .val (.int xd), .val (.int (4 : Int32)), .val (.int q1), .val (.int q2), .val (.int q3), .val (.int q4), .val (.ref a_11), .unset] [(.int (2 : Int32)), (.int (4 : Int32))])) _
              refine XS.icmpNo X136.here hx rfl (Jvm.hb hby at_74) rfl (flt (by decide : ¬ ((4 : Int32) < (2 : Int32)))).1 ?_
              show Steps p.tables e below (T136.setTop (mkF m 77 #[.val (.int len), .val (.int xa), .val (.int xb), .val (.int xc), .val (.int xd), .val (.int (4 : Int32)), .val (.int q1), .val (.int q2), .val (.int q3), .val (.int q4), .val (.ref a_11), .unset] [])) _
              refine XS.iload X136.here hx rfl (Jvm.hb hby at_77) rfl ?_
              show Steps p.tables e below (T136.setTop (mkF m 79 #[.val (.int len), .val (.int xa), .val (.int xb), .val (.int xc), .val (.int xd), .val (.int (4 : Int32)), .val (.int q1), .val (.int q2), .val (.int q3), .val (.int q4), .val (.ref a_11), .unset] [(.int q2)])) _
              show Steps p.tables e below (T136.setTop (mkF m 79 #[.val (.int len), .val (.int xa), .val (.int xb), .val (.int xc), .val (.int xd), .val (.int (4 : Int32)), .val (.int q1), .val (.int q2), .val (.int q3), .val (.int q4), .val (.ref a_11), .unset] [(.int q2)])) t_
              exact k_)
            have Zc142 : n0 ≤ h11.size := by omega
            obtain ⟨_, _, ⟨T143, L143, k143, n143⟩, -, X143, ⟨Lc143, hQ143, l143, y143, z143⟩, st143⟩ := Jvm.LawKit.callS X136 hx (y := (⟨"com/example/zastupnik/zastupnik/protocol/AsciiDigitsOnlyPinLaw", "digit", "(C)Z"⟩ : MethodName)) hown (mvT hZ (hw _ (List.mem_of_getElem? (i := 47) rfl))) (mvT hZ (hw _ (List.mem_of_getElem? (i := 48) rfl))) (mvT hZ (hw _ (List.mem_of_getElem? (i := 3) rfl))) (mvT hZ (hw _ (List.mem_of_getElem? (i := 49) rfl))) (by decide) (backOf (W := 0) (rmDig l Z a0 hw [] q2 h11 n0 Zc142) hZ (hw _ (List.mem_of_getElem? (i := 49) rfl)) (hw _ (List.mem_of_getElem? (i := 3) rfl)) (by decide) (by decide)) (g := (mkF m 79 #[.val (.int len), .val (.int xa), .val (.int xb), .val (.int xc), .val (.int xd), .val (.int (4 : Int32)), .val (.int q1), .val (.int q2), .val (.int q3), .val (.int q4), .val (.ref a_11), .unset] [(.int q2)])) rfl (by rw [hml]; rfl) (argsL := [(.int q2)]) (rest := []) (lenOf pd__C_Z rfl) rfl (by show 2 * 0 + _ ≤ _; exact Nat.le_of_eq rfl) (Jvm.hb hby at_79) (fun _ _ => ⟨rfl, e136, (by decide : 6 + 0 ≤ _), (by decide : 20 + 0 ≤ _)⟩)
            dsimp only [Pt.U, Pt.locs, Pt.cells, Pt.slots] at X143 l143 y143 z143 st143 hQ143
            subst l143 y143 z143
            obtain ⟨rfl, N143q, e143⟩ := hQ143
            have N143 := Fr.app N136 N143q
            obtain ⟨q144, hq144⟩ : ∃ z : Int32, z = (if own_dig q2 then (1 : Int32) else (0 : Int32)) := ⟨_, rfl⟩
            rw [← hq144] at st143
            have s145 : ∀ t_, Steps p.tables e below (T143.setTop (mkF m 82 #[.val (.int len), .val (.int xa), .val (.int xb), .val (.int xc), .val (.int xd), .val (.int (4 : Int32)), .val (.int q1), .val (.int q2), .val (.int q3), .val (.int q4), .val (.ref a_11), .unset] [(.int q144)])) t_ → Steps p.tables e below (s₁.setTop (entryFrame m #[(.int len), (.int xa), (.int xb), (.int xc), (.int xd)] maxLocals)) t_ := fun t_ k_ => s141 t_ (by
              show Steps p.tables e below (T136.setTop (mkF m 79 #[.val (.int len), .val (.int xa), .val (.int xb), .val (.int xc), .val (.int xd), .val (.int (4 : Int32)), .val (.int q1), .val (.int q2), .val (.int q3), .val (.int q4), .val (.ref a_11), .unset] [(.int q2)])) t_
              refine st143 _ ?_
              show Steps p.tables e below (T143.setTop (mkF m 82 #[.val (.int len), .val (.int xa), .val (.int xb), .val (.int xc), .val (.int xd), .val (.int (4 : Int32)), .val (.int q1), .val (.int q2), .val (.int q3), .val (.int q4), .val (.ref a_11), .unset] [(.int q144)])) _
              show Steps p.tables e below (T143.setTop (mkF m 82 #[.val (.int len), .val (.int xa), .val (.int xb), .val (.int xc), .val (.int xd), .val (.int (4 : Int32)), .val (.int q1), .val (.int q2), .val (.int q3), .val (.int q4), .val (.ref a_11), .unset] [(.int q144)])) t_
              exact k_)
            by_cases h146 : own_dig q2
            · have s147 : ∀ t_, Steps p.tables e below (T143.setTop (mkF m 82 #[.val (.int len), .val (.int xa), .val (.int xb), .val (.int xc), .val (.int xd), .val (.int (4 : Int32)), .val (.int q1), .val (.int q2), .val (.int q3), .val (.int q4), .val (.ref a_11), .unset] [(.int (1 : Int32))])) t_ → Steps p.tables e below (s₁.setTop (entryFrame m #[(.int len), (.int xa), (.int xb), (.int xc), (.int xd)] maxLocals)) t_ := fun t_ k_ => s145 t_ (castTop (by rw [hq144, if_pos h146]) k_)
              have s148 : ∀ t_, Steps p.tables e below (T143.setTop (mkF m 93 #[.val (.int len), .val (.int xa), .val (.int xb), .val (.int xc), .val (.int xd), .val (.int (4 : Int32)), .val (.int q1), .val (.int q2), .val (.int q3), .val (.int q4), .val (.ref a_11), .unset] [(.int q3)])) t_ → Steps p.tables e below (s₁.setTop (entryFrame m #[(.int len), (.int xa), (.int xb), (.int xc), (.int xd)] maxLocals)) t_ := fun t_ k_ => s147 t_ (by
                show Steps p.tables e below (T143.setTop (mkF m 82 #[.val (.int len), .val (.int xa), .val (.int xb), .val (.int xc), .val (.int xd), .val (.int (4 : Int32)), .val (.int q1), .val (.int q2), .val (.int q3), .val (.int q4), .val (.ref a_11), .unset] [(.int (1 : Int32))])) t_
                refine XS.ifNo X143.here hx rfl (Jvm.hb hby at_82) rfl ((if0 _ _).trans (feq (by decide : ¬ ((1 : Int32) = (0 : Int32)))).1) ?_
                show Steps p.tables e below (T143.setTop (mkF m 85 #[.val (.int len), .val (.int xa), .val (.int xb), .val (.int xc), .val (.int xd), .val (.int (4 : Int32)), .val (.int q1), .val (.int q2), .val (.int q3), .val (.int q4), .val (.ref a_11), .unset] [])) _
                refine XS.iload X143.here hx rfl (Jvm.hb hby at_85) rfl ?_
                show Steps p.tables e below (T143.setTop (mkF m 87 #[.val (.int len), .val (.int xa), .val (.int xb), .val (.int xc), .val (.int xd), .val (.int (4 : Int32)), .val (.int q1), .val (.int q2), .val (.int q3), .val (.int q4), .val (.ref a_11), .unset] [(.int (4 : Int32))])) _
                refine XS.iconst X143.here hx rfl (Jvm.hb hby at_87) ?_
                show Steps p.tables e below (T143.setTop (mkF m 88 #[.val (.int len), .val (.int xa), .val (.int xb), .val (.int xc), .val (.int xd), .val (.int (4 : Int32)), .val (.int q1), .val (.int q2), .val (.int q3), .val (.int q4), .val (.ref a_11), .unset] [(.int (3 : Int32)), (.int (4 : Int32))])) _
                refine XS.icmpNo X143.here hx rfl (Jvm.hb hby at_88) rfl (flt (by decide : ¬ ((4 : Int32) < (3 : Int32)))).1 ?_
                show Steps p.tables e below (T143.setTop (mkF m 91 #[.val (.int len), .val (.int xa), .val (.int xb), .val (.int xc), .val (.int xd), .val (.int (4 : Int32)), .val (.int q1), .val (.int q2), .val (.int q3), .val (.int q4), .val (.ref a_11), .unset] [])) _
                refine XS.iload X143.here hx rfl (Jvm.hb hby at_91) rfl ?_
                show Steps p.tables e below (T143.setTop (mkF m 93 #[.val (.int len), .val (.int xa), .val (.int xb), .val (.int xc), .val (.int xd), .val (.int (4 : Int32)), .val (.int q1), .val (.int q2), .val (.int q3), .val (.int q4), .val (.ref a_11), .unset] [(.int q3)])) _
                show Steps p.tables e below (T143.setTop (mkF m 93 #[.val (.int len), .val (.int xa), .val (.int xb), .val (.int xc), .val (.int xd), .val (.int (4 : Int32)), .val (.int q1), .val (.int q2), .val (.int q3), .val (.int q4), .val (.ref a_11), .unset] [(.int q3)])) t_
                exact k_)
              have Zc149 : n0 ≤ h11.size := by omega
              obtain ⟨_, _, ⟨T150, L150, k150, n150⟩, -, X150, ⟨Lc150, hQ150, l150, y150, z150⟩, st150⟩ := Jvm.LawKit.callS X143 hx (y := (⟨"com/example/zastupnik/zastupnik/protocol/AsciiDigitsOnlyPinLaw", "digit", "(C)Z"⟩ : MethodName)) hown (mvT hZ (hw _ (List.mem_of_getElem? (i := 47) rfl))) (mvT hZ (hw _ (List.mem_of_getElem? (i := 48) rfl))) (mvT hZ (hw _ (List.mem_of_getElem? (i := 3) rfl))) (mvT hZ (hw _ (List.mem_of_getElem? (i := 49) rfl))) (by decide) (backOf (W := 0) (rmDig l Z a0 hw [] q3 h11 n0 Zc149) hZ (hw _ (List.mem_of_getElem? (i := 49) rfl)) (hw _ (List.mem_of_getElem? (i := 3) rfl)) (by decide) (by decide)) (g := (mkF m 93 #[.val (.int len), .val (.int xa), .val (.int xb), .val (.int xc), .val (.int xd), .val (.int (4 : Int32)), .val (.int q1), .val (.int q2), .val (.int q3), .val (.int q4), .val (.ref a_11), .unset] [(.int q3)])) rfl (by rw [hml]; rfl) (argsL := [(.int q3)]) (rest := []) (lenOf pd__C_Z rfl) rfl (by show 2 * 0 + _ ≤ _; exact Nat.le_of_eq rfl) (Jvm.hb hby at_93) (fun _ _ => ⟨rfl, e143, (by decide : 6 + 0 ≤ _), (by decide : 20 + 0 ≤ _)⟩)
              dsimp only [Pt.U, Pt.locs, Pt.cells, Pt.slots] at X150 l150 y150 z150 st150 hQ150
              subst l150 y150 z150
              obtain ⟨rfl, N150q, e150⟩ := hQ150
              have N150 := Fr.app N143 N150q
              obtain ⟨q151, hq151⟩ : ∃ z : Int32, z = (if own_dig q3 then (1 : Int32) else (0 : Int32)) := ⟨_, rfl⟩
              rw [← hq151] at st150
              have s152 : ∀ t_, Steps p.tables e below (T150.setTop (mkF m 96 #[.val (.int len), .val (.int xa), .val (.int xb), .val (.int xc), .val (.int xd), .val (.int (4 : Int32)), .val (.int q1), .val (.int q2), .val (.int q3), .val (.int q4), .val (.ref a_11), .unset] [(.int q151)])) t_ → Steps p.tables e below (s₁.setTop (entryFrame m #[(.int len), (.int xa), (.int xb), (.int xc), (.int xd)] maxLocals)) t_ := fun t_ k_ => s148 t_ (by
                show Steps p.tables e below (T143.setTop (mkF m 93 #[.val (.int len), .val (.int xa), .val (.int xb), .val (.int xc), .val (.int xd), .val (.int (4 : Int32)), .val (.int q1), .val (.int q2), .val (.int q3), .val (.int q4), .val (.ref a_11), .unset] [(.int q3)])) t_
                refine st150 _ ?_
                show Steps p.tables e below (T150.setTop (mkF m 96 #[.val (.int len), .val (.int xa), .val (.int xb), .val (.int xc), .val (.int xd), .val (.int (4 : Int32)), .val (.int q1), .val (.int q2), .val (.int q3), .val (.int q4), .val (.ref a_11), .unset] [(.int q151)])) _
                show Steps p.tables e below (T150.setTop (mkF m 96 #[.val (.int len), .val (.int xa), .val (.int xb), .val (.int xc), .val (.int xd), .val (.int (4 : Int32)), .val (.int q1), .val (.int q2), .val (.int q3), .val (.int q4), .val (.ref a_11), .unset] [(.int q151)])) t_
                exact k_)
              by_cases h153 : own_dig q3
              · have s154 : ∀ t_, Steps p.tables e below (T150.setTop (mkF m 96 #[.val (.int len), .val (.int xa), .val (.int xb), .val (.int xc), .val (.int xd), .val (.int (4 : Int32)), .val (.int q1), .val (.int q2), .val (.int q3), .val (.int q4), .val (.ref a_11), .unset] [(.int (1 : Int32))])) t_ → Steps p.tables e below (s₁.setTop (entryFrame m #[(.int len), (.int xa), (.int xb), (.int xc), (.int xd)] maxLocals)) t_ := fun t_ k_ => s152 t_ (castTop (by rw [hq151, if_pos h153]) k_)
                have s155 : ∀ t_, Steps p.tables e below (T150.setTop (mkF m 107 #[.val (.int len), .val (.int xa), .val (.int xb), .val (.int xc), .val (.int xd), .val (.int (4 : Int32)), .val (.int q1), .val (.int q2), .val (.int q3), .val (.int q4), .val (.ref a_11), .unset] [(.int q4)])) t_ → Steps p.tables e below (s₁.setTop (entryFrame m #[(.int len), (.int xa), (.int xb), (.int xc), (.int xd)] maxLocals)) t_ := fun t_ k_ => s154 t_ (by
                  show Steps p.tables e below (T150.setTop (mkF m 96 #[.val (.int len), .val (.int xa), .val (.int xb), .val (.int xc), .val (.int xd), .val (.int (4 : Int32)), .val (.int q1), .val (.int q2), .val (.int q3), .val (.int q4), .val (.ref a_11), .unset] [(.int (1 : Int32))])) t_
                  refine XS.ifNo X150.here hx rfl (Jvm.hb hby at_96) rfl ((if0 _ _).trans (feq (by decide : ¬ ((1 : Int32) = (0 : Int32)))).1) ?_
                  show Steps p.tables e below (T150.setTop (mkF m 99 #[.val (.int len), .val (.int xa), .val (.int xb), .val (.int xc), .val (.int xd), .val (.int (4 : Int32)), .val (.int q1), .val (.int q2), .val (.int q3), .val (.int q4), .val (.ref a_11), .unset] [])) _
                  refine XS.iload X150.here hx rfl (Jvm.hb hby at_99) rfl ?_
                  show Steps p.tables e below (T150.setTop (mkF m 101 #[.val (.int len), .val (.int xa), .val (.int xb), .val (.int xc), .val (.int xd), .val (.int (4 : Int32)), .val (.int q1), .val (.int q2), .val (.int q3), .val (.int q4), .val (.ref a_11), .unset] [(.int (4 : Int32))])) _
                  refine XS.iconst X150.here hx rfl (Jvm.hb hby at_101) ?_
                  show Steps p.tables e below (T150.setTop (mkF m 102 #[.val (.int len), .val (.int xa), .val (.int xb), .val (.int xc), .val (.int xd), .val (.int (4 : Int32)), .val (.int q1), .val (.int q2), .val (.int q3), .val (.int q4), .val (.ref a_11), .unset] [(.int (4 : Int32)), (.int (4 : Int32))])) _
                  refine XS.icmpNo X150.here hx rfl (Jvm.hb hby at_102) rfl (flt (by decide : ¬ ((4 : Int32) < (4 : Int32)))).1 ?_
                  show Steps p.tables e below (T150.setTop (mkF m 105 #[.val (.int len), .val (.int xa), .val (.int xb), .val (.int xc), .val (.int xd), .val (.int (4 : Int32)), .val (.int q1), .val (.int q2), .val (.int q3), .val (.int q4), .val (.ref a_11), .unset] [])) _
                  refine XS.iload X150.here hx rfl (Jvm.hb hby at_105) rfl ?_
                  show Steps p.tables e below (T150.setTop (mkF m 107 #[.val (.int len), .val (.int xa), .val (.int xb), .val (.int xc), .val (.int xd), .val (.int (4 : Int32)), .val (.int q1), .val (.int q2), .val (.int q3), .val (.int q4), .val (.ref a_11), .unset] [(.int q4)])) _
                  show Steps p.tables e below (T150.setTop (mkF m 107 #[.val (.int len), .val (.int xa), .val (.int xb), .val (.int xc), .val (.int xd), .val (.int (4 : Int32)), .val (.int q1), .val (.int q2), .val (.int q3), .val (.int q4), .val (.ref a_11), .unset] [(.int q4)])) t_
                  exact k_)
                have Zc156 : n0 ≤ h11.size := by omega
                obtain ⟨_, _, ⟨T157, L157, k157, n157⟩, -, X157, ⟨Lc157, hQ157, l157, y157, z157⟩, st157⟩ := Jvm.LawKit.callS X150 hx (y := (⟨"com/example/zastupnik/zastupnik/protocol/AsciiDigitsOnlyPinLaw", "digit", "(C)Z"⟩ : MethodName)) hown (mvT hZ (hw _ (List.mem_of_getElem? (i := 47) rfl))) (mvT hZ (hw _ (List.mem_of_getElem? (i := 48) rfl))) (mvT hZ (hw _ (List.mem_of_getElem? (i := 3) rfl))) (mvT hZ (hw _ (List.mem_of_getElem? (i := 49) rfl))) (by decide) (backOf (W := 0) (rmDig l Z a0 hw [] q4 h11 n0 Zc156) hZ (hw _ (List.mem_of_getElem? (i := 49) rfl)) (hw _ (List.mem_of_getElem? (i := 3) rfl)) (by decide) (by decide)) (g := (mkF m 107 #[.val (.int len), .val (.int xa), .val (.int xb), .val (.int xc), .val (.int xd), .val (.int (4 : Int32)), .val (.int q1), .val (.int q2), .val (.int q3), .val (.int q4), .val (.ref a_11), .unset] [(.int q4)])) rfl (by rw [hml]; rfl) (argsL := [(.int q4)]) (rest := []) (lenOf pd__C_Z rfl) rfl (by show 2 * 0 + _ ≤ _; exact Nat.le_of_eq rfl) (Jvm.hb hby at_107) (fun _ _ => ⟨rfl, e150, (by decide : 6 + 0 ≤ _), (by decide : 20 + 0 ≤ _)⟩)
                dsimp only [Pt.U, Pt.locs, Pt.cells, Pt.slots] at X157 l157 y157 z157 st157 hQ157
                subst l157 y157 z157
                obtain ⟨rfl, N157q, e157⟩ := hQ157
                have N157 := Fr.app N150 N157q
                obtain ⟨q158, hq158⟩ : ∃ z : Int32, z = (if own_dig q4 then (1 : Int32) else (0 : Int32)) := ⟨_, rfl⟩
                rw [← hq158] at st157
                have s159 : ∀ t_, Steps p.tables e below (T157.setTop (mkF m 110 #[.val (.int len), .val (.int xa), .val (.int xb), .val (.int xc), .val (.int xd), .val (.int (4 : Int32)), .val (.int q1), .val (.int q2), .val (.int q3), .val (.int q4), .val (.ref a_11), .unset] [(.int q158)])) t_ → Steps p.tables e below (s₁.setTop (entryFrame m #[(.int len), (.int xa), (.int xb), (.int xc), (.int xd)] maxLocals)) t_ := fun t_ k_ => s155 t_ (by
                  show Steps p.tables e below (T150.setTop (mkF m 107 #[.val (.int len), .val (.int xa), .val (.int xb), .val (.int xc), .val (.int xd), .val (.int (4 : Int32)), .val (.int q1), .val (.int q2), .val (.int q3), .val (.int q4), .val (.ref a_11), .unset] [(.int q4)])) t_
                  refine st157 _ ?_
                  show Steps p.tables e below (T157.setTop (mkF m 110 #[.val (.int len), .val (.int xa), .val (.int xb), .val (.int xc), .val (.int xd), .val (.int (4 : Int32)), .val (.int q1), .val (.int q2), .val (.int q3), .val (.int q4), .val (.ref a_11), .unset] [(.int q158)])) _
                  show Steps p.tables e below (T157.setTop (mkF m 110 #[.val (.int len), .val (.int xa), .val (.int xb), .val (.int xc), .val (.int xd), .val (.int (4 : Int32)), .val (.int q1), .val (.int q2), .val (.int q3), .val (.int q4), .val (.ref a_11), .unset] [(.int q158)])) t_
                  exact k_)
                by_cases h160 : own_dig q4
                · have s161 : ∀ t_, Steps p.tables e below (T157.setTop (mkF m 110 #[.val (.int len), .val (.int xa), .val (.int xb), .val (.int xc), .val (.int xd), .val (.int (4 : Int32)), .val (.int q1), .val (.int q2), .val (.int q3), .val (.int q4), .val (.ref a_11), .unset] [(.int (1 : Int32))])) t_ → Steps p.tables e below (s₁.setTop (entryFrame m #[(.int len), (.int xa), (.int xb), (.int xc), (.int xd)] maxLocals)) t_ := fun t_ k_ => s159 t_ (castTop (by rw [hq158, if_pos h160]) k_)
                  have s162 : ∀ t_, Steps p.tables e below (T157.setTop (mkF m 122 #[.val (.int len), .val (.int xa), .val (.int xb), .val (.int xc), .val (.int xd), .val (.int (4 : Int32)), .val (.int q1), .val (.int q2), .val (.int q3), .val (.int q4), .val (.ref a_11), .val (.int (1 : Int32))] [(.ref a_11)])) t_ → Steps p.tables e below (s₁.setTop (entryFrame m #[(.int len), (.int xa), (.int xb), (.int xc), (.int xd)] maxLocals)) t_ := fun t_ k_ => s161 t_ (by
                    show Steps p.tables e below (T157.setTop (mkF m 110 #[.val (.int len), .val (.int xa), .val (.int xb), .val (.int xc), .val (.int xd), .val (.int (4 : Int32)), .val (.int q1), .val (.int q2), .val (.int q3), .val (.int q4), .val (.ref a_11), .unset] [(.int (1 : Int32))])) t_
                    refine XS.ifNo X157.here hx rfl (Jvm.hb hby at_110) rfl ((if0 _ _).trans (feq (by decide : ¬ ((1 : Int32) = (0 : Int32)))).1) ?_
                    show Steps p.tables e below (T157.setTop (mkF m 113 #[.val (.int len), .val (.int xa), .val (.int xb), .val (.int xc), .val (.int xd), .val (.int (4 : Int32)), .val (.int q1), .val (.int q2), .val (.int q3), .val (.int q4), .val (.ref a_11), .unset] [])) _
                    refine XS.iconst X157.here hx rfl (Jvm.hb hby at_113) ?_
                    show Steps p.tables e below (T157.setTop (mkF m 114 #[.val (.int len), .val (.int xa), .val (.int xb), .val (.int xc), .val (.int xd), .val (.int (4 : Int32)), .val (.int q1), .val (.int q2), .val (.int q3), .val (.int q4), .val (.ref a_11), .unset] [(.int (1 : Int32))])) _
                    refine XS.goto X157.here hx rfl (pc0 := 114) (pc' := 118) rfl (Jvm.hb hby at_114) (by decide) (by decide) ?_
                    show Steps p.tables e below (T157.setTop (mkF m 118 #[.val (.int len), .val (.int xa), .val (.int xb), .val (.int xc), .val (.int xd), .val (.int (4 : Int32)), .val (.int q1), .val (.int q2), .val (.int q3), .val (.int q4), .val (.ref a_11), .unset] [(.int (1 : Int32))])) _
                    refine XS.istore X157.here hx rfl (Jvm.hb hby at_118) rfl (l' := #[.val (.int len), .val (.int xa), .val (.int xb), .val (.int xc), .val (.int xd), .val (.int (4 : Int32)), .val (.int q1), .val (.int q2), .val (.int q3), .val (.int q4), .val (.ref a_11), .val (.int (1 : Int32))]) rfl ?_
                    show Steps p.tables e below (T157.setTop (mkF m 120 #[.val (.int len), .val (.int xa), .val (.int xb), .val (.int xc), .val (.int xd), .val (.int (4 : Int32)), .val (.int q1), .val (.int q2), .val (.int q3), .val (.int q4), .val (.ref a_11), .val (.int (1 : Int32))] [])) _
                    refine XS.aload X157.here hx rfl (Jvm.hb hby at_120) rfl rfl ?_
                    show Steps p.tables e below (T157.setTop (mkF m 122 #[.val (.int len), .val (.int xa), .val (.int xb), .val (.int xc), .val (.int xd), .val (.int (4 : Int32)), .val (.int q1), .val (.int q2), .val (.int q3), .val (.int q4), .val (.ref a_11), .val (.int (1 : Int32))] [(.ref a_11)])) _
                    show Steps p.tables e below (T157.setTop (mkF m 122 #[.val (.int len), .val (.int xa), .val (.int xb), .val (.int xc), .val (.int xd), .val (.int (4 : Int32)), .val (.int q1), .val (.int q2), .val (.int q3), .val (.int q4), .val (.ref a_11), .val (.int (1 : Int32))] [(.ref a_11)])) t_
                    exact k_)
                  have O163 : Old Z n0 h11 := (OX.keep K11 all0)
                  have Zc164 : n0 ≤ h11.size := by omega
                  obtain ⟨_, _, ⟨T165, L165, k165, n165⟩, -, X165, ⟨Lc165, hQ165, l165, y165, z165⟩, st165⟩ := Jvm.LawKit.callS X157 hx (y := (⟨"com/example/zastupnik/zastupnik/protocol/AsciiDigits", "only", "(Ljava/lang/String;)Z"⟩ : MethodName)) hown (mvT hZ (hw _ (List.mem_of_getElem? (i := 27) rfl))) (mvT hZ (hw _ (List.mem_of_getElem? (i := 28) rfl))) (mvT hZ (hw _ (List.mem_of_getElem? (i := 29) rfl))) (mvT hZ (hw _ (List.mem_of_getElem? (i := 30) rfl))) (by decide) (backOf (W := 0) (rmOnly l Z a0 hw [] a_11 cst b_11 kb_11 (own_mk4 nn q1 q2 q3 q4) fmt h11 n0 Zc164 I1 I2 I3 I4 (hfmt : fmt.isRef = true) I5 O163 (hcst : ¬ (cst = (0 : Int32))) Fq11_0 Fq11_1 Fq11_2 Fq11_3 (own_mkl4 _ _ _ _ _) (own_mkchs4 rg6 rg7 rg8 rg9)) hZ (hw _ (List.mem_of_getElem? (i := 30) rfl)) (hw _ (List.mem_of_getElem? (i := 29) rfl)) (by decide) (by decide)) (g := (mkF m 122 #[.val (.int len), .val (.int xa), .val (.int xb), .val (.int xc), .val (.int xd), .val (.int (4 : Int32)), .val (.int q1), .val (.int q2), .val (.int q3), .val (.int q4), .val (.ref a_11), .val (.int (1 : Int32))] [(.ref a_11)])) rfl (by rw [hml]; rfl) (argsL := [(.ref a_11)]) (rest := []) (lenOf pd__Ljava_lang_String__Z rfl) rfl (by show 2 * 0 + _ ≤ _; exact Nat.le_of_eq rfl) (Jvm.hb hby at_122) (fun _ _ => ⟨rfl, e157, (by decide : 6 + 0 ≤ _), (by decide : 20 + 0 ≤ _)⟩)
                  dsimp only [Pt.U, Pt.locs, Pt.cells, Pt.slots] at X165 l165 y165 z165 st165 hQ165
                  subst l165 y165 z165
                  obtain ⟨rfl, N165q, e165⟩ := hQ165
                  have N165 := Fr.app N157 N165q
                  obtain ⟨q166, hq166⟩ : ∃ z : Int32, z = (own_only (own_mk4 nn q1 q2 q3 q4)) := ⟨_, rfl⟩
                  rw [← hq166] at st165
                  have hon : q166 = (1 : Int32) := by rw [hq166, hnn4]; exact (show own_only [q1, q2, q3, q4] = (1 : Int32) from own_onlyT (by simp) (own_allS h139 (own_allS h146 (own_allS h153 (own_allS h160 own_all0)))))
                  have s167 : ∀ t_, Steps p.tables e below (T165.setTop (mkF m 135 #[.val (.int len), .val (.int xa), .val (.int xb), .val (.int xc), .val (.int xd), .val (.int (4 : Int32)), .val (.int q1), .val (.int q2), .val (.int q3), .val (.int q4), .val (.ref a_11), .val (.int (1 : Int32))] [(.int (1 : Int32))])) t_ → Steps p.tables e below (s₁.setTop (entryFrame m #[(.int len), (.int xa), (.int xb), (.int xc), (.int xd)] maxLocals)) t_ := fun t_ k_ => s162 t_ (by
                    show Steps p.tables e below (T157.setTop (mkF m 122 #[.val (.int len), .val (.int xa), .val (.int xb), .val (.int xc), .val (.int xd), .val (.int (4 : Int32)), .val (.int q1), .val (.int q2), .val (.int q3), .val (.int q4), .val (.ref a_11), .val (.int (1 : Int32))] [(.ref a_11)])) t_
                    refine st165 _ ?_
                    show Steps p.tables e below (T165.setTop (mkF m 125 #[.val (.int len), .val (.int xa), .val (.int xb), .val (.int xc), .val (.int xd), .val (.int (4 : Int32)), .val (.int q1), .val (.int q2), .val (.int q3), .val (.int q4), .val (.ref a_11), .val (.int (1 : Int32))] [(.int q166)])) _
                    refine XS.iload X165.here hx rfl (Jvm.hb hby at_125) rfl ?_
                    show Steps p.tables e below (T165.setTop (mkF m 127 #[.val (.int len), .val (.int xa), .val (.int xb), .val (.int xc), .val (.int xd), .val (.int (4 : Int32)), .val (.int q1), .val (.int q2), .val (.int q3), .val (.int q4), .val (.ref a_11), .val (.int (1 : Int32))] [(.int (1 : Int32)), (.int q166)])) _
                    refine XS.icmpNo X165.here hx rfl (Jvm.hb hby at_127) rfl (teq hon).2 ?_
                    show Steps p.tables e below (T165.setTop (mkF m 130 #[.val (.int len), .val (.int xa), .val (.int xb), .val (.int xc), .val (.int xd), .val (.int (4 : Int32)), .val (.int q1), .val (.int q2), .val (.int q3), .val (.int q4), .val (.ref a_11), .val (.int (1 : Int32))] [])) _
                    refine XS.iconst X165.here hx rfl (Jvm.hb hby at_130) ?_
                    show Steps p.tables e below (T165.setTop (mkF m 131 #[.val (.int len), .val (.int xa), .val (.int xb), .val (.int xc), .val (.int xd), .val (.int (4 : Int32)), .val (.int q1), .val (.int q2), .val (.int q3), .val (.int q4), .val (.ref a_11), .val (.int (1 : Int32))] [(.int (1 : Int32))])) _
                    refine XS.goto X165.here hx rfl (pc0 := 131) (pc' := 135) rfl (Jvm.hb hby at_131) (by decide) (by decide) ?_
                    show Steps p.tables e below (T165.setTop (mkF m 135 #[.val (.int len), .val (.int xa), .val (.int xb), .val (.int xc), .val (.int xd), .val (.int (4 : Int32)), .val (.int q1), .val (.int q2), .val (.int q3), .val (.int q4), .val (.ref a_11), .val (.int (1 : Int32))] [(.int (1 : Int32))])) _
                    show Steps p.tables e below (T165.setTop (mkF m 135 #[.val (.int len), .val (.int xa), .val (.int xb), .val (.int xc), .val (.int xd), .val (.int (4 : Int32)), .val (.int q1), .val (.int q2), .val (.int q3), .val (.int q4), .val (.ref a_11), .val (.int (1 : Int32))] [(.int (1 : Int32))])) t_
                    exact k_)
                  obtain ⟨fs, hr, hrun, hended, hREW⟩ := X165.leaveW hS (by first | exact Nat.le_refl _ | (rw [e165]; exact hk)) (v := some (.int (1 : Int32))) (fun h => by rw [Bd.returns] at h; cases h)
                  refine ⟨_, _, s167 _ ?_, hrun, hended, _, _, rfl, ?_, (by show CHr Z ELs s.vm s.heap T165.vm T165.heap; rw [hh, e165]; exact CR.trans (CHv.at X165 hZ hEL CR.1)), hREW.1, hREW.2.1, hREW.2.2.1, hREW.2.2.2.mono (by decide) (by decide)⟩
                  · show Steps p.tables e below (T165.setTop (mkF m 135 #[.val (.int len), .val (.int xa), .val (.int xb), .val (.int xc), .val (.int xd), .val (.int (4 : Int32)), .val (.int q1), .val (.int q2), .val (.int q3), .val (.int q4), .val (.ref a_11), .val (.int (1 : Int32))] [(.int (1 : Int32))])) _
                    exact retN X165 hx (t := .boolean) Bd.returns (by simp) (Jvm.hb hby at_135) hr
                  · show Q_rmLaw Z _ _ _ _ _ _ _ h0 n0 _ T165.heap _
                    rw [e165]
                    exact ⟨rfl, N165⟩
                · have s168 : ∀ t_, Steps p.tables e below (T157.setTop (mkF m 110 #[.val (.int len), .val (.int xa), .val (.int xb), .val (.int xc), .val (.int xd), .val (.int (4 : Int32)), .val (.int q1), .val (.int q2), .val (.int q3), .val (.int q4), .val (.ref a_11), .unset] [(.int (0 : Int32))])) t_ → Steps p.tables e below (s₁.setTop (entryFrame m #[(.int len), (.int xa), (.int xb), (.int xc), (.int xd)] maxLocals)) t_ := fun t_ k_ => s159 t_ (castTop (by rw [hq158, if_neg h160]) k_)
                  have s169 : ∀ t_, Steps p.tables e below (T157.setTop (mkF m 122 #[.val (.int len), .val (.int xa), .val (.int xb), .val (.int xc), .val (.int xd), .val (.int (4 : Int32)), .val (.int q1), .val (.int q2), .val (.int q3), .val (.int q4), .val (.ref a_11), .val (.int (0 : Int32))] [(.ref a_11)])) t_ → Steps p.tables e below (s₁.setTop (entryFrame m #[(.int len), (.int xa), (.int xb), (.int xc), (.int xd)] maxLocals)) t_ := fun t_ k_ => s168 t_ (by
                    show Steps p.tables e below (T157.setTop (mkF m 110 #[.val (.int len), .val (.int xa), .val (.int xb), .val (.int xc), .val (.int xd), .val (.int (4 : Int32)), .val (.int q1), .val (.int q2), .val (.int q3), .val (.int q4), .val (.ref a_11), .unset] [(.int (0 : Int32))])) t_
                    refine XS.ifYes X157.here hx rfl (pc0 := 110) (pc' := 117) rfl (Jvm.hb hby at_110) rfl ((if0 _ _).trans (teq (rfl : (0 : Int32) = (0 : Int32))).1) (by decide) (by decide) ?_
                    show Steps p.tables e below (T157.setTop (mkF m 117 #[.val (.int len), .val (.int xa), .val (.int xb), .val (.int xc), .val (.int xd), .val (.int (4 : Int32)), .val (.int q1), .val (.int q2), .val (.int q3), .val (.int q4), .val (.ref a_11), .unset] [])) _
                    refine XS.iconst X157.here hx rfl (Jvm.hb hby at_117) ?_
                    show Steps p.tables e below (T157.setTop (mkF m 118 #[.val (.int len), .val (.int xa), .val (.int xb), .val (.int xc), .val (.int xd), .val (.int (4 : Int32)), .val (.int q1), .val (.int q2), .val (.int q3), .val (.int q4), .val (.ref a_11), .unset] [(.int (0 : Int32))])) _
                    refine XS.istore X157.here hx rfl (Jvm.hb hby at_118) rfl (l' := #[.val (.int len), .val (.int xa), .val (.int xb), .val (.int xc), .val (.int xd), .val (.int (4 : Int32)), .val (.int q1), .val (.int q2), .val (.int q3), .val (.int q4), .val (.ref a_11), .val (.int (0 : Int32))]) rfl ?_
                    show Steps p.tables e below (T157.setTop (mkF m 120 #[.val (.int len), .val (.int xa), .val (.int xb), .val (.int xc), .val (.int xd), .val (.int (4 : Int32)), .val (.int q1), .val (.int q2), .val (.int q3), .val (.int q4), .val (.ref a_11), .val (.int (0 : Int32))] [])) _
                    refine XS.aload X157.here hx rfl (Jvm.hb hby at_120) rfl rfl ?_
                    show Steps p.tables e below (T157.setTop (mkF m 122 #[.val (.int len), .val (.int xa), .val (.int xb), .val (.int xc), .val (.int xd), .val (.int (4 : Int32)), .val (.int q1), .val (.int q2), .val (.int q3), .val (.int q4), .val (.ref a_11), .val (.int (0 : Int32))] [(.ref a_11)])) _
                    show Steps p.tables e below (T157.setTop (mkF m 122 #[.val (.int len), .val (.int xa), .val (.int xb), .val (.int xc), .val (.int xd), .val (.int (4 : Int32)), .val (.int q1), .val (.int q2), .val (.int q3), .val (.int q4), .val (.ref a_11), .val (.int (0 : Int32))] [(.ref a_11)])) t_
                    exact k_)
                  have O170 : Old Z n0 h11 := (OX.keep K11 all0)
                  have Zc171 : n0 ≤ h11.size := by omega
                  obtain ⟨_, _, ⟨T172, L172, k172, n172⟩, -, X172, ⟨Lc172, hQ172, l172, y172, z172⟩, st172⟩ := Jvm.LawKit.callS X157 hx (y := (⟨"com/example/zastupnik/zastupnik/protocol/AsciiDigits", "only", "(Ljava/lang/String;)Z"⟩ : MethodName)) hown (mvT hZ (hw _ (List.mem_of_getElem? (i := 27) rfl))) (mvT hZ (hw _ (List.mem_of_getElem? (i := 28) rfl))) (mvT hZ (hw _ (List.mem_of_getElem? (i := 29) rfl))) (mvT hZ (hw _ (List.mem_of_getElem? (i := 30) rfl))) (by decide) (backOf (W := 0) (rmOnly l Z a0 hw [] a_11 cst b_11 kb_11 (own_mk4 nn q1 q2 q3 q4) fmt h11 n0 Zc171 I1 I2 I3 I4 (hfmt : fmt.isRef = true) I5 O170 (hcst : ¬ (cst = (0 : Int32))) Fq11_0 Fq11_1 Fq11_2 Fq11_3 (own_mkl4 _ _ _ _ _) (own_mkchs4 rg6 rg7 rg8 rg9)) hZ (hw _ (List.mem_of_getElem? (i := 30) rfl)) (hw _ (List.mem_of_getElem? (i := 29) rfl)) (by decide) (by decide)) (g := (mkF m 122 #[.val (.int len), .val (.int xa), .val (.int xb), .val (.int xc), .val (.int xd), .val (.int (4 : Int32)), .val (.int q1), .val (.int q2), .val (.int q3), .val (.int q4), .val (.ref a_11), .val (.int (0 : Int32))] [(.ref a_11)])) rfl (by rw [hml]; rfl) (argsL := [(.ref a_11)]) (rest := []) (lenOf pd__Ljava_lang_String__Z rfl) rfl (by show 2 * 0 + _ ≤ _; exact Nat.le_of_eq rfl) (Jvm.hb hby at_122) (fun _ _ => ⟨rfl, e157, (by decide : 6 + 0 ≤ _), (by decide : 20 + 0 ≤ _)⟩)
                  dsimp only [Pt.U, Pt.locs, Pt.cells, Pt.slots] at X172 l172 y172 z172 st172 hQ172
                  subst l172 y172 z172
                  obtain ⟨rfl, N172q, e172⟩ := hQ172
                  have N172 := Fr.app N157 N172q
                  obtain ⟨q173, hq173⟩ : ∃ z : Int32, z = (own_only (own_mk4 nn q1 q2 q3 q4)) := ⟨_, rfl⟩
                  rw [← hq173] at st172
                  have hon : q173 = (0 : Int32) := by rw [hq173, hnn4]; exact (show own_only [q1, q2, q3, q4] = (0 : Int32) from own_onlyF (c := q4) (by simp) h160)
                  have s174 : ∀ t_, Steps p.tables e below (T172.setTop (mkF m 135 #[.val (.int len), .val (.int xa), .val (.int xb), .val (.int xc), .val (.int xd), .val (.int (4 : Int32)), .val (.int q1), .val (.int q2), .val (.int q3), .val (.int q4), .val (.ref a_11), .val (.int (0 : Int32))] [(.int (1 : Int32))])) t_ → Steps p.tables e below (s₁.setTop (entryFrame m #[(.int len), (.int xa), (.int xb), (.int xc), (.int xd)] maxLocals)) t_ := fun t_ k_ => s169 t_ (by
                    show Steps p.tables e below (T157.setTop (mkF m 122 #[.val (.int len), .val (.int xa), .val (.int xb), .val (.int xc), .val (.int xd), .val (.int (4 : Int32)), .val (.int q1), .val (.int q2), .val (.int q3), .val (.int q4), .val (.ref a_11), .val (.int (0 : Int32))] [(.ref a_11)])) t_
                    refine st172 _ ?_
                    show Steps p.tables e below (T172.setTop (mkF m 125 #[.val (.int len), .val (.int xa), .val (.int xb), .val (.int xc), .val (.int xd), .val (.int (4 : Int32)), .val (.int q1), .val (.int q2), .val (.int q3), .val (.int q4), .val (.ref a_11), .val (.int (0 : Int32))] [(.int q173)])) _
                    refine XS.iload X172.here hx rfl (Jvm.hb hby at_125) rfl ?_
                    show Steps p.tables e below (T172.setTop (mkF m 127 #[.val (.int len), .val (.int xa), .val (.int xb), .val (.int xc), .val (.int xd), .val (.int (4 : Int32)), .val (.int q1), .val (.int q2), .val (.int q3), .val (.int q4), .val (.ref a_11), .val (.int (0 : Int32))] [(.int (0 : Int32)), (.int q173)])) _
                    refine XS.icmpNo X172.here hx rfl (Jvm.hb hby at_127) rfl (teq hon).2 ?_
                    show Steps p.tables e below (T172.setTop (mkF m 130 #[.val (.int len), .val (.int xa), .val (.int xb), .val (.int xc), .val (.int xd), .val (.int (4 : Int32)), .val (.int q1), .val (.int q2), .val (.int q3), .val (.int q4), .val (.ref a_11), .val (.int (0 : Int32))] [])) _
                    refine XS.iconst X172.here hx rfl (Jvm.hb hby at_130) ?_
                    show Steps p.tables e below (T172.setTop (mkF m 131 #[.val (.int len), .val (.int xa), .val (.int xb), .val (.int xc), .val (.int xd), .val (.int (4 : Int32)), .val (.int q1), .val (.int q2), .val (.int q3), .val (.int q4), .val (.ref a_11), .val (.int (0 : Int32))] [(.int (1 : Int32))])) _
                    refine XS.goto X172.here hx rfl (pc0 := 131) (pc' := 135) rfl (Jvm.hb hby at_131) (by decide) (by decide) ?_
                    show Steps p.tables e below (T172.setTop (mkF m 135 #[.val (.int len), .val (.int xa), .val (.int xb), .val (.int xc), .val (.int xd), .val (.int (4 : Int32)), .val (.int q1), .val (.int q2), .val (.int q3), .val (.int q4), .val (.ref a_11), .val (.int (0 : Int32))] [(.int (1 : Int32))])) _
                    show Steps p.tables e below (T172.setTop (mkF m 135 #[.val (.int len), .val (.int xa), .val (.int xb), .val (.int xc), .val (.int xd), .val (.int (4 : Int32)), .val (.int q1), .val (.int q2), .val (.int q3), .val (.int q4), .val (.ref a_11), .val (.int (0 : Int32))] [(.int (1 : Int32))])) t_
                    exact k_)
                  obtain ⟨fs, hr, hrun, hended, hREW⟩ := X172.leaveW hS (by first | exact Nat.le_refl _ | (rw [e172]; exact hk)) (v := some (.int (1 : Int32))) (fun h => by rw [Bd.returns] at h; cases h)
                  refine ⟨_, _, s174 _ ?_, hrun, hended, _, _, rfl, ?_, (by show CHr Z ELs s.vm s.heap T172.vm T172.heap; rw [hh, e172]; exact CR.trans (CHv.at X172 hZ hEL CR.1)), hREW.1, hREW.2.1, hREW.2.2.1, hREW.2.2.2.mono (by decide) (by decide)⟩
                  · show Steps p.tables e below (T172.setTop (mkF m 135 #[.val (.int len), .val (.int xa), .val (.int xb), .val (.int xc), .val (.int xd), .val (.int (4 : Int32)), .val (.int q1), .val (.int q2), .val (.int q3), .val (.int q4), .val (.ref a_11), .val (.int (0 : Int32))] [(.int (1 : Int32))])) _
                    exact retN X172 hx (t := .boolean) Bd.returns (by simp) (Jvm.hb hby at_135) hr
                  · show Q_rmLaw Z _ _ _ _ _ _ _ h0 n0 _ T172.heap _
                    rw [e172]
                    exact ⟨rfl, N172⟩
              · have s175 : ∀ t_, Steps p.tables e below (T150.setTop (mkF m 96 #[.val (.int len), .val (.int xa), .val (.int xb), .val (.int xc), .val (.int xd), .val (.int (4 : Int32)), .val (.int q1), .val (.int q2), .val (.int q3), .val (.int q4), .val (.ref a_11), .unset] [(.int (0 : Int32))])) t_ → Steps p.tables e below (s₁.setTop (entryFrame m #[(.int len), (.int xa), (.int xb), (.int xc), (.int xd)] maxLocals)) t_ := fun t_ k_ => s152 t_ (castTop (by rw [hq151, if_neg h153]) k_)
                have s176 : ∀ t_, Steps p.tables e below (T150.setTop (mkF m 122 #[.val (.int len), .val (.int xa), .val (.int xb), .val (.int xc), .val (.int xd), .val (.int (4 : Int32)), .val (.int q1), .val (.int q2), .val (.int q3), .val (.int q4), .val (.ref a_11), .val (.int (0 : Int32))] [(.ref a_11)])) t_ → Steps p.tables e below (s₁.setTop (entryFrame m #[(.int len), (.int xa), (.int xb), (.int xc), (.int xd)] maxLocals)) t_ := fun t_ k_ => s175 t_ (by
                  show Steps p.tables e below (T150.setTop (mkF m 96 #[.val (.int len), .val (.int xa), .val (.int xb), .val (.int xc), .val (.int xd), .val (.int (4 : Int32)), .val (.int q1), .val (.int q2), .val (.int q3), .val (.int q4), .val (.ref a_11), .unset] [(.int (0 : Int32))])) t_
                  refine XS.ifYes X150.here hx rfl (pc0 := 96) (pc' := 117) rfl (Jvm.hb hby at_96) rfl ((if0 _ _).trans (teq (rfl : (0 : Int32) = (0 : Int32))).1) (by decide) (by decide) ?_
                  show Steps p.tables e below (T150.setTop (mkF m 117 #[.val (.int len), .val (.int xa), .val (.int xb), .val (.int xc), .val (.int xd), .val (.int (4 : Int32)), .val (.int q1), .val (.int q2), .val (.int q3), .val (.int q4), .val (.ref a_11), .unset] [])) _
                  refine XS.iconst X150.here hx rfl (Jvm.hb hby at_117) ?_
                  show Steps p.tables e below (T150.setTop (mkF m 118 #[.val (.int len), .val (.int xa), .val (.int xb), .val (.int xc), .val (.int xd), .val (.int (4 : Int32)), .val (.int q1), .val (.int q2), .val (.int q3), .val (.int q4), .val (.ref a_11), .unset] [(.int (0 : Int32))])) _
                  refine XS.istore X150.here hx rfl (Jvm.hb hby at_118) rfl (l' := #[.val (.int len), .val (.int xa), .val (.int xb), .val (.int xc), .val (.int xd), .val (.int (4 : Int32)), .val (.int q1), .val (.int q2), .val (.int q3), .val (.int q4), .val (.ref a_11), .val (.int (0 : Int32))]) rfl ?_
                  show Steps p.tables e below (T150.setTop (mkF m 120 #[.val (.int len), .val (.int xa), .val (.int xb), .val (.int xc), .val (.int xd), .val (.int (4 : Int32)), .val (.int q1), .val (.int q2), .val (.int q3), .val (.int q4), .val (.ref a_11), .val (.int (0 : Int32))] [])) _
                  refine XS.aload X150.here hx rfl (Jvm.hb hby at_120) rfl rfl ?_
                  show Steps p.tables e below (T150.setTop (mkF m 122 #[.val (.int len), .val (.int xa), .val (.int xb), .val (.int xc), .val (.int xd), .val (.int (4 : Int32)), .val (.int q1), .val (.int q2), .val (.int q3), .val (.int q4), .val (.ref a_11), .val (.int (0 : Int32))] [(.ref a_11)])) _
                  show Steps p.tables e below (T150.setTop (mkF m 122 #[.val (.int len), .val (.int xa), .val (.int xb), .val (.int xc), .val (.int xd), .val (.int (4 : Int32)), .val (.int q1), .val (.int q2), .val (.int q3), .val (.int q4), .val (.ref a_11), .val (.int (0 : Int32))] [(.ref a_11)])) t_
                  exact k_)
                have O177 : Old Z n0 h11 := (OX.keep K11 all0)
                have Zc178 : n0 ≤ h11.size := by omega
                obtain ⟨_, _, ⟨T179, L179, k179, n179⟩, -, X179, ⟨Lc179, hQ179, l179, y179, z179⟩, st179⟩ := Jvm.LawKit.callS X150 hx (y := (⟨"com/example/zastupnik/zastupnik/protocol/AsciiDigits", "only", "(Ljava/lang/String;)Z"⟩ : MethodName)) hown (mvT hZ (hw _ (List.mem_of_getElem? (i := 27) rfl))) (mvT hZ (hw _ (List.mem_of_getElem? (i := 28) rfl))) (mvT hZ (hw _ (List.mem_of_getElem? (i := 29) rfl))) (mvT hZ (hw _ (List.mem_of_getElem? (i := 30) rfl))) (by decide) (backOf (W := 0) (rmOnly l Z a0 hw [] a_11 cst b_11 kb_11 (own_mk4 nn q1 q2 q3 q4) fmt h11 n0 Zc178 I1 I2 I3 I4 (hfmt : fmt.isRef = true) I5 O177 (hcst : ¬ (cst = (0 : Int32))) Fq11_0 Fq11_1 Fq11_2 Fq11_3 (own_mkl4 _ _ _ _ _) (own_mkchs4 rg6 rg7 rg8 rg9)) hZ (hw _ (List.mem_of_getElem? (i := 30) rfl)) (hw _ (List.mem_of_getElem? (i := 29) rfl)) (by decide) (by decide)) (g := (mkF m 122 #[.val (.int len), .val (.int xa), .val (.int xb), .val (.int xc), .val (.int xd), .val (.int (4 : Int32)), .val (.int q1), .val (.int q2), .val (.int q3), .val (.int q4), .val (.ref a_11), .val (.int (0 : Int32))] [(.ref a_11)])) rfl (by rw [hml]; rfl) (argsL := [(.ref a_11)]) (rest := []) (lenOf pd__Ljava_lang_String__Z rfl) rfl (by show 2 * 0 + _ ≤ _; exact Nat.le_of_eq rfl) (Jvm.hb hby at_122) (fun _ _ => ⟨rfl, e150, (by decide : 6 + 0 ≤ _), (by decide : 20 + 0 ≤ _)⟩)
                dsimp only [Pt.U, Pt.locs, Pt.cells, Pt.slots] at X179 l179 y179 z179 st179 hQ179
                subst l179 y179 z179
                obtain ⟨rfl, N179q, e179⟩ := hQ179
                have N179 := Fr.app N150 N179q
                obtain ⟨q180, hq180⟩ : ∃ z : Int32, z = (own_only (own_mk4 nn q1 q2 q3 q4)) := ⟨_, rfl⟩
                rw [← hq180] at st179
                have hon : q180 = (0 : Int32) := by rw [hq180, hnn4]; exact (show own_only [q1, q2, q3, q4] = (0 : Int32) from own_onlyF (c := q3) (by simp) h153)
                have s181 : ∀ t_, Steps p.tables e below (T179.setTop (mkF m 135 #[.val (.int len), .val (.int xa), .val (.int xb), .val (.int xc), .val (.int xd), .val (.int (4 : Int32)), .val (.int q1), .val (.int q2), .val (.int q3), .val (.int q4), .val (.ref a_11), .val (.int (0 : Int32))] [(.int (1 : Int32))])) t_ → Steps p.tables e below (s₁.setTop (entryFrame m #[(.int len), (.int xa), (.int xb), (.int xc), (.int xd)] maxLocals)) t_ := fun t_ k_ => s176 t_ (by
                  show Steps p.tables e below (T150.setTop (mkF m 122 #[.val (.int len), .val (.int xa), .val (.int xb), .val (.int xc), .val (.int xd), .val (.int (4 : Int32)), .val (.int q1), .val (.int q2), .val (.int q3), .val (.int q4), .val (.ref a_11), .val (.int (0 : Int32))] [(.ref a_11)])) t_
                  refine st179 _ ?_
                  show Steps p.tables e below (T179.setTop (mkF m 125 #[.val (.int len), .val (.int xa), .val (.int xb), .val (.int xc), .val (.int xd), .val (.int (4 : Int32)), .val (.int q1), .val (.int q2), .val (.int q3), .val (.int q4), .val (.ref a_11), .val (.int (0 : Int32))] [(.int q180)])) _
                  refine XS.iload X179.here hx rfl (Jvm.hb hby at_125) rfl ?_
                  show Steps p.tables e below (T179.setTop (mkF m 127 #[.val (.int len), .val (.int xa), .val (.int xb), .val (.int xc), .val (.int xd), .val (.int (4 : Int32)), .val (.int q1), .val (.int q2), .val (.int q3), .val (.int q4), .val (.ref a_11), .val (.int (0 : Int32))] [(.int (0 : Int32)), (.int q180)])) _
                  refine XS.icmpNo X179.here hx rfl (Jvm.hb hby at_127) rfl (teq hon).2 ?_
                  show Steps p.tables e below (T179.setTop (mkF m 130 #[.val (.int len), .val (.int xa), .val (.int xb), .val (.int xc), .val (.int xd), .val (.int (4 : Int32)), .val (.int q1), .val (.int q2), .val (.int q3), .val (.int q4), .val (.ref a_11), .val (.int (0 : Int32))] [])) _
                  refine XS.iconst X179.here hx rfl (Jvm.hb hby at_130) ?_
                  show Steps p.tables e below (T179.setTop (mkF m 131 #[.val (.int len), .val (.int xa), .val (.int xb), .val (.int xc), .val (.int xd), .val (.int (4 : Int32)), .val (.int q1), .val (.int q2), .val (.int q3), .val (.int q4), .val (.ref a_11), .val (.int (0 : Int32))] [(.int (1 : Int32))])) _
                  refine XS.goto X179.here hx rfl (pc0 := 131) (pc' := 135) rfl (Jvm.hb hby at_131) (by decide) (by decide) ?_
                  show Steps p.tables e below (T179.setTop (mkF m 135 #[.val (.int len), .val (.int xa), .val (.int xb), .val (.int xc), .val (.int xd), .val (.int (4 : Int32)), .val (.int q1), .val (.int q2), .val (.int q3), .val (.int q4), .val (.ref a_11), .val (.int (0 : Int32))] [(.int (1 : Int32))])) _
                  show Steps p.tables e below (T179.setTop (mkF m 135 #[.val (.int len), .val (.int xa), .val (.int xb), .val (.int xc), .val (.int xd), .val (.int (4 : Int32)), .val (.int q1), .val (.int q2), .val (.int q3), .val (.int q4), .val (.ref a_11), .val (.int (0 : Int32))] [(.int (1 : Int32))])) t_
                  exact k_)
                obtain ⟨fs, hr, hrun, hended, hREW⟩ := X179.leaveW hS (by first | exact Nat.le_refl _ | (rw [e179]; exact hk)) (v := some (.int (1 : Int32))) (fun h => by rw [Bd.returns] at h; cases h)
                refine ⟨_, _, s181 _ ?_, hrun, hended, _, _, rfl, ?_, (by show CHr Z ELs s.vm s.heap T179.vm T179.heap; rw [hh, e179]; exact CR.trans (CHv.at X179 hZ hEL CR.1)), hREW.1, hREW.2.1, hREW.2.2.1, hREW.2.2.2.mono (by decide) (by decide)⟩
                · show Steps p.tables e below (T179.setTop (mkF m 135 #[.val (.int len), .val (.int xa), .val (.int xb), .val (.int xc), .val (.int xd), .val (.int (4 : Int32)), .val (.int q1), .val (.int q2), .val (.int q3), .val (.int q4), .val (.ref a_11), .val (.int (0 : Int32))] [(.int (1 : Int32))])) _
                  exact retN X179 hx (t := .boolean) Bd.returns (by simp) (Jvm.hb hby at_135) hr
                · show Q_rmLaw Z _ _ _ _ _ _ _ h0 n0 _ T179.heap _
                  rw [e179]
                  exact ⟨rfl, N179⟩
            · have s182 : ∀ t_, Steps p.tables e below (T143.setTop (mkF m 82 #[.val (.int len), .val (.int xa), .val (.int xb), .val (.int xc), .val (.int xd), .val (.int (4 : Int32)), .val (.int q1), .val (.int q2), .val (.int q3), .val (.int q4), .val (.ref a_11), .unset] [(.int (0 : Int32))])) t_ → Steps p.tables e below (s₁.setTop (entryFrame m #[(.int len), (.int xa), (.int xb), (.int xc), (.int xd)] maxLocals)) t_ := fun t_ k_ => s145 t_ (castTop (by rw [hq144, if_neg h146]) k_)
              have s183 : ∀ t_, Steps p.tables e below (T143.setTop (mkF m 122 #[.val (.int len), .val (.int xa), .val (.int xb), .val (.int xc), .val (.int xd), .val (.int (4 : Int32)), .val (.int q1), .val (.int q2), .val (.int q3), .val (.int q4), .val (.ref a_11), .val (.int (0 : Int32))] [(.ref a_11)])) t_ → Steps p.tables e below (s₁.setTop (entryFrame m #[(.int len), (.int xa), (.int xb), (.int xc), (.int xd)] maxLocals)) t_ := fun t_ k_ => s182 t_ (by
                show Steps p.tables e below (T143.setTop (mkF m 82 #[.val (.int len), .val (.int xa), .val (.int xb), .val (.int xc), .val (.int xd), .val (.int (4 : Int32)), .val (.int q1), .val (.int q2), .val (.int q3), .val (.int q4), .val (.ref a_11), .unset] [(.int (0 : Int32))])) t_
                refine XS.ifYes X143.here hx rfl (pc0 := 82) (pc' := 117) rfl (Jvm.hb hby at_82) rfl ((if0 _ _).trans (teq (rfl : (0 : Int32) = (0 : Int32))).1) (by decide) (by decide) ?_
                show Steps p.tables e below (T143.setTop (mkF m 117 #[.val (.int len), .val (.int xa), .val (.int xb), .val (.int xc), .val (.int xd), .val (.int (4 : Int32)), .val (.int q1), .val (.int q2), .val (.int q3), .val (.int q4), .val (.ref a_11), .unset] [])) _
                refine XS.iconst X143.here hx rfl (Jvm.hb hby at_117) ?_
                show Steps p.tables e below (T143.setTop (mkF m 118 #[.val (.int len), .val (.int xa), .val (.int xb), .val (.int xc), .val (.int xd), .val (.int (4 : Int32)), .val (.int q1), .val (.int q2), .val (.int q3), .val (.int q4), .val (.ref a_11), .unset] [(.int (0 : Int32))])) _
                refine XS.istore X143.here hx rfl (Jvm.hb hby at_118) rfl (l' := #[.val (.int len), .val (.int xa), .val (.int xb), .val (.int xc), .val (.int xd), .val (.int (4 : Int32)), .val (.int q1), .val (.int q2), .val (.int q3), .val (.int q4), .val (.ref a_11), .val (.int (0 : Int32))]) rfl ?_
                show Steps p.tables e below (T143.setTop (mkF m 120 #[.val (.int len), .val (.int xa), .val (.int xb), .val (.int xc), .val (.int xd), .val (.int (4 : Int32)), .val (.int q1), .val (.int q2), .val (.int q3), .val (.int q4), .val (.ref a_11), .val (.int (0 : Int32))] [])) _
                refine XS.aload X143.here hx rfl (Jvm.hb hby at_120) rfl rfl ?_
                show Steps p.tables e below (T143.setTop (mkF m 122 #[.val (.int len), .val (.int xa), .val (.int xb), .val (.int xc), .val (.int xd), .val (.int (4 : Int32)), .val (.int q1), .val (.int q2), .val (.int q3), .val (.int q4), .val (.ref a_11), .val (.int (0 : Int32))] [(.ref a_11)])) _
                show Steps p.tables e below (T143.setTop (mkF m 122 #[.val (.int len), .val (.int xa), .val (.int xb), .val (.int xc), .val (.int xd), .val (.int (4 : Int32)), .val (.int q1), .val (.int q2), .val (.int q3), .val (.int q4), .val (.ref a_11), .val (.int (0 : Int32))] [(.ref a_11)])) t_
                exact k_)
              have O184 : Old Z n0 h11 := (OX.keep K11 all0)
              have Zc185 : n0 ≤ h11.size := by omega
              obtain ⟨_, _, ⟨T186, L186, k186, n186⟩, -, X186, ⟨Lc186, hQ186, l186, y186, z186⟩, st186⟩ := Jvm.LawKit.callS X143 hx (y := (⟨"com/example/zastupnik/zastupnik/protocol/AsciiDigits", "only", "(Ljava/lang/String;)Z"⟩ : MethodName)) hown (mvT hZ (hw _ (List.mem_of_getElem? (i := 27) rfl))) (mvT hZ (hw _ (List.mem_of_getElem? (i := 28) rfl))) (mvT hZ (hw _ (List.mem_of_getElem? (i := 29) rfl))) (mvT hZ (hw _ (List.mem_of_getElem? (i := 30) rfl))) (by decide) (backOf (W := 0) (rmOnly l Z a0 hw [] a_11 cst b_11 kb_11 (own_mk4 nn q1 q2 q3 q4) fmt h11 n0 Zc185 I1 I2 I3 I4 (hfmt : fmt.isRef = true) I5 O184 (hcst : ¬ (cst = (0 : Int32))) Fq11_0 Fq11_1 Fq11_2 Fq11_3 (own_mkl4 _ _ _ _ _) (own_mkchs4 rg6 rg7 rg8 rg9)) hZ (hw _ (List.mem_of_getElem? (i := 30) rfl)) (hw _ (List.mem_of_getElem? (i := 29) rfl)) (by decide) (by decide)) (g := (mkF m 122 #[.val (.int len), .val (.int xa), .val (.int xb), .val (.int xc), .val (.int xd), .val (.int (4 : Int32)), .val (.int q1), .val (.int q2), .val (.int q3), .val (.int q4), .val (.ref a_11), .val (.int (0 : Int32))] [(.ref a_11)])) rfl (by rw [hml]; rfl) (argsL := [(.ref a_11)]) (rest := []) (lenOf pd__Ljava_lang_String__Z rfl) rfl (by show 2 * 0 + _ ≤ _; exact Nat.le_of_eq rfl) (Jvm.hb hby at_122) (fun _ _ => ⟨rfl, e143, (by decide : 6 + 0 ≤ _), (by decide : 20 + 0 ≤ _)⟩)
              dsimp only [Pt.U, Pt.locs, Pt.cells, Pt.slots] at X186 l186 y186 z186 st186 hQ186
              subst l186 y186 z186
              obtain ⟨rfl, N186q, e186⟩ := hQ186
              have N186 := Fr.app N143 N186q
              obtain ⟨q187, hq187⟩ : ∃ z : Int32, z = (own_only (own_mk4 nn q1 q2 q3 q4)) := ⟨_, rfl⟩
              rw [← hq187] at st186
              have hon : q187 = (0 : Int32) := by rw [hq187, hnn4]; exact (show own_only [q1, q2, q3, q4] = (0 : Int32) from own_onlyF (c := q2) (by simp) h146)
              have s188 : ∀ t_, Steps p.tables e below (T186.setTop (mkF m 135 #[.val (.int len), .val (.int xa), .val (.int xb), .val (.int xc), .val (.int xd), .val (.int (4 : Int32)), .val (.int q1), .val (.int q2), .val (.int q3), .val (.int q4), .val (.ref a_11), .val (.int (0 : Int32))] [(.int (1 : Int32))])) t_ → Steps p.tables e below (s₁.setTop (entryFrame m #[(.int len), (.int xa), (.int xb), (.int xc), (.int xd)] maxLocals)) t_ := fun t_ k_ => s183 t_ (by
                show Steps p.tables e below (T143.setTop (mkF m 122 #[.val (.int len), .val (.int xa), .val (.int xb), .val (.int xc), .val (.int xd), .val (.int (4 : Int32)), .val (.int q1), .val (.int q2), .val (.int q3), .val (.int q4), .val (.ref a_11), .val (.int (0 : Int32))] [(.ref a_11)])) t_
                refine st186 _ ?_
                show Steps p.tables e below (T186.setTop (mkF m 125 #[.val (.int len), .val (.int xa), .val (.int xb), .val (.int xc), .val (.int xd), .val (.int (4 : Int32)), .val (.int q1), .val (.int q2), .val (.int q3), .val (.int q4), .val (.ref a_11), .val (.int (0 : Int32))] [(.int q187)])) _
                refine XS.iload X186.here hx rfl (Jvm.hb hby at_125) rfl ?_
                show Steps p.tables e below (T186.setTop (mkF m 127 #[.val (.int len), .val (.int xa), .val (.int xb), .val (.int xc), .val (.int xd), .val (.int (4 : Int32)), .val (.int q1), .val (.int q2), .val (.int q3), .val (.int q4), .val (.ref a_11), .val (.int (0 : Int32))] [(.int (0 : Int32)), (.int q187)])) _
                refine XS.icmpNo X186.here hx rfl (Jvm.hb hby at_127) rfl (teq hon).2 ?_
                show Steps p.tables e below (T186.setTop (mkF m 130 #[.val (.int len), .val (.int xa), .val (.int xb), .val (.int xc), .val (.int xd), .val (.int (4 : Int32)), .val (.int q1), .val (.int q2), .val (.int q3), .val (.int q4), .val (.ref a_11), .val (.int (0 : Int32))] [])) _
                refine XS.iconst X186.here hx rfl (Jvm.hb hby at_130) ?_
                show Steps p.tables e below (T186.setTop (mkF m 131 #[.val (.int len), .val (.int xa), .val (.int xb), .val (.int xc), .val (.int xd), .val (.int (4 : Int32)), .val (.int q1), .val (.int q2), .val (.int q3), .val (.int q4), .val (.ref a_11), .val (.int (0 : Int32))] [(.int (1 : Int32))])) _
                refine XS.goto X186.here hx rfl (pc0 := 131) (pc' := 135) rfl (Jvm.hb hby at_131) (by decide) (by decide) ?_
                show Steps p.tables e below (T186.setTop (mkF m 135 #[.val (.int len), .val (.int xa), .val (.int xb), .val (.int xc), .val (.int xd), .val (.int (4 : Int32)), .val (.int q1), .val (.int q2), .val (.int q3), .val (.int q4), .val (.ref a_11), .val (.int (0 : Int32))] [(.int (1 : Int32))])) _
                show Steps p.tables e below (T186.setTop (mkF m 135 #[.val (.int len), .val (.int xa), .val (.int xb), .val (.int xc), .val (.int xd), .val (.int (4 : Int32)), .val (.int q1), .val (.int q2), .val (.int q3), .val (.int q4), .val (.ref a_11), .val (.int (0 : Int32))] [(.int (1 : Int32))])) t_
                exact k_)
              obtain ⟨fs, hr, hrun, hended, hREW⟩ := X186.leaveW hS (by first | exact Nat.le_refl _ | (rw [e186]; exact hk)) (v := some (.int (1 : Int32))) (fun h => by rw [Bd.returns] at h; cases h)
              refine ⟨_, _, s188 _ ?_, hrun, hended, _, _, rfl, ?_, (by show CHr Z ELs s.vm s.heap T186.vm T186.heap; rw [hh, e186]; exact CR.trans (CHv.at X186 hZ hEL CR.1)), hREW.1, hREW.2.1, hREW.2.2.1, hREW.2.2.2.mono (by decide) (by decide)⟩
              · show Steps p.tables e below (T186.setTop (mkF m 135 #[.val (.int len), .val (.int xa), .val (.int xb), .val (.int xc), .val (.int xd), .val (.int (4 : Int32)), .val (.int q1), .val (.int q2), .val (.int q3), .val (.int q4), .val (.ref a_11), .val (.int (0 : Int32))] [(.int (1 : Int32))])) _
                exact retN X186 hx (t := .boolean) Bd.returns (by simp) (Jvm.hb hby at_135) hr
              · show Q_rmLaw Z _ _ _ _ _ _ _ h0 n0 _ T186.heap _
                rw [e186]
                exact ⟨rfl, N186⟩
          · have s189 : ∀ t_, Steps p.tables e below (T136.setTop (mkF m 68 #[.val (.int len), .val (.int xa), .val (.int xb), .val (.int xc), .val (.int xd), .val (.int (4 : Int32)), .val (.int q1), .val (.int q2), .val (.int q3), .val (.int q4), .val (.ref a_11), .unset] [(.int (0 : Int32))])) t_ → Steps p.tables e below (s₁.setTop (entryFrame m #[(.int len), (.int xa), (.int xb), (.int xc), (.int xd)] maxLocals)) t_ := fun t_ k_ => s138 t_ (castTop (by rw [hq137, if_neg h139]) k_)
            have s190 : ∀ t_, Steps p.tables e below (T136.setTop (mkF m 122 #[.val (.int len), .val (.int xa), .val (.int xb), .val (.int xc), .val (.int xd), .val (.int (4 : Int32)), .val (.int q1), .val (.int q2), .val (.int q3), .val (.int q4), .val (.ref a_11), .val (.int (0 : Int32))] [(.ref a_11)])) t_ → Steps p.tables e below (s₁.setTop (entryFrame m #[(.int len), (.int xa), (.int xb), (.int xc), (.int xd)] maxLocals)) t_ := fun t_ k_ => s189 t_ (by
              show Steps p.tables e below (T136.setTop (mkF m 68 #[.val (.int len), .val (.int xa), .val (.int xb), .val (.int xc), .val (.int xd), .val (.int (4 : Int32)), .val (.int q1), .val (.int q2), .val (.int q3), .val (.int q4), .val (.ref a_11), .unset] [(.int (0 : Int32))])) t_
              refine XS.ifYes X136.here hx rfl (pc0 := 68) (pc' := 117) rfl (Jvm.hb hby at_68) rfl ((if0 _ _).trans (teq (rfl : (0 : Int32) = (0 : Int32))).1) (by decide) (by decide) ?_
              show Steps p.tables e below (T136.setTop (mkF m 117 #[.val (.int len), .val (.int xa), .val (.int xb), .val (.int xc), .val (.int xd), .val (.int (4 : Int32)), .val (.int q1), .val (.int q2), .val (.int q3), .val (.int q4), .val (.ref a_11), .unset] [])) _
              refine XS.iconst X136.here hx rfl (Jvm.hb hby at_117) ?_
              show Steps p.tables e below (T136.setTop (mkF m 118 #[.val (.int len), .val (.int xa), .val (.int xb), .val (.int xc), .val (.int xd), .val (.int (4 : Int32)), .val (.int q1), .val (.int q2), .val (.int q3), .val (.int q4), .val (.ref a_11), .unset] [(.int (0 : Int32))])) _
              refine XS.istore X136.here hx rfl (Jvm.hb hby at_118) rfl (l' := #[.val (.int len), .val (.int xa), .val (.int xb), .val (.int xc), .val (.int xd), .val (.int (4 : Int32)), .val (.int q1), .val (.int q2), .val (.int q3), .val (.int q4), .val (.ref a_11), .val (.int (0 : Int32))]) rfl ?_
              show Steps p.tables e below (T136.setTop (mkF m 120 #[.val (.int len), .val (.int xa), .val (.int xb), .val (.int xc), .val (.int xd), .val (.int (4 : Int32)), .val (.int q1), .val (.int q2), .val (.int q3), .val (.int q4), .val (.ref a_11), .val (.int (0 : Int32))] [])) _
              refine XS.aload X136.here hx rfl (Jvm.hb hby at_120) rfl rfl ?_
              show Steps p.tables e below (T136.setTop (mkF m 122 #[.val (.int len), .val (.int xa), .val (.int xb), .val (.int xc), .val (.int xd), .val (.int (4 : Int32)), .val (.int q1), .val (.int q2), .val (.int q3), .val (.int q4), .val (.ref a_11), .val (.int (0 : Int32))] [(.ref a_11)])) _
              show Steps p.tables e below (T136.setTop (mkF m 122 #[.val (.int len), .val (.int xa), .val (.int xb), .val (.int xc), .val (.int xd), .val (.int (4 : Int32)), .val (.int q1), .val (.int q2), .val (.int q3), .val (.int q4), .val (.ref a_11), .val (.int (0 : Int32))] [(.ref a_11)])) t_
              exact k_)
            have O191 : Old Z n0 h11 := (OX.keep K11 all0)
            have Zc192 : n0 ≤ h11.size := by omega
            obtain ⟨_, _, ⟨T193, L193, k193, n193⟩, -, X193, ⟨Lc193, hQ193, l193, y193, z193⟩, st193⟩ := Jvm.LawKit.callS X136 hx (y := (⟨"com/example/zastupnik/zastupnik/protocol/AsciiDigits", "only", "(Ljava/lang/String;)Z"⟩ : MethodName)) hown (mvT hZ (hw _ (List.mem_of_getElem? (i := 27) rfl))) (mvT hZ (hw _ (List.mem_of_getElem? (i := 28) rfl))) (mvT hZ (hw _ (List.mem_of_getElem? (i := 29) rfl))) (mvT hZ (hw _ (List.mem_of_getElem? (i := 30) rfl))) (by decide) (backOf (W := 0) (rmOnly l Z a0 hw [] a_11 cst b_11 kb_11 (own_mk4 nn q1 q2 q3 q4) fmt h11 n0 Zc192 I1 I2 I3 I4 (hfmt : fmt.isRef = true) I5 O191 (hcst : ¬ (cst = (0 : Int32))) Fq11_0 Fq11_1 Fq11_2 Fq11_3 (own_mkl4 _ _ _ _ _) (own_mkchs4 rg6 rg7 rg8 rg9)) hZ (hw _ (List.mem_of_getElem? (i := 30) rfl)) (hw _ (List.mem_of_getElem? (i := 29) rfl)) (by decide) (by decide)) (g := (mkF m 122 #[.val (.int len), .val (.int xa), .val (.int xb), .val (.int xc), .val (.int xd), .val (.int (4 : Int32)), .val (.int q1), .val (.int q2), .val (.int q3), .val (.int q4), .val (.ref a_11), .val (.int (0 : Int32))] [(.ref a_11)])) rfl (by rw [hml]; rfl) (argsL := [(.ref a_11)]) (rest := []) (lenOf pd__Ljava_lang_String__Z rfl) rfl (by show 2 * 0 + _ ≤ _; exact Nat.le_of_eq rfl) (Jvm.hb hby at_122) (fun _ _ => ⟨rfl, e136, (by decide : 6 + 0 ≤ _), (by decide : 20 + 0 ≤ _)⟩)
            dsimp only [Pt.U, Pt.locs, Pt.cells, Pt.slots] at X193 l193 y193 z193 st193 hQ193
            subst l193 y193 z193
            obtain ⟨rfl, N193q, e193⟩ := hQ193
            have N193 := Fr.app N136 N193q
            obtain ⟨q194, hq194⟩ : ∃ z : Int32, z = (own_only (own_mk4 nn q1 q2 q3 q4)) := ⟨_, rfl⟩
            rw [← hq194] at st193
            have hon : q194 = (0 : Int32) := by rw [hq194, hnn4]; exact (show own_only [q1, q2, q3, q4] = (0 : Int32) from own_onlyF (c := q1) (by simp) h139)
            have s195 : ∀ t_, Steps p.tables e below (T193.setTop (mkF m 135 #[.val (.int len), .val (.int xa), .val (.int xb), .val (.int xc), .val (.int xd), .val (.int (4 : Int32)), .val (.int q1), .val (.int q2), .val (.int q3), .val (.int q4), .val (.ref a_11), .val (.int (0 : Int32))] [(.int (1 : Int32))])) t_ → Steps p.tables e below (s₁.setTop (entryFrame m #[(.int len), (.int xa), (.int xb), (.int xc), (.int xd)] maxLocals)) t_ := fun t_ k_ => s190 t_ (by
              show Steps p.tables e below (T136.setTop (mkF m 122 #[.val (.int len), .val (.int xa), .val (.int xb), .val (.int xc), .val (.int xd), .val (.int (4 : Int32)), .val (.int q1), .val (.int q2), .val (.int q3), .val (.int q4), .val (.ref a_11), .val (.int (0 : Int32))] [(.ref a_11)])) t_
              refine st193 _ ?_
              show Steps p.tables e below (T193.setTop (mkF m 125 #[.val (.int len), .val (.int xa), .val (.int xb), .val (.int xc), .val (.int xd), .val (.int (4 : Int32)), .val (.int q1), .val (.int q2), .val (.int q3), .val (.int q4), .val (.ref a_11), .val (.int (0 : Int32))] [(.int q194)])) _
              refine XS.iload X193.here hx rfl (Jvm.hb hby at_125) rfl ?_
              show Steps p.tables e below (T193.setTop (mkF m 127 #[.val (.int len), .val (.int xa), .val (.int xb), .val (.int xc), .val (.int xd), .val (.int (4 : Int32)), .val (.int q1), .val (.int q2), .val (.int q3), .val (.int q4), .val (.ref a_11), .val (.int (0 : Int32))] [(.int (0 : Int32)), (.int q194)])) _
              refine XS.icmpNo X193.here hx rfl (Jvm.hb hby at_127) rfl (teq hon).2 ?_
              show Steps p.tables e below (T193.setTop (mkF m 130 #[.val (.int len), .val (.int xa), .val (.int xb), .val (.int xc), .val (.int xd), .val (.int (4 : Int32)), .val (.int q1), .val (.int q2), .val (.int q3), .val (.int q4), .val (.ref a_11), .val (.int (0 : Int32))] [])) _
              refine XS.iconst X193.here hx rfl (Jvm.hb hby at_130) ?_
              show Steps p.tables e below (T193.setTop (mkF m 131 #[.val (.int len), .val (.int xa), .val (.int xb), .val (.int xc), .val (.int xd), .val (.int (4 : Int32)), .val (.int q1), .val (.int q2), .val (.int q3), .val (.int q4), .val (.ref a_11), .val (.int (0 : Int32))] [(.int (1 : Int32))])) _
              refine XS.goto X193.here hx rfl (pc0 := 131) (pc' := 135) rfl (Jvm.hb hby at_131) (by decide) (by decide) ?_
              show Steps p.tables e below (T193.setTop (mkF m 135 #[.val (.int len), .val (.int xa), .val (.int xb), .val (.int xc), .val (.int xd), .val (.int (4 : Int32)), .val (.int q1), .val (.int q2), .val (.int q3), .val (.int q4), .val (.ref a_11), .val (.int (0 : Int32))] [(.int (1 : Int32))])) _
              show Steps p.tables e below (T193.setTop (mkF m 135 #[.val (.int len), .val (.int xa), .val (.int xb), .val (.int xc), .val (.int xd), .val (.int (4 : Int32)), .val (.int q1), .val (.int q2), .val (.int q3), .val (.int q4), .val (.ref a_11), .val (.int (0 : Int32))] [(.int (1 : Int32))])) t_
              exact k_)
            obtain ⟨fs, hr, hrun, hended, hREW⟩ := X193.leaveW hS (by first | exact Nat.le_refl _ | (rw [e193]; exact hk)) (v := some (.int (1 : Int32))) (fun h => by rw [Bd.returns] at h; cases h)
            refine ⟨_, _, s195 _ ?_, hrun, hended, _, _, rfl, ?_, (by show CHr Z ELs s.vm s.heap T193.vm T193.heap; rw [hh, e193]; exact CR.trans (CHv.at X193 hZ hEL CR.1)), hREW.1, hREW.2.1, hREW.2.2.1, hREW.2.2.2.mono (by decide) (by decide)⟩
            · show Steps p.tables e below (T193.setTop (mkF m 135 #[.val (.int len), .val (.int xa), .val (.int xb), .val (.int xc), .val (.int xd), .val (.int (4 : Int32)), .val (.int q1), .val (.int q2), .val (.int q3), .val (.int q4), .val (.ref a_11), .val (.int (0 : Int32))] [(.int (1 : Int32))])) _
              exact retN X193 hx (t := .boolean) Bd.returns (by simp) (Jvm.hb hby at_135) hr
            · show Q_rmLaw Z _ _ _ _ _ _ _ h0 n0 _ T193.heap _
              rw [e193]
              exact ⟨rfl, N193⟩
set_option maxRecDepth 65536 in
set_option maxHeartbeats 40000000 in
theorem comes_1 {Post : Tables → Env → Array Value → State → Outcome → State → Prop} (hpost : ∀ tb e args s v u, (limb_1_1.after args s (.returned v) u = true ∧ limb_1_2.after args s (.returned v) u = true ∧ True) → ReturnedEndW s (.returned v) u (Jvm.fieldLocs frame_1_writes args s ++ Jvm.arrayLocs frame_1_arrays args s ++ Jvm.staticLocs frame_1_statics s) 24 1152 → Post tb e args s (.returned v) u) :
    ArmFor flags0 classFile x code maxLocals ret World_1 tables_1 room_1 Calls_1 rest_1 Pre_1 Post := by
  intro l hfl _ _ p e ha hc hk s m args below hf hA hF happ hP
  obtain ⟨hcalls, hrest, hpre⟩ := hP
  obtain ⟨-, -, -, hnamed, -, -, -, hat⟩ := (Spec.applies_iff hf).mp happ
  obtain ⟨hg, hn⟩ := and_e (Cond.before_iff.mp (show (Jvm.Cond.and given_1 narrow_1).before args s = true from hpre))
  obtain ⟨ga, gr⟩ := and_e hg
  obtain ⟨g0, gr0⟩ := and_e gr
  obtain ⟨g1, gr1⟩ := and_e gr0
  obtain ⟨g2, gr2⟩ := and_e gr1
  obtain ⟨g3, gr3⟩ := and_e gr2
  obtain ⟨w0, w1, w2, w3, w4, rfl⟩ : ∃ w0 w1 w2 w3 w4 : Value, args = #[w0, w1, w2, w3, w4] := by
    have hs : args.size = 5 := by simpa [Cond.value, given_1] using ga
    obtain ⟨L⟩ := args
    match L, hs with
    | [w0, w1, w2, w3, w4], _ => exact ⟨w0, w1, w2, w3, w4, rfl⟩
  have hw := fun d (hd : d ∈ tables_1) => atoms_spec (ws := Jvm.Cond.code x code maxLocals ret :: tables_1) hat d (List.mem_cons_of_mem _ hd)
  have hfit : Fit s := fun {y c} hc i hi => by
    obtain ⟨ha, rfl⟩ := Array.getElem?_eq_some_iff.mp hc
    have q := List.all_eq_true.mp ((Array.all_eq_true_iff_forall_mem.mp hF) _ (Array.getElem_mem ha)) i (List.mem_range.mpr hi)
    simpa [Array.getElem?_eq_getElem hi] using q
  obtain ⟨hsets, hown0⟩ := atoms_of _ (rest_1_c_eq ▸ (show rest_1_c.before _ s = true from hrest))
  have hr0 := Cond.before_iff.mp hown0
  obtain ⟨i0, ei0⟩ := is_v g0
  obtain rfl : w0 = (.int i0) := Option.some.inj ei0
  obtain ⟨i1, ei1⟩ := is_v g1
  obtain rfl : w1 = (.int i1) := Option.some.inj ei1
  obtain ⟨i2, ei2⟩ := is_v g2
  obtain rfl : w2 = (.int i2) := Option.some.inj ei2
  obtain ⟨i3, ei3⟩ := is_v g3
  obtain rfl : w3 = (.int i3) := Option.some.inj ei3
  obtain ⟨i4, ei4⟩ := is_v gr3
  obtain rfl : w4 = (.int i4) := Option.some.inj ei4
  obtain ⟨cst, ecs⟩ := is_v (Cond.before_iff.mp (hsets _ (List.mem_of_getElem? (i := 1) rfl)))
  have hcw := (hsets _ (List.mem_of_getElem? (i := 2) rfl))
  have hcst : ¬ (cst = (0 : Int32)) := fun q => by
    have h1 := not_v (Cond.before_iff.mp hcw)
    rw [Cond.eq_ints ecs (Term.int_eval 0)] at h1
    simp [q] at h1
  have eas := eqv_i (Term.int_eval 1) (Cond.before_iff.mp (hsets _ (List.mem_of_getElem? (i := 12) rfl)))
  have ehi := eqv_i (Term.int_eval 0) (Cond.before_iff.mp (hsets _ (List.mem_of_getElem? (i := 15) rfl)))
  have elo := eqv_i (Term.int_eval 8) (Cond.before_iff.mp (hsets _ (List.mem_of_getElem? (i := 18) rfl)))
  obtain ⟨fmt, efm, hfmt⟩ := isR_v (Cond.before_iff.mp (hsets _ (List.mem_of_getElem? (i := 8) rfl)))
  have hCH : CHv s ELs s.vm s.heap := CHv.start (own_EW hw) (fun p hp => hcalls.1 p hp) (show Jvm.Lit.compactW.before _ s = true from hcw) (hw _ (List.mem_of_getElem? (i := 20) rfl)) (hw _ (List.mem_of_getElem? (i := 6) rfl))
  obtain ⟨n, o, h1, h2, h3, _, L, rfl, ⟨rfl, N⟩, -, hq⟩ := rmLaw l s _ hw tables_1 i0 i1 i2 i3 i4 cst fmt  s.heap s.heap.size (Nat.le_refl _) (Sta.start ecs (Or.inl (hsets _ (List.mem_of_getElem? (i := 0) rfl)))) (Sta.start eas (Or.inl (hsets _ (List.mem_of_getElem? (i := 11) rfl)))) (Sta.start ehi (Or.inl (hsets _ (List.mem_of_getElem? (i := 14) rfl)))) (Sta.start elo (Or.inl (hsets _ (List.mem_of_getElem? (i := 17) rfl)))) hfmt (Sta.start efm (Or.inl (hsets _ (List.mem_of_getElem? (i := 7) rfl)))) (Old.start s) hcst  p e ha hc hk s m _ below hf ((Spec.applies_iff_loose hf).mp happ).1 ⟨rfl, State.Warmed39.refl s, rfl, hCH⟩ trivial
  refine ⟨n, _, h1, h2, h3, hpost _ _ _ _ _ _ ⟨Cond.after_iff.mpr rfl, Cond.after_iff.mpr (eq_i res_at (Term.int_eval (1)) rfl), trivial⟩ ⟨hq.1, hq.2.1, hq.2.2.1, (hq.2.2.2.sift fun y hy => Or.inr (N y hy)).mono (by decide) (by decide)⟩⟩
theorem main_1_1 : Claimed_1_1 := comes_1 fun _ _ _ _ _ _ h hF => ⟨h.1, hF⟩
theorem main_1_2 : Claimed_1_2 := comes_1 fun _ _ _ _ _ _ h hF => ⟨h.2.1, hF⟩
end Jvm.Pilot.@@N@@
namespace Jvm.Pilot.@@N@@
open Jvm Jvm.ClassFile Sem Op Lib Jvm.Free Jvm.Stand Jvm.Pilot.@@N@@.Jvm.D
/-! MADE BY PROGRAM (witnessworld.py) out of the Statement's table words and the real class files: 20 classes; the members and pool entries that the words name. The judged class is class 1, her method 3. -/
namespace start1
open Jvm.ClassFile
def u (s : String) : CpInfo := .utf8 (stringToUtf16 s)
/-- a pool by its gaps: so many unusable entries, then the entry; so many at the end -/
def gap : Nat → List CpInfo → List CpInfo
  | 0, r => r
  | n + 1, r => .unusable :: gap n r
def poolList (es : List (Nat × CpInfo)) (last : Nat) : List CpInfo := es.foldr (fun e r => gap e.1 (e.2 :: r)) (gap last [])
def pool (es : List (Nat × CpInfo)) (last : Nat) : Array CpInfo := ⟨poolList es last⟩
def fileOf (pool : Array CpInfo) (this : Nat) (attrs : Array Attribute := #[]) (ms : Array MethodInfo := #[]) (fl : Nat := 33) (sup : Nat := 0) (ifs : Array Nat := #[]) (fds : Array FieldInfo := #[]) : ClassFile where
  minorVersion := 0
  majorVersion := 65
  constantPool := pool
  accessFlags := fl
  thisClass := this
  superClass := sup
  interfaces := ifs
  fields := fds
  methods := ms
  attributes := attrs
def plain (name : String) (sup : Option ClassId) : Class where
  name := name
  kind := .ordinary
  loader := none
  accessFlags := 33
  super := sup
  interfaces := #[]
  cf := none
  fields := #[]
  methods := #[]
  instanceTypes := #[]
  staticTypes := #[]
  resolved := #[]
  callSites := []
  init := .initialized
  statics := none
  mirror := none

def pool0 : Array CpInfo := pool [(5, u "<init>"), (0, u "()V"), (1, .class_ 10), (1, u "java/lang/Object")] 113

def k0c0 : Code := { maxStack := 0, maxLocals := 1, code := object_method_1_code, exceptionTable := #[], attributes := #[] }
def k0m0 : Method := { name := "<init>", desc := "()V", sig := { parameters := [], returnType := none }, accessFlags := 1, code := some k0c0 }
/-- java/lang/Object -/
def k0 : Class := { plain "java/lang/Object" none with
  accessFlags := 33
  interfaces := #[]
  cf := some (fileOf pool0 8 #[] #[{ accessFlags := 1, nameIndex := 5, descriptorIndex := 6, attributes := #[] }] 33 0 #[] #[])
  fields := #[]
  methods := #[k0m0]
  instanceTypes := #[]
  staticTypes := #[]
  resolved := Array.replicate 124 none
  statics := none }

def pool1 : Array CpInfo := pool [(2, .class_ 4), (1, u "java/lang/Object"), (0, u "<init>"), (0, u "()V"), (0, .class_ 8), (0, u "java/lang/String"), (0, .methodref 7 10), (0, .nameAndType 5 11), (0, u "([C)V"), (0, .integer 65535), (0, .methodref 14 15), (0, .class_ 16), (0, .nameAndType 17 18), (0, u "com/example/zastupnik/zastupnik/protocol/AsciiDigitsOnlyPinLaw"), (0, u "make"), (0, u "(ICCCC)Ljava/lang/String;"), (0, .methodref 14 20), (0, .nameAndType 21 22), (0, u "digit"), (0, u "(C)Z"), (0, .methodref 24 25), (0, .class_ 26), (0, .nameAndType 27 28), (0, u "com/example/zastupnik/zastupnik/protocol/AsciiDigits"), (0, u "only"), (0, u "(Ljava/lang/String;)Z"), (3, u "law"), (0, u "(IIIII)Z")] 2

def k1m0 : Method := { name := "<init>", desc := "()V", sig := { parameters := [], returnType := none }, accessFlags := 2, code := none }
def k1c1 : Code := { maxStack := 2, maxLocals := 1, code := method_2_code, exceptionTable := #[], attributes := #[] }
def k1m1 : Method := { name := "digit", desc := "(C)Z", sig := { parameters := [.char], returnType := some .boolean }, accessFlags := 10, code := some k1c1 }
def k1c2 : Code := { maxStack := 6, maxLocals := 5, code := method_3_code, exceptionTable := #[], attributes := #[] }
def k1m2 : Method := { name := "make", desc := "(ICCCC)Ljava/lang/String;", sig := { parameters := [.int, .char, .char, .char, .char], returnType := some (.object "java/lang/String") }, accessFlags := 10, code := some k1c2 }
def k1c3 : Code := { maxStack := 5, maxLocals := 12, code := code, exceptionTable := #[], attributes := #[] }
def k1m3 : Method := { name := "law", desc := "(IIIII)Z", sig := { parameters := [.int, .int, .int, .int, .int], returnType := some .boolean }, accessFlags := 9, code := some k1c3 }
/-- com/example/zastupnik/zastupnik/protocol/AsciiDigitsOnlyPinLaw -/
def k1 : Class := { plain "com/example/zastupnik/zastupnik/protocol/AsciiDigitsOnlyPinLaw" (some 0) with
  accessFlags := 49
  interfaces := #[]
  cf := some (fileOf pool1 14 #[] #[{ accessFlags := 2, nameIndex := 5, descriptorIndex := 6, attributes := #[] }, { accessFlags := 10, nameIndex := 21, descriptorIndex := 22, attributes := #[] }, { accessFlags := 10, nameIndex := 17, descriptorIndex := 18, attributes := #[] }, { accessFlags := 9, nameIndex := 32, descriptorIndex := 33, attributes := #[] }] 49 2 #[] #[])
  fields := #[]
  methods := #[k1m0, k1m1, k1m2, k1m3]
  instanceTypes := #[]
  staticTypes := #[]
  resolved := Array.replicate 36 none
  statics := none }

def pool2 : Array CpInfo := pool [(1, .class_ 2), (0, u "java/io/Serializable"), (0, .class_ 4), (0, u "java/lang/Object")] 2

/-- java/io/Serializable -/
def k2 : Class := { plain "java/io/Serializable" (some 0) with
  accessFlags := 1537
  interfaces := #[]
  cf := some (fileOf pool2 1 #[] #[] 1537 3 #[] #[])
  fields := #[]
  methods := #[]
  instanceTypes := #[]
  staticTypes := #[]
  resolved := Array.replicate 7 none
  statics := none }

def pool3 : Array CpInfo := pool [(1, .class_ 2), (0, u "java/lang/Comparable"), (0, .class_ 4), (0, u "java/lang/Object")] 7

/-- java/lang/Comparable -/
def k3 : Class := { plain "java/lang/Comparable" (some 0) with
  accessFlags := 1537
  interfaces := #[]
  cf := some (fileOf pool3 1 #[] #[] 1537 3 #[] #[])
  fields := #[]
  methods := #[]
  instanceTypes := #[]
  staticTypes := #[]
  resolved := Array.replicate 12 none
  statics := none }

def pool4 : Array CpInfo := pool [(2, .class_ 4), (1, u "java/lang/CharSequence"), (42, .class_ 48), (0, u "java/lang/CharSequence$1CodePointIterator"), (10, .class_ 60), (0, u "java/lang/CharSequence$1CharIterator"), (5, .class_ 67), (0, u "java/lang/Object")] 63

/-- java/lang/CharSequence -/
def k4 : Class := { plain "java/lang/CharSequence" (some 0) with
  accessFlags := 1537
  interfaces := #[]
  cf := some (fileOf pool4 2 #[.nestMembers #[47, 59]] #[] 1537 66 #[] #[])
  fields := #[]
  methods := #[]
  instanceTypes := #[]
  staticTypes := #[]
  resolved := Array.replicate 131 none
  statics := none }

def pool5 : Array CpInfo := pool [(1, .class_ 2), (0, u "java/lang/constant/Constable"), (0, .class_ 4), (0, u "java/lang/Object")] 6

/-- java/lang/constant/Constable -/
def k5 : Class := { plain "java/lang/constant/Constable" (some 0) with
  accessFlags := 1537
  interfaces := #[]
  cf := some (fileOf pool5 1 #[] #[] 1537 3 #[] #[])
  fields := #[]
  methods := #[]
  instanceTypes := #[]
  staticTypes := #[]
  resolved := Array.replicate 11 none
  statics := none }

def pool6 : Array CpInfo := pool [(1, .class_ 2), (0, u "java/lang/constant/ConstantDesc"), (0, .class_ 4), (0, u "java/lang/Object")] 32

/-- java/lang/constant/ConstantDesc -/
def k6 : Class := { plain "java/lang/constant/ConstantDesc" (some 0) with
  accessFlags := 1537
  interfaces := #[]
  cf := some (fileOf pool6 1 #[] #[] 1537 3 #[] #[])
  fields := #[]
  methods := #[]
  instanceTypes := #[]
  staticTypes := #[]
  resolved := Array.replicate 37 none
  statics := none }

def pool7 : Array CpInfo := pool [(1, .methodref 2 3), (0, .class_ 4), (0, .nameAndType 5 6), (0, u "java/lang/Object"), (0, u "<init>"), (0, u "()V"), (0, .string 8), (0, u ""), (0, .fieldref 10 11), (0, .class_ 12), (0, .nameAndType 13 14), (0, u "java/lang/String"), (0, u "value"), (0, u "[B"), (0, .fieldref 10 16), (0, .nameAndType 17 18), (0, u "coder"), (0, u "B"), (2, u "hash"), (0, u "I"), (2, u "hashIsZero"), (0, u "Z"), (0, .methodref 10 28), (0, .nameAndType 5 29), (0, u "([CIILjava/lang/Void;)V"), (8, .fieldref 10 39), (0, .nameAndType 40 26), (0, u "COMPACT_STRINGS"), (1, .class_ 44), (1, u "java/lang/StringUTF16"), (0, u "compress"), (1, .methodref 42 48), (0, .nameAndType 49 50), (0, u "coderFromArrayLen"), (0, u "([BI)B"), (56, .class_ 109), (1, u "java/lang/StringLatin1"), (32, u "()Z"), (34, .methodref 42 178), (0, .nameAndType 45 179), (0, u "([CII)[B"), (154, u "()I"), (0, .methodref 10 336), (0, .nameAndType 17 337), (0, u "()B"), (25, u "([BI)C"), (27, u "(II)V"), (35, u "(I)C"), (64, .methodref 10 493), (0, .nameAndType 494 142), (0, u "isLatin1"), (0, .methodref 107 496), (0, .nameAndType 497 363), (0, u "charAt"), (0, .methodref 42 496), (2, u "checkIndex"), (5, u "length"), (67, .class_ 576), (0, u "java/lang/CharSequence"), (22, u "CASE_INSENSITIVE_ORDER"), (0, u "Ljava/util/Comparator;"), (91, u "isEmpty"), (317, u "([C)V"), (42, .fieldref 1054 1055), (0, .class_ 1056), (0, .nameAndType 1057 1058), (0, u "jdk/internal/util/Preconditions"), (0, u "SIOOBE_FORMATTER"), (0, u "Ljava/util/function/BiFunction;"), (0, .methodref 1054 1060), (0, .nameAndType 501 1061), (0, u "(IILjava/util/function/BiFunction;)I"), (39, u "serialPersistentFields"), (0, u "[Ljava/io/ObjectStreamField;"), (0, .class_ 1104), (0, u "java/lang/String$CaseInsensitiveComparator"), (1, .class_ 1107), (0, u "java/io/Serializable"), (0, .class_ 1109), (0, u "java/lang/Comparable"), (0, .class_ 1111), (0, u "java/lang/constant/Constable"), (0, .class_ 1113), (0, u "java/lang/constant/ConstantDesc"), (2, u "serialVersionUID"), (0, u "J"), (3, u "REPL"), (0, u "C"), (2, u "LATIN1"), (1, u "UTF16")] 323

def k7m0 : Method := { name := "<init>", desc := "()V", sig := { parameters := [], returnType := none }, accessFlags := 1, code := none }
def k7c1 : Code := { maxStack := 5, maxLocals := 2, code := jdk_42_method_3_code, exceptionTable := #[], attributes := #[] }
def k7m1 : Method := { name := "<init>", desc := "([C)V", sig := { parameters := [(.array .char)], returnType := none }, accessFlags := 1, code := some k7c1 }
def k7c2 : Code := { maxStack := 2, maxLocals := 1, code := jdk_42_method_54_code, exceptionTable := #[], attributes := #[] }
def k7m2 : Method := { name := "length", desc := "()I", sig := { parameters := [], returnType := some .int }, accessFlags := 1, code := some k7c2 }
def k7c3 : Code := { maxStack := 1, maxLocals := 1, code := jdk_42_method_55_code, exceptionTable := #[], attributes := #[] }
def k7m3 : Method := { name := "isEmpty", desc := "()Z", sig := { parameters := [], returnType := some .boolean }, accessFlags := 1, code := some k7c3 }
def k7c4 : Code := { maxStack := 2, maxLocals := 2, code := jdk_42_method_56_code, exceptionTable := #[], attributes := #[] }
def k7m4 : Method := { name := "charAt", desc := "(I)C", sig := { parameters := [.int], returnType := some .char }, accessFlags := 1, code := some k7c4 }
def k7c5 : Code := { maxStack := 4, maxLocals := 6, code := jdk_42_method_149_code, exceptionTable := #[], attributes := #[] }
def k7m5 : Method := { name := "<init>", desc := "([CIILjava/lang/Void;)V", sig := { parameters := [(.array .char), .int, .int, (.object "java/lang/Void")], returnType := none }, accessFlags := 2, code := some k7c5 }
def k7c6 : Code := { maxStack := 1, maxLocals := 1, code := jdk_42_method_152_code, exceptionTable := #[], attributes := #[] }
def k7m6 : Method := { name := "coder", desc := "()B", sig := { parameters := [], returnType := some .byte }, accessFlags := 0, code := some k7c6 }
def k7c7 : Code := { maxStack := 1, maxLocals := 1, code := jdk_42_method_154_code, exceptionTable := #[], attributes := #[] }
def k7m7 : Method := { name := "isLatin1", desc := "()Z", sig := { parameters := [], returnType := some .boolean }, accessFlags := 0, code := some k7c7 }
def k7c8 : Code := { maxStack := 3, maxLocals := 2, code := jdk_42_method_155_code, exceptionTable := #[], attributes := #[] }
def k7m8 : Method := { name := "checkIndex", desc := "(II)V", sig := { parameters := [.int, .int], returnType := none }, accessFlags := 8, code := some k7c8 }
/-- java/lang/String -/
def k7 : Class := { plain "java/lang/String" (some 0) with
  accessFlags := 49
  interfaces := #[2, 3, 4, 5, 6]
  cf := some (fileOf pool7 10 #[.nestMembers #[1103]] #[{ accessFlags := 1, nameIndex := 5, descriptorIndex := 6, attributes := #[] }, { accessFlags := 1, nameIndex := 5, descriptorIndex := 1010, attributes := #[] }, { accessFlags := 1, nameIndex := 507, descriptorIndex := 334, attributes := #[] }, { accessFlags := 1, nameIndex := 692, descriptorIndex := 142, attributes := #[] }, { accessFlags := 1, nameIndex := 497, descriptorIndex := 427, attributes := #[] }, { accessFlags := 2, nameIndex := 5, descriptorIndex := 29, attributes := #[] }, { accessFlags := 0, nameIndex := 17, descriptorIndex := 337, attributes := #[] }, { accessFlags := 0, nameIndex := 494, descriptorIndex := 142, attributes := #[] }, { accessFlags := 8, nameIndex := 501, descriptorIndex := 391, attributes := #[] }] 49 2 #[1106, 1108, 575, 1110, 1112] #[{ accessFlags := 18, nameIndex := 13, descriptorIndex := 14, attributes := #[] }, { accessFlags := 18, nameIndex := 17, descriptorIndex := 18, attributes := #[] }, { accessFlags := 2, nameIndex := 21, descriptorIndex := 22, attributes := #[] }, { accessFlags := 2, nameIndex := 25, descriptorIndex := 26, attributes := #[] }, { accessFlags := 26, nameIndex := 1116, descriptorIndex := 1117, attributes := #[] }, { accessFlags := 24, nameIndex := 40, descriptorIndex := 26, attributes := #[] }, { accessFlags := 26, nameIndex := 1101, descriptorIndex := 1102, attributes := #[] }, { accessFlags := 26, nameIndex := 1121, descriptorIndex := 1122, attributes := #[] }, { accessFlags := 25, nameIndex := 599, descriptorIndex := 600, attributes := #[] }, { accessFlags := 24, nameIndex := 1125, descriptorIndex := 18, attributes := #[] }, { accessFlags := 24, nameIndex := 1127, descriptorIndex := 18, attributes := #[] }])
  fields := #[{ name := "value", type := (.array .byte), accessFlags := 18, slot := 0, constantValue := 0 }, { name := "coder", type := .byte, accessFlags := 18, slot := 1, constantValue := 0 }, { name := "hash", type := .int, accessFlags := 2, slot := 2, constantValue := 0 }, { name := "hashIsZero", type := .boolean, accessFlags := 2, slot := 3, constantValue := 0 }, { name := "serialVersionUID", type := .long, accessFlags := 26, slot := 0, constantValue := 0 }, { name := "COMPACT_STRINGS", type := .boolean, accessFlags := 24, slot := 1, constantValue := 0 }, { name := "serialPersistentFields", type := (.array (.object "java/io/ObjectStreamField")), accessFlags := 26, slot := 2, constantValue := 0 }, { name := "REPL", type := .char, accessFlags := 26, slot := 3, constantValue := 0 }, { name := "CASE_INSENSITIVE_ORDER", type := (.object "java/util/Comparator"), accessFlags := 25, slot := 4, constantValue := 0 }, { name := "LATIN1", type := .byte, accessFlags := 24, slot := 5, constantValue := 0 }, { name := "UTF16", type := .byte, accessFlags := 24, slot := 6, constantValue := 0 }]
  methods := #[k7m0, k7m1, k7m2, k7m3, k7m4, k7m5, k7m6, k7m7, k7m8]
  instanceTypes := #[(.array .byte), .byte, .int, .boolean]
  staticTypes := #[.long, .boolean, (.array (.object "java/io/ObjectStreamField")), .char, (.object "java/util/Comparator"), .byte, .byte]
  resolved := Array.replicate 1451 none
  statics := some 0 }

def pool8 : Array CpInfo := pool [(2, .class_ 4), (1, u "java/lang/Object"), (0, u "<init>"), (0, u "()V"), (0, .methodref 8 9), (0, .class_ 10), (0, .nameAndType 11 12), (0, u "java/lang/String"), (0, u "isEmpty"), (0, u "()Z"), (0, .methodref 8 14), (0, .nameAndType 15 16), (0, u "length"), (0, u "()I"), (0, .methodref 8 18), (0, .nameAndType 19 20), (0, u "charAt"), (0, u "(I)C"), (0, .class_ 22), (0, u "com/example/zastupnik/zastupnik/protocol/AsciiDigits"), (2, u "only"), (0, u "(Ljava/lang/String;)Z")] 3

def k8m0 : Method := { name := "<init>", desc := "()V", sig := { parameters := [], returnType := none }, accessFlags := 2, code := none }
def k8c1 : Code := { maxStack := 2, maxLocals := 3, code := prog_32_method_2_code, exceptionTable := #[], attributes := #[] }
def k8m1 : Method := { name := "only", desc := "(Ljava/lang/String;)Z", sig := { parameters := [(.object "java/lang/String")], returnType := some .boolean }, accessFlags := 8, code := some k8c1 }
/-- com/example/zastupnik/zastupnik/protocol/AsciiDigits -/
def k8 : Class := { plain "com/example/zastupnik/zastupnik/protocol/AsciiDigits" (some 0) with
  accessFlags := 32
  interfaces := #[]
  cf := some (fileOf pool8 21 #[] #[{ accessFlags := 2, nameIndex := 5, descriptorIndex := 6, attributes := #[] }, { accessFlags := 8, nameIndex := 25, descriptorIndex := 26, attributes := #[] }] 32 2 #[] #[])
  fields := #[]
  methods := #[k8m0, k8m1]
  instanceTypes := #[]
  staticTypes := #[]
  resolved := Array.replicate 30 none
  statics := none }

def pool9 : Array CpInfo := pool [(3, .class_ 4), (0, u "java/lang/String"), (1, .class_ 8), (1, u "java/lang/Object"), (0, u "<init>"), (0, u "()V"), (0, .methodref 12 13), (0, .class_ 14), (0, .nameAndType 15 16), (0, u "java/lang/StringUTF16"), (0, u "newBytesLength"), (0, u "(I)I"), (3, .integer 1073741823), (23, .fieldref 12 45), (0, .nameAndType 46 47), (0, u "$assertionsDisabled"), (0, u "Z"), (0, .methodref 12 49), (0, .nameAndType 50 51), (0, u "length"), (0, u "([B)I"), (7, .fieldref 12 60), (0, .nameAndType 61 62), (0, u "HI_BYTE_SHIFT"), (0, u "I"), (0, .fieldref 12 64), (0, .nameAndType 65 62), (0, u "LO_BYTE_SHIFT"), (1, .methodref 12 68), (0, .nameAndType 69 70), (0, u "checkIndex"), (0, u "(I[B)V"), (0, .methodref 12 72), (0, .nameAndType 73 74), (0, u "getChar"), (0, u "([BI)C"), (32, .methodref 12 108), (0, .nameAndType 109 110), (0, u "newBytesFor"), (0, u "(I)[B"), (0, .methodref 12 112), (0, .nameAndType 113 114), (0, u "putChar"), (0, u "([BII)V"), (0, .methodref 12 116), (0, .nameAndType 117 118), (0, u "compress"), (0, u "([CI[BII)I"), (0, .methodref 12 120), (0, .nameAndType 121 122), (0, u "toBytes"), (0, u "([CII)[B"), (138, u "coderFromArrayLen"), (0, u "([BI)B"), (106, .class_ 371), (1, u "java/lang/StringUTF16$LinesSpliterator"), (20, u "charAt"), (21, .methodref 3 415), (0, .nameAndType 69 416), (0, u "(II)V"), (13, u "MAX_LENGTH"), (196, .class_ 628), (0, u "java/lang/StringUTF16$CodePointsSpliterator"), (0, .class_ 630), (0, u "java/lang/StringUTF16$CharsSpliterator")] 4

def k9m0 : Method := { name := "<init>", desc := "()V", sig := { parameters := [], returnType := none }, accessFlags := 0, code := none }
def k9c1 : Code := { maxStack := 1, maxLocals := 1, code := jdk_52_method_2_code, exceptionTable := #[], attributes := #[] }
def k9m1 : Method := { name := "newBytesFor", desc := "(I)[B", sig := { parameters := [.int], returnType := some (.array .byte) }, accessFlags := 9, code := some k9c1 }
def k9c2 : Code := { maxStack := 4, maxLocals := 1, code := jdk_52_method_3_code, exceptionTable := #[], attributes := #[] }
def k9m2 : Method := { name := "newBytesLength", desc := "(I)I", sig := { parameters := [.int], returnType := some .int }, accessFlags := 9, code := some k9c2 }
def k9c3 : Code := { maxStack := 4, maxLocals := 3, code := jdk_52_method_4_code, exceptionTable := #[], attributes := #[] }
def k9m3 : Method := { name := "putChar", desc := "([BII)V", sig := { parameters := [(.array .byte), .int, .int], returnType := none }, accessFlags := 8, code := some k9c3 }
def k9c4 : Code := { maxStack := 3, maxLocals := 2, code := jdk_52_method_5_code, exceptionTable := #[], attributes := #[] }
def k9m4 : Method := { name := "getChar", desc := "([BI)C", sig := { parameters := [(.array .byte), .int], returnType := some .char }, accessFlags := 8, code := some k9c4 }
def k9c5 : Code := { maxStack := 2, maxLocals := 1, code := jdk_52_method_6_code, exceptionTable := #[], attributes := #[] }
def k9m5 : Method := { name := "length", desc := "([B)I", sig := { parameters := [(.array .byte)], returnType := some .int }, accessFlags := 9, code := some k9c5 }
def k9c6 : Code := { maxStack := 4, maxLocals := 5, code := jdk_52_method_14_code, exceptionTable := #[], attributes := #[] }
def k9m6 : Method := { name := "toBytes", desc := "([CII)[B", sig := { parameters := [(.array .char), .int, .int], returnType := some (.array .byte) }, accessFlags := 9, code := some k9c6 }
def k9c7 : Code := { maxStack := 2, maxLocals := 2, code := jdk_52_method_15_code, exceptionTable := #[], attributes := #[] }
def k9m7 : Method := { name := "coderFromArrayLen", desc := "([BI)B", sig := { parameters := [(.array .byte), .int], returnType := some .byte }, accessFlags := 8, code := some k9c7 }
def k9c8 : Code := { maxStack := 5, maxLocals := 6, code := jdk_52_method_16_code, exceptionTable := #[], attributes := #[] }
def k9m8 : Method := { name := "compress", desc := "([CII)[B", sig := { parameters := [(.array .char), .int, .int], returnType := some (.array .byte) }, accessFlags := 9, code := some k9c8 }
def k9c9 : Code := { maxStack := 3, maxLocals := 7, code := jdk_52_method_21_code, exceptionTable := #[], attributes := #[] }
def k9m9 : Method := { name := "compress", desc := "([CI[BII)I", sig := { parameters := [(.array .char), .int, (.array .byte), .int, .int], returnType := some .int }, accessFlags := 9, code := some k9c9 }
def k9c10 : Code := { maxStack := 2, maxLocals := 2, code := jdk_52_method_83_code, exceptionTable := #[], attributes := #[] }
def k9m10 : Method := { name := "charAt", desc := "([BI)C", sig := { parameters := [(.array .byte), .int], returnType := some .char }, accessFlags := 9, code := some k9c10 }
def k9c11 : Code := { maxStack := 2, maxLocals := 2, code := jdk_52_method_91_code, exceptionTable := #[], attributes := #[] }
def k9m11 : Method := { name := "checkIndex", desc := "(I[B)V", sig := { parameters := [.int, (.array .byte)], returnType := none }, accessFlags := 9, code := some k9c11 }
/-- java/lang/StringUTF16 -/
def k9 : Class := { plain "java/lang/StringUTF16" (some 0) with
  accessFlags := 48
  interfaces := #[]
  cf := some (fileOf pool9 12 #[.nestMembers #[627, 629, 369]] #[{ accessFlags := 0, nameIndex := 9, descriptorIndex := 10, attributes := #[] }, { accessFlags := 9, nameIndex := 109, descriptorIndex := 110, attributes := #[] }, { accessFlags := 9, nameIndex := 15, descriptorIndex := 16, attributes := #[] }, { accessFlags := 8, nameIndex := 113, descriptorIndex := 114, attributes := #[] }, { accessFlags := 8, nameIndex := 73, descriptorIndex := 74, attributes := #[] }, { accessFlags := 9, nameIndex := 50, descriptorIndex := 51, attributes := #[] }, { accessFlags := 9, nameIndex := 121, descriptorIndex := 122, attributes := #[] }, { accessFlags := 8, nameIndex := 261, descriptorIndex := 262, attributes := #[] }, { accessFlags := 9, nameIndex := 117, descriptorIndex := 122, attributes := #[] }, { accessFlags := 9, nameIndex := 117, descriptorIndex := 118, attributes := #[] }, { accessFlags := 9, nameIndex := 392, descriptorIndex := 74, attributes := #[] }, { accessFlags := 9, nameIndex := 69, descriptorIndex := 70, attributes := #[] }] 48 6 #[] #[{ accessFlags := 26, nameIndex := 61, descriptorIndex := 62, attributes := #[] }, { accessFlags := 26, nameIndex := 65, descriptorIndex := 62, attributes := #[] }, { accessFlags := 24, nameIndex := 430, descriptorIndex := 62, attributes := #[] }, { accessFlags := 4120, nameIndex := 46, descriptorIndex := 47, attributes := #[] }])
  fields := #[{ name := "HI_BYTE_SHIFT", type := .int, accessFlags := 26, slot := 0, constantValue := 0 }, { name := "LO_BYTE_SHIFT", type := .int, accessFlags := 26, slot := 1, constantValue := 0 }, { name := "MAX_LENGTH", type := .int, accessFlags := 24, slot := 2, constantValue := 0 }, { name := "$assertionsDisabled", type := .boolean, accessFlags := 4120, slot := 3, constantValue := 0 }]
  methods := #[k9m0, k9m1, k9m2, k9m3, k9m4, k9m5, k9m6, k9m7, k9m8, k9m9, k9m10, k9m11]
  instanceTypes := #[]
  staticTypes := #[.int, .int, .int, .boolean]
  resolved := Array.replicate 635 none
  statics := some 1 }

def pool10 : Array CpInfo := pool [(1, .class_ 2), (0, u "java/lang/String"), (1, .class_ 6), (1, u "java/lang/Object"), (0, u "<init>"), (0, u "()V"), (0, .methodref 1 10), (0, .nameAndType 11 12), (0, u "checkIndex"), (0, u "(II)V"), (1, .class_ 16), (1, u "java/lang/StringLatin1"), (36, u "([BI)C"), (67, u "$assertionsDisabled"), (0, u "Z"), (98, .class_ 223), (1, u "java/lang/StringLatin1$LinesSpliterator"), (28, u "charAt"), (137, .class_ 391), (0, u "java/lang/StringLatin1$CharsSpliterator")] 3

def k10m0 : Method := { name := "<init>", desc := "()V", sig := { parameters := [], returnType := none }, accessFlags := 0, code := none }
def k10c1 : Code := { maxStack := 2, maxLocals := 2, code := jdk_43_method_2_code, exceptionTable := #[], attributes := #[] }
def k10m1 : Method := { name := "charAt", desc := "([BI)C", sig := { parameters := [(.array .byte), .int], returnType := some .char }, accessFlags := 9, code := some k10c1 }
/-- java/lang/StringLatin1 -/
def k10 : Class := { plain "java/lang/StringLatin1" (some 0) with
  accessFlags := 48
  interfaces := #[]
  cf := some (fileOf pool10 14 #[.nestMembers #[390, 221]] #[{ accessFlags := 0, nameIndex := 7, descriptorIndex := 8, attributes := #[] }, { accessFlags := 9, nameIndex := 252, descriptorIndex := 53, attributes := #[] }] 48 4 #[] #[{ accessFlags := 4120, nameIndex := 121, descriptorIndex := 122, attributes := #[] }])
  fields := #[{ name := "$assertionsDisabled", type := .boolean, accessFlags := 4120, slot := 0, constantValue := 0 }]
  methods := #[k10m0, k10m1]
  instanceTypes := #[]
  staticTypes := #[.boolean]
  resolved := Array.replicate 395 none
  statics := none }

def pool11 : Array CpInfo := pool [(2, .class_ 4), (1, u "java/lang/Object"), (0, u "<init>"), (0, u "()V"), (17, .class_ 26), (1, u "jdk/internal/util/Preconditions"), (6, u "checkIndex"), (21, .class_ 56), (0, u "jdk/internal/util/Preconditions$4"), (57, .class_ 115), (0, u "jdk/internal/util/Preconditions$1"), (7, u "SIOOBE_FORMATTER"), (0, u "Ljava/util/function/BiFunction;"), (0, .class_ 126), (0, u "jdk/internal/util/Preconditions$2"), (3, u "AIOOBE_FORMATTER"), (0, .class_ 132), (0, u "jdk/internal/util/Preconditions$3"), (3, u "IOOBE_FORMATTER"), (41, u "(IILjava/util/function/BiFunction;)I")] 15

def k11m0 : Method := { name := "<init>", desc := "()V", sig := { parameters := [], returnType := none }, accessFlags := 1, code := none }
def k11c1 : Code := { maxStack := 3, maxLocals := 3, code := jdk_41_method_11_code, exceptionTable := #[], attributes := #[] }
def k11m1 : Method := { name := "checkIndex", desc := "(IILjava/util/function/BiFunction;)I", sig := { parameters := [.int, .int, (.object "java/util/function/BiFunction")], returnType := some .int }, accessFlags := 9, code := some k11c1 }
/-- jdk/internal/util/Preconditions -/
def k11 : Class := { plain "jdk/internal/util/Preconditions" (some 0) with
  accessFlags := 33
  interfaces := #[]
  cf := some (fileOf pool11 24 #[.nestMembers #[55, 131, 125, 114]] #[{ accessFlags := 1, nameIndex := 5, descriptorIndex := 6, attributes := #[] }, { accessFlags := 9, nameIndex := 33, descriptorIndex := 178, attributes := #[] }] 33 2 #[] #[{ accessFlags := 25, nameIndex := 123, descriptorIndex := 124, attributes := #[] }, { accessFlags := 25, nameIndex := 130, descriptorIndex := 124, attributes := #[] }, { accessFlags := 25, nameIndex := 136, descriptorIndex := 124, attributes := #[] }])
  fields := #[{ name := "SIOOBE_FORMATTER", type := (.object "java/util/function/BiFunction"), accessFlags := 25, slot := 0, constantValue := 0 }, { name := "AIOOBE_FORMATTER", type := (.object "java/util/function/BiFunction"), accessFlags := 25, slot := 1, constantValue := 0 }, { name := "IOOBE_FORMATTER", type := (.object "java/util/function/BiFunction"), accessFlags := 25, slot := 2, constantValue := 0 }]
  methods := #[k11m0, k11m1]
  instanceTypes := #[]
  staticTypes := #[(.object "java/util/function/BiFunction"), (.object "java/util/function/BiFunction"), (.object "java/util/function/BiFunction")]
  resolved := Array.replicate 194 none
  statics := some 2 }

def pool12 : Array CpInfo := pool [(9, u "<init>"), (6, .class_ 18), (1, u "java/lang/Object"), (0, u "()V"), (1, .class_ 23), (1, u "jdk/internal/util/ArraysSupport"), (0, u "LOG2_ARRAY_LONG_INDEX_SCALE"), (0, u "I"), (2, u "U"), (0, u "Ljdk/internal/misc/Unsafe;"), (8, u "BIG_ENDIAN"), (0, u "Z"), (8, u "LOG2_BYTE_BIT_SIZE"), (4, u "LOG2_ARRAY_INT_INDEX_SCALE"), (54, u "JLA"), (0, u "Ljdk/internal/access/JavaLangAccess;"), (11, u "LOG2_ARRAY_BOOLEAN_INDEX_SCALE"), (9, u "LOG2_ARRAY_BYTE_INDEX_SCALE"), (5, u "LOG2_ARRAY_CHAR_INDEX_SCALE"), (5, u "LOG2_ARRAY_SHORT_INDEX_SCALE"), (18, u "LOG2_ARRAY_FLOAT_INDEX_SCALE"), (24, u "LOG2_ARRAY_DOUBLE_INDEX_SCALE"), (89, u "T_BOOLEAN"), (2, u "T_CHAR"), (1, u "T_FLOAT"), (1, u "T_DOUBLE"), (1, u "T_BYTE"), (1, u "T_SHORT"), (1, u "T_INT"), (1, u "T_LONG"), (1, u "SOFT_MAX_ARRAY_LENGTH")] 83

def k12m0 : Method := { name := "<init>", desc := "()V", sig := { parameters := [], returnType := none }, accessFlags := 2, code := none }
/-- jdk/internal/util/ArraysSupport -/
def k12 : Class := { plain "jdk/internal/util/ArraysSupport" (some 0) with
  accessFlags := 33
  interfaces := #[]
  cf := some (fileOf pool12 21 #[] #[{ accessFlags := 2, nameIndex := 9, descriptorIndex := 19, attributes := #[] }] 33 16 #[] #[{ accessFlags := 24, nameIndex := 28, descriptorIndex := 29, attributes := #[] }, { accessFlags := 26, nameIndex := 38, descriptorIndex := 39, attributes := #[] }, { accessFlags := 25, nameIndex := 121, descriptorIndex := 25, attributes := #[] }, { accessFlags := 25, nameIndex := 131, descriptorIndex := 25, attributes := #[] }, { accessFlags := 25, nameIndex := 137, descriptorIndex := 25, attributes := #[] }, { accessFlags := 25, nameIndex := 143, descriptorIndex := 25, attributes := #[] }, { accessFlags := 25, nameIndex := 53, descriptorIndex := 25, attributes := #[] }, { accessFlags := 25, nameIndex := 24, descriptorIndex := 25, attributes := #[] }, { accessFlags := 25, nameIndex := 162, descriptorIndex := 25, attributes := #[] }, { accessFlags := 25, nameIndex := 187, descriptorIndex := 25, attributes := #[] }, { accessFlags := 26, nameIndex := 48, descriptorIndex := 25, attributes := #[] }, { accessFlags := 25, nameIndex := 277, descriptorIndex := 25, attributes := #[] }, { accessFlags := 25, nameIndex := 280, descriptorIndex := 25, attributes := #[] }, { accessFlags := 25, nameIndex := 282, descriptorIndex := 25, attributes := #[] }, { accessFlags := 25, nameIndex := 284, descriptorIndex := 25, attributes := #[] }, { accessFlags := 25, nameIndex := 286, descriptorIndex := 25, attributes := #[] }, { accessFlags := 25, nameIndex := 288, descriptorIndex := 25, attributes := #[] }, { accessFlags := 25, nameIndex := 290, descriptorIndex := 25, attributes := #[] }, { accessFlags := 25, nameIndex := 292, descriptorIndex := 25, attributes := #[] }, { accessFlags := 26, nameIndex := 108, descriptorIndex := 109, attributes := #[] }, { accessFlags := 25, nameIndex := 294, descriptorIndex := 25, attributes := #[] }])
  fields := #[{ name := "U", type := (.object "jdk/internal/misc/Unsafe"), accessFlags := 24, slot := 0, constantValue := 0 }, { name := "BIG_ENDIAN", type := .boolean, accessFlags := 26, slot := 1, constantValue := 0 }, { name := "LOG2_ARRAY_BOOLEAN_INDEX_SCALE", type := .int, accessFlags := 25, slot := 2, constantValue := 0 }, { name := "LOG2_ARRAY_BYTE_INDEX_SCALE", type := .int, accessFlags := 25, slot := 3, constantValue := 0 }, { name := "LOG2_ARRAY_CHAR_INDEX_SCALE", type := .int, accessFlags := 25, slot := 4, constantValue := 0 }, { name := "LOG2_ARRAY_SHORT_INDEX_SCALE", type := .int, accessFlags := 25, slot := 5, constantValue := 0 }, { name := "LOG2_ARRAY_INT_INDEX_SCALE", type := .int, accessFlags := 25, slot := 6, constantValue := 0 }, { name := "LOG2_ARRAY_LONG_INDEX_SCALE", type := .int, accessFlags := 25, slot := 7, constantValue := 0 }, { name := "LOG2_ARRAY_FLOAT_INDEX_SCALE", type := .int, accessFlags := 25, slot := 8, constantValue := 0 }, { name := "LOG2_ARRAY_DOUBLE_INDEX_SCALE", type := .int, accessFlags := 25, slot := 9, constantValue := 0 }, { name := "LOG2_BYTE_BIT_SIZE", type := .int, accessFlags := 26, slot := 10, constantValue := 0 }, { name := "T_BOOLEAN", type := .int, accessFlags := 25, slot := 11, constantValue := 0 }, { name := "T_CHAR", type := .int, accessFlags := 25, slot := 12, constantValue := 0 }, { name := "T_FLOAT", type := .int, accessFlags := 25, slot := 13, constantValue := 0 }, { name := "T_DOUBLE", type := .int, accessFlags := 25, slot := 14, constantValue := 0 }, { name := "T_BYTE", type := .int, accessFlags := 25, slot := 15, constantValue := 0 }, { name := "T_SHORT", type := .int, accessFlags := 25, slot := 16, constantValue := 0 }, { name := "T_INT", type := .int, accessFlags := 25, slot := 17, constantValue := 0 }, { name := "T_LONG", type := .int, accessFlags := 25, slot := 18, constantValue := 0 }, { name := "JLA", type := (.object "jdk/internal/access/JavaLangAccess"), accessFlags := 26, slot := 19, constantValue := 0 }, { name := "SOFT_MAX_ARRAY_LENGTH", type := .int, accessFlags := 25, slot := 20, constantValue := 0 }]
  methods := #[k12m0]
  instanceTypes := #[]
  staticTypes := #[(.object "jdk/internal/misc/Unsafe"), .boolean, .int, .int, .int, .int, .int, .int, .int, .int, .int, .int, .int, .int, .int, .int, .int, .int, .int, (.object "jdk/internal/access/JavaLangAccess"), .int]
  resolved := Array.replicate 378 none
  statics := none }

def pool13 : Array CpInfo := pool [(1, u "java/lang/Cloneable"), (0, .class_ 1), (0, u "java/lang/Object"), (0, .class_ 3)] 3

/-- java/lang/Cloneable -/
def k13 : Class := { plain "java/lang/Cloneable" (some 0) with
  accessFlags := 1537
  interfaces := #[]
  cf := some (fileOf pool13 2 #[] #[] 1537 4 #[] #[])
  fields := #[]
  methods := #[]
  instanceTypes := #[]
  staticTypes := #[]
  resolved := Array.replicate 8 none
  statics := none }

/-- the primitive byte -/
def k14 : Class := { plain "byte" none with kind := .primitive 'B', accessFlags := 0x411 }
/-- [B -/
def k15 : Class := { plain "[B" (some 0) with kind := .array 14 .byte, interfaces := #[13, 2], accessFlags := 1041 }

/-- the primitive char -/
def k16 : Class := { plain "char" none with kind := .primitive 'C', accessFlags := 0x411 }
/-- [C -/
def k17 : Class := { plain "[C" (some 0) with kind := .array 16 .char, interfaces := #[13, 2], accessFlags := 1041 }

/-- the primitive int -/
def k18 : Class := { plain "int" none with kind := .primitive 'I', accessFlags := 0x411 }
/-- [I -/
def k19 : Class := { plain "[I" (some 0) with kind := .array 18 .int, interfaces := #[13, 2], accessFlags := 1041 }

def heap : Heap := #[{ cls := 7, slots := #[.long 0, .int 1, .null, .int 0, .null, .int 0, .int 0], vm := .statics 7 },
  { cls := 9, slots := #[.int 0, .int 8, .int 0, .int 1], vm := .statics 9 },
  { cls := 11, slots := #[.null, .null, .null], vm := .statics 11 }]
def classes : Array Class := #[k0, k1, k2, k3, k4, k5, k6, k7, k8, k9, k10, k11, k12, k13, k14, k15, k16, k17, k18, k19]
def interned : List (Array UInt16 × Addr) := []
def slotsUsed : Nat := 14
def theMethod : MethodId := ⟨1, 3⟩
def args0 : Array Value := #[.int 5, .int 5, .int 5, .int 5, .int 5]
def aboutOver (below : List Frame) : State where
  vm := { classes := classes, interned := interned.toArray }
  heap := heap
  slotsUsed := slotsUsed
  threads := #[{ frames := .invoking theMethod args0 :: below }]
def below0 : List Frame := [.native { method := ⟨0, 0⟩, args := #[] }]
def about1 : State := aboutOver below0
def p0 : Program := .bare "" "" ""
def e0 : Env := launch0.env 0 0 0
theorem w_frames : about1.frames = Frame.invoking theMethod args0 :: below0 := rfl
set_option maxRecDepth 65536 in
theorem w_args : argsFit about1.vm theMethod args0 = true := by decide +kernel
set_option maxRecDepth 65536 in
theorem w_heap : heapFits about1 = true := by decide +kernel
set_option maxRecDepth 65536 in
theorem w_runnable : about1.curStatus? = some .runnable := by decide +kernel
set_option maxRecDepth 65536 in
theorem w_alone : about1.alone = true := by decide +kernel
set_option maxRecDepth 65536 in
theorem w_named : about1.methodNamed? x = some theMethod := by decide +kernel
set_option maxRecDepth 65536 in
theorem w_hears : about1.hears theMethod below0 = true := by decide +kernel
set_option maxRecDepth 65536 in
theorem w_ripe : about1.ripe theMethod args0 below0 = true := by decide +kernel
theorem w_running : about1.status = .running := rfl
set_option maxRecDepth 65536 in
theorem w_room : about1.hasRoom e0.platform room_1 = true :=
  launch0.hasRoom_least _ room_1 (by decide +kernel) (by decide +kernel) (by decide +kernel) (by decide +kernel) (by decide +kernel) (by decide +kernel)
theorem allAtoms_all (ts : List Jvm.Cond) (a : Array Jvm.Value) (st : Jvm.State) : (allAtoms ts).before a st = ts.all (fun c => c.before a st) := by
  induction ts with
  | nil => rfl
  | cons c t ih =>
    show (Jvm.Cond.and c (allAtoms t)).before a st = _
    rw [Jvm.Cond.before_and, ih, List.all_cons]
def words1 : List Jvm.Cond := Jvm.Cond.code x code maxLocals ret :: tables_1
/-- a 'code' word, met by the world's own term for the bytes: nothing is compared byte by byte -/
theorem code_word {y : MethodName} {bytes : ByteArray} {mx : Nat} {rt : Option FieldType} {a : Array Value} {s : State} {m : MethodId} {meth : Method} {c : Code} (h1 : s.methodNamed? y = some m) (h2 : s.vm.method? m = some meth) (h3 : meth.code = some c) (h4 : c.code = bytes)
    (h5 : (c.maxLocals == mx && c.exceptionTable.isEmpty && decide (c.maxStack ≤ mostOperands) && decide (meth.sig.returnType = rt) && !meth.locks && decide (parseMethodDescriptor y.desc = some meth.sig)) = true) : (Jvm.Cond.code y bytes mx rt).before a s = true := by
  simp only [Bool.and_eq_true, beq_iff_eq, Bool.not_eq_true', decide_eq_true_eq] at h5
  obtain ⟨⟨⟨⟨⟨g1, g2⟩, g3⟩, g4⟩, g5⟩, g6⟩ := h5
  simp [Cond.before, Cond.holds, Cond.value, h1, h2, h3, h4, g1, g2, g3, g4, g5, g6]
def isCode : Jvm.Cond → Bool
  | .code _ _ _ _ => true
  | _ => false
theorem all_split {L : List Jvm.Cond} {P : Jvm.Cond → Bool} (h1 : L.all (fun c => isCode c || P c) = true) (h2 : ∀ c ∈ L.filter isCode, P c = true) : L.all P = true := by
  refine List.all_eq_true.mpr fun c hc => ?_
  have h := List.all_eq_true.mp h1 c hc
  rcases Bool.eq_false_or_eq_true (isCode c) with hi | hi
  · exact h2 c (List.mem_filter.mpr ⟨hc, hi⟩)
  · simpa [hi] using h
set_option maxRecDepth 65536 in
theorem w_c0 : (Jvm.Cond.code x code maxLocals ret).before args0 about1 = true := code_word (m := ⟨1, 3⟩) (meth := k1m3) (c := k1c3) (by decide +kernel) rfl rfl rfl (by decide +kernel)
set_option maxRecDepth 65536 in
theorem w_c1 : (Jvm.Cond.code ({ cls := "com/example/zastupnik/zastupnik/protocol/AsciiDigitsOnlyPinLaw", name := "make", desc := "(ICCCC)Ljava/lang/String;" } : Jvm.MethodName) method_3_code (5 : Nat) (Option.some (Jvm.ClassFile.FieldType.object "java/lang/String"))).before args0 about1 = true := code_word (m := ⟨1, 2⟩) (meth := k1m2) (c := k1c2) (by decide +kernel) rfl rfl rfl (by decide +kernel)
set_option maxRecDepth 65536 in
theorem w_c2 : (Jvm.Cond.code ({ cls := "java/lang/String", name := "<init>", desc := "([C)V" } : Jvm.MethodName) jdk_42_method_3_code (2 : Nat) (Option.none : Option Jvm.ClassFile.FieldType)).before args0 about1 = true := code_word (m := ⟨7, 1⟩) (meth := k7m1) (c := k7c1) (by decide +kernel) rfl rfl rfl (by decide +kernel)
set_option maxRecDepth 65536 in
theorem w_c3 : (Jvm.Cond.code ({ cls := "java/lang/String", name := "<init>", desc := "([CIILjava/lang/Void;)V" } : Jvm.MethodName) jdk_42_method_149_code (6 : Nat) (Option.none : Option Jvm.ClassFile.FieldType)).before args0 about1 = true := code_word (m := ⟨7, 5⟩) (meth := k7m5) (c := k7c5) (by decide +kernel) rfl rfl rfl (by decide +kernel)
set_option maxRecDepth 65536 in
theorem w_c4 : (Jvm.Cond.code ({ cls := "java/lang/Object", name := "<init>", desc := "()V" } : Jvm.MethodName) object_method_1_code (1 : Nat) (Option.none : Option Jvm.ClassFile.FieldType)).before args0 about1 = true := code_word (m := ⟨0, 0⟩) (meth := k0m0) (c := k0c0) (by decide +kernel) rfl rfl rfl (by decide +kernel)
set_option maxRecDepth 65536 in
theorem w_c5 : (Jvm.Cond.code ({ cls := "com/example/zastupnik/zastupnik/protocol/AsciiDigits", name := "only", desc := "(Ljava/lang/String;)Z" } : Jvm.MethodName) prog_32_method_2_code (3 : Nat) (Option.some Jvm.ClassFile.FieldType.boolean)).before args0 about1 = true := code_word (m := ⟨8, 1⟩) (meth := k8m1) (c := k8c1) (by decide +kernel) rfl rfl rfl (by decide +kernel)
set_option maxRecDepth 65536 in
theorem w_c6 : (Jvm.Cond.code ({ cls := "java/lang/String", name := "isEmpty", desc := "()Z" } : Jvm.MethodName) jdk_42_method_55_code (1 : Nat) (Option.some Jvm.ClassFile.FieldType.boolean)).before args0 about1 = true := code_word (m := ⟨7, 3⟩) (meth := k7m3) (c := k7c3) (by decide +kernel) rfl rfl rfl (by decide +kernel)
set_option maxRecDepth 65536 in
theorem w_c7 : (Jvm.Cond.code ({ cls := "java/lang/StringUTF16", name := "compress", desc := "([CII)[B" } : Jvm.MethodName) jdk_52_method_16_code (6 : Nat) (Option.some (Jvm.ClassFile.FieldType.array Jvm.ClassFile.FieldType.byte))).before args0 about1 = true := code_word (m := ⟨9, 8⟩) (meth := k9m8) (c := k9c8) (by decide +kernel) rfl rfl rfl (by decide +kernel)
set_option maxRecDepth 65536 in
theorem w_c8 : (Jvm.Cond.code ({ cls := "java/lang/StringUTF16", name := "compress", desc := "([CI[BII)I" } : Jvm.MethodName) jdk_52_method_21_code (7 : Nat) (Option.some Jvm.ClassFile.FieldType.int)).before args0 about1 = true := code_word (m := ⟨9, 9⟩) (meth := k9m9) (c := k9c9) (by decide +kernel) rfl rfl rfl (by decide +kernel)
set_option maxRecDepth 65536 in
theorem w_c9 : (Jvm.Cond.code ({ cls := "java/lang/StringUTF16", name := "coderFromArrayLen", desc := "([BI)B" } : Jvm.MethodName) jdk_52_method_15_code (2 : Nat) (Option.some Jvm.ClassFile.FieldType.byte)).before args0 about1 = true := code_word (m := ⟨9, 7⟩) (meth := k9m7) (c := k9c7) (by decide +kernel) rfl rfl rfl (by decide +kernel)
set_option maxRecDepth 65536 in
theorem w_c10 : (Jvm.Cond.code ({ cls := "com/example/zastupnik/zastupnik/protocol/AsciiDigitsOnlyPinLaw", name := "digit", desc := "(C)Z" } : Jvm.MethodName) method_2_code (1 : Nat) (Option.some Jvm.ClassFile.FieldType.boolean)).before args0 about1 = true := code_word (m := ⟨1, 1⟩) (meth := k1m1) (c := k1c1) (by decide +kernel) rfl rfl rfl (by decide +kernel)
set_option maxRecDepth 65536 in
theorem w_c11 : (Jvm.Cond.code ({ cls := "java/lang/String", name := "length", desc := "()I" } : Jvm.MethodName) jdk_42_method_54_code (1 : Nat) (Option.some Jvm.ClassFile.FieldType.int)).before args0 about1 = true := code_word (m := ⟨7, 2⟩) (meth := k7m2) (c := k7c2) (by decide +kernel) rfl rfl rfl (by decide +kernel)
set_option maxRecDepth 65536 in
theorem w_c12 : (Jvm.Cond.code ({ cls := "java/lang/String", name := "coder", desc := "()B" } : Jvm.MethodName) jdk_42_method_152_code (1 : Nat) (Option.some Jvm.ClassFile.FieldType.byte)).before args0 about1 = true := code_word (m := ⟨7, 6⟩) (meth := k7m6) (c := k7c6) (by decide +kernel) rfl rfl rfl (by decide +kernel)
set_option maxRecDepth 65536 in
theorem w_c13 : (Jvm.Cond.code ({ cls := "java/lang/String", name := "charAt", desc := "(I)C" } : Jvm.MethodName) jdk_42_method_56_code (2 : Nat) (Option.some Jvm.ClassFile.FieldType.char)).before args0 about1 = true := code_word (m := ⟨7, 4⟩) (meth := k7m4) (c := k7c4) (by decide +kernel) rfl rfl rfl (by decide +kernel)
set_option maxRecDepth 65536 in
theorem w_c14 : (Jvm.Cond.code ({ cls := "java/lang/String", name := "isLatin1", desc := "()Z" } : Jvm.MethodName) jdk_42_method_154_code (1 : Nat) (Option.some Jvm.ClassFile.FieldType.boolean)).before args0 about1 = true := code_word (m := ⟨7, 7⟩) (meth := k7m7) (c := k7c7) (by decide +kernel) rfl rfl rfl (by decide +kernel)
set_option maxRecDepth 65536 in
theorem w_c15 : (Jvm.Cond.code ({ cls := "java/lang/StringLatin1", name := "charAt", desc := "([BI)C" } : Jvm.MethodName) jdk_43_method_2_code (2 : Nat) (Option.some Jvm.ClassFile.FieldType.char)).before args0 about1 = true := code_word (m := ⟨10, 1⟩) (meth := k10m1) (c := k10c1) (by decide +kernel) rfl rfl rfl (by decide +kernel)
set_option maxRecDepth 65536 in
theorem w_c16 : (Jvm.Cond.code ({ cls := "java/lang/String", name := "checkIndex", desc := "(II)V" } : Jvm.MethodName) jdk_42_method_155_code (2 : Nat) (Option.none : Option Jvm.ClassFile.FieldType)).before args0 about1 = true := code_word (m := ⟨7, 8⟩) (meth := k7m8) (c := k7c8) (by decide +kernel) rfl rfl rfl (by decide +kernel)
set_option maxRecDepth 65536 in
theorem w_c17 : (Jvm.Cond.code ({ cls := "jdk/internal/util/Preconditions", name := "checkIndex", desc := "(IILjava/util/function/BiFunction;)I" } : Jvm.MethodName) jdk_41_method_11_code (3 : Nat) (Option.some Jvm.ClassFile.FieldType.int)).before args0 about1 = true := code_word (m := ⟨11, 1⟩) (meth := k11m1) (c := k11c1) (by decide +kernel) rfl rfl rfl (by decide +kernel)
set_option maxRecDepth 65536 in
theorem w_c18 : (Jvm.Cond.code ({ cls := "java/lang/StringUTF16", name := "toBytes", desc := "([CII)[B" } : Jvm.MethodName) jdk_52_method_14_code (5 : Nat) (Option.some (Jvm.ClassFile.FieldType.array Jvm.ClassFile.FieldType.byte))).before args0 about1 = true := code_word (m := ⟨9, 6⟩) (meth := k9m6) (c := k9c6) (by decide +kernel) rfl rfl rfl (by decide +kernel)
set_option maxRecDepth 65536 in
theorem w_c19 : (Jvm.Cond.code ({ cls := "java/lang/StringUTF16", name := "newBytesFor", desc := "(I)[B" } : Jvm.MethodName) jdk_52_method_2_code (1 : Nat) (Option.some (Jvm.ClassFile.FieldType.array Jvm.ClassFile.FieldType.byte))).before args0 about1 = true := code_word (m := ⟨9, 1⟩) (meth := k9m1) (c := k9c1) (by decide +kernel) rfl rfl rfl (by decide +kernel)
set_option maxRecDepth 65536 in
theorem w_c20 : (Jvm.Cond.code ({ cls := "java/lang/StringUTF16", name := "newBytesLength", desc := "(I)I" } : Jvm.MethodName) jdk_52_method_3_code (1 : Nat) (Option.some Jvm.ClassFile.FieldType.int)).before args0 about1 = true := code_word (m := ⟨9, 2⟩) (meth := k9m2) (c := k9c2) (by decide +kernel) rfl rfl rfl (by decide +kernel)
set_option maxRecDepth 65536 in
theorem w_c21 : (Jvm.Cond.code ({ cls := "java/lang/StringUTF16", name := "putChar", desc := "([BII)V" } : Jvm.MethodName) jdk_52_method_4_code (3 : Nat) (Option.none : Option Jvm.ClassFile.FieldType)).before args0 about1 = true := code_word (m := ⟨9, 3⟩) (meth := k9m3) (c := k9c3) (by decide +kernel) rfl rfl rfl (by decide +kernel)
set_option maxRecDepth 65536 in
theorem w_c22 : (Jvm.Cond.code ({ cls := "java/lang/StringUTF16", name := "getChar", desc := "([BI)C" } : Jvm.MethodName) jdk_52_method_5_code (2 : Nat) (Option.some Jvm.ClassFile.FieldType.char)).before args0 about1 = true := code_word (m := ⟨9, 4⟩) (meth := k9m4) (c := k9c4) (by decide +kernel) rfl rfl rfl (by decide +kernel)
set_option maxRecDepth 65536 in
theorem w_c23 : (Jvm.Cond.code ({ cls := "java/lang/StringUTF16", name := "charAt", desc := "([BI)C" } : Jvm.MethodName) jdk_52_method_83_code (2 : Nat) (Option.some Jvm.ClassFile.FieldType.char)).before args0 about1 = true := code_word (m := ⟨9, 10⟩) (meth := k9m10) (c := k9c10) (by decide +kernel) rfl rfl rfl (by decide +kernel)
set_option maxRecDepth 65536 in
theorem w_c24 : (Jvm.Cond.code ({ cls := "java/lang/StringUTF16", name := "checkIndex", desc := "(I[B)V" } : Jvm.MethodName) jdk_52_method_91_code (2 : Nat) (Option.none : Option Jvm.ClassFile.FieldType)).before args0 about1 = true := code_word (m := ⟨9, 11⟩) (meth := k9m11) (c := k9c11) (by decide +kernel) rfl rfl rfl (by decide +kernel)
set_option maxRecDepth 65536 in
theorem w_c25 : (Jvm.Cond.code ({ cls := "java/lang/StringUTF16", name := "length", desc := "([B)I" } : Jvm.MethodName) jdk_52_method_6_code (1 : Nat) (Option.some Jvm.ClassFile.FieldType.int)).before args0 about1 = true := code_word (m := ⟨9, 5⟩) (meth := k9m5) (c := k9c5) (by decide +kernel) rfl rfl rfl (by decide +kernel)
def codes1 : List Jvm.Cond := [Jvm.Cond.code x code maxLocals ret, Jvm.Cond.code ({ cls := "com/example/zastupnik/zastupnik/protocol/AsciiDigitsOnlyPinLaw", name := "make", desc := "(ICCCC)Ljava/lang/String;" } : Jvm.MethodName) method_3_code (5 : Nat) (Option.some (Jvm.ClassFile.FieldType.object "java/lang/String")), Jvm.Cond.code ({ cls := "java/lang/String", name := "<init>", desc := "([C)V" } : Jvm.MethodName) jdk_42_method_3_code (2 : Nat) (Option.none : Option Jvm.ClassFile.FieldType), Jvm.Cond.code ({ cls := "java/lang/String", name := "<init>", desc := "([CIILjava/lang/Void;)V" } : Jvm.MethodName) jdk_42_method_149_code (6 : Nat) (Option.none : Option Jvm.ClassFile.FieldType), Jvm.Cond.code ({ cls := "java/lang/Object", name := "<init>", desc := "()V" } : Jvm.MethodName) object_method_1_code (1 : Nat) (Option.none : Option Jvm.ClassFile.FieldType), Jvm.Cond.code ({ cls := "com/example/zastupnik/zastupnik/protocol/AsciiDigits", name := "only", desc := "(Ljava/lang/String;)Z" } : Jvm.MethodName) prog_32_method_2_code (3 : Nat) (Option.some Jvm.ClassFile.FieldType.boolean), Jvm.Cond.code ({ cls := "java/lang/String", name := "isEmpty", desc := "()Z" } : Jvm.MethodName) jdk_42_method_55_code (1 : Nat) (Option.some Jvm.ClassFile.FieldType.boolean), Jvm.Cond.code ({ cls := "java/lang/StringUTF16", name := "compress", desc := "([CII)[B" } : Jvm.MethodName) jdk_52_method_16_code (6 : Nat) (Option.some (Jvm.ClassFile.FieldType.array Jvm.ClassFile.FieldType.byte)), Jvm.Cond.code ({ cls := "java/lang/StringUTF16", name := "compress", desc := "([CI[BII)I" } : Jvm.MethodName) jdk_52_method_21_code (7 : Nat) (Option.some Jvm.ClassFile.FieldType.int), Jvm.Cond.code ({ cls := "java/lang/StringUTF16", name := "coderFromArrayLen", desc := "([BI)B" } : Jvm.MethodName) jdk_52_method_15_code (2 : Nat) (Option.some Jvm.ClassFile.FieldType.byte), Jvm.Cond.code ({ cls := "com/example/zastupnik/zastupnik/protocol/AsciiDigitsOnlyPinLaw", name := "digit", desc := "(C)Z" } : Jvm.MethodName) method_2_code (1 : Nat) (Option.some Jvm.ClassFile.FieldType.boolean), Jvm.Cond.code ({ cls := "java/lang/String", name := "length", desc := "()I" } : Jvm.MethodName) jdk_42_method_54_code (1 : Nat) (Option.some Jvm.ClassFile.FieldType.int), Jvm.Cond.code ({ cls := "java/lang/String", name := "coder", desc := "()B" } : Jvm.MethodName) jdk_42_method_152_code (1 : Nat) (Option.some Jvm.ClassFile.FieldType.byte), Jvm.Cond.code ({ cls := "java/lang/String", name := "charAt", desc := "(I)C" } : Jvm.MethodName) jdk_42_method_56_code (2 : Nat) (Option.some Jvm.ClassFile.FieldType.char), Jvm.Cond.code ({ cls := "java/lang/String", name := "isLatin1", desc := "()Z" } : Jvm.MethodName) jdk_42_method_154_code (1 : Nat) (Option.some Jvm.ClassFile.FieldType.boolean), Jvm.Cond.code ({ cls := "java/lang/StringLatin1", name := "charAt", desc := "([BI)C" } : Jvm.MethodName) jdk_43_method_2_code (2 : Nat) (Option.some Jvm.ClassFile.FieldType.char), Jvm.Cond.code ({ cls := "java/lang/String", name := "checkIndex", desc := "(II)V" } : Jvm.MethodName) jdk_42_method_155_code (2 : Nat) (Option.none : Option Jvm.ClassFile.FieldType), Jvm.Cond.code ({ cls := "jdk/internal/util/Preconditions", name := "checkIndex", desc := "(IILjava/util/function/BiFunction;)I" } : Jvm.MethodName) jdk_41_method_11_code (3 : Nat) (Option.some Jvm.ClassFile.FieldType.int), Jvm.Cond.code ({ cls := "java/lang/StringUTF16", name := "toBytes", desc := "([CII)[B" } : Jvm.MethodName) jdk_52_method_14_code (5 : Nat) (Option.some (Jvm.ClassFile.FieldType.array Jvm.ClassFile.FieldType.byte)), Jvm.Cond.code ({ cls := "java/lang/StringUTF16", name := "newBytesFor", desc := "(I)[B" } : Jvm.MethodName) jdk_52_method_2_code (1 : Nat) (Option.some (Jvm.ClassFile.FieldType.array Jvm.ClassFile.FieldType.byte)), Jvm.Cond.code ({ cls := "java/lang/StringUTF16", name := "newBytesLength", desc := "(I)I" } : Jvm.MethodName) jdk_52_method_3_code (1 : Nat) (Option.some Jvm.ClassFile.FieldType.int), Jvm.Cond.code ({ cls := "java/lang/StringUTF16", name := "putChar", desc := "([BII)V" } : Jvm.MethodName) jdk_52_method_4_code (3 : Nat) (Option.none : Option Jvm.ClassFile.FieldType), Jvm.Cond.code ({ cls := "java/lang/StringUTF16", name := "getChar", desc := "([BI)C" } : Jvm.MethodName) jdk_52_method_5_code (2 : Nat) (Option.some Jvm.ClassFile.FieldType.char), Jvm.Cond.code ({ cls := "java/lang/StringUTF16", name := "charAt", desc := "([BI)C" } : Jvm.MethodName) jdk_52_method_83_code (2 : Nat) (Option.some Jvm.ClassFile.FieldType.char), Jvm.Cond.code ({ cls := "java/lang/StringUTF16", name := "checkIndex", desc := "(I[B)V" } : Jvm.MethodName) jdk_52_method_91_code (2 : Nat) (Option.none : Option Jvm.ClassFile.FieldType), Jvm.Cond.code ({ cls := "java/lang/StringUTF16", name := "length", desc := "([B)I" } : Jvm.MethodName) jdk_52_method_6_code (1 : Nat) (Option.some Jvm.ClassFile.FieldType.int)]
set_option maxRecDepth 65536 in
theorem codes_eq : words1.filter isCode = codes1 := rfl
theorem w_codes : ∀ c ∈ words1.filter isCode, c.before args0 about1 = true := by
  rw [codes_eq]
  intro c hc
  simp only [codes1, List.mem_cons, List.not_mem_nil, or_false] at hc
  rcases hc with rfl | rfl | rfl | rfl | rfl | rfl | rfl | rfl | rfl | rfl | rfl | rfl | rfl | rfl | rfl | rfl | rfl | rfl | rfl | rfl | rfl | rfl | rfl | rfl | rfl | rfl
  · exact w_c0
  · exact w_c1
  · exact w_c2
  · exact w_c3
  · exact w_c4
  · exact w_c5
  · exact w_c6
  · exact w_c7
  · exact w_c8
  · exact w_c9
  · exact w_c10
  · exact w_c11
  · exact w_c12
  · exact w_c13
  · exact w_c14
  · exact w_c15
  · exact w_c16
  · exact w_c17
  · exact w_c18
  · exact w_c19
  · exact w_c20
  · exact w_c21
  · exact w_c22
  · exact w_c23
  · exact w_c24
  · exact w_c25
set_option maxRecDepth 65536 in
theorem w_t1 : (words1.take 24).all (fun c => isCode c || c.before args0 about1) = true := by decide +kernel
set_option maxRecDepth 65536 in
theorem w_t2 : ((words1.drop 24).take 24).all (fun c => isCode c || c.before args0 about1) = true := by decide +kernel
set_option maxRecDepth 65536 in
theorem w_t3 : (((words1.drop 24).drop 24).take 24).all (fun c => isCode c || c.before args0 about1) = true := by decide +kernel
set_option maxRecDepth 65536 in
theorem w_t4 : ((((words1.drop 24).drop 24).drop 24).take 24).all (fun c => isCode c || c.before args0 about1) = true := by decide +kernel
set_option maxRecDepth 65536 in
theorem w_t5 : ((((words1.drop 24).drop 24).drop 24).drop 24).all (fun c => isCode c || c.before args0 about1) = true := by decide +kernel
theorem w_tables : (allAtoms (Jvm.Cond.code x code maxLocals ret :: tables_1)).before args0 about1 = true := by
  rw [allAtoms_all]
  show words1.all (fun c => c.before args0 about1) = true
  refine all_split ?_ w_codes
  rw [← List.take_append_drop 24 words1, List.all_append, w_t1, ← List.take_append_drop 24 (words1.drop 24), List.all_append, w_t2, ← List.take_append_drop 24 ((words1.drop 24).drop 24), List.all_append, w_t3, ← List.take_append_drop 24 (((words1.drop 24).drop 24).drop 24), List.all_append, w_t4, w_t5]
  rfl
set_option maxRecDepth 65536 in
theorem w_rest : rest_1_c.before args0 about1 = true := by decide +kernel
set_option maxRecDepth 65536 in
theorem w_case : (Jvm.Cond.and given_1 narrow_1).before args0 about1 = true := by decide +kernel
set_option maxRecDepth 65536 in
theorem w_consts : constsHeld consts_1 about1 := Jvm.Lit.constsHeldB_iff.mp (by decide +kernel)
theorem w_applies : (headSpec (Jvm.Cond.code x code maxLocals ret :: tables_1) room_1).applies x e0.platform about1 = true :=
  (Spec.applies_iff w_frames).mpr ⟨w_running, w_runnable, w_alone, w_named, w_hears, w_ripe, w_room, w_tables⟩
theorem atStart : AtStart classFile x code maxLocals ret World_1 tables_1 room_1 Calls_1 rest_1 Pre_1 launch0 p0 e0 about1 theMethod args0 below0 :=
  ⟨lists_1, trivial, launch0.admits_env _ _ _, launch0.least_env, fairChoices_fair.cas, fairChoices_fair.clock, w_frames, w_args, w_heap, w_applies, ⟨w_consts, trivial⟩, w_rest, w_case⟩
end start1
theorem witness_1 : WitnessClaimed_1 := ⟨start1.p0, start1.e0, start1.about1, start1.theMethod, start1.args0, start1.below0, start1.atStart⟩
end Jvm.Pilot.@@N@@
